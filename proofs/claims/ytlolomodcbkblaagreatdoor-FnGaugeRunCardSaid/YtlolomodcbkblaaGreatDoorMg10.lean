/- A slice argument of one-cell elements read as a list, with the bulk that it has. A slice argument of records of one-cell fields read as a list, with the bulk that it has. -/
import Derived.Test.YtlolomodcbkblaaGreatDoorSl
import Derived.Test.YtlolomodcbkblaaGreatDoorRows
import Derived.Test.YtlolomodcbkblaaGreatDoorSs
set_option linter.unusedVariables false
set_option linter.unusedSimpArgs false
namespace Go.Proofs.YtlolomodcbkblaaGreatDoor.Sl
open Go.RowKit Go.ChangeShapes Go.WideShapes Go.Deep

theorem bulk_part {H : Type} {d : DataW H} {l : List (DataW H)} (h : d ∈ l) : Rows.uptoBulk d ≤ Rows.uptoBulkAll l := by
  induction l with
  | nil => cases h
  | cons x r ih =>
    simp only [Rows.uptoBulkAll]
    rcases List.mem_cons.1 h with e | e
    · subst e; omega
    · have := ih e; omega
theorem bulk_sum {H α : Type} (ms : α → Nat) (f : Nat → α) (Dt : Nat → DataW H) : ∀ l : List Nat, (∀ i ∈ l, ms (f i) ≤ Rows.uptoBulk (Dt i)) → ((l.map f).map ms).sum ≤ Rows.uptoBulkAll (l.map Dt)
  | [], _ => by simp [Rows.uptoBulkAll]
  | i :: l, h => by
    have h1 := h i (by simp)
    have h2 := bulk_sum ms f Dt l (fun j hj => h j (List.mem_cons_of_mem _ hj))
    simp only [List.map_cons, List.sum_cons, Rows.uptoBulkAll]
    omega

section
variable {H : Type} {enc : TypeId × Value → H} {w : World} {base : Nat} {spare : Nat → Bool} {held : Bool}
theorem open_bulk0 {α : Type} [Inhabited α] (c : α → Value) (good : α → Prop) (ms : α → Nat) {P : Program} {t e : TypeId} (ht : P.underlying t = some (.slice e)) (hc : P.cellsOf e = 1)
    (helem : ∀ n v (x : DataW H × List MemPlace), DataW.trod enc P w base (fun _ => true) held n e [v] = some x → ∃ z, v = c z ∧ good z ∧ ms z ≤ Rows.uptoBulk x.1) {v : Value} {d : DataW H} {p : List MemPlace}
    (hv : ∃ a len cap, v = .slice a len cap) (h : DataW.Trod enc P w base (fun _ => true) held t v d p) : ∃ zs : List α, Of c w v zs ∧ (∀ z ∈ zs, good z) ∧ (zs.map ms).sum ≤ Rows.uptoBulk d := by
  obtain ⟨a, len, cap, rfl⟩ := hv
  obtain ⟨fuel, hf⟩ := h
  rcases open_slice1 ht hc hf with ⟨hcs, _⟩ | ⟨a', len', m', m, n, V, Dt, Pl, hcs, hb, hl, hm, hmm, hx, hcell⟩
  · simp [Value.cells] at hcs
    obtain ⟨rfl, rfl, rfl⟩ := hcs
    exact ⟨[], Or.inl ⟨rfl, none, 0, rfl, by omega⟩, by simp, by simp⟩
  · simp [Value.cells] at hcs
    obtain ⟨rfl, rfl, rfl⟩ := hcs
    simp only [if_true] at hmm
    subst hmm
    have hcap : m ≤ 9223372036854775807 := by unfold maxLen at hm; omega
    have hfl : ∀ i, i < m → ∃ z : α, V i = c z ∧ good z ∧ ms z ≤ Rows.uptoBulk (Dt i) := fun i hi => helem n _ _ (hcell i hi).2
    by_cases h0 : len = 0
    · subst h0
      exact ⟨[], Or.inl ⟨rfl, _, m, rfl, hcap⟩, by simp, by simp⟩
    · obtain ⟨f, hF⟩ := choose_lt (p := fun i z => V i = c z ∧ good z ∧ ms z ≤ Rows.uptoBulk (Dt i)) hfl
      have h1 := (hcell 0 (by omega)).1
      have hspot : a'.spot = none := by
        have := World.cell?_spot h1
        simpa [Addr.add] using this
      obtain ⟨b, off, spot⟩ := a'
      simp only at hspot
      subst hspot
      refine ⟨(List.range len).map f, Or.inr ⟨b, off, m, by simp, by simp; omega, by simp; omega, hcap, ?_, ?_⟩, ?_, ?_⟩
      · rcases Nat.lt_or_ge b w.heap.size with h' | h'
        · exact h'
        · simp [World.cell?, Addr.add, Array.getElem?_eq_none h'] at h1
      · intro i hi
        have hi' : i < len := by simpa using hi
        have := (hcell i (by omega)).1
        rw [(hF i (by omega)).1] at this
        by_cases hi0 : i = 0
        · subst hi0; simpa [Addr.add] using this
        · simpa [Addr.add, hi0] using this
      · intro z hz
        obtain ⟨i, hi, rfl⟩ := List.mem_map.1 hz
        exact (hF i (by have := List.mem_range.1 hi; omega)).2.1
      · have h3 := bulk_sum ms f Dt (List.range len) (fun i hi => (hF i (by have := List.mem_range.1 hi; omega)).2.2)
        have h4 : d = .slice ((List.range len).map Dt) ((List.range (m - len)).map fun j => Dt (len + j)) := by
          injection hx
        rw [h4]
        simp only [Rows.uptoBulk]
        omega

theorem open_bulk {α : Type} [Inhabited α] (c : α → Value) (good : α → Prop) (ms : α → Nat) {P : Program} {t e : TypeId} (ht : P.underlying t = some (.slice e)) (hc : P.cellsOf e = 1)
    (helem : ∀ n v (x : DataW H × List MemPlace), DataW.trod enc P w base (fun _ => true) held n e [v] = some x → ∃ z, v = c z ∧ good z ∧ ms z ≤ Rows.uptoBulk x.1) {r : Reach} {b0 : Nat} {v : Value} {d : DataW H} {p : List MemPlace}
    (hv : Value.okWide P w r b0 t v) (h : DataW.Trod enc P w base (fun _ => true) held t v d p) : ∃ zs : List α, Of c w v zs ∧ (∀ z ∈ zs, good z) ∧ (zs.map ms).sum ≤ Rows.uptoBulk d :=
  open_bulk0 c good ms ht hc helem (okWide_slice ht hv) h
theorem slice_of {P : Program} {t e : TypeId} {fuel : Nat} {v : Value} {x : DataW H × List MemPlace} (ht : P.underlying t = some (.slice e)) (h : DataW.trod enc P w base spare held fuel t [v] = some x) : ∃ a len cap, v = .slice a len cap := by
  rcases open_slice ht h with ⟨hcs, _⟩ | ⟨a, len, cap, m, n, D, Pl, hcs, _⟩
  · simp at hcs; exact ⟨_, _, _, hcs⟩
  · simp at hcs; exact ⟨_, _, _, hcs⟩
theorem open_strings_bulk0 {P : Program} {t e : TypeId} (ht : P.underlying t = some (.slice e)) (he : P.underlying e = some .string) (hc : P.cellsOf e = 1) {fuel : Nat} {v : Value} {x : DataW H × List MemPlace}
    (h : DataW.trod enc P w base (fun _ => true) held fuel t [v] = some x) : ∃ zs : List ByteArray, Of Value.string w v zs ∧ (∀ z ∈ zs, z.size ≤ 9223372036854775807) ∧ (zs.map (fun z => z.size + 1)).sum ≤ Rows.uptoBulk x.1 := by
  have hv := slice_of ht h
  have h' : DataW.Trod enc P w base (fun _ => true) held t v x.1 x.2 := by
    obtain ⟨a, len, cap, rfl⟩ := hv
    exact ⟨fuel, h⟩
  refine open_bulk0 Value.string _ (fun z => z.size + 1) ht hc (fun n v x h2 => ?_) hv h'
  obtain ⟨s, hs, hx, hw⟩ := DataW.trod_string he h2
  simp at hs
  refine ⟨s, hs, by unfold maxLen at hw; omega, ?_⟩
  rw [hx]
  have e : s.data.toList.length = s.size := by rw [Array.length_toList]; rfl
  simp only [Rows.uptoBulk]
  omega
theorem open_strings_bulk {P : Program} {t e : TypeId} (ht : P.underlying t = some (.slice e)) (he : P.underlying e = some .string) (hc : P.cellsOf e = 1) {r : Reach} {b0 : Nat} {v : Value} {d : DataW H} {p : List MemPlace}
    (hv : Value.okWide P w r b0 t v) (h : DataW.Trod enc P w base (fun _ => true) held t v d p) : ∃ zs : List ByteArray, Of Value.string w v zs ∧ (∀ z ∈ zs, z.size ≤ 9223372036854775807) ∧ (zs.map (fun z => z.size + 1)).sum ≤ Rows.uptoBulk d := by
  refine open_bulk Value.string _ (fun z => z.size + 1) ht hc (fun n v x h2 => ?_) hv h
  obtain ⟨s, hs, hx, hw⟩ := DataW.trod_string he h2
  simp at hs
  refine ⟨s, hs, by unfold maxLen at hw; omega, ?_⟩
  rw [hx]
  have e : s.data.toList.length = s.size := by rw [Array.length_toList]; rfl
  simp only [Rows.uptoBulk]
  omega
end

end Go.Proofs.YtlolomodcbkblaaGreatDoor.Sl

set_option linter.unusedVariables false
set_option linter.unusedSimpArgs false
namespace Go.Proofs.YtlolomodcbkblaaGreatDoor.Ss
open Go.RowKit Go.ChangeShapes Go.WideShapes Go.Deep

section
variable {H : Type} {enc : TypeId × Value → H} {w : World} {base : Nat} {spare : Nat → Bool} {held : Bool}
theorem open_bulk0 {α : Type} [Inhabited α] (k : Nat) (c : α → List Value) (hk : ∀ z, (c z).length = k) (good : α → Prop) (ms : α → Nat) {P : Program} {t e : TypeId} {fs : Array Field} (ht : P.underlying t = some (.slice e)) (he : P.underlying e = some (.struct fs))
    (hone : oneCellFields P fs = true) (hC : P.cellsOf e = fs.size) (hfs : fs.size = k) (hk1 : 0 < k)
    (read : ∀ (V : Nat → Value) (ys : List (DataW H × List MemPlace)), ys.length = k → (∀ j f, fs[j]? = some f → ∃ n y, ys[j]? = some y ∧ DataW.trod enc P w base (fun _ => true) held n f.type [V j] = some y) → ∃ z, (∀ j u, (c z)[j]? = some u → V j = u) ∧ good z ∧ ms z ≤ Rows.uptoBulkAll (ys.map (·.1))) {v : Value} {d : DataW H} {p : List MemPlace}
    (hv : ∃ a len cap, v = .slice a len cap) (h : DataW.Trod enc P w base (fun _ => true) held t v d p) : ∃ zs : List α, Of k c w v zs ∧ (∀ z ∈ zs, good z) ∧ (zs.map ms).sum ≤ Rows.uptoBulk d := by
  subst hfs
  obtain ⟨a, len, cap, rfl⟩ := hv
  obtain ⟨fuel, hf⟩ := h
  rcases open_slice_fields ht he hone hC hf with ⟨hcs, _⟩ | ⟨a', len', m', m, D, Pl, hcs, hb, hl, hm, hmm, hx, hcell⟩
  · simp [Value.cells] at hcs
    obtain ⟨rfl, rfl, rfl⟩ := hcs
    exact ⟨[], Or.inl ⟨rfl, none, 0, rfl, by omega⟩, by simp, by simp⟩
  · simp [Value.cells] at hcs
    obtain ⟨rfl, rfl, rfl⟩ := hcs
    simp only [if_true] at hmm
    subst hmm
    have hcap : m ≤ 9223372036854775807 := by unfold maxLen at hm; omega
    by_cases h0 : len = 0
    · subst h0
      exact ⟨[], Or.inl ⟨rfl, _, m, rfl, hcap⟩, by simp, by simp⟩
    · have hfl : ∀ i, i < m → ∃ z : α, (∀ j u, (c z)[j]? = some u → w.cell? (a'.add (i * fs.size + j)) = some u) ∧ good z ∧ ms z ≤ Rows.uptoBulk (D i) := by
        intro i hi
        obtain ⟨ys, n, hD, _, hyl, hh⟩ := hcell i hi
        have hV : ∀ j, ∃ V : Value, ∀ f, fs[j]? = some f → w.cell? (a'.add (i * fs.size + j)) = some V ∧ ∃ n y, ys[j]? = some y ∧ DataW.trod enc P w base (fun _ => true) held n f.type [V] = some y := by
          intro j
          cases e : fs[j]? with
          | none => exact ⟨undef, fun f h => by cases h⟩
          | some f =>
            obtain ⟨V, y, h1, h2, h3⟩ := hh j f e
            exact ⟨V, fun f' h => by cases h; exact ⟨h1, n, y, h2, h3⟩⟩
        obtain ⟨V, hV⟩ := Classical.skolem.1 hV
        obtain ⟨z, hz, hg, hms⟩ := read V ys hyl (fun j f hj => (hV j f hj).2)
        refine ⟨z, fun j u hu => ?_, hg, by rw [hD]; simp only [Rows.uptoBulk]; omega⟩
        have hj : j < fs.size := by
          have := (List.getElem?_eq_some_iff.1 hu).1
          rwa [hk] at this
        have := (hV j fs[j] (Array.getElem?_eq_getElem hj)).1
        rw [hz j u hu] at this
        exact this
      obtain ⟨f, hF⟩ := choose_lt (p := fun i z => (∀ j u, (c z)[j]? = some u → w.cell? (a'.add (i * fs.size + j)) = some u) ∧ good z ∧ ms z ≤ Rows.uptoBulk (D i)) hfl
      obtain ⟨u0, hu0⟩ : ∃ u, (c (f 0))[0]? = some u := ⟨_, List.getElem?_eq_getElem (by rw [hk]; omega)⟩
      have h1 := (hF 0 (by omega)).1 0 u0 hu0
      have hspot : a'.spot = none := by
        have := World.cell?_spot h1
        simpa [Addr.add] using this
      obtain ⟨b, off, spot⟩ := a'
      simp only at hspot
      subst hspot
      refine ⟨(List.range len).map f, Or.inr ⟨b, off, m, by simp, by simp; omega, by simp; omega, hcap, ?_, ?_⟩, ?_, ?_⟩
      · rcases Nat.lt_or_ge b w.heap.size with h' | h'
        · exact h'
        · simp [World.cell?, Addr.add, Array.getElem?_eq_none h'] at h1
      · intro i hi j u hu
        have hi' : i < len := by simpa using hi
        have hu' : (c (f i))[j]? = some u := by simpa using hu
        have := (hF i (by omega)).1 j u hu'
        by_cases hi0 : i * fs.size + j = 0
        · rw [hi0]; rw [hi0] at this; simpa [Addr.add] using this
        · unfold Addr.add at this; rw [if_neg hi0] at this; simpa using this
      · intro z hz
        obtain ⟨i, hi, rfl⟩ := List.mem_map.1 hz
        exact (hF i (by have := List.mem_range.1 hi; omega)).2.1
      · have h3 := Sl.bulk_sum ms f D (List.range len) (fun i hi => (hF i (by have := List.mem_range.1 hi; omega)).2.2)
        have h4 : d = .slice ((List.range len).map D) ((List.range (m - len)).map fun j => D (len + j)) := by
          injection hx
        rw [h4]
        simp only [Rows.uptoBulk]
        omega
theorem open_bulk {α : Type} [Inhabited α] (k : Nat) (c : α → List Value) (hk : ∀ z, (c z).length = k) (good : α → Prop) (ms : α → Nat) {P : Program} {t e : TypeId} {fs : Array Field} (ht : P.underlying t = some (.slice e)) (he : P.underlying e = some (.struct fs))
    (hone : oneCellFields P fs = true) (hC : P.cellsOf e = fs.size) (hfs : fs.size = k) (hk1 : 0 < k)
    (read : ∀ (V : Nat → Value) (ys : List (DataW H × List MemPlace)), ys.length = k → (∀ j f, fs[j]? = some f → ∃ n y, ys[j]? = some y ∧ DataW.trod enc P w base (fun _ => true) held n f.type [V j] = some y) → ∃ z, (∀ j u, (c z)[j]? = some u → V j = u) ∧ good z ∧ ms z ≤ Rows.uptoBulkAll (ys.map (·.1))) {r : Reach} {b0 : Nat} {v : Value} {d : DataW H} {p : List MemPlace}
    (hv : Value.okWide P w r b0 t v) (h : DataW.Trod enc P w base (fun _ => true) held t v d p) : ∃ zs : List α, Of k c w v zs ∧ (∀ z ∈ zs, good z) ∧ (zs.map ms).sum ≤ Rows.uptoBulk d :=
  open_bulk0 k c hk good ms ht he hone hC hfs hk1 read (okWide_slice ht hv) h
end

end Go.Proofs.YtlolomodcbkblaaGreatDoor.Ss
