/- A slice argument of records of one-cell fields read as a list, with the bulk that it has. -/
import Derived.Test.YtfcpapbokefdmaaGreatDoorSs
import Derived.Test.YtfcpapbokefdmaaGreatDoorSlB
set_option linter.unusedVariables false
set_option linter.unusedSimpArgs false
namespace Go.Proofs.YtfcpapbokefdmaaGreatDoor.Ss
open Go.RowKit Go.ChangeShapes Go.WideShapes Go.Deep

section
variable {H : Type} {enc : TypeId × Value → H} {w : World} {base : Nat} {spare : Nat → Bool} {held : Bool}
theorem open_bulk0 {α : Type} [Inhabited α] (k : Nat) (c : α → List Value) (hk : ∀ z, (c z).length = k) (good : α → Prop) (ms : α → Nat) {P : Program} {t e : TypeId} {fs : Array Field} (ht : P.underlying t = some (.slice e)) (he : P.underlying e = some (.struct fs))
    (hone : oneCellFields P fs = true) (hC : P.cellsOf e = fs.size) (hfs : fs.size = k) (hk1 : 0 < k)
    (read : ∀ (V : Nat → Value) (ys : List (DataW H × List MemPlace)), ys.length = k → (∀ j f, fs[j]? = some f → ∃ n y, ys[j]? = some y ∧ DataW.trod enc P w base (fun _ => true) held n f.type [V j] = some y) → ∃ z, (∀ j u, (c z)[j]? = some u → V j = u) ∧ good z ∧ ms z ≤ Rows.uptoBulkAll (ys.map (·.1))) {v : Value} {d : DataW H} {p : List MemPlace}
    (hv : ∃ a len cap, v = .slice a len cap) (h : DataW.Trod enc P w base (fun _ => true) held t v d p) : ∃ zs : List α, Of k c w v zs ∧ (∀ z ∈ zs, good z) ∧ (zs.map ms).sum ≤ Rows.uptoBulk d := by
  subst hfs
  obtain ⟨a, len, cap, rfl⟩ := hv
  obtain ⟨fuel, hf⟩ := h
  rcases open_slice_fields ht he hone hC hf with ⟨hcs, _⟩ | ⟨a', len', m', m, D, Pl, hcs, hb, hl, hm, hmm, hx, hcell⟩
  · simp [Value.cells] at hcs
    obtain ⟨rfl, rfl, rfl⟩ := hcs
    exact ⟨[], Or.inl ⟨rfl, none, 0, rfl, by omega⟩, by simp, by simp⟩
  · simp [Value.cells] at hcs
    obtain ⟨rfl, rfl, rfl⟩ := hcs
    simp only [if_true] at hmm
    subst hmm
    have hcap : m ≤ 9223372036854775807 := by unfold maxLen at hm; omega
    by_cases h0 : len = 0
    · subst h0
      exact ⟨[], Or.inl ⟨rfl, _, m, rfl, hcap⟩, by simp, by simp⟩
    · have hfl : ∀ i, i < m → ∃ z : α, (∀ j u, (c z)[j]? = some u → w.cell? (a'.add (i * fs.size + j)) = some u) ∧ good z ∧ ms z ≤ Rows.uptoBulk (D i) := by
        intro i hi
        obtain ⟨ys, n, hD, _, hyl, hh⟩ := hcell i hi
        have hV : ∀ j, ∃ V : Value, ∀ f, fs[j]? = some f → w.cell? (a'.add (i * fs.size + j)) = some V ∧ ∃ n y, ys[j]? = some y ∧ DataW.trod enc P w base (fun _ => true) held n f.type [V] = some y := by
          intro j
          cases e : fs[j]? with
          | none => exact ⟨undef, fun f h => by cases h⟩
          | some f =>
            obtain ⟨V, y, h1, h2, h3⟩ := hh j f e
            exact ⟨V, fun f' h => by cases h; exact ⟨h1, n, y, h2, h3⟩⟩
        obtain ⟨V, hV⟩ := Classical.skolem.1 hV
        obtain ⟨z, hz, hg, hms⟩ := read V ys hyl (fun j f hj => (hV j f hj).2)
        refine ⟨z, fun j u hu => ?_, hg, by rw [hD]; simp only [Rows.uptoBulk]; omega⟩
        have hj : j < fs.size := by
          have := (List.getElem?_eq_some_iff.1 hu).1
          rwa [hk] at this
        have := (hV j fs[j] (Array.getElem?_eq_getElem hj)).1
        rw [hz j u hu] at this
        exact this
      obtain ⟨f, hF⟩ := choose_lt (p := fun i z => (∀ j u, (c z)[j]? = some u → w.cell? (a'.add (i * fs.size + j)) = some u) ∧ good z ∧ ms z ≤ Rows.uptoBulk (D i)) hfl
      obtain ⟨u0, hu0⟩ : ∃ u, (c (f 0))[0]? = some u := ⟨_, List.getElem?_eq_getElem (by rw [hk]; omega)⟩
      have h1 := (hF 0 (by omega)).1 0 u0 hu0
      have hspot : a'.spot = none := by
        have := World.cell?_spot h1
        simpa [Addr.add] using this
      obtain ⟨b, off, spot⟩ := a'
      simp only at hspot
      subst hspot
      refine ⟨(List.range len).map f, Or.inr ⟨b, off, m, by simp, by simp; omega, by simp; omega, hcap, ?_, ?_⟩, ?_, ?_⟩
      · rcases Nat.lt_or_ge b w.heap.size with h' | h'
        · exact h'
        · simp [World.cell?, Addr.add, Array.getElem?_eq_none h'] at h1
      · intro i hi j u hu
        have hi' : i < len := by simpa using hi
        have hu' : (c (f i))[j]? = some u := by simpa using hu
        have := (hF i (by omega)).1 j u hu'
        by_cases hi0 : i * fs.size + j = 0
        · rw [hi0]; rw [hi0] at this; simpa [Addr.add] using this
        · unfold Addr.add at this; rw [if_neg hi0] at this; simpa using this
      · intro z hz
        obtain ⟨i, hi, rfl⟩ := List.mem_map.1 hz
        exact (hF i (by have := List.mem_range.1 hi; omega)).2.1
      · have h3 := Sl.bulk_sum ms f D (List.range len) (fun i hi => (hF i (by have := List.mem_range.1 hi; omega)).2.2)
        have h4 : d = .slice ((List.range len).map D) ((List.range (m - len)).map fun j => D (len + j)) := by
          injection hx
        rw [h4]
        simp only [Rows.uptoBulk]
        omega
theorem open_bulk {α : Type} [Inhabited α] (k : Nat) (c : α → List Value) (hk : ∀ z, (c z).length = k) (good : α → Prop) (ms : α → Nat) {P : Program} {t e : TypeId} {fs : Array Field} (ht : P.underlying t = some (.slice e)) (he : P.underlying e = some (.struct fs))
    (hone : oneCellFields P fs = true) (hC : P.cellsOf e = fs.size) (hfs : fs.size = k) (hk1 : 0 < k)
    (read : ∀ (V : Nat → Value) (ys : List (DataW H × List MemPlace)), ys.length = k → (∀ j f, fs[j]? = some f → ∃ n y, ys[j]? = some y ∧ DataW.trod enc P w base (fun _ => true) held n f.type [V j] = some y) → ∃ z, (∀ j u, (c z)[j]? = some u → V j = u) ∧ good z ∧ ms z ≤ Rows.uptoBulkAll (ys.map (·.1))) {r : Reach} {b0 : Nat} {v : Value} {d : DataW H} {p : List MemPlace}
    (hv : Value.okWide P w r b0 t v) (h : DataW.Trod enc P w base (fun _ => true) held t v d p) : ∃ zs : List α, Of k c w v zs ∧ (∀ z ∈ zs, good z) ∧ (zs.map ms).sum ≤ Rows.uptoBulk d :=
  open_bulk0 k c hk good ms ht he hone hC hfs hk1 read (okWide_slice ht hv) h
end

end Go.Proofs.YtfcpapbokefdmaaGreatDoor.Ss
