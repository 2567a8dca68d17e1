/- A slice argument of one-cell elements read as a list, with the bulk that it has. A slice argument of records of one-cell fields read as a list, with the bulk that it has. Descriptors: from the laid variables to what the walks ask of them; a descriptor's data as an argument is read. Spans: the argument read. -/
import Derived.Test.YtlolomodcbkblaaGreatDoorMg1
import Derived.Test.YtlolomodcbkblaaGreatDoorRows
import Derived.Test.YtlolomodcbkblaaGreatDoorMg13
import Derived.LaidMore
import Derived.MakeChecks
import Derived.Lib.LaidU8
import Derived.PinnedBridge
import Derived.Lib.SmallJoins
import Derived.Test.YtlolomodcbkblaaGreatDoorMg3
set_option linter.unusedVariables false
set_option linter.unusedSimpArgs false
namespace Go.Proofs.YtlolomodcbkblaaGreatDoor.Sl
open Go.RowKit Go.ChangeShapes Go.WideShapes Go.Deep

theorem bulk_part {H : Type} {d : DataW H} {l : List (DataW H)} (h : d ∈ l) : Rows.uptoBulk d ≤ Rows.uptoBulkAll l := by
  induction l with
  | nil => cases h
  | cons x r ih =>
    simp only [Rows.uptoBulkAll]
    rcases List.mem_cons.1 h with e | e
    · subst e; omega
    · have := ih e; omega
theorem bulk_sum {H α : Type} (ms : α → Nat) (f : Nat → α) (Dt : Nat → DataW H) : ∀ l : List Nat, (∀ i ∈ l, ms (f i) ≤ Rows.uptoBulk (Dt i)) → ((l.map f).map ms).sum ≤ Rows.uptoBulkAll (l.map Dt)
  | [], _ => by simp [Rows.uptoBulkAll]
  | i :: l, h => by
    have h1 := h i (by simp)
    have h2 := bulk_sum ms f Dt l (fun j hj => h j (List.mem_cons_of_mem _ hj))
    simp only [List.map_cons, List.sum_cons, Rows.uptoBulkAll]
    omega

section
variable {H : Type} {enc : TypeId × Value → H} {w : World} {base : Nat} {spare : Nat → Bool} {held : Bool}
theorem open_bulk0 {α : Type} [Inhabited α] (c : α → Value) (good : α → Prop) (ms : α → Nat) {P : Program} {t e : TypeId} (ht : P.underlying t = some (.slice e)) (hc : P.cellsOf e = 1)
    (helem : ∀ n v (x : DataW H × List MemPlace), DataW.trod enc P w base (fun _ => true) held n e [v] = some x → ∃ z, v = c z ∧ good z ∧ ms z ≤ Rows.uptoBulk x.1) {v : Value} {d : DataW H} {p : List MemPlace}
    (hv : ∃ a len cap, v = .slice a len cap) (h : DataW.Trod enc P w base (fun _ => true) held t v d p) : ∃ zs : List α, Of c w v zs ∧ (∀ z ∈ zs, good z) ∧ (zs.map ms).sum ≤ Rows.uptoBulk d := by
  obtain ⟨a, len, cap, rfl⟩ := hv
  obtain ⟨fuel, hf⟩ := h
  rcases open_slice1 ht hc hf with ⟨hcs, _⟩ | ⟨a', len', m', m, n, V, Dt, Pl, hcs, hb, hl, hm, hmm, hx, hcell⟩
  · simp [Value.cells] at hcs
    obtain ⟨rfl, rfl, rfl⟩ := hcs
    exact ⟨[], Or.inl ⟨rfl, none, 0, rfl, by omega⟩, by simp, by simp⟩
  · simp [Value.cells] at hcs
    obtain ⟨rfl, rfl, rfl⟩ := hcs
    simp only [if_true] at hmm
    subst hmm
    have hcap : m ≤ 9223372036854775807 := by unfold maxLen at hm; omega
    have hfl : ∀ i, i < m → ∃ z : α, V i = c z ∧ good z ∧ ms z ≤ Rows.uptoBulk (Dt i) := fun i hi => helem n _ _ (hcell i hi).2
    by_cases h0 : len = 0
    · subst h0
      exact ⟨[], Or.inl ⟨rfl, _, m, rfl, hcap⟩, by simp, by simp⟩
    · obtain ⟨f, hF⟩ := choose_lt (p := fun i z => V i = c z ∧ good z ∧ ms z ≤ Rows.uptoBulk (Dt i)) hfl
      have h1 := (hcell 0 (by omega)).1
      have hspot : a'.spot = none := by
        have := World.cell?_spot h1
        simpa [Addr.add] using this
      obtain ⟨b, off, spot⟩ := a'
      simp only at hspot
      subst hspot
      refine ⟨(List.range len).map f, Or.inr ⟨b, off, m, by simp, by simp; omega, by simp; omega, hcap, ?_, ?_⟩, ?_, ?_⟩
      · rcases Nat.lt_or_ge b w.heap.size with h' | h'
        · exact h'
        · simp [World.cell?, Addr.add, Array.getElem?_eq_none h'] at h1
      · intro i hi
        have hi' : i < len := by simpa using hi
        have := (hcell i (by omega)).1
        rw [(hF i (by omega)).1] at this
        by_cases hi0 : i = 0
        · subst hi0; simpa [Addr.add] using this
        · simpa [Addr.add, hi0] using this
      · intro z hz
        obtain ⟨i, hi, rfl⟩ := List.mem_map.1 hz
        exact (hF i (by have := List.mem_range.1 hi; omega)).2.1
      · have h3 := bulk_sum ms f Dt (List.range len) (fun i hi => (hF i (by have := List.mem_range.1 hi; omega)).2.2)
        have h4 : d = .slice ((List.range len).map Dt) ((List.range (m - len)).map fun j => Dt (len + j)) := by
          injection hx
        rw [h4]
        simp only [Rows.uptoBulk]
        omega

theorem open_bulk {α : Type} [Inhabited α] (c : α → Value) (good : α → Prop) (ms : α → Nat) {P : Program} {t e : TypeId} (ht : P.underlying t = some (.slice e)) (hc : P.cellsOf e = 1)
    (helem : ∀ n v (x : DataW H × List MemPlace), DataW.trod enc P w base (fun _ => true) held n e [v] = some x → ∃ z, v = c z ∧ good z ∧ ms z ≤ Rows.uptoBulk x.1) {r : Reach} {b0 : Nat} {v : Value} {d : DataW H} {p : List MemPlace}
    (hv : Value.okWide P w r b0 t v) (h : DataW.Trod enc P w base (fun _ => true) held t v d p) : ∃ zs : List α, Of c w v zs ∧ (∀ z ∈ zs, good z) ∧ (zs.map ms).sum ≤ Rows.uptoBulk d :=
  open_bulk0 c good ms ht hc helem (okWide_slice ht hv) h
theorem slice_of {P : Program} {t e : TypeId} {fuel : Nat} {v : Value} {x : DataW H × List MemPlace} (ht : P.underlying t = some (.slice e)) (h : DataW.trod enc P w base spare held fuel t [v] = some x) : ∃ a len cap, v = .slice a len cap := by
  rcases open_slice ht h with ⟨hcs, _⟩ | ⟨a, len, cap, m, n, D, Pl, hcs, _⟩
  · simp at hcs; exact ⟨_, _, _, hcs⟩
  · simp at hcs; exact ⟨_, _, _, hcs⟩
theorem open_strings_bulk0 {P : Program} {t e : TypeId} (ht : P.underlying t = some (.slice e)) (he : P.underlying e = some .string) (hc : P.cellsOf e = 1) {fuel : Nat} {v : Value} {x : DataW H × List MemPlace}
    (h : DataW.trod enc P w base (fun _ => true) held fuel t [v] = some x) : ∃ zs : List ByteArray, Of Value.string w v zs ∧ (∀ z ∈ zs, z.size ≤ 9223372036854775807) ∧ (zs.map (fun z => z.size + 1)).sum ≤ Rows.uptoBulk x.1 := by
  have hv := slice_of ht h
  have h' : DataW.Trod enc P w base (fun _ => true) held t v x.1 x.2 := by
    obtain ⟨a, len, cap, rfl⟩ := hv
    exact ⟨fuel, h⟩
  refine open_bulk0 Value.string _ (fun z => z.size + 1) ht hc (fun n v x h2 => ?_) hv h'
  obtain ⟨s, hs, hx, hw⟩ := DataW.trod_string he h2
  simp at hs
  refine ⟨s, hs, by unfold maxLen at hw; omega, ?_⟩
  rw [hx]
  have e : s.data.toList.length = s.size := by rw [Array.length_toList]; rfl
  simp only [Rows.uptoBulk]
  omega
theorem open_strings_bulk {P : Program} {t e : TypeId} (ht : P.underlying t = some (.slice e)) (he : P.underlying e = some .string) (hc : P.cellsOf e = 1) {r : Reach} {b0 : Nat} {v : Value} {d : DataW H} {p : List MemPlace}
    (hv : Value.okWide P w r b0 t v) (h : DataW.Trod enc P w base (fun _ => true) held t v d p) : ∃ zs : List ByteArray, Of Value.string w v zs ∧ (∀ z ∈ zs, z.size ≤ 9223372036854775807) ∧ (zs.map (fun z => z.size + 1)).sum ≤ Rows.uptoBulk d := by
  refine open_bulk Value.string _ (fun z => z.size + 1) ht hc (fun n v x h2 => ?_) hv h
  obtain ⟨s, hs, hx, hw⟩ := DataW.trod_string he h2
  simp at hs
  refine ⟨s, hs, by unfold maxLen at hw; omega, ?_⟩
  rw [hx]
  have e : s.data.toList.length = s.size := by rw [Array.length_toList]; rfl
  simp only [Rows.uptoBulk]
  omega
end

end Go.Proofs.YtlolomodcbkblaaGreatDoor.Sl

set_option linter.unusedVariables false
set_option linter.unusedSimpArgs false
namespace Go.Proofs.YtlolomodcbkblaaGreatDoor.Ss
open Go.RowKit Go.ChangeShapes Go.WideShapes Go.Deep

section
variable {H : Type} {enc : TypeId × Value → H} {w : World} {base : Nat} {spare : Nat → Bool} {held : Bool}
theorem open_bulk0 {α : Type} [Inhabited α] (k : Nat) (c : α → List Value) (hk : ∀ z, (c z).length = k) (good : α → Prop) (ms : α → Nat) {P : Program} {t e : TypeId} {fs : Array Field} (ht : P.underlying t = some (.slice e)) (he : P.underlying e = some (.struct fs))
    (hone : oneCellFields P fs = true) (hC : P.cellsOf e = fs.size) (hfs : fs.size = k) (hk1 : 0 < k)
    (read : ∀ (V : Nat → Value) (ys : List (DataW H × List MemPlace)), ys.length = k → (∀ j f, fs[j]? = some f → ∃ n y, ys[j]? = some y ∧ DataW.trod enc P w base (fun _ => true) held n f.type [V j] = some y) → ∃ z, (∀ j u, (c z)[j]? = some u → V j = u) ∧ good z ∧ ms z ≤ Rows.uptoBulkAll (ys.map (·.1))) {v : Value} {d : DataW H} {p : List MemPlace}
    (hv : ∃ a len cap, v = .slice a len cap) (h : DataW.Trod enc P w base (fun _ => true) held t v d p) : ∃ zs : List α, Of k c w v zs ∧ (∀ z ∈ zs, good z) ∧ (zs.map ms).sum ≤ Rows.uptoBulk d := by
  subst hfs
  obtain ⟨a, len, cap, rfl⟩ := hv
  obtain ⟨fuel, hf⟩ := h
  rcases open_slice_fields ht he hone hC hf with ⟨hcs, _⟩ | ⟨a', len', m', m, D, Pl, hcs, hb, hl, hm, hmm, hx, hcell⟩
  · simp [Value.cells] at hcs
    obtain ⟨rfl, rfl, rfl⟩ := hcs
    exact ⟨[], Or.inl ⟨rfl, none, 0, rfl, by omega⟩, by simp, by simp⟩
  · simp [Value.cells] at hcs
    obtain ⟨rfl, rfl, rfl⟩ := hcs
    simp only [if_true] at hmm
    subst hmm
    have hcap : m ≤ 9223372036854775807 := by unfold maxLen at hm; omega
    by_cases h0 : len = 0
    · subst h0
      exact ⟨[], Or.inl ⟨rfl, _, m, rfl, hcap⟩, by simp, by simp⟩
    · have hfl : ∀ i, i < m → ∃ z : α, (∀ j u, (c z)[j]? = some u → w.cell? (a'.add (i * fs.size + j)) = some u) ∧ good z ∧ ms z ≤ Rows.uptoBulk (D i) := by
        intro i hi
        obtain ⟨ys, n, hD, _, hyl, hh⟩ := hcell i hi
        have hV : ∀ j, ∃ V : Value, ∀ f, fs[j]? = some f → w.cell? (a'.add (i * fs.size + j)) = some V ∧ ∃ n y, ys[j]? = some y ∧ DataW.trod enc P w base (fun _ => true) held n f.type [V] = some y := by
          intro j
          cases e : fs[j]? with
          | none => exact ⟨undef, fun f h => by cases h⟩
          | some f =>
            obtain ⟨V, y, h1, h2, h3⟩ := hh j f e
            exact ⟨V, fun f' h => by cases h; exact ⟨h1, n, y, h2, h3⟩⟩
        obtain ⟨V, hV⟩ := Classical.skolem.1 hV
        obtain ⟨z, hz, hg, hms⟩ := read V ys hyl (fun j f hj => (hV j f hj).2)
        refine ⟨z, fun j u hu => ?_, hg, by rw [hD]; simp only [Rows.uptoBulk]; omega⟩
        have hj : j < fs.size := by
          have := (List.getElem?_eq_some_iff.1 hu).1
          rwa [hk] at this
        have := (hV j fs[j] (Array.getElem?_eq_getElem hj)).1
        rw [hz j u hu] at this
        exact this
      obtain ⟨f, hF⟩ := choose_lt (p := fun i z => (∀ j u, (c z)[j]? = some u → w.cell? (a'.add (i * fs.size + j)) = some u) ∧ good z ∧ ms z ≤ Rows.uptoBulk (D i)) hfl
      obtain ⟨u0, hu0⟩ : ∃ u, (c (f 0))[0]? = some u := ⟨_, List.getElem?_eq_getElem (by rw [hk]; omega)⟩
      have h1 := (hF 0 (by omega)).1 0 u0 hu0
      have hspot : a'.spot = none := by
        have := World.cell?_spot h1
        simpa [Addr.add] using this
      obtain ⟨b, off, spot⟩ := a'
      simp only at hspot
      subst hspot
      refine ⟨(List.range len).map f, Or.inr ⟨b, off, m, by simp, by simp; omega, by simp; omega, hcap, ?_, ?_⟩, ?_, ?_⟩
      · rcases Nat.lt_or_ge b w.heap.size with h' | h'
        · exact h'
        · simp [World.cell?, Addr.add, Array.getElem?_eq_none h'] at h1
      · intro i hi j u hu
        have hi' : i < len := by simpa using hi
        have hu' : (c (f i))[j]? = some u := by simpa using hu
        have := (hF i (by omega)).1 j u hu'
        by_cases hi0 : i * fs.size + j = 0
        · rw [hi0]; rw [hi0] at this; simpa [Addr.add] using this
        · unfold Addr.add at this; rw [if_neg hi0] at this; simpa using this
      · intro z hz
        obtain ⟨i, hi, rfl⟩ := List.mem_map.1 hz
        exact (hF i (by have := List.mem_range.1 hi; omega)).2.1
      · have h3 := Sl.bulk_sum ms f D (List.range len) (fun i hi => (hF i (by have := List.mem_range.1 hi; omega)).2.2)
        have h4 : d = .slice ((List.range len).map D) ((List.range (m - len)).map fun j => D (len + j)) := by
          injection hx
        rw [h4]
        simp only [Rows.uptoBulk]
        omega
theorem open_bulk {α : Type} [Inhabited α] (k : Nat) (c : α → List Value) (hk : ∀ z, (c z).length = k) (good : α → Prop) (ms : α → Nat) {P : Program} {t e : TypeId} {fs : Array Field} (ht : P.underlying t = some (.slice e)) (he : P.underlying e = some (.struct fs))
    (hone : oneCellFields P fs = true) (hC : P.cellsOf e = fs.size) (hfs : fs.size = k) (hk1 : 0 < k)
    (read : ∀ (V : Nat → Value) (ys : List (DataW H × List MemPlace)), ys.length = k → (∀ j f, fs[j]? = some f → ∃ n y, ys[j]? = some y ∧ DataW.trod enc P w base (fun _ => true) held n f.type [V j] = some y) → ∃ z, (∀ j u, (c z)[j]? = some u → V j = u) ∧ good z ∧ ms z ≤ Rows.uptoBulkAll (ys.map (·.1))) {r : Reach} {b0 : Nat} {v : Value} {d : DataW H} {p : List MemPlace}
    (hv : Value.okWide P w r b0 t v) (h : DataW.Trod enc P w base (fun _ => true) held t v d p) : ∃ zs : List α, Of k c w v zs ∧ (∀ z ∈ zs, good z) ∧ (zs.map ms).sum ≤ Rows.uptoBulk d :=
  open_bulk0 k c hk good ms ht he hone hC hfs hk1 read (okWide_slice ht hv) h
end

end Go.Proofs.YtlolomodcbkblaaGreatDoor.Ss

set_option linter.unusedVariables false
set_option linter.unusedSimpArgs false
namespace Go.Proofs.YtlolomodcbkblaaGreatDoor.Nd
open Go.RowKit Go.Joins Go.ChangeShapes Go.WideShapes Go.Deep Fp

set_option maxRecDepth 100000 in
theorem sep_of {W : World} (h : Lib.VarReads Tryz.prog W "pub-dialplate/pub/clientgolang/prometheus.separatorByteSlice" Rows.laid_pub_dialplate_pub_clientgolang_prometheus_separatorByteSlice) : Sep W := by
  obtain ⟨g, t, cs, fuel, p, hg, hty, hvar, hd⟩ := h
  obtain rfl := Option.some.inj ((show Tryz.prog.globalNamed "pub-dialplate/pub/clientgolang/prometheus.separatorByteSlice" = some 1 by kernel_rfl).symm.trans hg)
  obtain rfl := Option.some.inj ((show (Tryz.prog.globals[1]?).map (·.type) = some 299 by kernel_rfl).symm.trans hty)
  have hd' : DataW.trod (fun _ => ()) Tryz.prog W 0 (fun _ => true) false fuel 299 cs.toList = some (.slice [.lit (.int .u8 255)] [], p) := hd
  obtain ⟨a, cap, hcs, _, hel⟩ := open_row Tryz.underlying299 (by kernel_rfl) hd'
  obtain ⟨v0, n0, q0, hc0, hr0⟩ := hel 0 _ rfl
  obtain ⟨z, e1, e2, _⟩ := DataW.trod_int Tryz.underlying5 hr0
  have hz : z = 255 := by simpa using (congrArg Prod.fst e2).symm
  subst hz
  have hv0 : v0 = .int .u8 255 := by simpa using e1
  subst hv0
  obtain ⟨b, off, spot⟩ := a
  have hspot : spot = none := by simpa [Addr.add] using World.cell?_spot hc0
  subst hspot
  have h1 := World.var?_cell hg hvar 0
  rw [Array.eq_one_of_toList hcs] at h1
  have h0 : W.cell? ⟨b, off, none⟩ = some (.int .u8 255) := by simpa [Addr.add] using hc0
  refine ⟨b, off, cap, by simpa using h1, h0, ?_, ?_⟩
  · exact World.block_lt_of_cell? W (a := ⟨b, off, none⟩) h0
  · exact World.block_lt_of_cell? W (a := ⟨1, 0, none⟩) (by simpa using h1)

set_option maxRecDepth 100000 in
theorem tabs_of {W : World} (h3 : Lib.VarReads Tryz.prog W "unicode/utf8.first" Rows.laid_unicode_utf8_first) (h4 : Lib.VarReads Tryz.prog W "unicode/utf8.acceptRanges" Rows.laid_unicode_utf8_acceptRanges) : Lib.Utf8Tabs 3 4 W := by
  have e3 : Rows.laid_unicode_utf8_first = Lib.firstData := Pinned.utf8First_eq
  have e4 : (Rows.laid_unicode_utf8_acceptRanges : DataW Unit) = Lib.acceptData := by kernel_rfl
  rw [e3] at h3
  rw [e4] at h4
  have c5 : Tryz.prog.cellsOf 5 = 1 := by kernel_rfl
  have c256 : Tryz.prog.cellsOf 351 = 256 := by kernel_rfl
  have c2 : Tryz.prog.cellsOf 353 = 2 := by kernel_rfl
  refine ⟨fun c hc => ?_, fun i hi => ?_⟩
  · obtain ⟨g, t, cs, fuel, p, hg, hty, hvar, hd⟩ := h3
    obtain rfl := Option.some.inj ((show Tryz.prog.globalNamed "unicode/utf8.first" = some 3 by kernel_rfl).symm.trans hg)
    obtain rfl := Option.some.inj ((show (Tryz.prog.globals[3]?).map (·.type) = some 351 by kernel_rfl).symm.trans hty)
    have hcs := Lib.cells_of_tab Tryz.underlying351 Tryz.underlying5 c5 c256 hd
    have := World.var?_cell hg hvar c
    rw [this, ← Array.getElem?_toList, hcs]
    simp [Lib.firstTab, hc]
  · obtain ⟨g, t, cs, fuel, p, hg, hty, hvar, hd⟩ := h4
    obtain rfl := Option.some.inj ((show Tryz.prog.globalNamed "unicode/utf8.acceptRanges" = some 4 by kernel_rfl).symm.trans hg)
    obtain rfl := Option.some.inj ((show (Tryz.prog.globals[4]?).map (·.type) = some 354 by kernel_rfl).symm.trans hty)
    obtain ⟨fuel', d, q, hdi, he⟩ := Lib.array_elem Tryz.underlying354 hd i hi
    simp only [List.getElem?_map, List.getElem?_range hi, Option.map_some, Option.some.injEq] at hdi
    subst hdi
    rw [c2] at he
    have hcs := Lib.ints_of_struct Tryz.underlying353 (fun j f hj => by
      match j, hj with
      | 0, hj => simp at hj; subst hj; exact ⟨Tryz.underlying5, rfl, c5⟩
      | 1, hj => simp at hj; subst hj; exact ⟨Tryz.underlying5, rfl, c5⟩
      | j + 2, hj => simp at hj) (by rw [c2]; rfl) he
    have e0 := congrArg (·[0]?) hcs
    have e1 := congrArg (·[1]?) hcs
    simp only [List.getElem?_take, List.getElem?_drop] at e0 e1
    constructor
    · rw [World.var?_cell hg hvar (2 * i), ← Array.getElem?_toList]
      simpa [Nat.mul_comm] using e0
    · rw [World.var?_cell hg hvar (2 * i + 1), ← Array.getElem?_toList]
      simpa [Nat.mul_comm] using e1

/-- the five variables that the descriptors' rows list -/
def laidD : List (String × DataW Unit) := [("unicode/utf8.acceptRanges", Rows.laid_unicode_utf8_acceptRanges), ("pub-dialplate/pub/clientgolang/prometheus.errInconsistentCardinality", Rows.laid_pub_dialplate_pub_clientgolang_prometheus_errInconsistentCardinality), ("pub-dialplate/pub/clientgolang/prometheus.separatorByteSlice", Rows.laid_pub_dialplate_pub_clientgolang_prometheus_separatorByteSlice), ("pub-dialplate/pub/clientgolang/prometheus.V2", Rows.laid_pub_dialplate_pub_clientgolang_prometheus_V2), ("unicode/utf8.first", Rows.laid_unicode_utf8_first)]
set_option maxRecDepth 100000 in
theorem glob_of {W : World} (h : laidMetH Tryz.prog laidD W) : Glob W := by
  rw [_root_.Go.MakeChecks.laidMetH_plain Tryz.prog laidD W (by kernel_rfl)] at h
  exact ⟨tabs_of (Lib.laidMet.reads h (by unfold laidD; simp)) (Lib.laidMet.reads h (by unfold laidD; simp)), sep_of (Lib.laidMet.reads h (by unfold laidD; simp))⟩

section
variable {H : Type} {enc : TypeId × Value → H} {P : Program} {w : World} {base : Nat} {spare : Nat → Bool} {held : Bool}
theorem open_agg5 {r : Reach} {b0 : Nat} {t : TypeId} {f0 f1 f2 f3 f4 : Field} {v : Value} {d : DataW H} {p : List MemPlace} (hs : P.underlying t = some (.struct #[f0, f1, f2, f3, f4])) (hone : oneCellFields P #[f0, f1, f2, f3, f4] = true) (hC : P.cellsOf t = 5)
    (hv : Value.okWide P w r b0 t v) (h : DataW.Trod enc P w base spare held t v d p) :
    ∃ (v0 v1 v2 v3 v4 : Value) (y0 y1 y2 y3 y4 : DataW H × List MemPlace) (n : Nat), v = .agg #[v0, v1, v2, v3, v4] ∧ d = .agg [y0.1, y1.1, y2.1, y3.1, y4.1] ∧ p = y0.2 ++ (y1.2 ++ (y2.2 ++ (y3.2 ++ y4.2))) ∧
      DataW.trod enc P w base spare held n f0.type [v0] = some y0 ∧ DataW.trod enc P w base spare held n f1.type [v1] = some y1 ∧ DataW.trod enc P w base spare held n f2.type [v2] = some y2 ∧ DataW.trod enc P w base spare held n f3.type [v3] = some y3 ∧ DataW.trod enc P w base spare held n f4.type [v4] = some y4 := by
  obtain ⟨cs, rfl, hsz⟩ := okWide_struct hs hv
  obtain ⟨l⟩ := cs
  match l, hsz.trans hC with
  | [c0, c1, c2, c3, c4], _ =>
    obtain ⟨fuel, hf⟩ := h
    obtain ⟨xs, n, _, hx, _, hlen, hg⟩ := DataW.trod_struct hs hf
    obtain ⟨o0, k0⟩ := hone_of hone 0 f0 rfl
    obtain ⟨o1, k1⟩ := hone_of hone 1 f1 rfl
    obtain ⟨o2, k2⟩ := hone_of hone 2 f2 rfl
    obtain ⟨o3, k3⟩ := hone_of hone 3 f3 rfl
    obtain ⟨o4, k4⟩ := hone_of hone 4 f4 rfl
    match xs, hlen with
    | [y0, y1, y2, y3, y4], _ =>
      simp only [Prod.mk.injEq] at hx
      exact ⟨c0, c1, c2, c3, c4, y0, y1, y2, y3, y4, n, rfl, by simpa using hx.1, by simpa using hx.2, by simpa [Value.cells, o0, k0] using hg 0 f0 rfl, by simpa [Value.cells, o1, k1] using hg 1 f1 rfl, by simpa [Value.cells, o2, k2] using hg 2 f2 rfl, by simpa [Value.cells, o3, k3] using hg 3 f3 rfl, by simpa [Value.cells, o4, k4] using hg 4 f4 rfl⟩
end

theorem len_of (s : ByteArray) : s.data.toList.length = s.size := by rw [Array.length_toList]; rfl
set_option maxRecDepth 100000 in
theorem pairs_bulk {H : Type} {enc : TypeId × Value → H} {W : World} {base fuel : Nat} {held : Bool} {v : Value} {x : DataW H × List MemPlace}
    (h : DataW.trod enc Tryz.prog W base (fun _ => true) held fuel 45 [v] = some x) : ∃ L : List P2, Ss.Of 2 pc W v L ∧ wp L + 1 ≤ Rows.uptoBulk x.1 + 1 ∧ L.length ≤ Rows.uptoBulk x.1 := by
  have hv := Sl.slice_of Tryz.underlying45 h
  have h' : DataW.Trod enc Tryz.prog W base (fun _ => true) held 45 v x.1 x.2 := by
    obtain ⟨a, len, cap, rfl⟩ := hv
    exact ⟨fuel, h⟩
  obtain ⟨L, h1, hT, h2⟩ : ∃ L : List P2, Ss.Of 2 pc W v L ∧ (∀ z ∈ L, True) ∧ (L.map fun p => (p.1.size + 1) + (p.2.size + 1)).sum ≤ Rows.uptoBulk x.1 := by
    refine Ss.open_bulk0 2 pc pc_len (fun _ => True) (fun p => (p.1.size + 1) + (p.2.size + 1)) Tryz.underlying45 Tryz.underlying138 (by kernel_rfl) (by kernel_rfl) rfl (by decide) ?_ hv h'
    intro V ys hyl hV
    obtain ⟨n0, y0, g0, h0⟩ := hV 0 _ rfl
    obtain ⟨n1, y1, g1, h1⟩ := hV 1 _ rfl
    obtain ⟨s0, e0, x0, w0⟩ := DataW.trod_string Tryz.underlying9 h0
    obtain ⟨s1, e1, x1, w1⟩ := DataW.trod_string Tryz.underlying9 h1
    simp only [List.cons.injEq, and_true] at e0 e1
    refine ⟨(s0, s1), ?_, trivial, ?_⟩
    · intro j u hu
      match j, hu with
      | 0, hu => injection hu with hu; rw [e0, ← hu]
      | 1, hu => injection hu with hu; rw [e1, ← hu]
      | j + 2, hu => cases hu
    · have e : ys = [y0, y1] := by
        match ys, hyl, g0, g1 with
        | [a, b], _, g0, g1 => injection g0 with g0; injection g1 with g1; rw [g0, g1]
      rw [e, x0, x1]
      have z0 := len_of s0
      have z1 := len_of s1
      simp only [List.map_cons, List.map_nil, Rows.uptoBulkAll, Rows.uptoBulk]
      omega
  have hs : L.length ≤ wp L := by
    clear h1 h2 hT
    induction L with
    | nil => simp
    | cons p L ih => rw [wp_cons, List.length_cons]; omega
  have e : wp L = (L.map fun p => (p.1.size + 1) + (p.2.size + 1)).sum := rfl
  exact ⟨L, h1, by omega, by omega⟩
theorem wt_len (l : List ByteArray) : l.length ≤ wt l := by
  induction l with
  | nil => simp
  | cons x l ih => rw [wt_cons, List.length_cons]; omega
set_option maxRecDepth 100000 in
/-- an argument that is a descriptor's data, of bulk at most 1048576 -/
theorem meta_read {H : Type} {enc : TypeId × Value → H} {W : World} {base b0 : Nat} {held : Bool} {r : Reach} {v : Value} {d : DataW H} {p : List MemPlace}
    (hv : Value.okWide Tryz.prog W r b0 66 v) (h : DataW.Trod enc Tryz.prog W base (fun _ => true) held 66 v d p) (hb : Rows.uptoBulk d ≤ 1048576) :
    ∃ nm hp un V L, MetaAt W v nm hp un V L ∧ Small nm hp un V L ∧ nm.size + hp.size + un.size + wt V + wp L ≤ 1048576 := by
  obtain ⟨v0, v1, v2, v3, v4, y0, y1, y2, y3, y4, n, rfl, rfl, _, h0, h1, h2, h3, h4⟩ := open_agg5 Tryz.underlying66 (by kernel_rfl) (by kernel_rfl) hv h
  obtain ⟨s0, e0, x0, w0⟩ := DataW.trod_string Tryz.underlying9 h0
  obtain ⟨s1, e1, x1, w1⟩ := DataW.trod_string Tryz.underlying9 h1
  obtain ⟨s2, e2, x2, w2⟩ := DataW.trod_string Tryz.underlying9 h2
  simp only [List.cons.injEq, and_true] at e0 e1 e2
  subst e0 e1 e2
  obtain ⟨V, hV, hVs, hVb⟩ := Sl.open_strings_bulk0 Tryz.underlying64 Tryz.underlying9 (by kernel_rfl) h3
  obtain ⟨L, hL, hLb, hLl⟩ := pairs_bulk h4
  have hVw : wt V ≤ Rows.uptoBulk y3.1 := hVb
  have z0 := len_of s0
  have z1 := len_of s1
  have z2 := len_of s2
  have hl := wt_len V
  rw [x0, x1, x2] at hb
  simp only [Rows.uptoBulkAll, Rows.uptoBulk] at hb
  have hall : s0.size + s1.size + s2.size + wt V + wp L ≤ 1048576 := by omega
  refine ⟨s0, s1, s2, V, L, ⟨⟨v3, v4, rfl, hV, hL⟩, by omega, by omega, by omega, by omega, hVs, fun q hq => ?_⟩, ⟨by omega, by omega, by omega⟩, hall⟩
  have := mem_wp hq
  omega

end Go.Proofs.YtlolomodcbkblaaGreatDoor.Nd

set_option linter.unusedVariables false
set_option linter.unusedSimpArgs false
namespace Go.Proofs.YtlolomodcbkblaaGreatDoor.Spans
open Go.RowKit Go.ChangeShapes Go.WideShapes Go.Deep Fp _root_.Go.Proofs.YtlolomodcbkblaaGreatDoor.Sp

set_option maxRecDepth 100000 in
theorem read0 {H : Type} {enc : TypeId × Value → H} {W : World} {base b0 : Nat} {held : Bool} {r : Reach} {v : Value} {d : DataW H} {p : List MemPlace}
    (hv : Value.okWide Tryz.prog W r b0 67 v) (h : DataW.Trod enc Tryz.prog W base (fun _ => true) held 67 v d p) :
    ∃ L : List N2, Ss.Of 2 cc W v L ∧ ∀ q ∈ L, In64 q.1 ∧ In64 q.2 := by
  refine Ss.open_of 2 cc cc_len _ Tryz.underlying67 Tryz.underlying143 (by kernel_rfl) (by kernel_rfl) rfl (by decide) ?_ hv h
  intro n V hV
  obtain ⟨y0, h0⟩ := hV 0 _ rfl
  obtain ⟨y1, h1⟩ := hV 1 _ rfl
  obtain ⟨s0, e0, _, w0⟩ := DataW.trod_int Tryz.underlying3 h0
  obtain ⟨s1, e1, _, w1⟩ := DataW.trod_int Tryz.underlying2 h1
  simp only [List.cons.injEq, and_true] at e0 e1
  refine ⟨(s0, s1), ?_, ?_, ?_⟩
  · intro j u hu
    match j, hu with
    | 0, hu => injection hu with hu; rw [e0, ← hu]
    | 1, hu => injection hu with hu; rw [e1, ← hu]
    | j + 2, hu => cases hu
  · show In64 s0
    simp [Lit.wf, IntKind.min, IntKind.max, IntKind.signed, IntKind.bits] at w0
    unfold In64
    omega
  · show In64 s1
    simp [Lit.wf, IntKind.min, IntKind.max, IntKind.signed, IntKind.bits] at w1
    unfold In64
    omega

end Go.Proofs.YtlolomodcbkblaaGreatDoor.Spans
