/- Slices whose elements take one cell, read as lists: an argument's, an owned row's; kept where memory below is kept. Slices whose elements take k cells, read as lists: an argument's, an owned row's; kept where memory below is kept. Pairs sorted by name (spec.FitPairs): the plain law, and what the walk needs. -/
import Derived.Test.YtlolomodcbkblaaGreatDoorProg
import Derived.WalkKit
import Derived.Below
import Derived.Deep.Slices
import Derived.Laws.AppendOwn
import Derived.Laws.Cover2
import Derived.WideShapes
import Derived.Deep.Fields
import Derived.ChangeSame
import Derived.WalkLawsBesides
import Derived.WalkSpells
import Derived.Outline
import Derived.Lib.Hide
import Derived.Lib.Strings
import Derived.Maps.AppendAt
import Derived.Deep.AppendLies
import Derived.OwnWalk
import Derived.Deep.DrawnRows
import Derived.Deep.QuietTactic
import Derived.BigQuiet
import Derived.WalkSmall
set_option linter.unusedVariables false
set_option linter.unusedSimpArgs false
namespace Go.Proofs.YtlolomodcbkblaaGreatDoor.Sl
open Go.RowKit Go.ChangeShapes Go.WideShapes Go.Deep

/-- the slice value v holds the elements zs, each one cell 'c z' -/
def Of {α : Type} (c : α → Value) (w : World) (v : Value) (zs : List α) : Prop :=
  (zs = [] ∧ ∃ a cap, v = .slice a 0 cap ∧ cap ≤ 9223372036854775807) ∨
  (∃ b off cap, v = .slice (some ⟨b, off, none⟩) zs.length cap ∧ 0 < zs.length ∧ zs.length ≤ cap ∧ cap ≤ 9223372036854775807 ∧ b < w.heap.size ∧ ∀ i (h : i < zs.length), w.cell? ⟨b, off + i, none⟩ = some (c zs[i]))

theorem Of.below {α : Type} {c : α → Value} {w w' : World} {v : Value} {zs : List α} (h : Of c w v zs) (hb : Below w.heap.size w w') : Of c w' v zs := by
  rcases h with h | ⟨b, off, cap, h1, h2, h3, h4, h5, h6⟩
  · exact Or.inl h
  · exact Or.inr ⟨b, off, cap, h1, h2, h3, h4, Nat.lt_of_lt_of_le h5 hb.size, fun i h => by rw [hb.cell (p := ⟨b, off + i, none⟩) h5]; exact h6 i h⟩

theorem Of.belowAt {α : Type} {c : α → Value} {w w' : World} {v : Value} {zs : List α} {B : Nat} (h : Of c w v zs) (hb : Below B w w') (hB : ∀ b off cap, v = .slice (some ⟨b, off, none⟩) zs.length cap → b < B) : Of c w' v zs := by
  rcases h with h | ⟨b, off, cap, h1, h2, h3, h4, h5, h6⟩
  · exact Or.inl h
  · exact Or.inr ⟨b, off, cap, h1, h2, h3, h4, Nat.lt_of_lt_of_le h5 hb.size, fun i h => by rw [hb.cell (p := ⟨b, off + i, none⟩) (hB b off cap h1)]; exact h6 i h⟩

theorem Of.len {α : Type} {c : α → Value} {w : World} {v : Value} {zs : List α} (h : Of c w v zs) : zs.length ≤ 9223372036854775807 := by
  rcases h with ⟨rfl, _⟩ | ⟨b, off, cap, h1, h2, h3, h4, h5, h6⟩
  · simp
  · omega

/-- an owned row reads so -/
theorem Of.own {α : Type} {c : α → Value} {w : World} {B e : Nat} {v : Value} {zs : List α} (h : w.ownsRow B e 1 v zs.length (zs.map c)) : Of c w v zs := by
  rcases h.2 with ⟨hv, h0⟩ | ⟨g, cap, cur, hv, hB, hg, hn, hc, hs, ht⟩
  · have : zs = [] := List.length_eq_zero_iff.1 h0
    subst this
    exact Or.inl ⟨rfl, none, 0, hv, by omega⟩
  · have hcap : cap ≤ 9223372036854775807 := by unfold maxLen at hc; omega
    by_cases h0 : zs.length = 0
    · have : zs = [] := List.length_eq_zero_iff.1 h0
      subst this
      exact Or.inl ⟨rfl, _, cap, hv, hcap⟩
    · refine Or.inr ⟨g, 0, cap, hv, by omega, hn, hcap, ?_, ?_⟩
      · rcases Nat.lt_or_ge g w.heap.size with h' | h'
        · exact h'
        · simp [Array.getElem?_eq_none h'] at hg
      · intro i hi
        rw [Nat.mul_one] at ht
        have h1 : (cur.toList.take zs.length)[i]? = some (c zs[i]) := by rw [ht]; simp [hi]
        rw [List.getElem?_take, if_pos hi] at h1
        simp only [World.cell?, hg, Nat.zero_add]
        simpa using h1

theorem cell_new (w : World) (cs : Array Value) (T : TypeId) (j : Nat) : (w.alloc (.cells cs T)).cell? ⟨w.heap.size, j, none⟩ = cs[j]? := by
  have h : (w.alloc (.cells cs T)).heap[w.heap.size]? = some (.cells cs T (0, 0)) := heap_alloc_new w _
  unfold World.cell?
  simp only []
  rw [h]
  rfl
theorem frozen_new (w : World) (cs : Array Value) (T : TypeId) (j : Nat) : (w.alloc (.cells cs T)).frozen? ⟨w.heap.size, j, none⟩ = false := by
  have h : (w.alloc (.cells cs T)).heap[w.heap.size]? = some (.cells cs T (0, 0)) := heap_alloc_new w _
  unfold World.frozen?
  simp only []
  rw [h]
  simp
theorem frozen_old (w : World) (o : Obj) (b j : Nat) (h : b < w.heap.size) : (w.alloc o).frozen? ⟨b, j, none⟩ = w.frozen? ⟨b, j, none⟩ :=
  World.frozen?_of_block (w := w) (Below.heap_alloc w o b h)
theorem cell_old (w : World) (o : Obj) (b j : Nat) (h : b < w.heap.size) : (w.alloc o).cell? ⟨b, j, none⟩ = w.cell? ⟨b, j, none⟩ :=
  World.cell?_of_block (w := w) (Below.heap_alloc w o b h)

section
variable {H : Type} {enc : TypeId × Value → H} {w : World} {base : Nat} {spare : Nat → Bool} {held : Bool}
/-- AN ARGUMENT THAT IS A SLICE of elements that take one cell and read as 'c z', z good -/
theorem open_of {α : Type} [Inhabited α] (c : α → Value) (good : α → Prop) {P : Program} {t e : TypeId} (ht : P.underlying t = some (.slice e)) (hc : P.cellsOf e = 1)
    (helem : ∀ n v (x : DataW H × List MemPlace), DataW.trod enc P w base (fun _ => true) held n e [v] = some x → ∃ z, v = c z ∧ good z) {r : Reach} {b0 : Nat} {v : Value} {d : DataW H} {p : List MemPlace}
    (hv : Value.okWide P w r b0 t v) (h : DataW.Trod enc P w base (fun _ => true) held t v d p) : ∃ zs : List α, Of c w v zs ∧ ∀ z ∈ zs, good z := by
  obtain ⟨a, len, cap, rfl⟩ := okWide_slice ht hv
  obtain ⟨fuel, hf⟩ := h
  rcases open_slice1 ht hc hf with ⟨hcs, _⟩ | ⟨a', len', m', m, n, V, D, Pl, hcs, hb, hl, hm, hmm, hx, hcell⟩
  · simp [Value.cells] at hcs
    obtain ⟨rfl, rfl, rfl⟩ := hcs
    exact ⟨[], Or.inl ⟨rfl, none, 0, rfl, by omega⟩, by simp⟩
  · simp [Value.cells] at hcs
    obtain ⟨rfl, rfl, rfl⟩ := hcs
    simp only [if_true] at hmm
    subst hmm
    have hcap : m ≤ 9223372036854775807 := by unfold maxLen at hm; omega
    have hfl : ∀ i, i < m → ∃ z : α, V i = c z ∧ good z := fun i hi => helem n _ _ (hcell i hi).2
    by_cases h0 : len = 0
    · subst h0
      exact ⟨[], Or.inl ⟨rfl, _, m, rfl, hcap⟩, by simp⟩
    · obtain ⟨f, hF⟩ := choose_lt (p := fun i z => V i = c z ∧ good z) hfl
      have h1 := (hcell 0 (by omega)).1
      have hspot : a'.spot = none := by
        have := World.cell?_spot h1
        simpa [Addr.add] using this
      obtain ⟨b, off, spot⟩ := a'
      simp only at hspot
      subst hspot
      refine ⟨(List.range len).map f, Or.inr ⟨b, off, m, by simp, by simp; omega, by simp; omega, hcap, ?_, ?_⟩, ?_⟩
      · rcases Nat.lt_or_ge b w.heap.size with h' | h'
        · exact h'
        · simp [World.cell?, Addr.add, Array.getElem?_eq_none h'] at h1
      · intro i hi
        have hi' : i < len := by simpa using hi
        have := (hcell i (by omega)).1
        rw [(hF i (by omega)).1] at this
        by_cases hi0 : i = 0
        · subst hi0; simpa [Addr.add] using this
        · simpa [Addr.add, hi0] using this
      · intro z hz
        obtain ⟨i, hi, rfl⟩ := List.mem_map.1 hz
        exact (hF i (by have := List.mem_range.1 hi; omega)).2

theorem open_floats {P : Program} {t e : TypeId} (ht : P.underlying t = some (.slice e)) (he : P.underlying e = some (.float .f64)) (hc : P.cellsOf e = 1) {r : Reach} {b0 : Nat} {v : Value} {d : DataW H} {p : List MemPlace}
    (hv : Value.okWide P w r b0 t v) (h : DataW.Trod enc P w base (fun _ => true) held t v d p) : ∃ zs : List Nat, Of (Value.float .f64) w v zs ∧ ∀ z ∈ zs, z < 18446744073709551616 := by
  refine open_of (Value.float .f64) _ ht hc (fun n v x h2 => ?_) hv h
  cases n with
  | zero => simp [DataW.trod] at h2
  | succ n =>
    cases v <;> simp only [DataW.trod, he] at h2 <;> try (simp at h2; done)
    rename_i k z
    cases k
    · simp at h2
    · refine ⟨z, rfl, ?_⟩
      by_cases hw : (Lit.float .f64 z).wf = true
      · simpa [Lit.wf] using hw
      · simp [hw] at h2

theorem open_strings {P : Program} {t e : TypeId} (ht : P.underlying t = some (.slice e)) (he : P.underlying e = some .string) (hc : P.cellsOf e = 1) {r : Reach} {b0 : Nat} {v : Value} {d : DataW H} {p : List MemPlace}
    (hv : Value.okWide P w r b0 t v) (h : DataW.Trod enc P w base (fun _ => true) held t v d p) : ∃ zs : List ByteArray, Of Value.string w v zs ∧ ∀ z ∈ zs, z.size ≤ 9223372036854775807 := by
  refine open_of Value.string _ ht hc (fun n v x h2 => ?_) hv h
  obtain ⟨s, hs, _, hw⟩ := DataW.trod_string he h2
  simp at hs
  exact ⟨s, hs, by unfold maxLen at hw; omega⟩

theorem open_ints {P : Program} {t e : TypeId} (ht : P.underlying t = some (.slice e)) (he : P.underlying e = some (.int .i64)) (hc : P.cellsOf e = 1) {r : Reach} {b0 : Nat} {v : Value} {d : DataW H} {p : List MemPlace}
    (hv : Value.okWide P w r b0 t v) (h : DataW.Trod enc P w base (fun _ => true) held t v d p) : ∃ zs : List Int, Of (Value.int .i64) w v zs ∧ ∀ z ∈ zs, -9223372036854775808 ≤ z ∧ z ≤ 9223372036854775807 := by
  refine open_of (Value.int .i64) _ ht hc (fun n v x h2 => ?_) hv h
  obtain ⟨s, hs, _, hw⟩ := DataW.trod_int he h2
  simp at hs
  refine ⟨s, hs, ?_⟩
  have hb := hw
  simp [Lit.wf, IntKind.min, IntKind.max, IntKind.signed, IntKind.bits] at hb
  omega
end

end Go.Proofs.YtlolomodcbkblaaGreatDoor.Sl

set_option linter.unusedVariables false
set_option linter.unusedSimpArgs false
namespace Go.Proofs.YtlolomodcbkblaaGreatDoor.Ss
open Go.RowKit Go.ChangeShapes Go.WideShapes Go.Deep

/-- the slice value v holds the elements zs, each the k cells 'c z' -/
def Of {α : Type} (k : Nat) (c : α → List Value) (w : World) (v : Value) (zs : List α) : Prop :=
  (zs = [] ∧ ∃ a cap, v = .slice a 0 cap ∧ cap ≤ 9223372036854775807) ∨
  (∃ b off cap, v = .slice (some ⟨b, off, none⟩) zs.length cap ∧ 0 < zs.length ∧ zs.length ≤ cap ∧ cap ≤ 9223372036854775807 ∧ b < w.heap.size ∧ ∀ i (h : i < zs.length) j u, (c zs[i])[j]? = some u → w.cell? ⟨b, off + (i * k + j), none⟩ = some u)

section
variable {α : Type} {k : Nat} {c : α → List Value}
theorem Of.below {w w' : World} {v : Value} {zs : List α} (h : Of k c w v zs) (hb : Below w.heap.size w w') : Of k c w' v zs := by
  rcases h with h | ⟨b, off, cap, h1, h2, h3, h4, h5, h6⟩
  · exact Or.inl h
  · exact Or.inr ⟨b, off, cap, h1, h2, h3, h4, Nat.lt_of_lt_of_le h5 hb.size, fun i h j u hu => by rw [hb.cell (p := ⟨b, off + (i * k + j), none⟩) h5]; exact h6 i h j u hu⟩
theorem Of.len {w : World} {v : Value} {zs : List α} (h : Of k c w v zs) : zs.length ≤ 9223372036854775807 := by
  rcases h with ⟨rfl, _⟩ | ⟨b, off, cap, h1, h2, h3, h4, h5, h6⟩
  · simp
  · omega
/-- a nil or empty slice -/
theorem Of.nil {w : World} : Of k c w (.slice none 0 0) ([] : List α) := Or.inl ⟨rfl, none, 0, rfl, by omega⟩
theorem Of.slice {w : World} {v : Value} {zs : List α} (h : Of k c w v zs) : ∃ a cap, v = .slice a zs.length cap ∧ zs.length ≤ cap ∧ cap ≤ 9223372036854775807 := by
  rcases h with ⟨rfl, a, cap, h, hc⟩ | ⟨b, off, cap, h1, h2, h3, h4, h5, h6⟩
  · exact ⟨a, cap, h, by simp, hc⟩
  · exact ⟨_, _, h1, h3, h4⟩

theorem flat_len (hc : ∀ z, (c z).length = k) : ∀ zs : List α, (zs.flatMap c).length = zs.length * k
  | [] => by simp
  | z :: zs => by rw [List.flatMap_cons, List.length_append, hc, flat_len hc zs, List.length_cons, Nat.succ_mul]; omega
theorem flat_get (hc : ∀ z, (c z).length = k) : ∀ (zs : List α) (i : Nat) (h : i < zs.length) (j : Nat), j < k → (zs.flatMap c)[i * k + j]? = (c zs[i])[j]?
  | [], i, h, _, _ => absurd h (by simp)
  | z :: zs, 0, _, j, hj => by
    rw [List.flatMap_cons, List.getElem?_append_left (by rw [hc]; omega)]
    simp
  | z :: zs, i + 1, h, j, hj => by
    rw [List.flatMap_cons, List.getElem?_append_right (by rw [hc, Nat.succ_mul]; omega)]
    rw [show (i + 1) * k + j - (c z).length = i * k + j by rw [hc, Nat.succ_mul]; omega]
    rw [flat_get hc zs i (by simpa using h) j hj]
    simp

/-- an owned row reads so -/
theorem Of.own (hc : ∀ z, (c z).length = k) {w : World} {B e : Nat} {v : Value} {zs : List α} (h : w.ownsRow B e k v zs.length (zs.flatMap c)) : Of k c w v zs := by
  rcases h.2 with ⟨hv, h0⟩ | ⟨g, cap, cur, hv, hB, hg, hn, hcp, hs, ht⟩
  · have : zs = [] := List.length_eq_zero_iff.1 h0
    subst this
    exact Or.inl ⟨rfl, none, 0, hv, by omega⟩
  · have hcap : cap ≤ 9223372036854775807 := by unfold maxLen at hcp; omega
    by_cases h0 : zs.length = 0
    · have : zs = [] := List.length_eq_zero_iff.1 h0
      subst this
      exact Or.inl ⟨rfl, _, cap, hv, hcap⟩
    · refine Or.inr ⟨g, 0, cap, hv, by omega, hn, hcap, ?_, ?_⟩
      · rcases Nat.lt_or_ge g w.heap.size with h' | h'
        · exact h'
        · simp [Array.getElem?_eq_none h'] at hg
      · intro i hi j u hu
        have hj : j < k := by
          have := (List.getElem?_eq_some_iff.1 hu).1
          rwa [hc] at this
        have h1 : (cur.toList.take (zs.length * k))[i * k + j]? = some u := by rw [ht, flat_get hc zs i hi j hj]; exact hu
        have hlt : i * k + j < zs.length * k := by
          have : (i + 1) * k ≤ zs.length * k := Nat.mul_le_mul_right _ hi
          rw [Nat.succ_mul] at this
          omega
        rw [List.getElem?_take, if_pos hlt] at h1
        simp only [World.cell?, hg, Nat.zero_add]
        simpa using h1
end

/-- a list of equal cells: the new cells of an append, one element -/
theorem news_one (w : World) (cs : Array Value) (T : TypeId) : ∀ j u, cs.toList[j]? = some u → (w.alloc (.cells cs T)).cell? ((⟨w.heap.size, 0, none⟩ : Addr).add j) = some u := by
  intro j u hj
  have e : (⟨w.heap.size, 0, none⟩ : Addr).add j = ⟨w.heap.size, j, none⟩ := by unfold Addr.add; split <;> simp_all
  rw [e, Sl.cell_new]
  simpa using hj

section
variable {H : Type} {enc : TypeId × Value → H} {P : Program} {w : World} {base : Nat} {spare : Nat → Bool} {held : Bool}
theorem open_slice_fields {t e : TypeId} {fs : Array Field} {fuel : Nat} {cs : List Value} {x : DataW H × List MemPlace} (ht : P.underlying t = some (.slice e)) (he : P.underlying e = some (.struct fs))
    (hone : oneCellFields P fs = true) (hC : P.cellsOf e = fs.size) (h : DataW.trod enc P w base spare held fuel t cs = some x) :
    (cs = [.slice none 0 0] ∧ x = (.nil, [])) ∨
    ∃ (a : Addr) (len cap m : Nat) (D : Nat → DataW H) (Pl : Nat → List MemPlace), cs = [.slice (some a) len cap] ∧ base ≤ a.block ∧ len ≤ cap ∧ cap ≤ maxLen ∧ m = (if spare a.block then cap else len) ∧
      x = (.slice ((List.range len).map D) ((List.range (m - len)).map fun j => D (len + j)), MemPlace.row a (m * fs.size) ++ (List.range m).flatMap Pl) ∧
      ∀ i, i < m → ∃ (ys : List (DataW H × List MemPlace)) (n : Nat), D i = .agg (ys.map (·.1)) ∧ Pl i = ys.flatMap (·.2) ∧ ys.length = fs.size ∧
        ∀ (j : Nat) (f : Field), fs[j]? = some f → ∃ (v : Value) (y : DataW H × List MemPlace), w.cell? (a.add (i * fs.size + j)) = some v ∧ ys[j]? = some y ∧ DataW.trod enc P w base spare held n f.type [v] = some y := by
  rcases open_slice ht h with h0 | ⟨a, len, cap, m, n, D, Pl, hcs, hb, hl, hm, hmm, hx, hi⟩
  · exact .inl h0
  · refine .inr ⟨a, len, cap, m, D, Pl, hcs, hb, hl, hm, hmm, by rw [hC] at hx; exact hx, fun i him => ?_⟩
    obtain ⟨cs', hc, ht'⟩ := hi i him
    rw [hC] at hc
    obtain ⟨ys, n', hn', hy, hlen, hyl, hf⟩ := DataW.trod_struct he ht'
    obtain ⟨_, hcl, hat⟩ := World.cells?_some hc
    simp only [Prod.mk.injEq] at hy
    refine ⟨ys, n', hy.1, hy.2, hyl, fun j f hj => ?_⟩
    obtain ⟨ho, hk⟩ := hone_of hone j f hj
    have hjl : j < fs.size := (Array.getElem?_eq_some_iff.1 hj).1
    have hcell := hat j hjl
    have hv : cs'[j]? = some (cs'[j]'(by omega)) := List.getElem?_eq_getElem (by omega)
    have h1 := hf j f hj
    rw [ho, hk] at h1
    have hone' : (cs'.drop j).take 1 = [cs'[j]'(by omega)] := by
      rw [List.drop_eq_getElem_cons (by omega)]
      rfl
    rw [hone'] at h1
    have hys : ys[j]? = some (ys[j]'(by omega)) := List.getElem?_eq_getElem (by omega)
    refine ⟨_, _, ?_, hys, h1.trans hys⟩
    rw [← Go.Deep.add_add, hcell, hv]
end

section
variable {H : Type} {enc : TypeId × Value → H} {w : World} {base : Nat} {held : Bool}
/-- AN ARGUMENT THAT IS A SLICE of structs: 'read' tells what the cells of one element are, from the fields' own readings -/
theorem open_of {α : Type} [Inhabited α] (k : Nat) (c : α → List Value) (hk : ∀ z, (c z).length = k) (good : α → Prop) {P : Program} {t e : TypeId} {fs : Array Field} (ht : P.underlying t = some (.slice e)) (he : P.underlying e = some (.struct fs))
    (hone : oneCellFields P fs = true) (hC : P.cellsOf e = fs.size) (hfs : fs.size = k) (hk1 : 0 < k)
    (read : ∀ (n : Nat) (V : Nat → Value), (∀ j f, fs[j]? = some f → ∃ y, DataW.trod enc P w base (fun _ => true) held n f.type [V j] = some y) → ∃ z, (∀ j u, (c z)[j]? = some u → V j = u) ∧ good z) {r : Reach} {b0 : Nat} {v : Value} {d : DataW H} {p : List MemPlace}
    (hv : Value.okWide P w r b0 t v) (h : DataW.Trod enc P w base (fun _ => true) held t v d p) : ∃ zs : List α, Of k c w v zs ∧ ∀ z ∈ zs, good z := by
  subst hfs
  obtain ⟨a, len, cap, rfl⟩ := okWide_slice ht hv
  obtain ⟨fuel, hf⟩ := h
  rcases open_slice_fields ht he hone hC hf with ⟨hcs, _⟩ | ⟨a', len', m', m, D, Pl, hcs, hb, hl, hm, hmm, hx, hcell⟩
  · simp [Value.cells] at hcs
    obtain ⟨rfl, rfl, rfl⟩ := hcs
    exact ⟨[], Or.inl ⟨rfl, none, 0, rfl, by omega⟩, by simp⟩
  · simp [Value.cells] at hcs
    obtain ⟨rfl, rfl, rfl⟩ := hcs
    simp only [if_true] at hmm
    subst hmm
    have hcap : m ≤ 9223372036854775807 := by unfold maxLen at hm; omega
    by_cases h0 : len = 0
    · subst h0
      exact ⟨[], Or.inl ⟨rfl, _, m, rfl, hcap⟩, by simp⟩
    · have hfl : ∀ i, i < m → ∃ z : α, (∀ j u, (c z)[j]? = some u → w.cell? (a'.add (i * fs.size + j)) = some u) ∧ good z := by
        intro i hi
        obtain ⟨ys, n, _, _, _, hh⟩ := hcell i hi
        have hV : ∀ j, ∃ V : Value, ∀ f, fs[j]? = some f → w.cell? (a'.add (i * fs.size + j)) = some V ∧ ∃ y, DataW.trod enc P w base (fun _ => true) held n f.type [V] = some y := by
          intro j
          cases e : fs[j]? with
          | none => exact ⟨undef, fun f h => by cases h⟩
          | some f =>
            obtain ⟨V, y, h1, _, h3⟩ := hh j f e
            exact ⟨V, fun f' h => by cases h; exact ⟨h1, y, h3⟩⟩
        obtain ⟨V, hV⟩ := Classical.skolem.1 hV
        obtain ⟨z, hz, hg⟩ := read n V (fun j f hj => (hV j f hj).2)
        refine ⟨z, fun j u hu => ?_, hg⟩
        have hj : j < fs.size := by
          have := (List.getElem?_eq_some_iff.1 hu).1
          rwa [hk] at this
        have := (hV j fs[j] (Array.getElem?_eq_getElem hj)).1
        rw [hz j u hu] at this
        exact this
      obtain ⟨f, hF⟩ := choose_lt (p := fun i z => (∀ j u, (c z)[j]? = some u → w.cell? (a'.add (i * fs.size + j)) = some u) ∧ good z) hfl
      obtain ⟨u0, hu0⟩ : ∃ u, (c (f 0))[0]? = some u := ⟨_, List.getElem?_eq_getElem (by rw [hk]; omega)⟩
      have h1 := (hF 0 (by omega)).1 0 u0 hu0
      have hspot : a'.spot = none := by
        have := World.cell?_spot h1
        simpa [Addr.add] using this
      obtain ⟨b, off, spot⟩ := a'
      simp only at hspot
      subst hspot
      refine ⟨(List.range len).map f, Or.inr ⟨b, off, m, by simp, by simp; omega, by simp; omega, hcap, ?_, ?_⟩, ?_⟩
      · rcases Nat.lt_or_ge b w.heap.size with h' | h'
        · exact h'
        · simp [World.cell?, Addr.add, Array.getElem?_eq_none h'] at h1
      · intro i hi j u hu
        have hi' : i < len := by simpa using hi
        have hu' : (c (f i))[j]? = some u := by simpa using hu
        have := (hF i (by omega)).1 j u hu'
        by_cases hi0 : i * fs.size + j = 0
        · rw [hi0]; rw [hi0] at this; simpa [Addr.add] using this
        · unfold Addr.add at this; rw [if_neg hi0] at this; simpa using this
      · intro z hz
        obtain ⟨i, hi, rfl⟩ := List.mem_map.1 hz
        exact (hF i (by have := List.mem_range.1 hi; omega)).2
end

end Go.Proofs.YtlolomodcbkblaaGreatDoor.Ss

set_option linter.unusedVariables false
set_option linter.unusedSimpArgs false
namespace Go.Proofs.YtlolomodcbkblaaGreatDoor.Fp
open Go.RowKit Go.ChangeShapes Go.WideShapes Go.Deep

abbrev P2 := ByteArray × ByteArray
def pc (p : P2) : List Value := [.string p.1, .string p.2]
theorem pc_len (p : P2) : (pc p).length = 2 := rfl
theorem infoP : (Tryz.prog.info? 138).map (fun i => (i.zero, i.size, i.bytes)) = some (some (.agg #[.string ByteArray.empty, .string ByteArray.empty]), 2, 32) := by kernel_rfl

def GotP (B n : Nat) (acc : List P2) (u : Value) (w w' : World) : Prop :=
  acc.length ≤ n ∧ w'.ownsRow B 138 2 u acc.length (acc.flatMap pc) ∧ Below B w w'

theorem row_slice2 {w : World} {B e n k : Nat} {v : Value} {xs : List Value} (h : w.ownsRow B e k v n xs) : ∃ a c, v = .slice a n c := by
  rcases h.2 with ⟨rfl, rfl⟩ | ⟨g, cap, cur, rfl, _⟩
  · exact ⟨_, _, rfl⟩
  · exact ⟨_, _, rfl⟩

def bl (x y : ByteArray) : Bool := Op.bytesLess x.toList y.toList
def eqS (x y : ByteArray) : Bool := x.toList == y.toList
theorem eqS_iff (x y : ByteArray) : eqS x y = true ↔ x = y := by
  unfold eqS
  rw [beq_iff_eq]
  constructor
  · intro h
    have h1 : x.data.toList = y.data.toList := by
      have e : ∀ z : ByteArray, z.toList = z.data.toList := fun z => Lib.toList_data z
      rw [← e, ← e, h]
    obtain ⟨⟨x⟩⟩ := x
    obtain ⟨⟨y⟩⟩ := y
    simp at h1
    rw [h1]
  · rintro rfl; rfl
/-- a pair at its place; a name that is there already has the new value -/
def ins (p : P2) : List P2 → List P2
  | [] => [p]
  | q :: r => if bl q.1 p.1 then q :: ins p r else if eqS q.1 p.1 then (q.1, p.2) :: r else p :: q :: r
def fit (L : List P2) : List P2 := L.foldl (fun out p => ins p out) []
theorem fit_snoc (L : List P2) (p : P2) : fit (L ++ [p]) = ins p (fit L) := by
  unfold fit; rw [List.foldl_append]; rfl
theorem ins_len (p : P2) : ∀ L : List P2, (ins p L).length ≤ L.length + 1
  | [] => Nat.le_refl _
  | q :: r => by
    unfold ins
    split
    · have := ins_len p r
      simp only [List.length_cons]; omega
    · split <;> simp
theorem fit_len (L : List P2) (n : Nat) : (fit (L.take n)).length ≤ n := by
  induction n with
  | zero => simp [fit]
  | succ n ih =>
    by_cases h : n < L.length
    · rw [List.take_succ_eq_append_getElem h, fit_snoc]
      have := ins_len L[n] (fit (L.take n))
      omega
    · rw [List.take_of_length_le (by omega)] at ih ⊢
      omega
theorem ins_end (p : P2) : ∀ (L : List P2), (∀ j (h : j < L.length), bl (L[j]).1 p.1 = true) → ins p L = L ++ [p]
  | [], _ => rfl
  | q :: r, h => by
    have h0 : bl q.1 p.1 = true := h 0 (by simp)
    unfold ins
    rw [if_pos h0, ins_end p r (fun j hj => h (j + 1) (by simpa using hj))]
    rfl
theorem ins_at (p : P2) : ∀ (L : List P2) (k : Nat) (hk : k < L.length), (∀ j (h : j < L.length), j < k → bl (L[j]).1 p.1 = true) → bl (L[k]).1 p.1 = false →
    ins p L = if eqS (L[k]).1 p.1 then L.set k ((L[k]).1, p.2) else L.take k ++ p :: L.drop k
  | [], k, hk, _, _ => absurd hk (by simp)
  | q :: r, 0, _, _, h => by
    have h : bl q.1 p.1 = false := h
    unfold ins
    rw [h, if_neg (by simp)]
    rfl
  | q :: r, k + 1, hk, ha, h => by
    have h0 : bl q.1 p.1 = true := ha 0 (by simp) (Nat.succ_pos _)
    have ih := ins_at p r k (by simpa using hk) (fun j hj hjk => ha (j + 1) (by simpa using hj) (by omega)) (by simpa using h)
    unfold ins
    rw [if_pos h0, ih]
    simp only [List.getElem_cons_succ]
    split <;> simp

theorem flat_set2 : ∀ (L : List P2) (k : Nat) (h : k < L.length) (y : ByteArray), (L.flatMap pc).set (k * 2 + 1) (.string y) = (L.set k ((L[k]).1, y)).flatMap pc
  | [], k, h, _ => absurd h (by simp)
  | q :: r, 0, _, y => by
    rw [List.flatMap_cons, List.set_cons_zero, List.flatMap_cons]
    rfl
  | q :: r, k + 1, h, y => by
    have ih := flat_set2 r k (by simpa using h) y
    rw [List.flatMap_cons, List.set_cons_succ, List.flatMap_cons, List.getElem_cons_succ, ← ih]
    rw [show (k + 1) * 2 + 1 = k * 2 + 1 + 2 by omega]
    rfl

section
variable {B e n k cu : Nat} {au : Option Addr} {acc : List P2} {w w' : World} {u : Value}
/-- the first k elements -/
theorem own_prefix (h : w.ownsRow B e 2 (.slice au n cu) n (acc.flatMap pc)) (hn : n = acc.length) (hk : k ≤ n) : w.ownsRow B e 2 (.slice au k cu) k ((acc.take k).flatMap pc) := by
  refine ⟨by rw [Ss.flat_len pc_len, List.length_take]; congr 1; omega, ?_⟩
  rcases h.2 with ⟨h1, h2⟩ | ⟨g, cap, cur, h1, h2, h3, h4, h5, h6, h7⟩
  · injection h1 with e1 e2 e3
    subst e1 e3
    have : k = 0 := by omega
    subst this
    exact Or.inl ⟨rfl, rfl⟩
  · injection h1 with e1 e2 e3
    subst e1 e3
    refine Or.inr ⟨g, cu, cur, rfl, h2, h3, by omega, h5, h6, ?_⟩
    have e : acc.flatMap pc = (acc.take k).flatMap pc ++ (acc.drop k).flatMap pc := by rw [← List.flatMap_append, List.take_append_drop]
    have hl : ((acc.take k).flatMap pc).length = k * 2 := by rw [Ss.flat_len pc_len, List.length_take]; congr 1; omega
    have h8 : (cur.toList.take (n * 2)).take (k * 2) = (acc.take k).flatMap pc := by
      rw [h7, e, List.take_append_of_le_length (by omega), List.take_of_length_le (by omega)]
    rw [List.take_take, show min (k * 2) (n * 2) = k * 2 by omega] at h8
    exact h8
/-- the cells from element k on -/
theorem own_from {g cap : Nat} (h : w.ownsRow B e 2 (.slice (some ⟨g, 0, none⟩) n cap) n (acc.flatMap pc)) (hk : k ≤ acc.length) : ∀ j u, ((acc.drop k).flatMap pc)[j]? = some u → w.cell? ((⟨g, k * 2, none⟩ : Addr).add j) = some u := by
  intro j u hu
  have e : acc.flatMap pc = (acc.take k).flatMap pc ++ (acc.drop k).flatMap pc := by rw [← List.flatMap_append, List.take_append_drop]
  have hl : ((acc.take k).flatMap pc).length = k * 2 := by rw [Ss.flat_len pc_len, List.length_take]; congr 1; omega
  have h1 : (acc.flatMap pc)[k * 2 + j]? = some u := by
    rw [e, List.getElem?_append_right (by omega), hl, show k * 2 + j - k * 2 = j by omega]
    exact hu
  have h2 := h.cells (g := g) rfl (k * 2 + j) u h1
  rw [Addr.add_lit] at h2 ⊢
  simpa using h2
theorem ones2 (zs : List P2) : ∀ u ∈ zs.flatMap pc, u.oneCell' = true := by
  intro u hu
  obtain ⟨c, _, hc⟩ := List.mem_flatMap.1 hu
  unfold pc at hc
  simp at hc
  rcases hc with rfl | rfl <;> rfl
end

section
variable {P : Program} (w : World) {ops : Array Oper} {o : Oper} {a : Act} {K : Act → World → Prop} {Q : Exit → Act → World → Prop} {E : Prop}
/-- an append of nothing to a row, in a region that draws its order -/
theorem step_append_zero (hgd : o.guard = none) (s x : Operand) (t : TypeId) (ho : o.op = .call { callee := .builtin .append, args := #[s, x], argTypes := #[t, t] })
    (base : Nat) (e : TypeId) (i : TypeInfo) (size : Nat) (ht : P.underlying t = some (.slice e)) (hi : P.info? e = some i) (hsize : i.size = size)
    (g n cap : Nat) (xs : List Value) (hs : a.eval s = .slice (some ⟨g, 0, none⟩) n cap) (hown : w.ownsRow base e size (.slice (some ⟨g, 0, none⟩) n cap) n xs) (ao : Option Addr) (c : Nat) (hx : a.eval x = .slice ao 0 c) (hnone : ao = none → c = 0)
    (h : ∀ w', w'.ownsRow base e size (.slice (some ⟨g, 0, none⟩) n cap) n xs → w.grownBy w' (some g) → K (a.put o.dst (.slice (some ⟨g, 0, none⟩) n cap)) w') :
    if Region.wanted o (yielded ops a.tmps) = true then Oper.wp P o a w K Q else E := by
  have hw : Region.wanted o (yielded ops a.tmps) = true := by simp [Region.wanted, hgd]
  rw [if_pos hw]
  have hrun : ∃ w', (Builtin.append_ #[t, t] o.type #[.slice (some ⟨g, 0, none⟩) n cap, .slice ao 0 c]).run P w = .ok (.slice (some ⟨g, 0, none⟩) n cap) w' ∧ w'.ownsRow base e size (.slice (some ⟨g, 0, none⟩) n cap) n xs ∧ w.grownBy w' (some g) := by
    have hcap : n ≤ cap := by
      rcases hown.2 with ⟨h1, _⟩ | ⟨g', cap', cur, h1, _, _, h4, _⟩
      · simp at h1
      · injection h1 with _ _ h3; omega
    cases ao with
    | none =>
      have hc := hnone rfl
      subst hc
      exact ⟨w, run_append_owned_none (P := P) w base t o.type e i size ht hi _ n xs hown, hown, World.grownBy.refl _ _⟩
    | some ad =>
      obtain ⟨w', h1, h2, h3⟩ := run_append_fits (P := P) w base t o.type e i size ht hi hsize g n cap xs hown ad 0 c [] (by simp) (fun j u hu => by simp at hu) (fun u hu => by simp at hu) (by omega)
      exact ⟨w', by simpa using h1, by simpa using h2, h3⟩
  obtain ⟨w', hr, h2, h3⟩ := hrun
  unfold Oper.wp execOp
  simp only [ho, resolve, invoke, builtin, Sem.run_bind, Sem.run_pure, Result.andThen_ok, List.map_toArray, List.map_cons, List.map_nil, hs, hx, hr]
  exact h w' h2 h3
end

end Go.Proofs.YtlolomodcbkblaaGreatDoor.Fp
