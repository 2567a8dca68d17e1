/- Slices whose elements take one cell, read as lists: an argument's, an owned row's; kept where memory below is kept. -/
import Derived.Test.YtlolomodcbkblaaGreatDoorProg
import Derived.WalkKit
import Derived.Below
import Derived.Deep.Slices
import Derived.Laws.AppendOwn
import Derived.Laws.Cover2
import Derived.WideShapes
set_option linter.unusedVariables false
set_option linter.unusedSimpArgs false
namespace Go.Proofs.YtlolomodcbkblaaGreatDoor.Sl
open Go.RowKit Go.ChangeShapes Go.WideShapes Go.Deep

/-- the slice value v holds the elements zs, each one cell 'c z' -/
def Of {α : Type} (c : α → Value) (w : World) (v : Value) (zs : List α) : Prop :=
  (zs = [] ∧ ∃ a cap, v = .slice a 0 cap ∧ cap ≤ 9223372036854775807) ∨
  (∃ b off cap, v = .slice (some ⟨b, off, none⟩) zs.length cap ∧ 0 < zs.length ∧ zs.length ≤ cap ∧ cap ≤ 9223372036854775807 ∧ b < w.heap.size ∧ ∀ i (h : i < zs.length), w.cell? ⟨b, off + i, none⟩ = some (c zs[i]))

theorem Of.below {α : Type} {c : α → Value} {w w' : World} {v : Value} {zs : List α} (h : Of c w v zs) (hb : Below w.heap.size w w') : Of c w' v zs := by
  rcases h with h | ⟨b, off, cap, h1, h2, h3, h4, h5, h6⟩
  · exact Or.inl h
  · exact Or.inr ⟨b, off, cap, h1, h2, h3, h4, Nat.lt_of_lt_of_le h5 hb.size, fun i h => by rw [hb.cell (p := ⟨b, off + i, none⟩) h5]; exact h6 i h⟩

theorem Of.belowAt {α : Type} {c : α → Value} {w w' : World} {v : Value} {zs : List α} {B : Nat} (h : Of c w v zs) (hb : Below B w w') (hB : ∀ b off cap, v = .slice (some ⟨b, off, none⟩) zs.length cap → b < B) : Of c w' v zs := by
  rcases h with h | ⟨b, off, cap, h1, h2, h3, h4, h5, h6⟩
  · exact Or.inl h
  · exact Or.inr ⟨b, off, cap, h1, h2, h3, h4, Nat.lt_of_lt_of_le h5 hb.size, fun i h => by rw [hb.cell (p := ⟨b, off + i, none⟩) (hB b off cap h1)]; exact h6 i h⟩

theorem Of.len {α : Type} {c : α → Value} {w : World} {v : Value} {zs : List α} (h : Of c w v zs) : zs.length ≤ 9223372036854775807 := by
  rcases h with ⟨rfl, _⟩ | ⟨b, off, cap, h1, h2, h3, h4, h5, h6⟩
  · simp
  · omega

/-- an owned row reads so -/
theorem Of.own {α : Type} {c : α → Value} {w : World} {B e : Nat} {v : Value} {zs : List α} (h : w.ownsRow B e 1 v zs.length (zs.map c)) : Of c w v zs := by
  rcases h.2 with ⟨hv, h0⟩ | ⟨g, cap, cur, hv, hB, hg, hn, hc, hs, ht⟩
  · have : zs = [] := List.length_eq_zero_iff.1 h0
    subst this
    exact Or.inl ⟨rfl, none, 0, hv, by omega⟩
  · have hcap : cap ≤ 9223372036854775807 := by unfold maxLen at hc; omega
    by_cases h0 : zs.length = 0
    · have : zs = [] := List.length_eq_zero_iff.1 h0
      subst this
      exact Or.inl ⟨rfl, _, cap, hv, hcap⟩
    · refine Or.inr ⟨g, 0, cap, hv, by omega, hn, hcap, ?_, ?_⟩
      · rcases Nat.lt_or_ge g w.heap.size with h' | h'
        · exact h'
        · simp [Array.getElem?_eq_none h'] at hg
      · intro i hi
        rw [Nat.mul_one] at ht
        have h1 : (cur.toList.take zs.length)[i]? = some (c zs[i]) := by rw [ht]; simp [hi]
        rw [List.getElem?_take, if_pos hi] at h1
        simp only [World.cell?, hg, Nat.zero_add]
        simpa using h1

theorem cell_new (w : World) (cs : Array Value) (T : TypeId) (j : Nat) : (w.alloc (.cells cs T)).cell? ⟨w.heap.size, j, none⟩ = cs[j]? := by
  have h : (w.alloc (.cells cs T)).heap[w.heap.size]? = some (.cells cs T (0, 0)) := heap_alloc_new w _
  unfold World.cell?
  simp only []
  rw [h]
  rfl
theorem frozen_new (w : World) (cs : Array Value) (T : TypeId) (j : Nat) : (w.alloc (.cells cs T)).frozen? ⟨w.heap.size, j, none⟩ = false := by
  have h : (w.alloc (.cells cs T)).heap[w.heap.size]? = some (.cells cs T (0, 0)) := heap_alloc_new w _
  unfold World.frozen?
  simp only []
  rw [h]
  simp
theorem frozen_old (w : World) (o : Obj) (b j : Nat) (h : b < w.heap.size) : (w.alloc o).frozen? ⟨b, j, none⟩ = w.frozen? ⟨b, j, none⟩ :=
  World.frozen?_of_block (w := w) (Below.heap_alloc w o b h)
theorem cell_old (w : World) (o : Obj) (b j : Nat) (h : b < w.heap.size) : (w.alloc o).cell? ⟨b, j, none⟩ = w.cell? ⟨b, j, none⟩ :=
  World.cell?_of_block (w := w) (Below.heap_alloc w o b h)

section
variable {H : Type} {enc : TypeId × Value → H} {w : World} {base : Nat} {spare : Nat → Bool} {held : Bool}
/-- AN ARGUMENT THAT IS A SLICE of elements that take one cell and read as 'c z', z good -/
theorem open_of {α : Type} [Inhabited α] (c : α → Value) (good : α → Prop) {P : Program} {t e : TypeId} (ht : P.underlying t = some (.slice e)) (hc : P.cellsOf e = 1)
    (helem : ∀ n v (x : DataW H × List MemPlace), DataW.trod enc P w base (fun _ => true) held n e [v] = some x → ∃ z, v = c z ∧ good z) {r : Reach} {b0 : Nat} {v : Value} {d : DataW H} {p : List MemPlace}
    (hv : Value.okWide P w r b0 t v) (h : DataW.Trod enc P w base (fun _ => true) held t v d p) : ∃ zs : List α, Of c w v zs ∧ ∀ z ∈ zs, good z := by
  obtain ⟨a, len, cap, rfl⟩ := okWide_slice ht hv
  obtain ⟨fuel, hf⟩ := h
  rcases open_slice1 ht hc hf with ⟨hcs, _⟩ | ⟨a', len', m', m, n, V, D, Pl, hcs, hb, hl, hm, hmm, hx, hcell⟩
  · simp [Value.cells] at hcs
    obtain ⟨rfl, rfl, rfl⟩ := hcs
    exact ⟨[], Or.inl ⟨rfl, none, 0, rfl, by omega⟩, by simp⟩
  · simp [Value.cells] at hcs
    obtain ⟨rfl, rfl, rfl⟩ := hcs
    simp only [if_true] at hmm
    subst hmm
    have hcap : m ≤ 9223372036854775807 := by unfold maxLen at hm; omega
    have hfl : ∀ i, i < m → ∃ z : α, V i = c z ∧ good z := fun i hi => helem n _ _ (hcell i hi).2
    by_cases h0 : len = 0
    · subst h0
      exact ⟨[], Or.inl ⟨rfl, _, m, rfl, hcap⟩, by simp⟩
    · obtain ⟨f, hF⟩ := choose_lt (p := fun i z => V i = c z ∧ good z) hfl
      have h1 := (hcell 0 (by omega)).1
      have hspot : a'.spot = none := by
        have := World.cell?_spot h1
        simpa [Addr.add] using this
      obtain ⟨b, off, spot⟩ := a'
      simp only at hspot
      subst hspot
      refine ⟨(List.range len).map f, Or.inr ⟨b, off, m, by simp, by simp; omega, by simp; omega, hcap, ?_, ?_⟩, ?_⟩
      · rcases Nat.lt_or_ge b w.heap.size with h' | h'
        · exact h'
        · simp [World.cell?, Addr.add, Array.getElem?_eq_none h'] at h1
      · intro i hi
        have hi' : i < len := by simpa using hi
        have := (hcell i (by omega)).1
        rw [(hF i (by omega)).1] at this
        by_cases hi0 : i = 0
        · subst hi0; simpa [Addr.add] using this
        · simpa [Addr.add, hi0] using this
      · intro z hz
        obtain ⟨i, hi, rfl⟩ := List.mem_map.1 hz
        exact (hF i (by have := List.mem_range.1 hi; omega)).2

theorem open_floats {P : Program} {t e : TypeId} (ht : P.underlying t = some (.slice e)) (he : P.underlying e = some (.float .f64)) (hc : P.cellsOf e = 1) {r : Reach} {b0 : Nat} {v : Value} {d : DataW H} {p : List MemPlace}
    (hv : Value.okWide P w r b0 t v) (h : DataW.Trod enc P w base (fun _ => true) held t v d p) : ∃ zs : List Nat, Of (Value.float .f64) w v zs ∧ ∀ z ∈ zs, z < 18446744073709551616 := by
  refine open_of (Value.float .f64) _ ht hc (fun n v x h2 => ?_) hv h
  cases n with
  | zero => simp [DataW.trod] at h2
  | succ n =>
    cases v <;> simp only [DataW.trod, he] at h2 <;> try (simp at h2; done)
    rename_i k z
    cases k
    · simp at h2
    · refine ⟨z, rfl, ?_⟩
      by_cases hw : (Lit.float .f64 z).wf = true
      · simpa [Lit.wf] using hw
      · simp [hw] at h2

theorem open_strings {P : Program} {t e : TypeId} (ht : P.underlying t = some (.slice e)) (he : P.underlying e = some .string) (hc : P.cellsOf e = 1) {r : Reach} {b0 : Nat} {v : Value} {d : DataW H} {p : List MemPlace}
    (hv : Value.okWide P w r b0 t v) (h : DataW.Trod enc P w base (fun _ => true) held t v d p) : ∃ zs : List ByteArray, Of Value.string w v zs ∧ ∀ z ∈ zs, z.size ≤ 9223372036854775807 := by
  refine open_of Value.string _ ht hc (fun n v x h2 => ?_) hv h
  obtain ⟨s, hs, _, hw⟩ := DataW.trod_string he h2
  simp at hs
  exact ⟨s, hs, by unfold maxLen at hw; omega⟩

theorem open_ints {P : Program} {t e : TypeId} (ht : P.underlying t = some (.slice e)) (he : P.underlying e = some (.int .i64)) (hc : P.cellsOf e = 1) {r : Reach} {b0 : Nat} {v : Value} {d : DataW H} {p : List MemPlace}
    (hv : Value.okWide P w r b0 t v) (h : DataW.Trod enc P w base (fun _ => true) held t v d p) : ∃ zs : List Int, Of (Value.int .i64) w v zs ∧ ∀ z ∈ zs, -9223372036854775808 ≤ z ∧ z ≤ 9223372036854775807 := by
  refine open_of (Value.int .i64) _ ht hc (fun n v x h2 => ?_) hv h
  obtain ⟨s, hs, _, hw⟩ := DataW.trod_int he h2
  simp at hs
  refine ⟨s, hs, ?_⟩
  have hb := hw
  simp [Lit.wf, IntKind.min, IntKind.max, IntKind.signed, IntKind.bits] at hb
  omega
end

end Go.Proofs.YtlolomodcbkblaaGreatDoor.Sl
