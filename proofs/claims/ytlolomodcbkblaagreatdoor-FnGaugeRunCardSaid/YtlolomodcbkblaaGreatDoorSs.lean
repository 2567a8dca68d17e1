/- Slices whose elements take k cells, read as lists: an argument's, an owned row's; kept where memory below is kept. -/
import Derived.Test.YtlolomodcbkblaaGreatDoorSl
import Derived.Deep.Fields
import Derived.ChangeSame
set_option linter.unusedVariables false
set_option linter.unusedSimpArgs false
namespace Go.Proofs.YtlolomodcbkblaaGreatDoor.Ss
open Go.RowKit Go.ChangeShapes Go.WideShapes Go.Deep

/-- the slice value v holds the elements zs, each the k cells 'c z' -/
def Of {α : Type} (k : Nat) (c : α → List Value) (w : World) (v : Value) (zs : List α) : Prop :=
  (zs = [] ∧ ∃ a cap, v = .slice a 0 cap ∧ cap ≤ 9223372036854775807) ∨
  (∃ b off cap, v = .slice (some ⟨b, off, none⟩) zs.length cap ∧ 0 < zs.length ∧ zs.length ≤ cap ∧ cap ≤ 9223372036854775807 ∧ b < w.heap.size ∧ ∀ i (h : i < zs.length) j u, (c zs[i])[j]? = some u → w.cell? ⟨b, off + (i * k + j), none⟩ = some u)

section
variable {α : Type} {k : Nat} {c : α → List Value}
theorem Of.below {w w' : World} {v : Value} {zs : List α} (h : Of k c w v zs) (hb : Below w.heap.size w w') : Of k c w' v zs := by
  rcases h with h | ⟨b, off, cap, h1, h2, h3, h4, h5, h6⟩
  · exact Or.inl h
  · exact Or.inr ⟨b, off, cap, h1, h2, h3, h4, Nat.lt_of_lt_of_le h5 hb.size, fun i h j u hu => by rw [hb.cell (p := ⟨b, off + (i * k + j), none⟩) h5]; exact h6 i h j u hu⟩
theorem Of.len {w : World} {v : Value} {zs : List α} (h : Of k c w v zs) : zs.length ≤ 9223372036854775807 := by
  rcases h with ⟨rfl, _⟩ | ⟨b, off, cap, h1, h2, h3, h4, h5, h6⟩
  · simp
  · omega
/-- a nil or empty slice -/
theorem Of.nil {w : World} : Of k c w (.slice none 0 0) ([] : List α) := Or.inl ⟨rfl, none, 0, rfl, by omega⟩
theorem Of.slice {w : World} {v : Value} {zs : List α} (h : Of k c w v zs) : ∃ a cap, v = .slice a zs.length cap ∧ zs.length ≤ cap ∧ cap ≤ 9223372036854775807 := by
  rcases h with ⟨rfl, a, cap, h, hc⟩ | ⟨b, off, cap, h1, h2, h3, h4, h5, h6⟩
  · exact ⟨a, cap, h, by simp, hc⟩
  · exact ⟨_, _, h1, h3, h4⟩

theorem flat_len (hc : ∀ z, (c z).length = k) : ∀ zs : List α, (zs.flatMap c).length = zs.length * k
  | [] => by simp
  | z :: zs => by rw [List.flatMap_cons, List.length_append, hc, flat_len hc zs, List.length_cons, Nat.succ_mul]; omega
theorem flat_get (hc : ∀ z, (c z).length = k) : ∀ (zs : List α) (i : Nat) (h : i < zs.length) (j : Nat), j < k → (zs.flatMap c)[i * k + j]? = (c zs[i])[j]?
  | [], i, h, _, _ => absurd h (by simp)
  | z :: zs, 0, _, j, hj => by
    rw [List.flatMap_cons, List.getElem?_append_left (by rw [hc]; omega)]
    simp
  | z :: zs, i + 1, h, j, hj => by
    rw [List.flatMap_cons, List.getElem?_append_right (by rw [hc, Nat.succ_mul]; omega)]
    rw [show (i + 1) * k + j - (c z).length = i * k + j by rw [hc, Nat.succ_mul]; omega]
    rw [flat_get hc zs i (by simpa using h) j hj]
    simp

/-- an owned row reads so -/
theorem Of.own (hc : ∀ z, (c z).length = k) {w : World} {B e : Nat} {v : Value} {zs : List α} (h : w.ownsRow B e k v zs.length (zs.flatMap c)) : Of k c w v zs := by
  rcases h.2 with ⟨hv, h0⟩ | ⟨g, cap, cur, hv, hB, hg, hn, hcp, hs, ht⟩
  · have : zs = [] := List.length_eq_zero_iff.1 h0
    subst this
    exact Or.inl ⟨rfl, none, 0, hv, by omega⟩
  · have hcap : cap ≤ 9223372036854775807 := by unfold maxLen at hcp; omega
    by_cases h0 : zs.length = 0
    · have : zs = [] := List.length_eq_zero_iff.1 h0
      subst this
      exact Or.inl ⟨rfl, _, cap, hv, hcap⟩
    · refine Or.inr ⟨g, 0, cap, hv, by omega, hn, hcap, ?_, ?_⟩
      · rcases Nat.lt_or_ge g w.heap.size with h' | h'
        · exact h'
        · simp [Array.getElem?_eq_none h'] at hg
      · intro i hi j u hu
        have hj : j < k := by
          have := (List.getElem?_eq_some_iff.1 hu).1
          rwa [hc] at this
        have h1 : (cur.toList.take (zs.length * k))[i * k + j]? = some u := by rw [ht, flat_get hc zs i hi j hj]; exact hu
        have hlt : i * k + j < zs.length * k := by
          have : (i + 1) * k ≤ zs.length * k := Nat.mul_le_mul_right _ hi
          rw [Nat.succ_mul] at this
          omega
        rw [List.getElem?_take, if_pos hlt] at h1
        simp only [World.cell?, hg, Nat.zero_add]
        simpa using h1
end

/-- a list of equal cells: the new cells of an append, one element -/
theorem news_one (w : World) (cs : Array Value) (T : TypeId) : ∀ j u, cs.toList[j]? = some u → (w.alloc (.cells cs T)).cell? ((⟨w.heap.size, 0, none⟩ : Addr).add j) = some u := by
  intro j u hj
  have e : (⟨w.heap.size, 0, none⟩ : Addr).add j = ⟨w.heap.size, j, none⟩ := by unfold Addr.add; split <;> simp_all
  rw [e, Sl.cell_new]
  simpa using hj

section
variable {H : Type} {enc : TypeId × Value → H} {P : Program} {w : World} {base : Nat} {spare : Nat → Bool} {held : Bool}
theorem open_slice_fields {t e : TypeId} {fs : Array Field} {fuel : Nat} {cs : List Value} {x : DataW H × List MemPlace} (ht : P.underlying t = some (.slice e)) (he : P.underlying e = some (.struct fs))
    (hone : oneCellFields P fs = true) (hC : P.cellsOf e = fs.size) (h : DataW.trod enc P w base spare held fuel t cs = some x) :
    (cs = [.slice none 0 0] ∧ x = (.nil, [])) ∨
    ∃ (a : Addr) (len cap m : Nat) (D : Nat → DataW H) (Pl : Nat → List MemPlace), cs = [.slice (some a) len cap] ∧ base ≤ a.block ∧ len ≤ cap ∧ cap ≤ maxLen ∧ m = (if spare a.block then cap else len) ∧
      x = (.slice ((List.range len).map D) ((List.range (m - len)).map fun j => D (len + j)), MemPlace.row a (m * fs.size) ++ (List.range m).flatMap Pl) ∧
      ∀ i, i < m → ∃ (ys : List (DataW H × List MemPlace)) (n : Nat), D i = .agg (ys.map (·.1)) ∧ Pl i = ys.flatMap (·.2) ∧ ys.length = fs.size ∧
        ∀ (j : Nat) (f : Field), fs[j]? = some f → ∃ (v : Value) (y : DataW H × List MemPlace), w.cell? (a.add (i * fs.size + j)) = some v ∧ ys[j]? = some y ∧ DataW.trod enc P w base spare held n f.type [v] = some y := by
  rcases open_slice ht h with h0 | ⟨a, len, cap, m, n, D, Pl, hcs, hb, hl, hm, hmm, hx, hi⟩
  · exact .inl h0
  · refine .inr ⟨a, len, cap, m, D, Pl, hcs, hb, hl, hm, hmm, by rw [hC] at hx; exact hx, fun i him => ?_⟩
    obtain ⟨cs', hc, ht'⟩ := hi i him
    rw [hC] at hc
    obtain ⟨ys, n', hn', hy, hlen, hyl, hf⟩ := DataW.trod_struct he ht'
    obtain ⟨_, hcl, hat⟩ := World.cells?_some hc
    simp only [Prod.mk.injEq] at hy
    refine ⟨ys, n', hy.1, hy.2, hyl, fun j f hj => ?_⟩
    obtain ⟨ho, hk⟩ := hone_of hone j f hj
    have hjl : j < fs.size := (Array.getElem?_eq_some_iff.1 hj).1
    have hcell := hat j hjl
    have hv : cs'[j]? = some (cs'[j]'(by omega)) := List.getElem?_eq_getElem (by omega)
    have h1 := hf j f hj
    rw [ho, hk] at h1
    have hone' : (cs'.drop j).take 1 = [cs'[j]'(by omega)] := by
      rw [List.drop_eq_getElem_cons (by omega)]
      rfl
    rw [hone'] at h1
    have hys : ys[j]? = some (ys[j]'(by omega)) := List.getElem?_eq_getElem (by omega)
    refine ⟨_, _, ?_, hys, h1.trans hys⟩
    rw [← Go.Deep.add_add, hcell, hv]
end

section
variable {H : Type} {enc : TypeId × Value → H} {w : World} {base : Nat} {held : Bool}
/-- AN ARGUMENT THAT IS A SLICE of structs: 'read' tells what the cells of one element are, from the fields' own readings -/
theorem open_of {α : Type} [Inhabited α] (k : Nat) (c : α → List Value) (hk : ∀ z, (c z).length = k) (good : α → Prop) {P : Program} {t e : TypeId} {fs : Array Field} (ht : P.underlying t = some (.slice e)) (he : P.underlying e = some (.struct fs))
    (hone : oneCellFields P fs = true) (hC : P.cellsOf e = fs.size) (hfs : fs.size = k) (hk1 : 0 < k)
    (read : ∀ (n : Nat) (V : Nat → Value), (∀ j f, fs[j]? = some f → ∃ y, DataW.trod enc P w base (fun _ => true) held n f.type [V j] = some y) → ∃ z, (∀ j u, (c z)[j]? = some u → V j = u) ∧ good z) {r : Reach} {b0 : Nat} {v : Value} {d : DataW H} {p : List MemPlace}
    (hv : Value.okWide P w r b0 t v) (h : DataW.Trod enc P w base (fun _ => true) held t v d p) : ∃ zs : List α, Of k c w v zs ∧ ∀ z ∈ zs, good z := by
  subst hfs
  obtain ⟨a, len, cap, rfl⟩ := okWide_slice ht hv
  obtain ⟨fuel, hf⟩ := h
  rcases open_slice_fields ht he hone hC hf with ⟨hcs, _⟩ | ⟨a', len', m', m, D, Pl, hcs, hb, hl, hm, hmm, hx, hcell⟩
  · simp [Value.cells] at hcs
    obtain ⟨rfl, rfl, rfl⟩ := hcs
    exact ⟨[], Or.inl ⟨rfl, none, 0, rfl, by omega⟩, by simp⟩
  · simp [Value.cells] at hcs
    obtain ⟨rfl, rfl, rfl⟩ := hcs
    simp only [if_true] at hmm
    subst hmm
    have hcap : m ≤ 9223372036854775807 := by unfold maxLen at hm; omega
    by_cases h0 : len = 0
    · subst h0
      exact ⟨[], Or.inl ⟨rfl, _, m, rfl, hcap⟩, by simp⟩
    · have hfl : ∀ i, i < m → ∃ z : α, (∀ j u, (c z)[j]? = some u → w.cell? (a'.add (i * fs.size + j)) = some u) ∧ good z := by
        intro i hi
        obtain ⟨ys, n, _, _, _, hh⟩ := hcell i hi
        have hV : ∀ j, ∃ V : Value, ∀ f, fs[j]? = some f → w.cell? (a'.add (i * fs.size + j)) = some V ∧ ∃ y, DataW.trod enc P w base (fun _ => true) held n f.type [V] = some y := by
          intro j
          cases e : fs[j]? with
          | none => exact ⟨undef, fun f h => by cases h⟩
          | some f =>
            obtain ⟨V, y, h1, _, h3⟩ := hh j f e
            exact ⟨V, fun f' h => by cases h; exact ⟨h1, y, h3⟩⟩
        obtain ⟨V, hV⟩ := Classical.skolem.1 hV
        obtain ⟨z, hz, hg⟩ := read n V (fun j f hj => (hV j f hj).2)
        refine ⟨z, fun j u hu => ?_, hg⟩
        have hj : j < fs.size := by
          have := (List.getElem?_eq_some_iff.1 hu).1
          rwa [hk] at this
        have := (hV j fs[j] (Array.getElem?_eq_getElem hj)).1
        rw [hz j u hu] at this
        exact this
      obtain ⟨f, hF⟩ := choose_lt (p := fun i z => (∀ j u, (c z)[j]? = some u → w.cell? (a'.add (i * fs.size + j)) = some u) ∧ good z) hfl
      obtain ⟨u0, hu0⟩ : ∃ u, (c (f 0))[0]? = some u := ⟨_, List.getElem?_eq_getElem (by rw [hk]; omega)⟩
      have h1 := (hF 0 (by omega)).1 0 u0 hu0
      have hspot : a'.spot = none := by
        have := World.cell?_spot h1
        simpa [Addr.add] using this
      obtain ⟨b, off, spot⟩ := a'
      simp only at hspot
      subst hspot
      refine ⟨(List.range len).map f, Or.inr ⟨b, off, m, by simp, by simp; omega, by simp; omega, hcap, ?_, ?_⟩, ?_⟩
      · rcases Nat.lt_or_ge b w.heap.size with h' | h'
        · exact h'
        · simp [World.cell?, Addr.add, Array.getElem?_eq_none h'] at h1
      · intro i hi j u hu
        have hi' : i < len := by simpa using hi
        have hu' : (c (f i))[j]? = some u := by simpa using hu
        have := (hF i (by omega)).1 j u hu'
        by_cases hi0 : i * fs.size + j = 0
        · rw [hi0]; rw [hi0] at this; simpa [Addr.add] using this
        · unfold Addr.add at this; rw [if_neg hi0] at this; simpa using this
      · intro z hz
        obtain ⟨i, hi, rfl⟩ := List.mem_map.1 hz
        exact (hF i (by have := List.mem_range.1 hi; omega)).2
end

end Go.Proofs.YtlolomodcbkblaaGreatDoor.Ss
