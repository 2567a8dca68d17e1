/- Great structs: a whole block written or read at once, the world behind it under a name. -/
import Derived.Test.YtlolomodcbkblaaGreatDoorMg5
import Derived.Test.YtlolomodcbkblaaGreatDoorMg1
import Derived.Deep.MidRow
import Derived.Laws.ResultCell
set_option linter.unusedVariables false
set_option linter.unusedSimpArgs false
namespace Go.Proofs.YtlolomodcbkblaaGreatDoor.Big
open Go.RowKit Go.Maps Go.WideMaps Go.ChangeShapes Go.WideShapes Go.Deep Obs

def putC (cs : Array Value) (j : Nat) : List Value → Array Value
  | [] => cs
  | u :: us => putC (cs.setIfInBounds j u) (j + 1) us
theorem putC_get : ∀ (us : List Value) (cs : Array Value) (j i : Nat), j + us.length ≤ cs.size → (putC cs j us)[i]? = if j ≤ i ∧ i < j + us.length then us[i - j]? else cs[i]?
  | [], cs, j, i, _ => by rw [if_neg (by simp only [List.length_nil]; omega)]; rfl
  | u :: us, cs, j, i, h => by
    rw [List.length_cons] at h
    show (putC (cs.setIfInBounds j u) (j + 1) us)[i]? = _
    rw [putC_get us _ (j + 1) i (by rw [Array.size_setIfInBounds]; omega), List.length_cons]
    by_cases h1 : j + 1 ≤ i ∧ i < j + 1 + us.length
    · rw [if_pos h1, if_pos (by omega), show i - j = (i - (j + 1)) + 1 by omega, List.getElem?_cons_succ]
    · rw [if_neg h1]
      by_cases h2 : i = j
      · subst h2
        rw [if_pos (by omega), Nat.sub_self, List.getElem?_cons_zero, Array.getElem?_setIfInBounds_self_of_lt (by omega)]
      · rw [if_neg (by omega), Array.getElem?_setIfInBounds_ne (by omega)]
theorem putC_all (us : List Value) (cs : Array Value) (h : us.length = cs.size) : putC cs 0 us = us.toArray := by
  apply Array.ext_getElem?
  intro i
  rw [putC_get us cs 0 i (by omega)]
  by_cases h1 : i < us.length
  · rw [if_pos ⟨Nat.zero_le _, by omega⟩, Nat.sub_zero, List.getElem?_toArray]
  · rw [if_neg (by omega), Array.getElem?_eq_none (by omega), Array.getElem?_eq_none (by simp; omega)]
theorem whole_sets {b : Nat} {T : TypeId} : ∀ (us : List Value) (j : Nat) (W : World) (cs : Array Value), Whole W b T cs → Whole (W.setCells b j us) b T (putC cs j us)
  | [], _, _, _, h => h
  | u :: us, j, W, cs, h => whole_sets us (j + 1) _ _ (h.put j u)
theorem grown_sets {b : Nat} : ∀ (us : List Value) (j : Nat) (W : World), W.grownBy (W.setCells b j us) (some b) ∧ (W.setCells b j us).heap.size = W.heap.size
  | [], _, W => ⟨⟨rfl, rfl, rfl, Nat.le_refl _, fun _ _ _ => rfl⟩, rfl⟩
  | u :: us, j, W => by
    obtain ⟨h1, h2⟩ := grown_sets us (j + 1) (W.setCell ⟨b, j, none⟩ u)
    have h3 := put_grown W b j u
    have h4 : (W.setCell ⟨b, j, none⟩ u).heap.size = W.heap.size := by simp [World.setCell]
    exact ⟨⟨h1.os.trans h3.os, h1.tape.trans h3.tape, h1.output.trans h3.output, Nat.le_trans h3.size h1.size, fun k hk hne => (h1.block k (by omega) hne).trans (h3.block k hk hne)⟩, h2.trans h4⟩
theorem whole_there {W : World} {b : Nat} {T : TypeId} {cs : Array Value} (h : Whole W b T cs) : W.there b 0 cs.size := fun j hj => ⟨by rw [Nat.zero_add, h.cell j]; simp [hj], h.free _⟩
theorem whole_range {W : World} {b : Nat} {T : TypeId} {cs : Array Value} (h : Whole W b T cs) : W.rangeAt b 0 cs.toList := fun j v hv => by
  rw [Nat.zero_add, h.cell j, ← hv, Array.getElem?_toList]
section
variable {P : Program} {ops : Array Oper} {rest : List Oper} {op : Oper} {a : Act} {w : World} {K : Act → World → Prop} {Q : Exit → Act → World → Prop}
theorem wp_store_whole (ty : TypeId) (x y : Operand) (ho : op.op = .store ty x y) (b : Nat) (T : TypeId) (cs us : Array Value) (hx : a.eval x = .pointer (some ⟨b, 0, none⟩)) (hy : a.eval y = .agg us) (hw : Whole w b T cs)
    (hs : us.size = cs.size) (hi : (P.info? ty).map (·.size) = some us.size) (h1 : us.all (·.oneCell') = true)
    (h : ∀ Wf, Whole Wf b T us → w.grownBy Wf (some b) → Wf.heap.size = w.heap.size → K (a.put op.dst undef) Wf) : op.wp P a w K Q :=
  wp_store_mid ty x y ho b 0 us hx hy (by rw [hs]; exact whole_there hw) hi h1 (by
    have e := whole_sets us.toList 0 w cs hw
    rw [putC_all _ _ (by rw [Array.length_toList]; exact hs)] at e
    obtain ⟨g1, g2⟩ := grown_sets (b := b) us.toList 0 w
    exact h _ e g1 g2)
theorem wpList_store_whole (hgd : op.guard = none) (ty : TypeId) (x y : Operand) (ho : op.op = .store ty x y) (b : Nat) (T : TypeId) (cs us : Array Value) (hx : a.eval x = .pointer (some ⟨b, 0, none⟩)) (hy : a.eval y = .agg us) (hw : Whole w b T cs)
    (hs : us.size = cs.size) (hi : (P.info? ty).map (·.size) = some us.size) (h1 : us.all (·.oneCell') = true)
    (h : ∀ Wf, Whole Wf b T us → w.grownBy Wf (some b) → Wf.heap.size = w.heap.size → wpList P ops Q rest (a.put op.dst undef) Wf) : wpList P ops Q (op :: rest) a w :=
  wpList_plain hgd fun _ hK => wp_store_whole ty x y ho b T cs us hx hy hw hs hi h1 fun Wf e1 e2 e3 => hK _ _ (h Wf e1 e2 e3)
theorem wpList_load_whole (hgd : op.guard = none) (ty : TypeId) (x : Operand) (ho : op.op = .load ty x) (b : Nat) (T : TypeId) (cs : Array Value) (hx : a.eval x = .pointer (some ⟨b, 0, none⟩)) (hw : Whole w b T cs) (d : TypeDesc)
    (hu : P.underlying ty = some d) (hd : d.isRow = true) (hi : (P.info? ty).map (·.size) = some cs.size)
    (h : wpList P ops Q rest (a.put op.dst (.agg cs)) w) : wpList P ops Q (op :: rest) a w :=
  wpList_load_mid hgd ty x ho b 0 hx cs.toList d (whole_range hw) hu hd (by rw [Array.length_toList]; exact hi) h
/-- a result that lies in a block known whole -/
theorem loaded_whole (ty : TypeId) (b : Nat) (T : TypeId) (cs : Array Value) (hw : Whole w b T cs) (d : TypeDesc) (hu : P.underlying ty = some d) (hd : d.isRow = true) (hi : (P.info? ty).map (·.size) = some cs.size) : (loadVar ty ⟨b, 0, none⟩).run P w = .ok (.agg cs) w :=
  run_loadVar_mid w b 0 ty cs.toList d (whole_range hw) hu hd (by rw [Array.length_toList]; exact hi)
end
end Go.Proofs.YtlolomodcbkblaaGreatDoor.Big
