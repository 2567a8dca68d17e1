/- Descriptors: the label pairs sorted by sort.Sort. -/
import Derived.Test.YtlolomodcbkblaaGreatDoorNdn
import Derived.RegionTactic
import Derived.Shelf.GgSortMore.SortSort
set_option linter.unusedVariables false
set_option linter.unusedSimpArgs false
namespace Go.Proofs.YtlolomodcbkblaaGreatDoor.Nd
open Go.RowKit Go.Maps Go.WideMaps Go.ChangeShapes Go.WideShapes Go.Deep Fp Obs
open Go.Sort (Holds putRow putCells mapBlock onCells PermIn SortedIn SWO grow heap_grow_old)
open Go.Shelf

/-- two strictly rising lists with the same pairs are one -/
theorem srt_eq : ∀ {A B : List P2}, Srt A → Srt B → (∀ q, q ∈ A ↔ q ∈ B) → A = B
  | [], [], _, _, _ => rfl
  | [], b :: B, _, _, h => absurd ((h b).2 (by simp)) (by simp)
  | a :: A, [], _, _, h => absurd ((h a).1 (by simp)) (by simp)
  | a :: A, b :: B, hA, hB, h => by
    rw [Srt, List.pairwise_cons] at hA hB
    have e : a = b := by
      rcases List.mem_cons.1 ((h a).1 (by simp)) with h1 | h1
      · exact h1
      · rcases List.mem_cons.1 ((h b).2 (by simp)) with h2 | h2
        · exact h2.symm
        · have := bl_trans (hB.1 a h1) (hA.1 b h2)
          rw [bl_irr] at this
          cases this
    subst e
    congr 1
    refine srt_eq hA.2 hB.2 fun q => ?_
    constructor
    · intro hq
      rcases List.mem_cons.1 ((h q).1 (List.mem_cons_of_mem _ hq)) with h1 | h1
      · subst h1
        have := hA.1 q hq
        rw [bl_irr] at this
        cases this
      · exact h1
    · intro hq
      rcases List.mem_cons.1 ((h q).2 (List.mem_cons_of_mem _ hq)) with h1 | h1
      · subst h1
        have := hB.1 q hq
        rw [bl_irr] at this
        cases this
      · exact h1

section
variable {α : Type} [Inhabited α] {enc : α → Value}
theorem holds_row {w : World} {g : Nat} {cur : Array Value} {e : TypeId} {ss : List α} (hb : w.heap[g]? = some (.cells cur e (0, 0))) (ht : cur.toList.take ss.length = ss.map enc) : Holds enc w g 0 ss.toArray := by
  intro j hj
  have hj' : j < ss.length := by simpa using hj
  refine ⟨?_, by simp [World.frozen?, hb]⟩
  have h1 : (cur.toList.take ss.length)[j]? = (ss.map enc)[j]? := by rw [ht]
  rw [List.getElem?_take_of_lt hj'] at h1
  simp only [World.cell?, hb, Nat.zero_add]
  simp only [Option.isSome_none, Bool.false_eq_true, if_false]
  rw [← Array.getElem?_toList, h1]
  simp [hj']
theorem heap_row {w : World} {g n : Nat} {os : Array Obj} {cur : Array Value} {e : TypeId} {fr : Nat × Nat} (d : Array α) (hb : w.heap[g]? = some (.cells cur e fr)) :
    (grow (putRow enc (Sort.ahead w n) g 0 d) os).heap[g]? = some (.cells (putCells enc 0 d cur) e fr) := by
  have hg : g < w.heap.size := (Array.getElem?_eq_some_iff.1 hb).1
  rw [heap_grow_old _ _ (by simpa using hg)]
  simp [putRow, mapBlock, Sort.ahead, Array.getElem?_modify, hb, onCells]
theorem grown_row {w : World} {g n : Nat} {os : Array Obj} (d : Array α) : w.grownBy (grow (putRow enc (Sort.ahead w n) g 0 d) os) (some g) := by
  refine ⟨rfl, rfl, rfl, by simp, fun k hk hne => ?_⟩
  rw [heap_grow_old _ _ (by simpa using hk)]
  have : g ≠ k := fun e => hne (by rw [e])
  simp [putRow, mapBlock, Sort.ahead, Array.getElem?_modify, this]
theorem take_row (cur : Array Value) (ts : List α) (h : ts.length ≤ cur.size) : (putCells enc 0 ts.toArray cur).toList.take ts.length = ts.map enc := by
  apply List.ext_getElem?
  intro j
  by_cases hj : j < ts.length
  · rw [List.getElem?_take_of_lt hj, Array.getElem?_toList]
    simp [putCells, hj, show j < cur.size by omega]
  · rw [List.getElem?_take_eq_none (by omega), List.getElem?_eq_none (by simp; omega)]
theorem owns_row {w : World} {base g cap n : Nat} {e : TypeId} {os : Array Obj} {cur : Array Value} {ss ts : List α} (hl : ts.length = ss.length) (hbase : base ≤ g) (hb : w.heap[g]? = some (.cells cur e (0, 0)))
    (h1 : ss.length ≤ cap) (h2 : cap ≤ maxLen) (h3 : cur.size = cap * 1) :
    (grow (putRow enc (Sort.ahead w n) g 0 ts.toArray) os).ownsRow base e 1 (.slice (some ⟨g, 0, none⟩) ss.length cap) ss.length (ts.map enc) :=
  ⟨by simp [hl], .inr ⟨g, cap, _, rfl, hbase, heap_row _ hb, h1, h2, by simp [putCells, h3], by rw [Nat.mul_one, ← hl]; exact take_row cur ts (by omega)⟩⟩
end

set_option maxHeartbeats 2000000 in
set_option maxRecDepth 100000 in
theorem getName_any (q a : Nat) (s : ByteArray) (w : World) (h1 : w.cell? ⟨q, 0, none⟩ = some (.pointer (some ⟨a, 0, none⟩))) (h2 : w.cell? ⟨a, 0, none⟩ = some (.string s)) :
    Calls Tryz.prog 146 #[.pointer (some ⟨q, 0, none⟩)] w fun e w' => e = .returned (.string s) ∧ w' = w := by
  go_enter Tryz.func146, Tryz.ntmps146
  go_wp2_with fail
  go_ret
  exact ⟨rfl, rfl⟩
set_option maxHeartbeats 2000000 in
set_option maxRecDepth 100000 in
theorem getValue_any (q a : Nat) (s : ByteArray) (w : World) (h1 : w.cell? ⟨q, 1, none⟩ = some (.pointer (some ⟨a, 0, none⟩))) (h2 : w.cell? ⟨a, 0, none⟩ = some (.string s)) :
    Calls Tryz.prog 147 #[.pointer (some ⟨q, 0, none⟩)] w fun e w' => e = .returned (.string s) ∧ w' = w := by
  go_enter Tryz.func147, Tryz.ntmps147
  go_wp2_with fail
  go_ret
  exact ⟨rfl, rfl⟩

theorem len_reached (p : Option Addr) (n c : Nat) : Reaches Tryz.prog 306 (.slice p n c) "Len" 276 := ⟨fun _ => by kernel_rfl, enters_of Tryz.func276 (by kernel_rfl) rfl⟩
theorem less_reached (p : Option Addr) (n c : Nat) : Reaches Tryz.prog 306 (.slice p n c) "Less" 277 := ⟨fun _ => by kernel_rfl, enters_of Tryz.func277 (by kernel_rfl) rfl⟩
theorem swap_reached (p : Option Addr) (n c : Nat) : Reaches Tryz.prog 306 (.slice p n c) "Swap" 278 := ⟨fun _ => by kernel_rfl, enters_of Tryz.func278 (by kernel_rfl) rfl⟩
theorem pair_Len (p : Option Addr) (n c : Nat) (W : World) : LenM Tryz.prog 276 (.slice p n c) n W := by
  unfold LenM
  go_enter Tryz.func276, Tryz.ntmps276
  go_wp2
  go_ret
  exact ⟨rfl, 0, rfl⟩
set_option maxHeartbeats 4000000 in
set_option maxRecDepth 100000 in
theorem pair_Less (blk c size : Nat) (W : World) (i j : Nat) (hi : i < size) (hj : j < size) (hsz : size < 4611686018427387904) (q1 a1 q2 a2 : Nat) (s1 s2 : ByteArray)
    (ci : W.cell? ⟨blk, 0 + i, none⟩ = some (.pointer (some ⟨q1, 0, none⟩))) (cj : W.cell? ⟨blk, 0 + j, none⟩ = some (.pointer (some ⟨q2, 0, none⟩)))
    (h1 : W.cell? ⟨q1, 0, none⟩ = some (.pointer (some ⟨a1, 0, none⟩))) (h2 : W.cell? ⟨a1, 0, none⟩ = some (.string s1)) (h3 : W.cell? ⟨q2, 0, none⟩ = some (.pointer (some ⟨a2, 0, none⟩))) (h4 : W.cell? ⟨a2, 0, none⟩ = some (.string s2)) :
    Calls Tryz.prog 277 #[.slice (some ⟨blk, 0, none⟩) size c, .int .i64 i, .int .i64 j] W fun e w' => e = .returned (.bool (bl s1 s2)) ∧ ∃ q, w' = W.drewN q := by
  rw [Nat.zero_add] at ci cj
  have z1 : (0 : Int) ≤ (i : Int) := by omega
  have z2 : (i : Int) < (size : Int) := by omega
  have z3 : (0 : Int) ≤ (j : Int) := by omega
  have z4 : (j : Int) < (size : Int) := by omega
  go_enter Tryz.func277, Tryz.ntmps277
  go_wp2_with fail
  go_quiet ((go_at_call 146; exact Calls.quiet_of_same (getName_any _ _ _ _ (by first | exact h1 | exact h3) (by first | exact h2 | exact h4))))
  go_wp2_with fail
  go_ret
  exact ⟨rfl, nq, rfl⟩
set_option maxHeartbeats 4000000 in
set_option maxRecDepth 100000 in
theorem pair_Swap (blk c size : Nat) (W : World) (qx qy : Addr) (i j : Nat) (hi : i < size) (hj : j < size) (hsz : size < 4611686018427387904)
    (ci : W.cell? ⟨blk, 0 + i, none⟩ = some (.pointer (some qx))) (cj : W.cell? ⟨blk, 0 + j, none⟩ = some (.pointer (some qy))) (fi : W.frozen? ⟨blk, 0 + i, none⟩ = false) (fj : W.frozen? ⟨blk, 0 + j, none⟩ = false) :
    Calls Tryz.prog 278 #[.slice (some ⟨blk, 0, none⟩) size c, .int .i64 i, .int .i64 j] W fun e w' => e = .returned (.tuple #[]) ∧ ∃ q, w' = ((W.setCell ⟨blk, 0 + i, none⟩ (.pointer (some qy))).setCell ⟨blk, 0 + j, none⟩ (.pointer (some qx))).drewN q := by
  rw [Nat.zero_add] at ci cj fi fj
  rw [Nat.zero_add, Nat.zero_add]
  obtain ⟨v', hy'⟩ := cell?_setCell_some (w := W) (p := ⟨blk, i, none⟩) (x := .pointer (some qy)) (q := ⟨blk, j, none⟩) cj
  go_enter Tryz.func278, Tryz.ntmps278
  go_wp2
  go_region
  all_goals (try go_wp2)
  all_goals go_end0
  all_goals exact ⟨rfl, 1, rfl⟩

end Go.Proofs.YtlolomodcbkblaaGreatDoor.Nd
