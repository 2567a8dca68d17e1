/- FnReBucketKeeps: the walk of the thin package's Exponential, where it does not panic. -/
import Derived.Test.YtaglcklbngoknaaRebD
import Derived.Test.YtaglcklbngoknaaTry
import Derived.Shelf.Abstract
set_option linter.unusedVariables false
set_option linter.unusedSimpArgs false
namespace Go.Proofs.Ytaglcklbngoknaa.ReBucketKeeps
open Go.RowKit Plf

/-- behind the closure: the row of powers lies in new memory, and the captured variable leads to it -/
def Filled (k b n p3 : Nat) (W w' : World) : Prop :=
  ∃ g w2, w2.ownsRow W.heap.size 23 1 (.slice (some ⟨g, 0, none⟩) n n) n ((pows b k n).map (Value.float .f64)) ∧ Below W.heap.size W w2 ∧ w' = w2.setCell ⟨p3, 0, none⟩ (.slice (some ⟨g, 0, none⟩) n n)

set_option maxHeartbeats 4000000 in
set_option maxRecDepth 100000 in
theorem closure_any (k b n p0 p1 p2 p3 : Nat) (hk : Pos k) (hb : Fac b) (hk1 : (D.order k 0 == some .lt || D.order k 0 == some .eq) = false) (hb1 : (D.order b 4607182418800017408 == some .lt || D.order b 4607182418800017408 == some .eq) = false) (h1 : 1 ≤ n) (hn : n ≤ 1000) (w : World)
    (c0 : w.cell? ⟨p0, 0, none⟩ = some (.float .f64 k)) (c1 : w.cell? ⟨p1, 0, none⟩ = some (.float .f64 b)) (c2 : w.cell? ⟨p2, 0, none⟩ = some (.int .i64 n)) (hp3 : p3 < w.heap.size) (c3 : w.cell? ⟨p3, 0, none⟩ = some (.slice none 0 0)) (f3 : w.frozen? ⟨p3, 0, none⟩ = false) :
    Calls Try.prog 32 #[.pointer (some ⟨p0, 0, none⟩), .pointer (some ⟨p1, 0, none⟩), .pointer (some ⟨p2, 0, none⟩), .pointer (some ⟨p3, 0, none⟩)] w fun e w' => e = .returned (.tuple #[]) ∧ Filled k b n p3 w w' := by
  have H := Lib.hid (pows_any k b n hk hb hk1 hb1 h1 hn w)
  clear hk hb hk1 hb1
  go_enter Try.func32, Try.ntmps32
  go_wp2_with fail
  refine H.out.mono ?_
  rintro e w2 ⟨g, rfl, hown, hbw⟩
  have c4 : w2.cell? ⟨p3, 0, none⟩ = some (.slice none 0 0) := by rw [hbw.cell (p := ⟨p3, 0, none⟩) hp3]; exact c3
  have f4 : w2.frozen? ⟨p3, 0, none⟩ = false := by rw [hbw.frozen (p := ⟨p3, 0, none⟩) hp3]; exact f3
  have HO := Lib.hid hown
  clear hown
  go_wp2
  go_end0
  exact ⟨rfl, g, w2, HO.out, hbw, rfl⟩

/-- n powers of b and true, in new memory -/
def Powers (k b n : Nat) (w : World) (e : Ending) (w' : World) : Prop :=
  ∃ v', e = .returned (.tuple #[v', .bool true]) ∧ Sl.Of (Value.float .f64) w' v' (pows b k n) ∧ Below w.heap.size w w'

set_option maxHeartbeats 4000000 in
set_option maxRecDepth 100000 in
theorem powers_any (k b n : Nat) (hk : Pos k) (hb : Fac b) (hk1 : (D.order k 0 == some .lt || D.order k 0 == some .eq) = false) (hb1 : (D.order b 4607182418800017408 == some .lt || D.order b 4607182418800017408 == some .eq) = false) (h1 : 1 ≤ n) (hn : n ≤ 1000) (w : World) :
    Calls Try.prog 16 #[.float .f64 k, .float .f64 b, .int .i64 n] w (Powers k b n w) := by
  have hmf : ∀ (fn : Fn) (first cap : Array Value) (w : World), (Instr.makeFunc fn first cap).run Try.prog w = .ok (.func fn first cap) w := fun _ _ _ _ => rfl
  have eg : ∀ args w, (callFunc 32 args).run Try.prog w = .ok (.enter 32 args) w := enters_of Try.func32 (by kernel_rfl) rfl
  have HE := Lib.hid eg
  have H := fun (p0 p1 p2 p3 : Nat) (w : World) => Lib.hid (closure_any k b n p0 p1 p2 p3 hk hb hk1 hb1 h1 hn w)
  have HH := Lib.hid H
  clear hk hb hk1 hb1 eg H
  go_enter Try.func16, Try.ntmps16
  go_wp2_with fail
  generalize hW : (((w.alloc (.cells #[.float .f64 k] 23)).alloc (.cells #[.float .f64 b] 23)).alloc (.cells #[.int .i64 n] 3)).alloc (.cells #[.slice none 0 0] 22) = W
  have hs : W.heap.size = w.heap.size + 1 + 1 + 1 + 1 := by rw [← hW]; simp
  have d0 : W.cell? ⟨w.heap.size, 0, none⟩ = some (.float .f64 k) := by
    rw [← hW, Sl.cell_old _ _ _ _ (by simp only [World.size_alloc]; omega), Sl.cell_old _ _ _ _ (by simp only [World.size_alloc]; omega), Sl.cell_old _ _ _ _ (by simp), Sl.cell_new]; rfl
  have d1 : W.cell? ⟨w.heap.size + 1, 0, none⟩ = some (.float .f64 b) := by
    have := Sl.cell_new (w.alloc (.cells #[.float .f64 k] 23)) #[.float .f64 b] 23 0
    simp only [World.size_alloc] at this
    rw [← hW, Sl.cell_old _ _ _ _ (by simp only [World.size_alloc]; omega), Sl.cell_old _ _ _ _ (by simp), this]; rfl
  have d2 : W.cell? ⟨w.heap.size + 1 + 1, 0, none⟩ = some (.int .i64 n) := by
    have := Sl.cell_new ((w.alloc (.cells #[.float .f64 k] 23)).alloc (.cells #[.float .f64 b] 23)) #[.int .i64 n] 3 0
    simp only [World.size_alloc] at this
    rw [← hW, Sl.cell_old _ _ _ _ (by simp), this]; rfl
  have d3 : W.cell? ⟨w.heap.size + 1 + 1 + 1, 0, none⟩ = some (.slice none 0 0) := by
    have := Sl.cell_new (((w.alloc (.cells #[.float .f64 k] 23)).alloc (.cells #[.float .f64 b] 23)).alloc (.cells #[.int .i64 n] 3)) #[.slice none 0 0] 22 0
    simp only [World.size_alloc] at this
    rw [← hW, this]; rfl
  have f3 : W.frozen? ⟨w.heap.size + 1 + 1 + 1, 0, none⟩ = false := by
    have := Sl.frozen_new (((w.alloc (.cells #[.float .f64 k] 23)).alloc (.cells #[.float .f64 b] 23)).alloc (.cells #[.int .i64 n] 3)) #[.slice none 0 0] 22 0
    simp only [World.size_alloc] at this
    rw [← hW, this]
  have b0 : Below w.heap.size w W := by
    rw [← hW]
    exact ((((Below.refl _ w).alloc (Nat.le_refl _) _).alloc (by simp) _).alloc (by simp only [World.size_alloc]; omega) _).alloc (by simp only [World.size_alloc]; omega) _
  clear hW
  have Hs := Lib.hid hs
  have D0 := Lib.hid d0
  have D1 := Lib.hid d1
  have D2 := Lib.hid d2
  have D3 := Lib.hid d3
  have F3 := Lib.hid f3
  clear hs d0 d1 d2 d3 f3
  have hne : ∀ j, j < 4 → w.heap.size + j < W.heap.size := by have := Hs.out; intro j hj; omega
  have old : ∀ j, j < 4 → (W.alloc (.cells #[.bool false] 4)).cell? ⟨w.heap.size + j, 0, none⟩ = W.cell? ⟨w.heap.size + j, 0, none⟩ := fun j hj => Sl.cell_old _ _ _ _ (hne j hj)
  refine (Try.try_any _ _ W (Filled k b n (w.heap.size + 1 + 1 + 1) (W.alloc (.cells #[.bool false] 4))) HE.out ((HH.out w.heap.size (w.heap.size + 1) (w.heap.size + 1 + 1) (w.heap.size + 1 + 1 + 1) _).out ?_ ?_ ?_ ?_ ?_ ?_) ?_).mono ?_
  · have := old 0 (by omega); rw [Nat.add_zero] at this; rw [this]; exact D0.out
  · rw [old 1 (by omega)]; exact D1.out
  · rw [show w.heap.size + 1 + 1 = w.heap.size + 2 from rfl, old 2 (by omega)]; exact D2.out
  · have := Hs.out; simp; omega
  · rw [show w.heap.size + 1 + 1 + 1 = w.heap.size + 3 from rfl, old 3 (by omega)]; exact D3.out
  · rw [Sl.frozen_old _ _ _ _ (hne 3 (by omega))]; exact F3.out
  · rintro w' ⟨g, w2, hown, hbw, rfl⟩
    have hlt : W.heap.size < (W.alloc (.cells #[.bool false] 4)).heap.size := by simp
    have hne3 : (⟨w.heap.size + 1 + 1 + 1, 0, none⟩ : Addr).block ≠ W.heap.size := by have := Hs.out; show w.heap.size + 1 + 1 + 1 ≠ _; omega
    have e : ∀ u, (w2.setCell ⟨w.heap.size + 1 + 1 + 1, 0, none⟩ u).heap[W.heap.size]? = w2.heap[W.heap.size]? := fun u => Below.heap_setCell _ _ _ _ (fun h => hne3 h.symm)
    have e2 := hbw.block W.heap.size hlt
    have hnew : (W.alloc (.cells #[.bool false] 4)).heap[W.heap.size]? = some (.cells #[.bool false] 4 (0, 0)) := heap_alloc_new W _
    refine ⟨?_, ?_⟩
    · unfold World.cell?; simp only []; rw [e, e2, hnew]; rfl
    · unfold World.frozen?; simp only []; rw [e, e2, hnew]; rfl
  rintro e w3 ⟨rfl, w1, ⟨g, w2, hown, hbw, rfl⟩, rfl⟩
  have hp3 : w.heap.size + 1 + 1 + 1 < W.heap.size := by have := Hs.out; omega
  have o1 := ownsRow_setCell_below hown (a := ⟨w.heap.size + 1 + 1 + 1, 0, none⟩) (by simp only [World.size_alloc]; omega) (.slice (some ⟨g, 0, none⟩) n n)
  have o2 := ownsRow_setCell_below o1 (a := ⟨W.heap.size, 0, none⟩) (by simp) (.bool true)
  have b3 : Below w.heap.size w ((w2.setCell ⟨w.heap.size + 1 + 1 + 1, 0, none⟩ (.slice (some ⟨g, 0, none⟩) n n)).setCell ⟨W.heap.size, 0, none⟩ (.bool true)) :=
    ((((b0.alloc b0.size _).trans (hbw.mono (by simp only [World.size_alloc]; omega))).setCell (p := ⟨w.heap.size + 1 + 1 + 1, 0, none⟩) (by show w.heap.size ≤ w.heap.size + 1 + 1 + 1; omega) _).setCell (p := ⟨W.heap.size, 0, none⟩) b0.size _)
  have c3 : ((w2.setCell ⟨w.heap.size + 1 + 1 + 1, 0, none⟩ (.slice (some ⟨g, 0, none⟩) n n)).setCell ⟨W.heap.size, 0, none⟩ (.bool true)).cell? ⟨w.heap.size + 1 + 1 + 1, 0, none⟩ = some (.slice (some ⟨g, 0, none⟩) n n) := by
    have e1 : w2.cell? ⟨w.heap.size + 1 + 1 + 1, 0, none⟩ = some (.slice none 0 0) := by
      rw [hbw.cell (p := ⟨w.heap.size + 1 + 1 + 1, 0, none⟩) (by show w.heap.size + 1 + 1 + 1 < _; simp only [World.size_alloc]; omega), show w.heap.size + 1 + 1 + 1 = w.heap.size + 3 from rfl, old 3 (by omega)]
      exact D3.out
    have e2 : (w2.setCell ⟨w.heap.size + 1 + 1 + 1, 0, none⟩ (.slice (some ⟨g, 0, none⟩) n n)).cell? ⟨w.heap.size + 1 + 1 + 1, 0, none⟩ = some (.slice (some ⟨g, 0, none⟩) n n) := by
      simp [go_sem, e1]
    have e3 : ∀ X : World, (X.setCell ⟨W.heap.size, 0, none⟩ (.bool true)).cell? ⟨w.heap.size + 1 + 1 + 1, 0, none⟩ = X.cell? ⟨w.heap.size + 1 + 1 + 1, 0, none⟩ := fun X =>
      World.cell?_of_block (w := X) (Below.heap_setCell X ⟨W.heap.size, 0, none⟩ _ (w.heap.size + 1 + 1 + 1) (by show w.heap.size + 1 + 1 + 1 ≠ W.heap.size; omega))
    rw [e3, e2]
  have HO := Lib.hid o2
  clear hown hbw o1 o2 old hne HH
  generalize (w2.setCell ⟨w.heap.size + 1 + 1 + 1, 0, none⟩ (.slice (some ⟨g, 0, none⟩) n n)).setCell ⟨W.heap.size, 0, none⟩ (.bool true) = W3 at *
  go_wp2
  go_ret2
  refine ⟨_, rfl, ?_, b3⟩
  have hlen := pows_len b n k
  have := HO.out
  refine Sl.Of.own (B := (W.alloc (.cells #[.bool false] 4)).heap.size) (e := 23) ?_
  rw [hlen]
  exact this

end Go.Proofs.Ytaglcklbngoknaa.ReBucketKeeps
