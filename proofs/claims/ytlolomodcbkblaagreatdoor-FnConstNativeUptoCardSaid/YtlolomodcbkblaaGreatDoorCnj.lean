/- A native histogram's metric converted (laws.metricFrom). -/
import Derived.Test.YtlolomodcbkblaaGreatDoorCni
import Derived.Test.YtlolomodcbkblaaGreatDoorMtw
set_option linter.unusedVariables false
set_option linter.unusedSimpArgs false
namespace Go.Proofs.YtlolomodcbkblaaGreatDoor.Cn
open Go.RowKit Go.Maps Go.WideMaps Go.ChangeShapes Go.WideShapes Go.Deep Fp Obs _root_.Go.Proofs.YtlolomodcbkblaaGreatDoor.Sp

/-- the metric converted -/
def MetF (F : List P2) (count : Int) (z : Nat) (sch : Int) (zt : Nat) (zc : Int) (Rn Rp : List N2) (Dn Dp : List Int) (w : World) (e : Ending) (w' : World) : Prop :=
  ∃ a1 c1 a15 k15 a16 k16 a18 k18 a19 k19, e = .returned (.agg #[.slice a1 F.length c1, .int .i64 4, .float .f64 0, .bool false, .float .f64 0, .slice none 0 0, .int .i64 0, .int .i64 0, .bool false, .int .u64 count, .float .f64 z, .slice none 0 0, .int .i64 0, .bool true, .int .i32 sch, .float .f64 zt, .int .u64 zc, .slice a15 Rn.length k15, .slice a16 Rp.length k16, .slice a18 Dn.length k18, .slice a19 Dp.length k19, .slice none 0 0, .int .u64 0, .float .f64 0, .slice none 0 0, .bool false, .int .i64 0]) ∧ (w'.ownsRow w.heap.size 260 2 (.slice a15 Rn.length k15) Rn.length (Rn.flatMap rc) ∧ w'.ownsRow w.heap.size 260 2 (.slice a16 Rp.length k16) Rp.length (Rp.flatMap rc) ∧ w'.ownsRow w.heap.size 2 1 (.slice a18 Dn.length k18) Dn.length (Dn.flatMap fun z => [Value.int .i64 z]) ∧ w'.ownsRow w.heap.size 2 1 (.slice a19 Dp.length k19) Dp.length (Dp.flatMap fun z => [Value.int .i64 z])) ∧ Below w.heap.size w w'

set_option maxHeartbeats 16000000 in
set_option maxRecDepth 100000 in
theorem metricFrom_h (al an ap adn adp : Option Addr) (nl cl nn np cn cp cdn cdp : Nat) (F : List P2) (count : Int) (z : Nat) (sch : Int) (zt : Nat) (zc : Int) (Rn Rp : List N2) (Dn Dp : List Int) (w : World)
    (hl : Ss.Of 2 pc w (.slice al nl cl) F) (hF : F.length ≤ 2147483647) (hn : Ss.Of 2 rc w (.slice an nn cn) Rn) (hp : Ss.Of 2 rc w (.slice ap np cp) Rp) (hdn : Sl.Of (Value.int .i64) w (.slice adn Dn.length cdn) Dn) (hdp : Sl.Of (Value.int .i64) w (.slice adp Dp.length cdp) Dp) (lRn : Rn.length ≤ 2147483647) (lRp : Rp.length ≤ 2147483647) (lDn : Dn.length ≤ 2147483648) (lDp : Dp.length ≤ 2147483648) :
    Calls Tryz.prog 13 #[.agg #[.slice al nl cl, .int .i64 4, .float .f64 0, .bool false, .float .f64 0, .slice none 0 0, .int .i64 0, .int .i64 0, .bool false, .int .u64 count, .float .f64 z, .slice none 0 0, .int .i64 0, .bool true, .int .i32 sch, .float .f64 zt, .int .u64 zc, .slice an nn cn, .slice ap np cp, .slice adn Dn.length cdn, .slice adp Dp.length cdp, .slice none 0 0, .int .u64 0, .float .f64 0, .slice none 0 0, .bool false, .int .i64 0]] w (MetF F count z sch zt zc Rn Rp Dn Dp w) := by
  obtain ⟨A, hA⟩ : ∃ A, A = (w.alloc (.cells #[.slice al nl cl, .int .i64 4, .float .f64 0, .bool false, .float .f64 0, .slice none 0 0, .int .i64 0, .int .i64 0, .bool false, .int .u64 count, .float .f64 z, .slice none 0 0, .int .i64 0, .bool true, .int .i32 sch, .float .f64 zt, .int .u64 zc, .slice an nn cn, .slice ap np cp, .slice adn Dn.length cdn, .slice adp Dp.length cdp, .slice none 0 0, .int .u64 0, .float .f64 0, .slice none 0 0, .bool false, .int .i64 0] 40)).alloc (.cells #[.slice none 0 0, .int .i64 0, .float .f64 0, .bool false, .float .f64 0, .slice none 0 0, .int .i64 0, .int .i64 0, .bool false, .int .u64 0, .float .f64 0, .slice none 0 0, .int .i64 0, .bool false, .int .i32 0, .float .f64 0, .int .u64 0, .slice none 0 0, .slice none 0 0, .slice none 0 0, .slice none 0 0, .slice none 0 0, .int .u64 0, .float .f64 0, .slice none 0 0, .bool false, .int .i64 0] 55) := ⟨_, rfl⟩
  have s1 : (w.alloc (.cells #[.slice al nl cl, .int .i64 4, .float .f64 0, .bool false, .float .f64 0, .slice none 0 0, .int .i64 0, .int .i64 0, .bool false, .int .u64 count, .float .f64 z, .slice none 0 0, .int .i64 0, .bool true, .int .i32 sch, .float .f64 zt, .int .u64 zc, .slice an nn cn, .slice ap np cp, .slice adn Dn.length cdn, .slice adp Dp.length cdp, .slice none 0 0, .int .u64 0, .float .f64 0, .slice none 0 0, .bool false, .int .i64 0] 40)).heap.size = w.heap.size + 1 := by simp
  have s2 : A.heap.size = w.heap.size + 1 + 1 := by rw [hA]; simp
  have hqb : Below w.heap.size w A := by rw [hA]; exact ((Below.refl _ _).alloc (Nat.le_refl _) _).alloc (by simp) _
  have HUp : Hid (∀ W : World, Below A.heap.size A W → Below w.heap.size w W) := fun W h => hqb.trans (h.mono (by omega))
  have HC : Hid (∀ W : World, Below A.heap.size A W → W.cell? ⟨w.heap.size, 0, none⟩ = some (.slice al nl cl) ∧ W.cell? ⟨w.heap.size, 1, none⟩ = some (.int .i64 4) ∧ W.cell? ⟨w.heap.size, 2, none⟩ = some (.float .f64 0) ∧ W.cell? ⟨w.heap.size, 3, none⟩ = some (.bool false) ∧ W.cell? ⟨w.heap.size, 4, none⟩ = some (.float .f64 0) ∧ W.cell? ⟨w.heap.size, 5, none⟩ = some (.slice none 0 0) ∧ W.cell? ⟨w.heap.size, 6, none⟩ = some (.int .i64 0) ∧ W.cell? ⟨w.heap.size, 7, none⟩ = some (.int .i64 0) ∧ W.cell? ⟨w.heap.size, 8, none⟩ = some (.bool false) ∧ W.cell? ⟨w.heap.size, 9, none⟩ = some (.int .u64 count) ∧ W.cell? ⟨w.heap.size, 10, none⟩ = some (.float .f64 z) ∧ W.cell? ⟨w.heap.size, 11, none⟩ = some (.slice none 0 0) ∧ W.cell? ⟨w.heap.size, 12, none⟩ = some (.int .i64 0) ∧ W.cell? ⟨w.heap.size, 13, none⟩ = some (.bool true) ∧ W.cell? ⟨w.heap.size, 14, none⟩ = some (.int .i32 sch) ∧ W.cell? ⟨w.heap.size, 15, none⟩ = some (.float .f64 zt) ∧ W.cell? ⟨w.heap.size, 16, none⟩ = some (.int .u64 zc) ∧ W.cell? ⟨w.heap.size, 17, none⟩ = some (.slice an nn cn) ∧ W.cell? ⟨w.heap.size, 18, none⟩ = some (.slice ap np cp) ∧ W.cell? ⟨w.heap.size, 19, none⟩ = some (.slice adn Dn.length cdn) ∧ W.cell? ⟨w.heap.size, 20, none⟩ = some (.slice adp Dp.length cdp) ∧ W.cell? ⟨w.heap.size, 21, none⟩ = some (.slice none 0 0) ∧ W.cell? ⟨w.heap.size, 22, none⟩ = some (.int .u64 0) ∧ W.cell? ⟨w.heap.size, 23, none⟩ = some (.float .f64 0) ∧ W.cell? ⟨w.heap.size, 24, none⟩ = some (.slice none 0 0) ∧ W.cell? ⟨w.heap.size, 25, none⟩ = some (.bool false) ∧ W.cell? ⟨w.heap.size, 26, none⟩ = some (.int .i64 0)) := fun W h => by
    have ea : ∀ j, A.cell? ⟨w.heap.size, j, none⟩ = (#[.slice al nl cl, .int .i64 4, .float .f64 0, .bool false, .float .f64 0, .slice none 0 0, .int .i64 0, .int .i64 0, .bool false, .int .u64 count, .float .f64 z, .slice none 0 0, .int .i64 0, .bool true, .int .i32 sch, .float .f64 zt, .int .u64 zc, .slice an nn cn, .slice ap np cp, .slice adn Dn.length cdn, .slice adp Dp.length cdp, .slice none 0 0, .int .u64 0, .float .f64 0, .slice none 0 0, .bool false, .int .i64 0] : Array Value)[j]? := fun j => by rw [hA]; exact (Sl.cell_old _ _ _ _ (by rw [s1]; omega)).trans (Sl.cell_new w _ _ j)
    have e : ∀ j, W.cell? ⟨w.heap.size, j, none⟩ = (#[.slice al nl cl, .int .i64 4, .float .f64 0, .bool false, .float .f64 0, .slice none 0 0, .int .i64 0, .int .i64 0, .bool false, .int .u64 count, .float .f64 z, .slice none 0 0, .int .i64 0, .bool true, .int .i32 sch, .float .f64 zt, .int .u64 zc, .slice an nn cn, .slice ap np cp, .slice adn Dn.length cdn, .slice adp Dp.length cdp, .slice none 0 0, .int .u64 0, .float .f64 0, .slice none 0 0, .bool false, .int .i64 0] : Array Value)[j]? := fun j => (h.cell (p := ⟨w.heap.size, j, none⟩) (by show w.heap.size < A.heap.size; omega)).trans (ea j)
    exact ⟨e 0, e 1, e 2, e 3, e 4, e 5, e 6, e 7, e 8, e 9, e 10, e 11, e 12, e 13, e 14, e 15, e 16, e 17, e 18, e 19, e 20, e 21, e 22, e 23, e 24, e 25, e 26⟩
  have HD : Hid (∀ W : World, Below A.heap.size A W → Whole W (w.heap.size + 1) 55 #[.slice none 0 0, .int .i64 0, .float .f64 0, .bool false, .float .f64 0, .slice none 0 0, .int .i64 0, .int .i64 0, .bool false, .int .u64 0, .float .f64 0, .slice none 0 0, .int .i64 0, .bool false, .int .i32 0, .float .f64 0, .int .u64 0, .slice none 0 0, .slice none 0 0, .slice none 0 0, .slice none 0 0, .slice none 0 0, .int .u64 0, .float .f64 0, .slice none 0 0, .bool false, .int .i64 0]) := fun W h => by
    have h1 := heap_alloc_new (w.alloc (.cells #[.slice al nl cl, .int .i64 4, .float .f64 0, .bool false, .float .f64 0, .slice none 0 0, .int .i64 0, .int .i64 0, .bool false, .int .u64 count, .float .f64 z, .slice none 0 0, .int .i64 0, .bool true, .int .i32 sch, .float .f64 zt, .int .u64 zc, .slice an nn cn, .slice ap np cp, .slice adn Dn.length cdn, .slice adp Dp.length cdp, .slice none 0 0, .int .u64 0, .float .f64 0, .slice none 0 0, .bool false, .int .i64 0] 40)) (.cells #[.slice none 0 0, .int .i64 0, .float .f64 0, .bool false, .float .f64 0, .slice none 0 0, .int .i64 0, .int .i64 0, .bool false, .int .u64 0, .float .f64 0, .slice none 0 0, .int .i64 0, .bool false, .int .i32 0, .float .f64 0, .int .u64 0, .slice none 0 0, .slice none 0 0, .slice none 0 0, .slice none 0 0, .slice none 0 0, .int .u64 0, .float .f64 0, .slice none 0 0, .bool false, .int .i64 0] 55)
    rw [s1, ← hA] at h1
    exact (h.block (w.heap.size + 1) (by omega)).trans h1
  have HI : Hid (∀ W : World, Below A.heap.size A W → Ss.Of 2 pc W (.slice al nl cl) F ∧ Ss.Of 2 rc W (.slice an nn cn) Rn ∧ Ss.Of 2 rc W (.slice ap np cp) Rp ∧ Sl.Of (Value.int .i64) W (.slice adn Dn.length cdn) Dn ∧ Sl.Of (Value.int .i64) W (.slice adp Dp.length cdp) Dp) := fun W k => by
    have kk := HUp.out W k
    exact ⟨hl.below kk, hn.below kk, hp.below kk, hdn.below kk, hdp.below kk⟩
  have hsz : (Tryz.prog.info? 55).map (·.size) = some 27 := by kernel_rfl
  have HOut : Hid (∀ a1 c1 a15 k15 a16 k16 a18 k18 a19 k19 W, Below A.heap.size A W → (W.ownsRow A.heap.size 260 2 (.slice a15 Rn.length k15) Rn.length (Rn.flatMap rc) ∧ W.ownsRow A.heap.size 260 2 (.slice a16 Rp.length k16) Rp.length (Rp.flatMap rc) ∧ W.ownsRow A.heap.size 2 1 (.slice a18 Dn.length k18) Dn.length (Dn.flatMap fun z => [Value.int .i64 z]) ∧ W.ownsRow A.heap.size 2 1 (.slice a19 Dp.length k19) Dp.length (Dp.flatMap fun z => [Value.int .i64 z])) → ∀ Wf, W.grownBy Wf (some (w.heap.size + 1)) → Wf.heap.size = W.heap.size → MetF F count z sch zt zc Rn Rp Dn Dp w (.returned (.agg #[.slice a1 F.length c1, .int .i64 4, .float .f64 0, .bool false, .float .f64 0, .slice none 0 0, .int .i64 0, .int .i64 0, .bool false, .int .u64 count, .float .f64 z, .slice none 0 0, .int .i64 0, .bool true, .int .i32 sch, .float .f64 zt, .int .u64 zc, .slice a15 Rn.length k15, .slice a16 Rp.length k16, .slice a18 Dn.length k18, .slice a19 Dp.length k19, .slice none 0 0, .int .u64 0, .float .f64 0, .slice none 0 0, .bool false, .int .i64 0])) Wf ∧ Wf.cell? ⟨w.heap.size, 0, none⟩ = some (.slice al nl cl) ∧ Wf.cell? ⟨w.heap.size, 1, none⟩ = some (.int .i64 4) ∧ Wf.cell? ⟨w.heap.size, 2, none⟩ = some (.float .f64 0) ∧ Wf.cell? ⟨w.heap.size, 3, none⟩ = some (.bool false) ∧ Wf.cell? ⟨w.heap.size, 4, none⟩ = some (.float .f64 0) ∧ Wf.cell? ⟨w.heap.size, 5, none⟩ = some (.slice none 0 0) ∧ Wf.cell? ⟨w.heap.size, 6, none⟩ = some (.int .i64 0) ∧ Wf.cell? ⟨w.heap.size, 7, none⟩ = some (.int .i64 0) ∧ Wf.cell? ⟨w.heap.size, 8, none⟩ = some (.bool false) ∧ Wf.cell? ⟨w.heap.size, 9, none⟩ = some (.int .u64 count) ∧ Wf.cell? ⟨w.heap.size, 10, none⟩ = some (.float .f64 z) ∧ Wf.cell? ⟨w.heap.size, 11, none⟩ = some (.slice none 0 0) ∧ Wf.cell? ⟨w.heap.size, 12, none⟩ = some (.int .i64 0) ∧ Wf.cell? ⟨w.heap.size, 13, none⟩ = some (.bool true) ∧ Wf.cell? ⟨w.heap.size, 14, none⟩ = some (.int .i32 sch) ∧ Wf.cell? ⟨w.heap.size, 15, none⟩ = some (.float .f64 zt) ∧ Wf.cell? ⟨w.heap.size, 16, none⟩ = some (.int .u64 zc) ∧ Wf.cell? ⟨w.heap.size, 17, none⟩ = some (.slice an nn cn) ∧ Wf.cell? ⟨w.heap.size, 18, none⟩ = some (.slice ap np cp) ∧ Wf.cell? ⟨w.heap.size, 19, none⟩ = some (.slice adn Dn.length cdn) ∧ Wf.cell? ⟨w.heap.size, 20, none⟩ = some (.slice adp Dp.length cdp) ∧ Wf.cell? ⟨w.heap.size, 21, none⟩ = some (.slice none 0 0) ∧ Wf.cell? ⟨w.heap.size, 22, none⟩ = some (.int .u64 0) ∧ Wf.cell? ⟨w.heap.size, 23, none⟩ = some (.float .f64 0) ∧ Wf.cell? ⟨w.heap.size, 24, none⟩ = some (.slice none 0 0) ∧ Wf.cell? ⟨w.heap.size, 25, none⟩ = some (.bool false) ∧ Wf.cell? ⟨w.heap.size, 26, none⟩ = some (.int .i64 0)) := fun a1 c1 a15 k15 a16 k16 a18 k18 a19 k19 W hb r Wf hg hs => by
    have hz := hb.size
    have kp : ∀ {e sz n : Nat} {v : Value} {xs : List Value}, W.ownsRow A.heap.size e sz v n xs → Wf.ownsRow w.heap.size e sz v n xs := fun {e sz n v xs} ho => Nd.own_base (ho.kept hg (ne_of_base ho (by omega))) (by omega)
    have hc := HC.out W hb
    have e : ∀ j, Wf.cell? ⟨w.heap.size, j, none⟩ = W.cell? ⟨w.heap.size, j, none⟩ := fun j => World.cell?_of_block (w := W) (hg.block w.heap.size (by omega) (by intro e; injection e with e; omega))
    refine ⟨⟨a1, c1, a15, k15, a16, k16, a18, k18, a19, k19, rfl, ⟨kp r.1, kp r.2.1, kp r.2.2.1, kp r.2.2.2⟩, (HUp.out W hb).grown hg (by omega) (fun j hj => by injection hj with hj; omega)⟩, ?_⟩
    simp only [e]
    exact hc
  have HE0 : Hid (Below A.heap.size A A.drew) := bdrH (Below.refl _ _)
  have q0 := HC.out A.drew HE0.out
  clear hl hn hp hdn hdp hqb s1 s2
  go_enter Tryz.func13, Tryz.ntmps13
  go_wp2_with fail
  rw [← hA]
  clear hA
  refine wp_region_noPanic ?_
  refine wp_region_held_drew (S := fun W => W.cell? ⟨w.heap.size, 0, none⟩ = some (.slice al nl cl) ∧ W.cell? ⟨w.heap.size, 1, none⟩ = some (.int .i64 4) ∧ W.cell? ⟨w.heap.size, 2, none⟩ = some (.float .f64 0) ∧ W.cell? ⟨w.heap.size, 3, none⟩ = some (.bool false) ∧ W.cell? ⟨w.heap.size, 4, none⟩ = some (.float .f64 0) ∧ W.cell? ⟨w.heap.size, 5, none⟩ = some (.slice none 0 0) ∧ W.cell? ⟨w.heap.size, 6, none⟩ = some (.int .i64 0) ∧ W.cell? ⟨w.heap.size, 7, none⟩ = some (.int .i64 0) ∧ W.cell? ⟨w.heap.size, 8, none⟩ = some (.bool false) ∧ W.cell? ⟨w.heap.size, 9, none⟩ = some (.int .u64 count) ∧ W.cell? ⟨w.heap.size, 10, none⟩ = some (.float .f64 z) ∧ W.cell? ⟨w.heap.size, 11, none⟩ = some (.slice none 0 0) ∧ W.cell? ⟨w.heap.size, 12, none⟩ = some (.int .i64 0) ∧ W.cell? ⟨w.heap.size, 13, none⟩ = some (.bool true) ∧ W.cell? ⟨w.heap.size, 14, none⟩ = some (.int .i32 sch) ∧ W.cell? ⟨w.heap.size, 15, none⟩ = some (.float .f64 zt) ∧ W.cell? ⟨w.heap.size, 16, none⟩ = some (.int .u64 zc) ∧ W.cell? ⟨w.heap.size, 17, none⟩ = some (.slice an nn cn) ∧ W.cell? ⟨w.heap.size, 18, none⟩ = some (.slice ap np cp) ∧ W.cell? ⟨w.heap.size, 19, none⟩ = some (.slice adn Dn.length cdn) ∧ W.cell? ⟨w.heap.size, 20, none⟩ = some (.slice adp Dp.length cdp) ∧ W.cell? ⟨w.heap.size, 21, none⟩ = some (.slice none 0 0) ∧ W.cell? ⟨w.heap.size, 22, none⟩ = some (.int .u64 0) ∧ W.cell? ⟨w.heap.size, 23, none⟩ = some (.float .f64 0) ∧ W.cell? ⟨w.heap.size, 24, none⟩ = some (.slice none 0 0) ∧ W.cell? ⟨w.heap.size, 25, none⟩ = some (.bool false) ∧ W.cell? ⟨w.heap.size, 26, none⟩ = some (.int .i64 0)) (by kernel_rfl) (by (with_reducible exact q0)) (fun hHeld => ?_)
  refine wpAnyH_take (i := 0) (v := ?_) rfl (by kernel_rfl) (by kernel_rfl) (by kernel_rfl) (fun _ _ _ h => h) (Or.inl ⟨by rfl, ?_⟩) hHeld ?_
  rotate_left
  · intro w hSw; (try dsimp only at hSw); go_simp; (try with_reducible rfl)
  try simp only [Act.put, List.setIfInBounds_toArray, List.set_cons_zero, List.set_cons_succ, List.getElem_toArray, List.getElem_cons_zero, List.getElem_cons_succ]
  refine wpAnyH_take (i := 1) (v := ?_) rfl (by kernel_rfl) (by kernel_rfl) (by kernel_rfl) (fun _ _ _ h => h) (Or.inl ⟨by rfl, ?_⟩) hHeld ?_
  rotate_left
  · intro w hSw; (try dsimp only at hSw); go_simp; (try with_reducible rfl)
  try simp only [Act.put, List.setIfInBounds_toArray, List.set_cons_zero, List.set_cons_succ, List.getElem_toArray, List.getElem_cons_zero, List.getElem_cons_succ]
  refine wpAnyH_take (i := 3) (v := ?_) rfl (by kernel_rfl) (by kernel_rfl) (by kernel_rfl) (fun _ _ _ h => h) (Or.inl ⟨by rfl, ?_⟩) hHeld ?_
  rotate_left
  · intro w hSw; (try dsimp only at hSw); go_simp; (try with_reducible rfl)
  try simp only [Act.put, List.setIfInBounds_toArray, List.set_cons_zero, List.set_cons_succ, List.getElem_toArray, List.getElem_cons_zero, List.getElem_cons_succ]
  refine wpAnyH_take (i := 4) (v := ?_) rfl (by kernel_rfl) (by kernel_rfl) (by kernel_rfl) (fun _ _ _ h => h) (Or.inl ⟨by rfl, ?_⟩) hHeld ?_
  rotate_left
  · intro w hSw; (try dsimp only at hSw); go_simp; (try with_reducible rfl)
  try simp only [Act.put, List.setIfInBounds_toArray, List.set_cons_zero, List.set_cons_succ, List.getElem_toArray, List.getElem_cons_zero, List.getElem_cons_succ]
  refine wpAnyH_take (i := 5) (v := ?_) rfl (by kernel_rfl) (by kernel_rfl) (by kernel_rfl) (fun _ _ _ h => h) (Or.inl ⟨by rfl, ?_⟩) hHeld ?_
  rotate_left
  · intro w hSw; (try dsimp only at hSw); go_simp; (try with_reducible rfl)
  try simp only [Act.put, List.setIfInBounds_toArray, List.set_cons_zero, List.set_cons_succ, List.getElem_toArray, List.getElem_cons_zero, List.getElem_cons_succ]
  refine wpAnyH_take (i := 6) (v := ?_) rfl (by kernel_rfl) (by kernel_rfl) (by kernel_rfl) (fun _ _ _ h => h) (Or.inl ⟨by rfl, ?_⟩) hHeld ?_
  rotate_left
  · intro w hSw; (try dsimp only at hSw); go_simp; (try with_reducible rfl)
  try simp only [Act.put, List.setIfInBounds_toArray, List.set_cons_zero, List.set_cons_succ, List.getElem_toArray, List.getElem_cons_zero, List.getElem_cons_succ]
  refine wpAnyH_take (i := 7) (v := ?_) rfl (by kernel_rfl) (by kernel_rfl) (by kernel_rfl) (fun _ _ _ h => h) (Or.inl ⟨by rfl, ?_⟩) hHeld ?_
  rotate_left
  · intro w hSw; (try dsimp only at hSw); go_simp; (try with_reducible rfl)
  try simp only [Act.put, List.setIfInBounds_toArray, List.set_cons_zero, List.set_cons_succ, List.getElem_toArray, List.getElem_cons_zero, List.getElem_cons_succ]
  refine wpAnyH_take (i := 8) (v := ?_) rfl (by kernel_rfl) (by kernel_rfl) (by kernel_rfl) (fun _ _ _ h => h) (Or.inl ⟨by rfl, ?_⟩) hHeld ?_
  rotate_left
  · intro w hSw; (try dsimp only at hSw); go_simp; (try with_reducible rfl)
  try simp only [Act.put, List.setIfInBounds_toArray, List.set_cons_zero, List.set_cons_succ, List.getElem_toArray, List.getElem_cons_zero, List.getElem_cons_succ]
  refine wpAnyH_take (i := 9) (v := ?_) rfl (by kernel_rfl) (by kernel_rfl) (by kernel_rfl) (fun _ _ _ h => h) (Or.inl ⟨by rfl, ?_⟩) hHeld ?_
  rotate_left
  · intro w hSw; (try dsimp only at hSw); go_simp; (try with_reducible rfl)
  try simp only [Act.put, List.setIfInBounds_toArray, List.set_cons_zero, List.set_cons_succ, List.getElem_toArray, List.getElem_cons_zero, List.getElem_cons_succ]
  refine wpAnyH_take (i := 10) (v := ?_) rfl (by kernel_rfl) (by kernel_rfl) (by kernel_rfl) (fun _ _ _ h => h) (Or.inl ⟨by rfl, ?_⟩) hHeld ?_
  rotate_left
  · intro w hSw; (try dsimp only at hSw); go_simp; (try with_reducible rfl)
  try simp only [Act.put, List.setIfInBounds_toArray, List.set_cons_zero, List.set_cons_succ, List.getElem_toArray, List.getElem_cons_zero, List.getElem_cons_succ]
  refine wpAnyH_take (i := 12) (v := ?_) rfl (by kernel_rfl) (by kernel_rfl) (by kernel_rfl) (fun _ _ _ h => h) (Or.inl ⟨by rfl, ?_⟩) hHeld ?_
  rotate_left
  · intro w hSw; (try dsimp only at hSw); go_simp; (try with_reducible rfl)
  try simp only [Act.put, List.setIfInBounds_toArray, List.set_cons_zero, List.set_cons_succ, List.getElem_toArray, List.getElem_cons_zero, List.getElem_cons_succ]
  refine wpAnyH_take (i := 13) (v := ?_) rfl (by kernel_rfl) (by kernel_rfl) (by kernel_rfl) (fun _ _ _ h => h) (Or.inl ⟨by rfl, ?_⟩) hHeld ?_
  rotate_left
  · intro w hSw; (try dsimp only at hSw); go_simp; (try with_reducible rfl)
  try simp only [Act.put, List.setIfInBounds_toArray, List.set_cons_zero, List.set_cons_succ, List.getElem_toArray, List.getElem_cons_zero, List.getElem_cons_succ]
  refine wpAnyH_take (i := 14) (v := ?_) rfl (by kernel_rfl) (by kernel_rfl) (by kernel_rfl) (fun _ _ _ h => h) (Or.inl ⟨by rfl, ?_⟩) hHeld ?_
  rotate_left
  · intro w hSw; (try dsimp only at hSw); go_simp; (try with_reducible rfl)
  try simp only [Act.put, List.setIfInBounds_toArray, List.set_cons_zero, List.set_cons_succ, List.getElem_toArray, List.getElem_cons_zero, List.getElem_cons_succ]
  refine wpAnyH_take (i := 15) (v := ?_) rfl (by kernel_rfl) (by kernel_rfl) (by kernel_rfl) (fun _ _ _ h => h) (Or.inl ⟨by rfl, ?_⟩) hHeld ?_
  rotate_left
  · intro w hSw; (try dsimp only at hSw); go_simp; (try with_reducible rfl)
  try simp only [Act.put, List.setIfInBounds_toArray, List.set_cons_zero, List.set_cons_succ, List.getElem_toArray, List.getElem_cons_zero, List.getElem_cons_succ]
  refine wpAnyH_take (i := 16) (v := ?_) rfl (by kernel_rfl) (by kernel_rfl) (by kernel_rfl) (fun _ _ _ h => h) (Or.inl ⟨by rfl, ?_⟩) hHeld ?_
  rotate_left
  · intro w hSw; (try dsimp only at hSw); go_simp; (try with_reducible rfl)
  try simp only [Act.put, List.setIfInBounds_toArray, List.set_cons_zero, List.set_cons_succ, List.getElem_toArray, List.getElem_cons_zero, List.getElem_cons_succ]
  refine wpAnyH_take (i := 17) (v := ?_) rfl (by kernel_rfl) (by kernel_rfl) (by kernel_rfl) (fun _ _ _ h => h) (Or.inl ⟨by rfl, ?_⟩) hHeld ?_
  rotate_left
  · intro w hSw; (try dsimp only at hSw); go_simp; (try with_reducible rfl)
  try simp only [Act.put, List.setIfInBounds_toArray, List.set_cons_zero, List.set_cons_succ, List.getElem_toArray, List.getElem_cons_zero, List.getElem_cons_succ]
  refine wpAnyH_take (i := 19) (v := ?_) rfl (by kernel_rfl) (by kernel_rfl) (by kernel_rfl) (fun _ _ _ h => h) (Or.inl ⟨by rfl, ?_⟩) hHeld ?_
  rotate_left
  · intro w hSw; (try dsimp only at hSw); go_simp; (try with_reducible rfl)
  try simp only [Act.put, List.setIfInBounds_toArray, List.set_cons_zero, List.set_cons_succ, List.getElem_toArray, List.getElem_cons_zero, List.getElem_cons_succ]
  refine wpAnyH_take (i := 20) (v := ?_) rfl (by kernel_rfl) (by kernel_rfl) (by kernel_rfl) (fun _ _ _ h => h) (Or.inl ⟨by rfl, ?_⟩) hHeld ?_
  rotate_left
  · intro w hSw; (try dsimp only at hSw); go_simp; (try with_reducible rfl)
  try simp only [Act.put, List.setIfInBounds_toArray, List.set_cons_zero, List.set_cons_succ, List.getElem_toArray, List.getElem_cons_zero, List.getElem_cons_succ]
  refine wpAnyH_take (i := 21) (v := ?_) rfl (by kernel_rfl) (by kernel_rfl) (by kernel_rfl) (fun _ _ _ h => h) (Or.inl ⟨by rfl, ?_⟩) hHeld ?_
  rotate_left
  · intro w hSw; (try dsimp only at hSw); go_simp; (try with_reducible rfl)
  try simp only [Act.put, List.setIfInBounds_toArray, List.set_cons_zero, List.set_cons_succ, List.getElem_toArray, List.getElem_cons_zero, List.getElem_cons_succ]
  refine wpAnyH_take (i := 22) (v := ?_) rfl (by kernel_rfl) (by kernel_rfl) (by kernel_rfl) (fun _ _ _ h => h) (Or.inl ⟨by rfl, ?_⟩) hHeld ?_
  rotate_left
  · intro w hSw; (try dsimp only at hSw); go_simp; (try with_reducible rfl)
  try simp only [Act.put, List.setIfInBounds_toArray, List.set_cons_zero, List.set_cons_succ, List.getElem_toArray, List.getElem_cons_zero, List.getElem_cons_succ]
  refine wpAnyH_take (i := 23) (v := ?_) rfl (by kernel_rfl) (by kernel_rfl) (by kernel_rfl) (fun _ _ _ h => h) (Or.inl ⟨by rfl, ?_⟩) hHeld ?_
  rotate_left
  · intro w hSw; (try dsimp only at hSw); go_simp; (try with_reducible rfl)
  try simp only [Act.put, List.setIfInBounds_toArray, List.set_cons_zero, List.set_cons_succ, List.getElem_toArray, List.getElem_cons_zero, List.getElem_cons_succ]
  refine wpAnyH_take (i := 24) (v := ?_) rfl (by kernel_rfl) (by kernel_rfl) (by kernel_rfl) (fun _ _ _ h => h) (Or.inl ⟨by rfl, ?_⟩) hHeld ?_
  rotate_left
  · intro w hSw; (try dsimp only at hSw); go_simp; (try with_reducible rfl)
  try simp only [Act.put, List.setIfInBounds_toArray, List.set_cons_zero, List.set_cons_succ, List.getElem_toArray, List.getElem_cons_zero, List.getElem_cons_succ]
  refine wpAnyH_take (i := 26) (v := ?_) rfl (by kernel_rfl) (by kernel_rfl) (by kernel_rfl) (fun _ _ _ h => h) (Or.inl ⟨by rfl, ?_⟩) hHeld ?_
  rotate_left
  · intro w hSw; (try dsimp only at hSw); go_simp; (try with_reducible rfl)
  try simp only [Act.put, List.setIfInBounds_toArray, List.set_cons_zero, List.set_cons_succ, List.getElem_toArray, List.getElem_cons_zero, List.getElem_cons_succ]
  refine wpAnyH_take (i := 27) (v := ?_) rfl (by kernel_rfl) (by kernel_rfl) (by kernel_rfl) (fun _ _ _ h => h) (Or.inl ⟨by rfl, ?_⟩) hHeld ?_
  rotate_left
  · intro w hSw; (try dsimp only at hSw); go_simp; (try with_reducible rfl)
  try simp only [Act.put, List.setIfInBounds_toArray, List.set_cons_zero, List.set_cons_succ, List.getElem_toArray, List.getElem_cons_zero, List.getElem_cons_succ]
  refine wpAnyH_take (i := 28) (v := ?_) rfl (by kernel_rfl) (by kernel_rfl) (by kernel_rfl) (fun _ _ _ h => h) (Or.inl ⟨by rfl, ?_⟩) hHeld ?_
  rotate_left
  · intro w hSw; (try dsimp only at hSw); go_simp; (try with_reducible rfl)
  try simp only [Act.put, List.setIfInBounds_toArray, List.set_cons_zero, List.set_cons_succ, List.getElem_toArray, List.getElem_cons_zero, List.getElem_cons_succ]
  refine wpAnyH_take (i := 29) (v := ?_) rfl (by kernel_rfl) (by kernel_rfl) (by kernel_rfl) (fun _ _ _ h => h) (Or.inl ⟨by rfl, ?_⟩) hHeld ?_
  rotate_left
  · intro w hSw; (try dsimp only at hSw); go_simp; (try with_reducible rfl)
  try simp only [Act.put, List.setIfInBounds_toArray, List.set_cons_zero, List.set_cons_succ, List.getElem_toArray, List.getElem_cons_zero, List.getElem_cons_succ]
  refine wpAnyH_ready (rs := [2]) (by kernel_rfl) (by simp) (AllReadyH.cons rfl (fun K hK => ?_) AllReadyH.nil)
  go_simp
  go_at_call 47; refine (_root_.Go.Proofs.YtlolomodcbkblaaGreatDoor.Nd.pairsFrom_own F (.slice al nl cl) _ ((HI.out _ HE0.out).1) hF).mono ?_; rintro e y1 ⟨v0, rfl, ho, hb⟩; obtain ⟨a1, c1, rfl⟩ := row_slice2 ho; have HE1 : Hid (Below A.heap.size A y1) := HE0.out.trans (hb.mono HE0.out.size); have q1 := HC.out _ HE1.out; clear ho hb
  refine hK.out _ _ ?_ (fun hHeld2 => ?_)
  · first | (with_reducible exact q1) | (with_reducible exact q2) | (with_reducible exact q3) | (with_reducible exact q9)
  clear hK K hHeld; have hHeld := hHeld2; clear hHeld2
  try simp only [Act.put, List.setIfInBounds_toArray, List.set_cons_zero, List.set_cons_succ, List.getElem_toArray, List.getElem_cons_zero, List.getElem_cons_succ]
  refine wpAnyH_ready (rs := [11]) (by kernel_rfl) (by simp) (AllReadyH.cons rfl (fun K hK => ?_) AllReadyH.nil)
  go_simp
  go_at_call 48; refine (_root_.Go.Proofs.YtlolomodcbkblaaGreatDoor.Mt.markFrom_zero none 0 y1).mono ?_; rintro e y2 ⟨rfl, hb⟩; have HE2 : Hid (Below A.heap.size A y2) := HE1.out.trans (hb.mono HE1.out.size); have q2 := HC.out _ HE2.out; clear hb
  refine hK.out _ _ ?_ (fun hHeld2 => ?_)
  · first | (with_reducible exact q1) | (with_reducible exact q2) | (with_reducible exact q3) | (with_reducible exact q9)
  clear hK K hHeld; have hHeld := hHeld2; clear hHeld2
  try simp only [Act.put, List.setIfInBounds_toArray, List.set_cons_zero, List.set_cons_succ, List.getElem_toArray, List.getElem_cons_zero, List.getElem_cons_succ]
  refine wpAnyH_ready (rs := [18]) (by kernel_rfl) (by simp) (AllReadyH.cons rfl (fun K hK => ?_) AllReadyH.nil)
  go_simp
  go_at_call 49; refine (histFrom_h an ap adn adp nn np cn cp cdn cdp count z sch zt zc Rn Rp Dn Dp y2 (HI.out _ HE2.out).2.1 (HI.out _ HE2.out).2.2.1 (HI.out _ HE2.out).2.2.2.1 (HI.out _ HE2.out).2.2.2.2 lRn lRp lDn lDp).mono ?_; rintro e y3 ⟨a15, k15, a16, k16, a18, k18, a19, k19, rfl, r1, r2, r3, r4, hb⟩; have HE3 : Hid (Below A.heap.size A y3) := HE2.out.trans (hb.mono HE2.out.size); have q3 := HC.out _ HE3.out; have HR3 : Hid (y3.ownsRow A.heap.size 260 2 (.slice a15 Rn.length k15) Rn.length (Rn.flatMap rc) ∧ y3.ownsRow A.heap.size 260 2 (.slice a16 Rp.length k16) Rp.length (Rp.flatMap rc) ∧ y3.ownsRow A.heap.size 2 1 (.slice a18 Dn.length k18) Dn.length (Dn.flatMap fun z => [Value.int .i64 z]) ∧ y3.ownsRow A.heap.size 2 1 (.slice a19 Dp.length k19) Dp.length (Dp.flatMap fun z => [Value.int .i64 z])) := ⟨Nd.own_base r1 HE2.out.size, Nd.own_base r2 HE2.out.size, Nd.own_base r3 HE2.out.size, Nd.own_base r4 HE2.out.size⟩; clear r1 r2 r3 r4 hb
  refine hK.out _ _ ?_ (fun hHeld2 => ?_)
  · first | (with_reducible exact q1) | (with_reducible exact q2) | (with_reducible exact q3) | (with_reducible exact q9)
  clear hK K hHeld; have hHeld := hHeld2; clear hHeld2
  try simp only [Act.put, List.setIfInBounds_toArray, List.set_cons_zero, List.set_cons_succ, List.getElem_toArray, List.getElem_cons_zero, List.getElem_cons_succ]
  refine Calm.take (i := 25) (v := .slice none 0 0) rfl (by kernel_rfl) (by kernel_rfl) (by kernel_rfl) (fun _ _ _ h => h) ⟨by rfl, fun W hSw => ⟨50, #[.slice none 0 0], ?_, _root_.Go.Proofs.YtlolomodcbkblaaGreatDoor.Mt.quantilesFrom_nil _ _ W⟩⟩ hHeld ?_
  · go_simp; (try with_reducible rfl)
  try simp only [Act.put, List.setIfInBounds_toArray, List.set_cons_zero, List.set_cons_succ, List.getElem_toArray, List.getElem_cons_zero, List.getElem_cons_succ]
  refine wpAnyH_take (i := 30) (v := ?_) rfl (by kernel_rfl) (by kernel_rfl) (by kernel_rfl) (fun _ _ _ h => h) (Or.inl ⟨by rfl, ?_⟩) hHeld ?_
  rotate_left
  · intro w hSw; (try dsimp only at hSw); go_simp; (try with_reducible rfl)
  try simp only [Act.put, List.setIfInBounds_toArray, List.set_cons_zero, List.set_cons_succ, List.getElem_toArray, List.getElem_cons_zero, List.getElem_cons_succ]
  refine wpAnyH_ready (rs := [31]) (by kernel_rfl) (by simp) (AllReadyH.cons rfl (fun K hK => ?_) AllReadyH.nil)
  rw [if_pos (by rfl)]
  refine Big.wp_store_whole _ _ _ rfl (w.heap.size + 1) 55 #[.slice none 0 0, .int .i64 0, .float .f64 0, .bool false, .float .f64 0, .slice none 0 0, .int .i64 0, .int .i64 0, .bool false, .int .u64 0, .float .f64 0, .slice none 0 0, .int .i64 0, .bool false, .int .i32 0, .float .f64 0, .int .u64 0, .slice none 0 0, .slice none 0 0, .slice none 0 0, .slice none 0 0, .slice none 0 0, .int .u64 0, .float .f64 0, .slice none 0 0, .bool false, .int .i64 0] #[.slice a1 F.length c1, .int .i64 4, .float .f64 0, .bool false, .float .f64 0, .slice none 0 0, .int .i64 0, .int .i64 0, .bool false, .int .u64 count, .float .f64 z, .slice none 0 0, .int .i64 0, .bool true, .int .i32 sch, .float .f64 zt, .int .u64 zc, .slice a15 Rn.length k15, .slice a16 Rp.length k16, .slice a18 Dn.length k18, .slice a19 Dp.length k19, .slice none 0 0, .int .u64 0, .float .f64 0, .slice none 0 0, .bool false, .int .i64 0] rfl rfl (HD.out _ HE3.out) rfl hsz (by simp [Value.oneCell']) ?_; intro yf hx hg hs; have HF := Lib.hid (HOut.out a1 c1 _ _ _ _ _ _ _ _ _ HE3.out HR3.out yf hg hs); have q9 := HF.out.2; have HXf := Lib.hid hx; clear hx hg hs
  refine hK.out _ _ ?_ (fun hHeld2 => ?_)
  · first | (with_reducible exact q1) | (with_reducible exact q2) | (with_reducible exact q3) | (with_reducible exact q9)
  clear hK K hHeld; have hHeld := hHeld2; clear hHeld2
  try simp only [Act.put, List.setIfInBounds_toArray, List.set_cons_zero, List.set_cons_succ, List.getElem_toArray, List.getElem_cons_zero, List.getElem_cons_succ]
  refine wpAnyH_done (by kernel_rfl) ?_ _
  refine NoPanic.normal ?_
  clear q0 q1 q2 q3 q9
  go_wp2_with fail
  exact bodyPost_ret (v := .agg #[.slice a1 F.length c1, .int .i64 4, .float .f64 0, .bool false, .float .f64 0, .slice none 0 0, .int .i64 0, .int .i64 0, .bool false, .int .u64 count, .float .f64 z, .slice none 0 0, .int .i64 0, .bool true, .int .i32 sch, .float .f64 zt, .int .u64 zc, .slice a15 Rn.length k15, .slice a16 Rp.length k16, .slice a18 Dn.length k18, .slice a19 Dp.length k19, .slice none 0 0, .int .u64 0, .float .f64 0, .slice none 0 0, .bool false, .int .i64 0]) (Mt.res1 Tryz.results13 _ _ _ _ _ rfl (Big.loaded_whole 55 (w.heap.size + 1) 55 _ HXf.out _ Tryz.underlying55 rfl hsz)) rfl HF.out.1

end Go.Proofs.YtlolomodcbkblaaGreatDoor.Cn
