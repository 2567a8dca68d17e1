/- A constant native histogram read back (impl.histOf). -/
import Derived.Test.YtlolomodcbkblaaGreatDoorMg16
import Derived.Test.YtlolomodcbkblaaGreatDoorMg13
import Derived.Test.YtlolomodcbkblaaGreatDoorMg17
import Derived.Test.YtlolomodcbkblaaGreatDoorMg7
import Derived.Test.YtlolomodcbkblaaGreatDoorMtv
import Derived.Deep.RegionHeld3
set_option linter.unusedVariables false
set_option linter.unusedSimpArgs false
namespace Go.Proofs.YtlolomodcbkblaaGreatDoor.Cn
open Go.RowKit Go.Maps Go.WideMaps Go.ChangeShapes Go.WideShapes Go.Deep Fp Obs _root_.Go.Proofs.YtlolomodcbkblaaGreatDoor.Sp
open _root_.Go.Proofs.YtlolomodcbkblaaGreatDoor.Nd (Glob Pairs)
open _root_.Go.Proofs.YtlolomodcbkblaaGreatDoor.Mt (ptr nilp zeroM)
/-- a histogram as the thin package hands it back -/
def HistOut (count : Int) (z : Nat) (sch : Int) (zt : Nat) (zc : Int) (Rn Rp : List N2) (Dn Dp : List Int) (w : World) (e : Ending) (w' : World) : Prop :=
  ∃ a15 k15 a16 k16 a18 k18 a19 k19, e = .returned (.agg #[.int .u64 count, .float .f64 z, .slice none 0 0, .int .i64 0, .bool true, .int .i32 sch, .float .f64 zt, .int .u64 zc, .slice a15 Rn.length k15, .slice a16 Rp.length k16, .slice a18 Dn.length k18, .slice a19 Dp.length k19, .slice none 0 0]) ∧ w'.ownsRow w.heap.size 320 2 (.slice a15 Rn.length k15) Rn.length (Rn.flatMap rc) ∧ w'.ownsRow w.heap.size 320 2 (.slice a16 Rp.length k16) Rp.length (Rp.flatMap rc) ∧ w'.ownsRow w.heap.size 2 1 (.slice a18 Dn.length k18) Dn.length (Dn.map (Value.int .i64)) ∧ w'.ownsRow w.heap.size 2 1 (.slice a19 Dp.length k19) Dp.length (Dp.map (Value.int .i64)) ∧ Below w.heap.size w w'
theorem flat_one' (l : List Int) : (l.flatMap fun z => [Value.int .i64 z]) = l.map (Value.int .i64) := by
  induction l with
  | nil => rfl
  | cons x l ih => rw [List.flatMap_cons, List.map_cons, ih]; rfl
theorem bdr1 {B : Nat} {A w : World} (h : Below B A w) : Below B A w.drew := h.drew

set_option maxHeartbeats 8000000 in
set_option maxRecDepth 100000 in
theorem histOf_any (hb : Nat) (count : Int) (z : Nat) (sch : Int) (zt : Nat) (zc : Int) (vsn vdn vsp vdp : Value) (Rn Rp : List N2) (Dn Dp : List Int) (w : World) (h : HC w hb count z sch zt zc vsn vdn vsp vdp) (hn : Spans w vsn Rn) (hp' : Spans w vsp Rp) (hdn : Sl.Of (Value.int .i64) w vdn Dn) (hdp : Sl.Of (Value.int .i64) w vdp Dp) (lRn : Rn.length ≤ 2147483648) (lRp : Rp.length ≤ 2147483648) (lDn : Dn.length ≤ 2147483648) (lDp : Dp.length ≤ 2147483648) :
    Calls Tryz.prog 130 #[hp hb] w (HistOut count z sch zt zc Rn Rp Dn Dp w) := by
  obtain ⟨an, nn, cn, rfl⟩ : ∃ a n c, vsn = .slice a n c := by obtain ⟨q, _, hq, _⟩ := hn; obtain ⟨a, c, rfl⟩ := ptr_slice hq; exact ⟨_, _, _, rfl⟩
  obtain ⟨ap, np, cp, rfl⟩ : ∃ a n c, vsp = .slice a n c := by obtain ⟨q, _, hq, _⟩ := hp'; obtain ⟨a, c, rfl⟩ := ptr_slice hq; exact ⟨_, _, _, rfl⟩
  obtain ⟨adn, cdn, rfl⟩ := int_slice hdn
  obtain ⟨adp, cdp, rfl⟩ := int_slice hdp
  obtain ⟨A, hA⟩ : ∃ A, A = w.alloc (.cells #[.int .u64 0, .float .f64 0, .slice none 0 0, .int .i64 0, .bool false, .int .i32 0, .float .f64 0, .int .u64 0, .slice none 0 0, .slice none 0 0, .slice none 0 0, .slice none 0 0, .slice none 0 0] 37) := ⟨_, rfl⟩
  have s1 : A.heap.size = w.heap.size + 1 := by rw [hA]; simp
  have hb0 : Below w.heap.size w A := by rw [hA]; exact (Below.refl _ _).alloc (Nat.le_refl _) _
  have hx0 : Whole A w.heap.size 37 #[.int .u64 0, .float .f64 0, .slice none 0 0, .int .i64 0, .bool false, .int .i32 0, .float .f64 0, .int .u64 0, .slice none 0 0, .slice none 0 0, .slice none 0 0, .slice none 0 0, .slice none 0 0] := by rw [hA]; exact Whole.made w _ _
  have HH : Hid (∀ W, Below A.heap.size A W → HC W hb count z sch zt zc (.slice an nn cn) (.slice adn Dn.length cdn) (.slice ap np cp) (.slice adp Dp.length cdp)) := fun W k => (h.below hb0).below k
  obtain ⟨c0, c1, ct, sc, zb, zz, g0, g1, g2, g3, g4, g5, g6, p0, p1, p2, p3, p4, p5⟩ := (h.below hb0).cells
  have key : Hid (∀ W, Below A.heap.size A W → ∀ {b j : Nat} {v : Value}, A.cell? ⟨b, j, none⟩ = some v → W.cell? ⟨b, j, none⟩ = some v) := fun W k {b j v} g => (k.cell (p := ⟨b, j, none⟩) (cell_lt g)).trans g
  have HQ1 : Hid (∀ W, Below A.heap.size A W → HC W hb count z sch zt zc (.slice an nn cn) (.slice adn Dn.length cdn) (.slice ap np cp) (.slice adp Dp.length cdp) ∧ W.cell? ⟨hb, 2, none⟩ = some (ptr c1) ∧ W.cell? ⟨c1, 0, none⟩ = some (.float .f64 z)) := fun W k => ⟨HH.out W k, key.out W k g1, key.out W k p1⟩
  have hsz : (Tryz.prog.info? 37).map (·.size) = some 13 := by kernel_rfl
  have q0 := HQ1.out A.drew (bdr1 (Below.refl _ _))
  have HN : Hid (∀ W, Below A.heap.size A W → Spans W (.slice an nn cn) Rn ∧ Spans W (.slice ap np cp) Rp ∧ Sl.Of (Value.int .i64) W (.slice adn Dn.length cdn) Dn ∧ Sl.Of (Value.int .i64) W (.slice adp Dp.length cdp) Dp) := fun W k => ⟨spans_below (spans_below hn hb0) k, spans_below (spans_below hp' hb0) k, (hdn.below hb0).below k, (hdp.below hb0).below k⟩
  have HZ0 : Hid (∀ W, Below A.heap.size A W → Whole W w.heap.size 37 #[.int .u64 0, .float .f64 0, .slice none 0 0, .int .i64 0, .bool false, .int .i32 0, .float .f64 0, .int .u64 0, .slice none 0 0, .slice none 0 0, .slice none 0 0, .slice none 0 0, .slice none 0 0]) := fun W k => (k.block _ hx0.lt).trans hx0
  have HU : Hid (∀ W, Below A.heap.size A W → Below w.heap.size w W) := fun W k => hb0.trans (k.mono (by omega))
  have HS1 : Hid (A.heap.size = w.heap.size + 1) := s1
  clear s1 h hb0 hn hp' hdn hdp
  go_enter Tryz.func130, Tryz.ntmps130
  go_upto_region 1 with fail
  rw [← hA]
  clear hA
  refine wp_region_noPanic ?_
  refine wp_region_held_drew (S := fun W => HC W hb count z sch zt zc (.slice an nn cn) (.slice adn Dn.length cdn) (.slice ap np cp) (.slice adp Dp.length cdp) ∧ W.cell? ⟨hb, 2, none⟩ = some (ptr c1) ∧ W.cell? ⟨c1, 0, none⟩ = some (.float .f64 z)) (by kernel_rfl) (by (with_reducible exact q0)) (fun hHeld => ?_)
  refine wpAnyH_take (i := 0) (v := ?_) rfl (by kernel_rfl) (by kernel_rfl) (by kernel_rfl) (fun _ _ _ h => h) (Or.inl ⟨by rfl, ?_⟩) hHeld ?_
  rotate_left
  · intro w hSw; (try dsimp only at hSw); go_simp; (try with_reducible rfl)
  try simp only [Act.put, List.setIfInBounds_toArray, List.set_cons_zero, List.set_cons_succ, List.getElem_toArray, List.getElem_cons_zero, List.getElem_cons_succ]
  refine Calm.take (i := 1) (v := .int .u64 count) rfl (by kernel_rfl) (by kernel_rfl) (by kernel_rfl) (fun _ _ _ h => h) ⟨by rfl, fun W hSw => ⟨151, #[hp hb], ?_, getCount_any hb count z sch zt zc _ _ _ _ W hSw.1⟩⟩ hHeld ?_
  · go_simp; (try with_reducible rfl)
  try simp only [Act.put, List.setIfInBounds_toArray, List.set_cons_zero, List.set_cons_succ, List.getElem_toArray, List.getElem_cons_zero, List.getElem_cons_succ]
  refine wpAnyH_take (i := 2) (v := ?_) rfl (by kernel_rfl) (by kernel_rfl) (by kernel_rfl) (fun _ _ _ h => h) (Or.inl ⟨by rfl, ?_⟩) hHeld ?_
  rotate_left
  · intro w hSw; (try dsimp only at hSw); go_simp; (try with_reducible rfl)
  try simp only [Act.put, List.setIfInBounds_toArray, List.set_cons_zero, List.set_cons_succ, List.getElem_toArray, List.getElem_cons_zero, List.getElem_cons_succ]
  refine wpAnyH_take (i := 3) (v := ?_) rfl (by kernel_rfl) (by kernel_rfl) (by kernel_rfl) (fun _ _ _ h => h) (Or.inl ⟨by rfl, ?_⟩) hHeld ?_
  rotate_left
  · intro w hSw; (try dsimp only at hSw); go_simp; (try with_reducible rfl)
  try simp only [Act.put, List.setIfInBounds_toArray, List.set_cons_zero, List.set_cons_succ, List.getElem_toArray, List.getElem_cons_zero, List.getElem_cons_succ]
  refine wpAnyH_take (i := 4) (v := ?_) rfl (by kernel_rfl) (by kernel_rfl) (by kernel_rfl) (fun _ _ _ h => h) (Or.inl ⟨by rfl, ?_⟩) hHeld ?_
  rotate_left
  · intro w hSw; (try dsimp only at hSw); go_simp; (try with_reducible rfl)
  try simp only [Act.put, List.setIfInBounds_toArray, List.set_cons_zero, List.set_cons_succ, List.getElem_toArray, List.getElem_cons_zero, List.getElem_cons_succ]
  refine wpAnyH_take (i := 5) (v := ?_) rfl (by kernel_rfl) (by kernel_rfl) (by kernel_rfl) (fun _ _ _ h => h) (Or.inl ⟨by rfl, ?_⟩) hHeld ?_
  rotate_left
  · intro w hSw; (try dsimp only at hSw); go_simp; (try with_reducible rfl)
  try simp only [Act.put, List.setIfInBounds_toArray, List.set_cons_zero, List.set_cons_succ, List.getElem_toArray, List.getElem_cons_zero, List.getElem_cons_succ]
  refine wpAnyH_take (i := 6) (v := ?_) rfl (by kernel_rfl) (by kernel_rfl) (by kernel_rfl) (fun _ _ _ h => h) (Or.inl ⟨by rfl, ?_⟩) hHeld ?_
  rotate_left
  · intro w hSw; (try dsimp only at hSw); go_simp; (try with_reducible rfl)
  try simp only [Act.put, List.setIfInBounds_toArray, List.set_cons_zero, List.set_cons_succ, List.getElem_toArray, List.getElem_cons_zero, List.getElem_cons_succ]
  refine wpAnyH_take (i := 7) (v := ?_) rfl (by kernel_rfl) (by kernel_rfl) (by kernel_rfl) (fun _ _ _ h => h) (Or.inl ⟨by rfl, ?_⟩) hHeld ?_
  rotate_left
  · intro w hSw; (try dsimp only at hSw); go_simp; (try with_reducible rfl)
  try simp only [Act.put, List.setIfInBounds_toArray, List.set_cons_zero, List.set_cons_succ, List.getElem_toArray, List.getElem_cons_zero, List.getElem_cons_succ]
  refine wpAnyH_take (i := 8) (v := ?_) rfl (by kernel_rfl) (by kernel_rfl) (by kernel_rfl) (fun _ _ _ h => h) (Or.inl ⟨by rfl, ?_⟩) hHeld ?_
  rotate_left
  · intro w hSw; (try dsimp only at hSw); go_simp; (try with_reducible rfl)
  try simp only [Act.put, List.setIfInBounds_toArray, List.set_cons_zero, List.set_cons_succ, List.getElem_toArray, List.getElem_cons_zero, List.getElem_cons_succ]
  refine wpAnyH_ready (rs := [9]) (by kernel_rfl) (by simp) (AllReadyH.cons rfl (fun K hK => ?_) AllReadyH.nil)
  go_simp
  obtain ⟨y1, hy⟩ : ∃ y, y = (A.alloc (.cells #[.int .u64 0, .float .f64 0, .slice none 0 0, .int .i64 0, .bool false, .int .i32 0, .float .f64 0, .int .u64 0, .slice none 0 0, .slice none 0 0, .slice none 0 0, .slice none 0 0, .slice none 0 0] 37)).drew := ⟨_, rfl⟩; rw [← hy]; have HX1 : Hid (Whole y1 A.heap.size 37 #[.int .u64 0, .float .f64 0, .slice none 0 0, .int .i64 0, .bool false, .int .i32 0, .float .f64 0, .int .u64 0, .slice none 0 0, .slice none 0 0, .slice none 0 0, .slice none 0 0, .slice none 0 0]) := (by rw [hy]; exact Whole.made A _ _); have HE1 : Hid (Below A.heap.size A y1) := (by rw [hy]; exact bdr1 ((Below.refl _ _).alloc (Nat.le_refl _) _)); have q1 := HQ1.out _ HE1.out; clear hy
  refine hK.out _ _ ?_ (fun hHeld2 => ?_)
  · first | (with_reducible exact q1) | (with_reducible exact q2)
  clear hK K hHeld; have hHeld := hHeld2; clear hHeld2
  try simp only [Act.put, List.setIfInBounds_toArray, List.set_cons_zero, List.set_cons_succ, List.getElem_toArray, List.getElem_cons_zero, List.getElem_cons_succ]
  refine wpAnyH_ready (rs := [10]) (by kernel_rfl) (by simp) (AllReadyH.cons rfl (fun K hK => ?_) AllReadyH.nil)
  rw [if_pos (by rfl)]
  refine Big.wp_store_whole _ _ _ rfl A.heap.size 37 _ #[.int .u64 count, .float .f64 z, .slice none 0 0, .int .i64 0, .bool false, .int .i32 0, .float .f64 0, .int .u64 0, .slice none 0 0, .slice none 0 0, .slice none 0 0, .slice none 0 0, .slice none 0 0] rfl rfl HX1.out rfl hsz (by simp [Value.oneCell']) ?_; intro y2 hx2 hg2 hs2; have HX2 := Lib.hid hx2; have HE2 : Hid (Below A.heap.size A y2) := HE1.out.grown hg2 HE1.out.size (fun j hj => by injection hj with hj; omega); have q2 := HQ1.out _ HE2.out; clear hx2 hg2 hs2
  refine hK.out _ _ ?_ (fun hHeld2 => ?_)
  · first | (with_reducible exact q1) | (with_reducible exact q2)
  clear hK K hHeld; have hHeld := hHeld2; clear hHeld2
  try simp only [Act.put, List.setIfInBounds_toArray, List.set_cons_zero, List.set_cons_succ, List.getElem_toArray, List.getElem_cons_zero, List.getElem_cons_succ]
  refine wpAnyH_done (by kernel_rfl) ?_ _
  refine NoPanic.normal ?_
  have kg2 := key.out _ HE2.out g2
  have kg3 := key.out _ HE2.out g3
  have kp2 := key.out _ HE2.out p2
  have kg4 := key.out _ HE2.out g4
  have x3 : y2.cell? ⟨A.heap.size, 3, none⟩ = some (.int .i64 0) := HX2.out.cell 3
  have f3 := HX2.out.free 3
  clear q0 q1 q2 HX1 HE1 HQ1
  go_wp2_with fail
  go_loopw [23] (fun vk wr => vk = .int .i64 0 ∧ y2 = wr) (fun _ _ => 0)
  case atStart => exact ⟨rfl, rfl⟩
  case round =>
    obtain ⟨rfl, rfl⟩ := hrel
    go_upto_region 13 with fail
    obtain ⟨W13, hW13⟩ : ∃ W13, W13 = y2.setCell ⟨A.heap.size, 3, none⟩ (.int .i64 0) := ⟨_, rfl⟩
    rw [← hW13]
    have HX13 : Hid (Whole W13 A.heap.size 37 #[.int .u64 count, .float .f64 z, .slice none 0 0, .int .i64 0, .bool false, .int .i32 0, .float .f64 0, .int .u64 0, .slice none 0 0, .slice none 0 0, .slice none 0 0, .slice none 0 0, .slice none 0 0]) := by rw [hW13]; exact HX2.out.put 3 (.int .i64 0)
    have HB13 : Hid (Below A.heap.size A W13) := by rw [hW13]; exact HE2.out.setCell (Nat.le_refl _) _
    have HS13 : Hid (∀ W, Below A.heap.size A W → HC W hb count z sch zt zc (.slice an nn cn) (.slice adn Dn.length cdn) (.slice ap np cp) (.slice adp Dp.length cdp) ∧ W.cell? ⟨hb, 5, none⟩ = some (ptr sc) ∧ W.cell? ⟨sc, 0, none⟩ = some (.int .i32 sch)) := fun W k => ⟨HH.out W k, key.out W k g4, key.out W k p3⟩
    have x4 : W13.cell? ⟨A.heap.size, 4, none⟩ = some (.bool false) := HX13.out.cell 4
    have x5 : W13.cell? ⟨A.heap.size, 5, none⟩ = some (.int .i32 0) := HX13.out.cell 5
    have x6 : W13.cell? ⟨A.heap.size, 6, none⟩ = some (.float .f64 0) := HX13.out.cell 6
    have x7 : W13.cell? ⟨A.heap.size, 7, none⟩ = some (.int .u64 0) := HX13.out.cell 7
    have f4 := HX13.out.free 4
    have f5 := HX13.out.free 5
    have f6 := HX13.out.free 6
    have f7 := HX13.out.free 7
    have hsf := @Flo.run_store_float Tryz.prog
    clear hW13 x3 f3 kg2 kg3 kp2 kg4
    go_region_held3 (fun W => HC W hb count z sch zt zc (.slice an nn cn) (.slice adn Dn.length cdn) (.slice ap np cp) (.slice adp Dp.length cdp) ∧ W.cell? ⟨hb, 5, none⟩ = some (ptr sc) ∧ W.cell? ⟨sc, 0, none⟩ = some (.int .i32 sch)) (first | (with_reducible exact HS13.out _ HB13.out.drew) | (with_reducible exact HS13.out _ (HB13.out.setCell (Nat.le_refl _) _).drew) | (with_reducible exact HS13.out _ ((HB13.out.setCell (Nat.le_refl _) _).setCell (Nat.le_refl _) _).drew) | (with_reducible exact HS13.out _ (((HB13.out.setCell (Nat.le_refl _) _).setCell (Nat.le_refl _) _).setCell (Nat.le_refl _) _).drew) | (with_reducible exact HS13.out _ ((((HB13.out.setCell (Nat.le_refl _) _).setCell (Nat.le_refl _) _).setCell (Nat.le_refl _) _).setCell (Nat.le_refl _) _).drew))
      (first
        | (go_at_call 153; refine (getZT_any hb count z sch zt zc _ _ _ _ _ (HH.out _ HB13.out.drew)).mono ?_; rintro e w' ⟨rfl, rfl⟩)
        | (go_at_call 154; refine (getZC_any hb count z sch zt zc _ _ _ _ _ (HH.out _ HB13.out.drew)).mono ?_; rintro e w' ⟨rfl, rfl⟩))
    obtain ⟨W14, hW14⟩ : ∃ W14, W14 = ((((W13.setCell ⟨A.heap.size, 4, none⟩ (.bool true)).setCell ⟨A.heap.size, 5, none⟩ (.int .i32 sch)).setCell ⟨A.heap.size, 6, none⟩ (.float .f64 zt)).setCell ⟨A.heap.size, 7, none⟩ (.int .u64 zc)).drew := ⟨_, rfl⟩
    rw [← hW14]
    have HX14 : Hid (Whole W14 A.heap.size 37 #[.int .u64 count, .float .f64 z, .slice none 0 0, .int .i64 0, .bool true, .int .i32 sch, .float .f64 zt, .int .u64 zc, .slice none 0 0, .slice none 0 0, .slice none 0 0, .slice none 0 0, .slice none 0 0]) := by rw [hW14]; exact (((HX13.out.put 4 (.bool true)).put 5 (.int .i32 sch)).put 6 (.float .f64 zt)).put 7 (.int .u64 zc)
    have HB14 : Hid (Below A.heap.size A W14) := by rw [hW14]; exact ((((HB13.out.setCell (Nat.le_refl _) _).setCell (Nat.le_refl _) _).setCell (Nat.le_refl _) _).setCell (Nat.le_refl _) _).drew
    clear hW14 x4 x5 x6 x7 f4 f5 f6 f7 HS13 HX13 HB13
    have HS14 : Hid (∀ W, Below A.heap.size A W → W.cell? ⟨hb, 8, none⟩ = some (.slice an nn cn) ∧ W.cell? ⟨hb, 10, none⟩ = some (.slice ap np cp)) := fun W k => by
      have h := HH.out W k
      exact ⟨h.c7, h.c9⟩
    have CR : Hid (∀ (R : List N2) v W, Below A.heap.size A W → R.length ≤ 2147483648 → Spans W v R → Calls Tryz.prog 155 #[v] W (fun e w' => ∃ a c, e = .returned (.slice a R.length c) ∧ w'.ownsRow W.heap.size 320 2 (.slice a R.length c) R.length (R.flatMap rc) ∧ Below A.heap.size A w' ∧ Below W.heap.size W w')) := fun R v W k hl hs => by
      refine (runs_own R v W hs hl).mono ?_
      rintro e w' ⟨u, rfl, ho, hb⟩
      obtain ⟨a, c, rfl⟩ := row_slice2 ho
      exact ⟨a, c, rfl, ho, k.trans (hb.mono k.size), hb⟩
    have hltx := HX14.out.lt
    have HD14 : Hid (Below A.heap.size A W14.drew) := HB14.out.drew
    have HXd : Hid (Whole W14.drew A.heap.size 37 #[.int .u64 count, .float .f64 z, .slice none 0 0, .int .i64 0, .bool true, .int .i32 sch, .float .f64 zt, .int .u64 zc, .slice none 0 0, .slice none 0 0, .slice none 0 0, .slice none 0 0, .slice none 0 0]) := HX14.out
    go_upto_region 14 with fail
    go_region_held3 (fun W => W.cell? ⟨hb, 8, none⟩ = some (.slice an nn cn) ∧ W.cell? ⟨hb, 10, none⟩ = some (.slice ap np cp)) (first | (with_reducible exact HS14.out _ HD14.out) | (with_reducible exact q15) | (with_reducible exact q16) | (with_reducible exact HS14.out _ (HE16.out.setCell (Nat.le_refl _) _)) | (with_reducible exact HS14.out _ ((HE16.out.setCell (Nat.le_refl _) _).setCell (Nat.le_refl _) _)))
      (first
        | ((fail_if_success (have := HE15.out)); go_at_call 155; refine (CR.out Rn _ _ HD14.out lRn (HN.out _ HD14.out).1).mono ?_; rintro e W15 ⟨a15, k15, rfl, ho, hb, hb'⟩; have HE15 := Lib.hid hb; have HO15 := Lib.hid ho; have HX15 : Hid (Whole W15 A.heap.size 37 #[.int .u64 count, .float .f64 z, .slice none 0 0, .int .i64 0, .bool true, .int .i32 sch, .float .f64 zt, .int .u64 zc, .slice none 0 0, .slice none 0 0, .slice none 0 0, .slice none 0 0, .slice none 0 0]) := (hb'.block _ HXd.out.lt).trans HXd.out; have q15 := HS14.out _ hb; have HL15 : Hid (A.heap.size < W14.drew.heap.size) := HXd.out.lt; clear ho hb hb')
        | (go_at_call 155; refine (CR.out Rp _ _ HE15.out lRp (HN.out _ HE15.out).2.1).mono ?_; rintro e W16 ⟨a16, k16, rfl, ho, hb, hb'⟩; have HE16 := Lib.hid hb; have HO16 := Lib.hid ho; have HO15b : Hid (W16.ownsRow W14.drew.heap.size 320 2 (.slice a15 Rn.length k15) Rn.length (Rn.flatMap rc)) := Nd.own_below HO15.out hb'; have HX16 : Hid (Whole W16 A.heap.size 37 #[.int .u64 count, .float .f64 z, .slice none 0 0, .int .i64 0, .bool true, .int .i32 sch, .float .f64 zt, .int .u64 zc, .slice none 0 0, .slice none 0 0, .slice none 0 0, .slice none 0 0, .slice none 0 0]) := (hb'.block _ HX15.out.lt).trans HX15.out; have q16 := HS14.out _ hb; have HL16 : Hid (A.heap.size < W15.heap.size) := HX15.out.lt; have x8 : W16.cell? ⟨A.heap.size, 8, none⟩ = some (.slice none 0 0) := HX16.out.cell 8; have x9 : W16.cell? ⟨A.heap.size, 9, none⟩ = some (.slice none 0 0) := HX16.out.cell 9; have f8 := HX16.out.free 8; have f9 := HX16.out.free 9; clear ho hb hb'))
    obtain ⟨W17, hW17⟩ : ∃ W17, W17 = ((W16.setCell ⟨A.heap.size, 8, none⟩ (.slice a15 Rn.length k15)).setCell ⟨A.heap.size, 9, none⟩ (.slice a16 Rp.length k16)) := ⟨_, rfl⟩
    rw [← hW17]
    have HX17 : Hid (Whole W17 A.heap.size 37 #[.int .u64 count, .float .f64 z, .slice none 0 0, .int .i64 0, .bool true, .int .i32 sch, .float .f64 zt, .int .u64 zc, .slice a15 Rn.length k15, .slice a16 Rp.length k16, .slice none 0 0, .slice none 0 0, .slice none 0 0]) := by rw [hW17]; exact (HX16.out.put 8 (.slice a15 Rn.length k15)).put 9 (.slice a16 Rp.length k16)
    have HB17 : Hid (Below A.heap.size A W17) := by rw [hW17]; exact (HE16.out.setCell (Nat.le_refl _) _).setCell (Nat.le_refl _) _
    have HR17 : Hid (W17.ownsRow W14.drew.heap.size 320 2 (.slice a15 Rn.length k15) Rn.length (Rn.flatMap rc) ∧ W17.ownsRow W15.heap.size 320 2 (.slice a16 Rp.length k16) Rp.length (Rp.flatMap rc)) := by
      rw [hW17]; exact ⟨Nd.own_set (Nd.own_set HO15b.out HL15.out) HL15.out, Nd.own_set (Nd.own_set HO16.out HL16.out) HL16.out⟩
    clear hW17 x8 x9 f8 f9 q15 q16 HO15 HO15b HO16 HX16 HE16 HX15 HE15 HX14 HB14 HD14 HXd HS14 CR
    have HS17 : Hid (∀ W, Below A.heap.size A W → W.cell? ⟨hb, 9, none⟩ = some (.slice adn Dn.length cdn) ∧ W.cell? ⟨hb, 11, none⟩ = some (.slice adp Dp.length cdp)) := fun W k => by
      have h := HH.out W k
      exact ⟨h.c8, h.c10⟩
    have HD17 : Hid (Below A.heap.size A W17.drew) := HB17.out.drew
    have HXd : Hid (Whole W17.drew A.heap.size 37 #[.int .u64 count, .float .f64 z, .slice none 0 0, .int .i64 0, .bool true, .int .i32 sch, .float .f64 zt, .int .u64 zc, .slice a15 Rn.length k15, .slice a16 Rp.length k16, .slice none 0 0, .slice none 0 0, .slice none 0 0]) := HX17.out
    have HRd : Hid (W17.drew.ownsRow W14.drew.heap.size 320 2 (.slice a15 Rn.length k15) Rn.length (Rn.flatMap rc) ∧ W17.drew.ownsRow W15.heap.size 320 2 (.slice a16 Rp.length k16) Rp.length (Rp.flatMap rc)) := HR17.out
    obtain ⟨i0, hi, hz0, hz1, hz2⟩ := info_parts _root_.Go.Proofs.YtlolomodcbkblaaGreatDoor.Mt.infoI64
    have HOneI : Hid (∀ z : Int, ∀ u ∈ [Value.int .i64 z], u.oneCell' = true) := fun z u hu => by rw [List.mem_singleton.1 hu]; rfl
    go_upto_region 15 with fail
    go_region_held3 (fun W => W.cell? ⟨hb, 9, none⟩ = some (.slice adn Dn.length cdn) ∧ W.cell? ⟨hb, 11, none⟩ = some (.slice adp Dp.length cdp)) (first | (with_reducible exact HS17.out _ HD17.out) | (with_reducible exact q18) | (with_reducible exact q19) | (with_reducible exact HS17.out _ (HE19.out.setCell (Nat.le_refl _) _)) | (with_reducible exact HS17.out _ ((HE19.out.setCell (Nat.le_refl _) _).setCell (Nat.le_refl _) _)))
      (first
        | ((fail_if_success (have := HE18.out)); refine Nd.step_of (by rfl) (.const (.slice none 0 0)) (.tmp 102) 34 (by rfl) W17.drew.heap.size 2 i0 (.int .i64 0) 1 8 Tryz.underlying34 hi hz0 hz1 hz2 rfl (by decide) _ 0 [] (by rfl) (World.ownsRow_nil _ _ _ _) (c := fun z => [Value.int .i64 z]) (fun _ => rfl) HOneI.out Dn _ (by rfl) (Nd.sl_ss (HN.out _ HD17.out).2.2.1) (by unfold maxLen; omega) (by omega) (Nat.le_refl _) ?_; intro v18 W18 ho hg hl; rw [Nat.zero_add, List.nil_append] at ho; obtain ⟨a18, k18, rfl⟩ := row_slice2 ho; have HE18 : Hid (Below A.heap.size A W18) := HD17.out.grown hg HD17.out.size (fun j hj => by cases hj); have q18 := HS17.out _ HE18.out; have HX18 : Hid (Whole W18 A.heap.size 37 #[.int .u64 count, .float .f64 z, .slice none 0 0, .int .i64 0, .bool true, .int .i32 sch, .float .f64 zt, .int .u64 zc, .slice a15 Rn.length k15, .slice a16 Rp.length k16, .slice none 0 0, .slice none 0 0, .slice none 0 0]) := (hg.block _ HXd.out.lt (by intro e; cases e)).trans HXd.out; have HR18 : Hid (W18.ownsRow W14.drew.heap.size 320 2 (.slice a15 Rn.length k15) Rn.length (Rn.flatMap rc) ∧ W18.ownsRow W15.heap.size 320 2 (.slice a16 Rp.length k16) Rp.length (Rp.flatMap rc)) := ⟨HRd.out.1.kept (row := none) hg (by cases (Value.slice a15 Rn.length k15).ownBlock <;> simp), HRd.out.2.kept (row := none) hg (by cases (Value.slice a16 Rp.length k16).ownBlock <;> simp)⟩; have HO18 : Hid (W18.ownsRow W17.drew.heap.size 2 1 (.slice a18 Dn.length k18) Dn.length (Dn.flatMap fun z => [Value.int .i64 z])) := ho; clear ho hg hl)
        | (refine Nd.step_of (by rfl) (.const (.slice none 0 0)) (.tmp 107) 34 (by rfl) W18.heap.size 2 i0 (.int .i64 0) 1 8 Tryz.underlying34 hi hz0 hz1 hz2 rfl (by decide) _ 0 [] (by rfl) (World.ownsRow_nil _ _ _ _) (c := fun z => [Value.int .i64 z]) (fun _ => rfl) HOneI.out Dp _ (by rfl) (Nd.sl_ss (HN.out _ HE18.out).2.2.2) (by unfold maxLen; omega) (by omega) (Nat.le_refl _) ?_; intro v19 W19 ho hg hl; rw [Nat.zero_add, List.nil_append] at ho; obtain ⟨a19, k19, rfl⟩ := row_slice2 ho; have HE19 : Hid (Below A.heap.size A W19) := HE18.out.grown hg HE18.out.size (fun j hj => by cases hj); have q19 := HS17.out _ HE19.out; have HX19 : Hid (Whole W19 A.heap.size 37 #[.int .u64 count, .float .f64 z, .slice none 0 0, .int .i64 0, .bool true, .int .i32 sch, .float .f64 zt, .int .u64 zc, .slice a15 Rn.length k15, .slice a16 Rp.length k16, .slice none 0 0, .slice none 0 0, .slice none 0 0]) := (hg.block _ HX18.out.lt (by intro e; cases e)).trans HX18.out; have HR19 : Hid (W19.ownsRow W14.drew.heap.size 320 2 (.slice a15 Rn.length k15) Rn.length (Rn.flatMap rc) ∧ W19.ownsRow W15.heap.size 320 2 (.slice a16 Rp.length k16) Rp.length (Rp.flatMap rc)) := ⟨HR18.out.1.kept (row := none) hg (by cases (Value.slice a15 Rn.length k15).ownBlock <;> simp), HR18.out.2.kept (row := none) hg (by cases (Value.slice a16 Rp.length k16).ownBlock <;> simp)⟩; have HO19 : Hid (W19.ownsRow W18.heap.size 2 1 (.slice a19 Dp.length k19) Dp.length (Dp.flatMap fun z => [Value.int .i64 z])) := ho; have HO18b : Hid (W19.ownsRow W17.drew.heap.size 2 1 (.slice a18 Dn.length k18) Dn.length (Dn.flatMap fun z => [Value.int .i64 z])) := HO18.out.kept (row := none) hg (by cases (Value.slice a18 Dn.length k18).ownBlock <;> simp); have x10 : W19.cell? ⟨A.heap.size, 10, none⟩ = some (.slice none 0 0) := HX19.out.cell 10; have x11 : W19.cell? ⟨A.heap.size, 11, none⟩ = some (.slice none 0 0) := HX19.out.cell 11; have f10 := HX19.out.free 10; have f11 := HX19.out.free 11; have HL17 : Hid (A.heap.size < W17.drew.heap.size) := HXd.out.lt; have HL18 : Hid (A.heap.size < W18.heap.size) := HX18.out.lt; clear ho hg hl))
    obtain ⟨W20, hW20⟩ : ∃ W20, W20 = ((W19.setCell ⟨A.heap.size, 10, none⟩ (.slice a18 Dn.length k18)).setCell ⟨A.heap.size, 11, none⟩ (.slice a19 Dp.length k19)) := ⟨_, rfl⟩
    rw [← hW20]
    have HX20 : Hid (Whole W20 A.heap.size 37 #[.int .u64 count, .float .f64 z, .slice none 0 0, .int .i64 0, .bool true, .int .i32 sch, .float .f64 zt, .int .u64 zc, .slice a15 Rn.length k15, .slice a16 Rp.length k16, .slice a18 Dn.length k18, .slice a19 Dp.length k19, .slice none 0 0]) := by rw [hW20]; exact (HX19.out.put 10 (.slice a18 Dn.length k18)).put 11 (.slice a19 Dp.length k19)
    have HB20 : Hid (Below A.heap.size A W20) := by rw [hW20]; exact (HE19.out.setCell (Nat.le_refl _) _).setCell (Nat.le_refl _) _
    have HR20 : Hid (W20.ownsRow W14.drew.heap.size 320 2 (.slice a15 Rn.length k15) Rn.length (Rn.flatMap rc) ∧ W20.ownsRow W15.heap.size 320 2 (.slice a16 Rp.length k16) Rp.length (Rp.flatMap rc) ∧ W20.ownsRow W17.drew.heap.size 2 1 (.slice a18 Dn.length k18) Dn.length (Dn.flatMap fun z => [Value.int .i64 z]) ∧ W20.ownsRow W18.heap.size 2 1 (.slice a19 Dp.length k19) Dp.length (Dp.flatMap fun z => [Value.int .i64 z])) := by
      rw [hW20]
      exact ⟨Nd.own_set (Nd.own_set HR19.out.1 HL15.out) HL15.out, Nd.own_set (Nd.own_set HR19.out.2 HL16.out) HL16.out, Nd.own_set (Nd.own_set HO18b.out HL17.out) HL17.out, Nd.own_set (Nd.own_set HO19.out HL18.out) HL18.out⟩
    clear hW20 x10 x11 f10 f11 q18 q19 HR19 HO19 HO18 HO18b HX19 HE19 HX18 HE18 HR18 HX17 HB17 HR17 HD17 HXd HRd HS17
    have kh := HH.out W20 HB20.out
    have kh12 : W20.cell? ⟨hb, 12, none⟩ = some (.slice none 0 0) := kh.c11
    have hx0' : Whole W20 w.heap.size 37 #[.int .u64 0, .float .f64 0, .slice none 0 0, .int .i64 0, .bool false, .int .i32 0, .float .f64 0, .int .u64 0, .slice none 0 0, .slice none 0 0, .slice none 0 0, .slice none 0 0, .slice none 0 0] := HZ0.out W20 HB20.out
    have HOut : Hid (∀ Wf, W20.grownBy Wf (some w.heap.size) → Wf.heap.size = W20.heap.size → HistOut count z sch zt zc Rn Rp Dn Dp w (.returned (.agg #[.int .u64 count, .float .f64 z, .slice none 0 0, .int .i64 0, .bool true, .int .i32 sch, .float .f64 zt, .int .u64 zc, .slice a15 Rn.length k15, .slice a16 Rp.length k16, .slice a18 Dn.length k18, .slice a19 Dp.length k19, .slice none 0 0])) Wf) := fun Wf hg hs => by
      have hz := HB20.out.size
      have h1 := HS1.out
      have kp : ∀ {B e sz n : Nat} {v : Value} {xs : List Value}, A.heap.size < B → W20.ownsRow B e sz v n xs → Wf.ownsRow B e sz v n xs := fun {B e sz n v xs} hB ho => by
        refine ho.kept hg ?_
        cases hv : v.ownBlock with
        | none => exact Or.inl rfl
        | some g => exact Or.inr (by have := (ho.lt g hv).1; intro e; injection e with e; omega)
      refine ⟨a15, k15, a16, k16, a18, k18, a19, k19, rfl, Nd.own_base (kp HL15.out HR20.out.1) (by have := HL15.out; omega), Nd.own_base (kp HL16.out HR20.out.2.1) (by have := HL16.out; omega), ?_, ?_, (HU.out _ HB20.out).grown hg (by omega) (fun j hj => by injection hj with hj; omega)⟩
      · have h := kp HL17.out HR20.out.2.2.1
        rw [flat_one'] at h
        exact Nd.own_base h (by have := HL17.out; omega)
      · have h := kp HL18.out HR20.out.2.2.2
        rw [flat_one'] at h
        exact Nd.own_base h (by have := HL18.out; omega)
    clear kh HR20 HL15 HL16 HL17 HL18
    go_wp2_with fail
    go_loopw [116] (fun vk wr => vk = .int .i64 0 ∧ W20 = wr) (fun _ _ => 0)
    case atStart => exact ⟨rfl, rfl⟩
    case round =>
      obtain ⟨rfl, rfl⟩ := hrel
      go_upto_region 21 with fail
      refine wp_region_lit ?_
      refine Big.wpList_load_whole rfl _ _ rfl A.heap.size 37 #[.int .u64 count, .float .f64 z, .slice none 0 0, .int .i64 0, .bool true, .int .i32 sch, .float .f64 zt, .int .u64 zc, .slice a15 Rn.length k15, .slice a16 Rp.length k16, .slice a18 Dn.length k18, .slice a19 Dp.length k19, .slice none 0 0] rfl HX20.out _ Tryz.underlying37 rfl hsz ?_
      simp only [Act.put]
      refine Big.wpList_store_whole rfl _ _ _ rfl w.heap.size 37 _ #[.int .u64 count, .float .f64 z, .slice none 0 0, .int .i64 0, .bool true, .int .i32 sch, .float .f64 zt, .int .u64 zc, .slice a15 Rn.length k15, .slice a16 Rp.length k16, .slice a18 Dn.length k18, .slice a19 Dp.length k19, .slice none 0 0] rfl rfl hx0' rfl hsz (by simp [Value.oneCell']) ?_
      intro W21 hx21 hg21 hs21
      simp only [Act.put]
      have HF := Lib.hid (HOut.out W21 hg21 hs21)
      have HX21 := Lib.hid hx21
      clear hx21 hg21 hs21 HOut
      go_wp2_with fail
      exact bodyPost_ret (v := .agg #[.int .u64 count, .float .f64 z, .slice none 0 0, .int .i64 0, .bool true, .int .i32 sch, .float .f64 zt, .int .u64 zc, .slice a15 Rn.length k15, .slice a16 Rp.length k16, .slice a18 Dn.length k18, .slice a19 Dp.length k19, .slice none 0 0]) (Mt.res1 Tryz.results130 _ _ _ _ _ rfl (Big.loaded_whole 37 w.heap.size 37 _ HX21.out _ Tryz.underlying37 rfl hsz)) rfl HF.out

end Go.Proofs.YtlolomodcbkblaaGreatDoor.Cn
