/- A metric that is a constant native histogram, read back (impl.metricOf). -/
import Derived.Test.YtlolomodcbkblaaGreatDoorCne
import Derived.Test.YtlolomodcbkblaaGreatDoorMtb
import Derived.Deep.MidRow
set_option linter.unusedVariables false
set_option linter.unusedSimpArgs false
namespace Go.Proofs.YtlolomodcbkblaaGreatDoor.Cn
open Go.RowKit Go.Maps Go.WideMaps Go.ChangeShapes Go.WideShapes Go.Deep Fp Obs _root_.Go.Proofs.YtlolomodcbkblaaGreatDoor.Sp
open _root_.Go.Proofs.YtlolomodcbkblaaGreatDoor.Nd (Glob Pairs)
open _root_.Go.Proofs.YtlolomodcbkblaaGreatDoor.Mt (ptr nilp zeroM)

/-- the rows of a native histogram's metric, the call's own from block B on -/
structure HRows (F : List P2) (Rn Rp : List N2) (Dn Dp : List Int) (B : Nat) (W : World) (v1 v2 v3 v4 v5 : Value) : Prop where
  lab : W.ownsRow B 211 2 v1 F.length (F.flatMap pc)
  neg : W.ownsRow B 320 2 v2 Rn.length (Rn.flatMap rc)
  pos : W.ownsRow B 320 2 v3 Rp.length (Rp.flatMap rc)
  down : W.ownsRow B 2 1 v4 Dn.length (Dn.map (Value.int .i64))
  up : W.ownsRow B 2 1 v5 Dp.length (Dp.map (Value.int .i64))
theorem HRows.kept {F : List P2} {Rn Rp : List N2} {Dn Dp : List Int} {B B' : Nat} {W W' : World} {v1 v2 v3 v4 v5 : Value} {b : Nat} (h : HRows F Rn Rp Dn Dp B W v1 v2 v3 v4 v5) (hg : W.grownBy W' (some b)) (hb : b < B) (hB : B' ≤ B) : HRows F Rn Rp Dn Dp B' W' v1 v2 v3 v4 v5 := by
  have k : ∀ {e sz n : Nat} {v : Value} {xs : List Value}, W.ownsRow B e sz v n xs → W'.ownsRow B' e sz v n xs := fun {e sz n v xs} ho => by
    refine Nd.own_base (ho.kept hg ?_) hB
    cases hv : v.ownBlock with
    | none => exact Or.inl rfl
    | some g => exact Or.inr (by have := (ho.lt g hv).1; intro e; injection e with e; omega)
  exact ⟨k h.lab, k h.neg, k h.pos, k h.down, k h.up⟩
/-- a native histogram's metric as the thin package hands it back -/
def MetH (F : List P2) (count : Int) (z : Nat) (sch : Int) (zt : Nat) (zc : Int) (Rn Rp : List N2) (Dn Dp : List Int) (w : World) (e : Ending) (w' : World) : Prop :=
  ∃ a1 c1 a15 k15 a16 k16 a18 k18 a19 k19, e = .returned (.agg #[.slice a1 F.length c1, .int .i64 4, .float .f64 0, .bool false, .float .f64 0, .slice none 0 0, .int .i64 0, .int .i64 0, .bool false, .int .u64 count, .float .f64 z, .slice none 0 0, .int .i64 0, .bool true, .int .i32 sch, .float .f64 zt, .int .u64 zc, .slice a15 Rn.length k15, .slice a16 Rp.length k16, .slice a18 Dn.length k18, .slice a19 Dp.length k19, .slice none 0 0, .int .u64 0, .float .f64 0, .slice none 0 0, .bool false, .int .i64 0]) ∧ HRows F Rn Rp Dn Dp w.heap.size w' (.slice a1 F.length c1) (.slice a15 Rn.length k15) (.slice a16 Rp.length k16) (.slice a18 Dn.length k18) (.slice a19 Dp.length k19) ∧ Below w.heap.size w w'
theorem Gg1 (w : World) (b i : Nat) (u : Value) : w.grownBy (w.setCell ⟨b, i, none⟩ u) (some b) :=
  ⟨rfl, rfl, rfl, by simp [World.setCell], fun k hk hne => Below.heap_setCell _ ⟨b, i, none⟩ _ k (by rintro rfl; exact hne rfl)⟩
set_option maxHeartbeats 8000000 in
set_option maxRecDepth 100000 in
theorem metricOf_h (b hb : Nat) (al : Option Addr) (cl : Nat) (F : List P2) (count : Int) (z : Nat) (sch : Int) (zt : Nat) (zc : Int) (vsn vdn vsp vdp : Value) (Rn Rp : List N2) (Dn Dp : List Int) (w : World)
    (hm : Whole w b 201 #[.slice al F.length cl, nilp, nilp, nilp, nilp, hp hb, nilp]) (hps : Pairs w (.slice al F.length cl) F) (hF : F.length ≤ 2147483647)
    (h : HC w hb count z sch zt zc vsn vdn vsp vdp) (hn : Spans w vsn Rn) (hp' : Spans w vsp Rp) (hdn : Sl.Of (Value.int .i64) w vdn Dn) (hdp : Sl.Of (Value.int .i64) w vdp Dp) (lRn : Rn.length ≤ 2147483648) (lRp : Rp.length ≤ 2147483648) (lDn : Dn.length ≤ 2147483648) (lDp : Dp.length ≤ 2147483648) :
    Calls Tryz.prog 86 #[ptr b] w (MetH F count z sch zt zc Rn Rp Dn Dp w) := by
  obtain ⟨A, hA⟩ : ∃ A, A = w.alloc (.cells #[.slice none 0 0, .int .i64 0, .float .f64 0, .bool false, .float .f64 0, .slice none 0 0, .int .i64 0, .int .i64 0, .bool false, .int .u64 0, .float .f64 0, .slice none 0 0, .int .i64 0, .bool false, .int .i32 0, .float .f64 0, .int .u64 0, .slice none 0 0, .slice none 0 0, .slice none 0 0, .slice none 0 0, .slice none 0 0, .int .u64 0, .float .f64 0, .slice none 0 0, .bool false, .int .i64 0] 40) := ⟨_, rfl⟩
  have s1 : A.heap.size = w.heap.size + 1 := by rw [hA]; simp
  have hb0 : Below w.heap.size w A := by rw [hA]; exact (Below.refl _ _).alloc (Nat.le_refl _) _
  have hx0 : Whole A w.heap.size 40 #[.slice none 0 0, .int .i64 0, .float .f64 0, .bool false, .float .f64 0, .slice none 0 0, .int .i64 0, .int .i64 0, .bool false, .int .u64 0, .float .f64 0, .slice none 0 0, .int .i64 0, .bool false, .int .i32 0, .float .f64 0, .int .u64 0, .slice none 0 0, .slice none 0 0, .slice none 0 0, .slice none 0 0, .slice none 0 0, .int .u64 0, .float .f64 0, .slice none 0 0, .bool false, .int .i64 0] := by rw [hA]; exact Whole.made w _ _
  have hbm : Whole A b 201 #[.slice al F.length cl, nilp, nilp, nilp, nilp, hp hb, nilp] := (hb0.block _ hm.lt).trans hm
  have CP := Lib.hid (_root_.Go.Proofs.YtlolomodcbkblaaGreatDoor.Nd.pairs_own F (.slice al F.length cl) A (hps.below hb0) hF)
  have HU : Hid (∀ W, Below A.heap.size A W → Below w.heap.size w W) := fun W k => hb0.trans (k.mono (by omega))
  have HM : Hid (∀ W, Below A.heap.size A W → W.cell? ⟨b, 0, none⟩ = some (.slice al F.length cl) ∧ W.cell? ⟨b, 1, none⟩ = some nilp ∧ W.cell? ⟨b, 2, none⟩ = some nilp ∧ W.cell? ⟨b, 3, none⟩ = some nilp ∧ W.cell? ⟨b, 4, none⟩ = some nilp ∧ W.cell? ⟨b, 5, none⟩ = some (hp hb) ∧ W.cell? ⟨b, 6, none⟩ = some nilp) := fun W k => by
    have g : Whole W b 201 #[.slice al F.length cl, nilp, nilp, nilp, nilp, hp hb, nilp] := (k.block _ hbm.lt).trans hbm
    exact ⟨g.cell 0, g.cell 1, g.cell 2, g.cell 3, g.cell 4, g.cell 5, g.cell 6⟩
  have HX0 : Hid (∀ W, Below A.heap.size A W → Whole W w.heap.size 40 #[.slice none 0 0, .int .i64 0, .float .f64 0, .bool false, .float .f64 0, .slice none 0 0, .int .i64 0, .int .i64 0, .bool false, .int .u64 0, .float .f64 0, .slice none 0 0, .int .i64 0, .bool false, .int .i32 0, .float .f64 0, .int .u64 0, .slice none 0 0, .slice none 0 0, .slice none 0 0, .slice none 0 0, .slice none 0 0, .int .u64 0, .float .f64 0, .slice none 0 0, .bool false, .int .i64 0]) := fun W k => (k.block _ hx0.lt).trans hx0
  have CH : Hid (∀ W, Below A.heap.size A W → Calls Tryz.prog 130 #[hp hb] W (HistOut count z sch zt zc Rn Rp Dn Dp W)) := fun W k => by
    have kk := HU.out W k
    exact histOf_any hb count z sch zt zc _ _ _ _ Rn Rp Dn Dp W (h.below kk) (spans_below hn kk) (spans_below hp' kk) (hdn.below kk) (hdp.below kk) lRn lRp lDn lDp
  have hsz : (Tryz.prog.info? 40).map (·.size) = some 27 := by kernel_rfl
  have hsz13 : (Tryz.prog.info? 37).map (·.size) = some 13 := by kernel_rfl
  have HS1 : Hid (A.heap.size = w.heap.size + 1) := s1
  have k0 := HM.out A (Below.refl _ _)
  clear s1 h hb0 hn hp' hdn hdp hx0 hbm hm hps
  go_enter Tryz.func86, Tryz.ntmps86
  go_upto_region 1 with fail
  rw [← hA]
  clear hA
  go_wp2_with fail
  refine CP.out.mono ?_
  rintro e W1 ⟨v1, rfl, ho, hb1⟩
  obtain ⟨a1, c1, rfl⟩ := row_slice2 ho
  have HB1 : Hid (Below A.heap.size A W1) := hb1
  have HO1 : Hid (W1.ownsRow A.heap.size 211 2 (.slice a1 F.length c1) F.length (F.flatMap pc)) := ho
  clear ho hb1 k0 CP
  rename_i K1 hK1 K2 hK2
  dsimp only
  refine hK2 _ _ ?_
  refine wpList_plain rfl fun K3 hK3 => ?_
  go_simp
  refine hK3 _ _ ?_
  clear hK3 K3
  refine wpList_plain rfl fun K3 hK3 => ?_
  go_simp
  refine hK3 _ _ ?_
  clear hK3 K3
  refine Big.wpList_store_whole rfl _ _ _ rfl W1.heap.size 40 #[.slice none 0 0, .int .i64 0, .float .f64 0, .bool false, .float .f64 0, .slice none 0 0, .int .i64 0, .int .i64 0, .bool false, .int .u64 0, .float .f64 0, .slice none 0 0, .int .i64 0, .bool false, .int .i32 0, .float .f64 0, .int .u64 0, .slice none 0 0, .slice none 0 0, .slice none 0 0, .slice none 0 0, .slice none 0 0, .int .u64 0, .float .f64 0, .slice none 0 0, .bool false, .int .i64 0] #[.slice a1 F.length c1, .int .i64 0, .float .f64 0, .bool false, .float .f64 0, .slice none 0 0, .int .i64 0, .int .i64 0, .bool false, .int .u64 0, .float .f64 0, .slice none 0 0, .int .i64 0, .bool false, .int .i32 0, .float .f64 0, .int .u64 0, .slice none 0 0, .slice none 0 0, .slice none 0 0, .slice none 0 0, .slice none 0 0, .int .u64 0, .float .f64 0, .slice none 0 0, .bool false, .int .i64 0] rfl rfl (Whole.made W1 _ _) rfl hsz (by simp [Value.oneCell']) ?_
  intro W2 hx2 hg2 hs2
  simp only [Act.put]
  have HX2 := Lib.hid hx2
  have hb12 : Below W1.heap.size W1 W2 := ((Below.refl _ _).alloc (Nat.le_refl _) _).grown hg2 (by simp) (fun j hj => by injection hj with hj; omega)
  have HB2 : Hid (Below A.heap.size A W2) := HB1.out.trans (hb12.mono HB1.out.size)
  have HO2 : Hid (W2.ownsRow A.heap.size 211 2 (.slice a1 F.length c1) F.length (F.flatMap pc)) := Nd.own_below HO1.out hb12
  have HN2 : Hid (W1.heap.size < W2.heap.size) := hx2.lt
  have HO1lt : Hid (∀ g, (Value.slice a1 F.length c1).ownBlock = some g → A.heap.size ≤ g ∧ g < W1.heap.size) := fun g hg => HO1.out.lt g hg
  have k2 := HM.out W2 HB2.out
  clear hx2 hg2 hs2 hb12 hK2 K2 HO1
  go_wp2_with fail
  refine (CH.out W2 HB2.out).mono ?_
  rintro e W3 ⟨a15, k15, a16, k16, a18, k18, a19, k19, rfl, q1, q2, q3, q4, hb3⟩
  have HB3 : Hid (Below A.heap.size A W3) := HB2.out.trans (hb3.mono HB2.out.size)
  have HX3 : Hid (Whole W3 W1.heap.size 40 #[.slice a1 F.length c1, .int .i64 0, .float .f64 0, .bool false, .float .f64 0, .slice none 0 0, .int .i64 0, .int .i64 0, .bool false, .int .u64 0, .float .f64 0, .slice none 0 0, .int .i64 0, .bool false, .int .i32 0, .float .f64 0, .int .u64 0, .slice none 0 0, .slice none 0 0, .slice none 0 0, .slice none 0 0, .slice none 0 0, .int .u64 0, .float .f64 0, .slice none 0 0, .bool false, .int .i64 0]) := (hb3.block _ HX2.out.lt).trans HX2.out
  have HO3 : Hid (W3.ownsRow A.heap.size 211 2 (.slice a1 F.length c1) F.length (F.flatMap pc)) := Nd.own_below HO2.out hb3
  have HQ3 := Lib.hid (And.intro q1 (And.intro q2 (And.intro q3 q4)))
  have k3 := HM.out W3 HB3.out
  have x1 : W3.cell? ⟨W1.heap.size, 1, none⟩ = some (.int .i64 0) := HX3.out.cell 1
  have f1 := HX3.out.free 1
  clear q1 q2 q3 q4 hb3 k2 CH HO2 HX2
  rename_i K1 hK1 K2 hK2
  dsimp only
  refine hK2 _ _ ?_
  refine wpList_plain rfl fun K3 hK3 => ?_
  go_simp
  refine hK3 _ _ ?_
  clear hK3 K3
  refine wpList_plain rfl fun K3 hK3 => ?_
  go_simp
  refine hK3 _ _ ?_
  clear hK3 K3
  refine wpList_plain rfl fun K3 hK3 => ?_
  go_simp
  refine hK3 _ _ ?_
  clear hK3 K3
  obtain ⟨W4, hW4⟩ : ∃ W4, W4 = W3.setCell ⟨W1.heap.size, 1, none⟩ (.int .i64 4) := ⟨_, rfl⟩
  rw [← hW4]
  have HX4 : Hid (Whole W4 W1.heap.size 40 #[.slice a1 F.length c1, .int .i64 4, .float .f64 0, .bool false, .float .f64 0, .slice none 0 0, .int .i64 0, .int .i64 0, .bool false, .int .u64 0, .float .f64 0, .slice none 0 0, .int .i64 0, .bool false, .int .i32 0, .float .f64 0, .int .u64 0, .slice none 0 0, .slice none 0 0, .slice none 0 0, .slice none 0 0, .slice none 0 0, .int .u64 0, .float .f64 0, .slice none 0 0, .bool false, .int .i64 0]) := by rw [hW4]; exact HX3.out.put 1 (.int .i64 4)
  have HB4 : Hid (W3.grownBy W4 (some W1.heap.size)) := by rw [hW4]; exact Gg1 W3 W1.heap.size 1 _
  clear hW4 x1 f1
  refine wpList_store_mid rfl _ _ _ rfl W1.heap.size 9 #[.int .u64 count, .float .f64 z, .slice none 0 0, .int .i64 0, .bool true, .int .i32 sch, .float .f64 zt, .int .u64 zc, .slice a15 Rn.length k15, .slice a16 Rp.length k16, .slice a18 Dn.length k18, .slice a19 Dp.length k19, .slice none 0 0] rfl rfl (fun j hj => ⟨by rw [HX4.out.cell (9 + j)]; have hj2 : j < 13 := hj; simp; omega, HX4.out.free _⟩) hsz13 (by simp [Value.oneCell']) ?_
  obtain ⟨W5, hW5⟩ : ∃ W5, W5 = W4.setCells W1.heap.size 9 (#[.int .u64 count, .float .f64 z, .slice none 0 0, .int .i64 0, .bool true, .int .i32 sch, .float .f64 zt, .int .u64 zc, .slice a15 Rn.length k15, .slice a16 Rp.length k16, .slice a18 Dn.length k18, .slice a19 Dp.length k19, .slice none 0 0] : Array Value).toList := ⟨_, rfl⟩
  rw [← hW5]
  have HX5 : Hid (Whole W5 W1.heap.size 40 #[.slice a1 F.length c1, .int .i64 4, .float .f64 0, .bool false, .float .f64 0, .slice none 0 0, .int .i64 0, .int .i64 0, .bool false, .int .u64 count, .float .f64 z, .slice none 0 0, .int .i64 0, .bool true, .int .i32 sch, .float .f64 zt, .int .u64 zc, .slice a15 Rn.length k15, .slice a16 Rp.length k16, .slice a18 Dn.length k18, .slice a19 Dp.length k19, .slice none 0 0, .int .u64 0, .float .f64 0, .slice none 0 0, .bool false, .int .i64 0]) := by
    have e := Big.whole_sets (#[.int .u64 count, .float .f64 z, .slice none 0 0, .int .i64 0, .bool true, .int .i32 sch, .float .f64 zt, .int .u64 zc, .slice a15 Rn.length k15, .slice a16 Rp.length k16, .slice a18 Dn.length k18, .slice a19 Dp.length k19, .slice none 0 0] : Array Value).toList 9 W4 _ HX4.out
    rw [← hW5] at e
    simp only [Big.putC, List.setIfInBounds_toArray, List.set_cons_zero, List.set_cons_succ] at e
    exact e
  have hg5 : W4.grownBy W5 (some W1.heap.size) ∧ W5.heap.size = W4.heap.size := by rw [hW5]; exact Big.grown_sets _ 9 W4
  have hg35 : W3.grownBy W5 (some W1.heap.size) := ⟨hg5.1.os.trans HB4.out.os, hg5.1.tape.trans HB4.out.tape, hg5.1.output.trans HB4.out.output, Nat.le_trans HB4.out.size hg5.1.size, fun k hk hne => (hg5.1.block k (Nat.lt_of_lt_of_le hk HB4.out.size) hne).trans (HB4.out.block k hk hne)⟩
  have HB5 : Hid (Below A.heap.size A W5) := HB3.out.grown hg35 HB3.out.size (fun j hj => by injection hj with hj; have := HB1.out.size; omega)
  have hOP : W5.ownsRow A.heap.size 211 2 (.slice a1 F.length c1) F.length (F.flatMap pc) := by
    refine HO3.out.kept hg35 ?_
    cases hv : (Value.slice a1 F.length c1).ownBlock with
    | none => exact Or.inl rfl
    | some g => exact Or.inr (by have := (HO1lt.out g hv).2; intro e; injection e with e; omega)
  have kp : ∀ {e sz n : Nat} {v : Value} {xs : List Value}, W3.ownsRow W2.heap.size e sz v n xs → W5.ownsRow W2.heap.size e sz v n xs := fun {e sz n v xs} ho => by
    refine ho.kept hg35 ?_
    cases hv : v.ownBlock with
    | none => exact Or.inl rfl
    | some g => exact Or.inr (by have := (ho.lt g hv).1; have := HN2.out; intro e; injection e with e; omega)
  have HQ5 : Hid (W5.ownsRow W2.heap.size 320 2 (.slice a15 Rn.length k15) Rn.length (Rn.flatMap rc) ∧ W5.ownsRow W2.heap.size 320 2 (.slice a16 Rp.length k16) Rp.length (Rp.flatMap rc) ∧ W5.ownsRow W2.heap.size 2 1 (.slice a18 Dn.length k18) Dn.length (Dn.map (Value.int .i64)) ∧ W5.ownsRow W2.heap.size 2 1 (.slice a19 Dp.length k19) Dp.length (Dp.map (Value.int .i64))) :=
    ⟨kp HQ3.out.1, kp HQ3.out.2.1, kp HQ3.out.2.2.1, kp HQ3.out.2.2.2⟩
  have hx0' : Whole W5 w.heap.size 40 #[.slice none 0 0, .int .i64 0, .float .f64 0, .bool false, .float .f64 0, .slice none 0 0, .int .i64 0, .int .i64 0, .bool false, .int .u64 0, .float .f64 0, .slice none 0 0, .int .i64 0, .bool false, .int .i32 0, .float .f64 0, .int .u64 0, .slice none 0 0, .slice none 0 0, .slice none 0 0, .slice none 0 0, .slice none 0 0, .int .u64 0, .float .f64 0, .slice none 0 0, .bool false, .int .i64 0] := HX0.out W5 HB5.out
  have hz25 : A.heap.size ≤ W2.heap.size := HB2.out.size
  have HOut : Hid (∀ Wf, W5.grownBy Wf (some w.heap.size) → MetH F count z sch zt zc Rn Rp Dn Dp w (.returned (.agg #[.slice a1 F.length c1, .int .i64 4, .float .f64 0, .bool false, .float .f64 0, .slice none 0 0, .int .i64 0, .int .i64 0, .bool false, .int .u64 count, .float .f64 z, .slice none 0 0, .int .i64 0, .bool true, .int .i32 sch, .float .f64 zt, .int .u64 zc, .slice a15 Rn.length k15, .slice a16 Rp.length k16, .slice a18 Dn.length k18, .slice a19 Dp.length k19, .slice none 0 0, .int .u64 0, .float .f64 0, .slice none 0 0, .bool false, .int .i64 0])) Wf) := fun Wf hg => by
    have h1 := HS1.out
    have hz5 := HB5.out.size
    have kf : ∀ {B e sz n : Nat} {v : Value} {xs : List Value}, A.heap.size ≤ B → W5.ownsRow B e sz v n xs → Wf.ownsRow B e sz v n xs := fun {B e sz n v xs} hB ho => by
      refine ho.kept hg ?_
      cases hv : v.ownBlock with
      | none => exact Or.inl rfl
      | some g => exact Or.inr (by have := (ho.lt g hv).1; intro e; injection e with e; omega)
    exact ⟨a1, c1, a15, k15, a16, k16, a18, k18, a19, k19, rfl, ⟨Nd.own_base (kf (Nat.le_refl _) hOP) (by omega), Nd.own_base (kf hz25 HQ5.out.1) (by omega), Nd.own_base (kf hz25 HQ5.out.2.1) (by omega), Nd.own_base (kf hz25 HQ5.out.2.2.1) (by omega), Nd.own_base (kf hz25 HQ5.out.2.2.2) (by omega)⟩, (HU.out _ HB5.out).grown hg (by omega) (fun j hj => by injection hj with hj; omega)⟩
  have k5 := HM.out W5 HB5.out
  clear hW5 hg5 hg35 hOP kp HQ5 HQ3 HO3 HX4 HB4 HX3 HB3 k3 hK2 K2
  simp only [Act.put]
  go_upto_region 23 with fail
  refine wp_region_lit ?_
  refine Big.wpList_load_whole rfl _ _ rfl W1.heap.size 40 #[.slice a1 F.length c1, .int .i64 4, .float .f64 0, .bool false, .float .f64 0, .slice none 0 0, .int .i64 0, .int .i64 0, .bool false, .int .u64 count, .float .f64 z, .slice none 0 0, .int .i64 0, .bool true, .int .i32 sch, .float .f64 zt, .int .u64 zc, .slice a15 Rn.length k15, .slice a16 Rp.length k16, .slice a18 Dn.length k18, .slice a19 Dp.length k19, .slice none 0 0, .int .u64 0, .float .f64 0, .slice none 0 0, .bool false, .int .i64 0] rfl HX5.out _ Tryz.underlying40 rfl hsz ?_
  simp only [Act.put]
  refine Big.wpList_store_whole rfl _ _ _ rfl w.heap.size 40 _ #[.slice a1 F.length c1, .int .i64 4, .float .f64 0, .bool false, .float .f64 0, .slice none 0 0, .int .i64 0, .int .i64 0, .bool false, .int .u64 count, .float .f64 z, .slice none 0 0, .int .i64 0, .bool true, .int .i32 sch, .float .f64 zt, .int .u64 zc, .slice a15 Rn.length k15, .slice a16 Rp.length k16, .slice a18 Dn.length k18, .slice a19 Dp.length k19, .slice none 0 0, .int .u64 0, .float .f64 0, .slice none 0 0, .bool false, .int .i64 0] rfl rfl hx0' rfl hsz (by simp [Value.oneCell']) ?_
  intro W7 hx7 hg7 hs7
  simp only [Act.put]
  have HF := Lib.hid (HOut.out W7 hg7)
  have HX7 := Lib.hid hx7
  clear hx7 hg7 hs7 HOut
  go_wp2_with fail
  exact bodyPost_ret (v := .agg #[.slice a1 F.length c1, .int .i64 4, .float .f64 0, .bool false, .float .f64 0, .slice none 0 0, .int .i64 0, .int .i64 0, .bool false, .int .u64 count, .float .f64 z, .slice none 0 0, .int .i64 0, .bool true, .int .i32 sch, .float .f64 zt, .int .u64 zc, .slice a15 Rn.length k15, .slice a16 Rp.length k16, .slice a18 Dn.length k18, .slice a19 Dp.length k19, .slice none 0 0, .int .u64 0, .float .f64 0, .slice none 0 0, .bool false, .int .i64 0]) (Mt.res1 Tryz.results86 _ _ _ _ _ rfl (Big.loaded_whole 40 w.heap.size 40 _ HX7.out _ Tryz.underlying40 rfl hsz)) rfl HF.out

end Go.Proofs.YtlolomodcbkblaaGreatDoor.Cn
