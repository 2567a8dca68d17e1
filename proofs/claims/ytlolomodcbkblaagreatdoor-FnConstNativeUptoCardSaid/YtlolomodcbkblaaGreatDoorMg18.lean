/- A constant native histogram written and handed back (impl.written). A constant native histogram made, written and handed back (impl.ConstNative). -/
import Derived.Test.YtlolomodcbkblaaGreatDoorCnf
import Derived.Test.YtlolomodcbkblaaGreatDoorMg14
set_option linter.unusedVariables false
set_option linter.unusedSimpArgs false
namespace Go.Proofs.YtlolomodcbkblaaGreatDoor.Cn
open Go.RowKit Go.Maps Go.WideMaps Go.ChangeShapes Go.WideShapes Go.Deep Fp Obs _root_.Go.Proofs.YtlolomodcbkblaaGreatDoor.Sp
open _root_.Go.Proofs.YtlolomodcbkblaaGreatDoor.Nd (Glob Pairs)
open _root_.Go.Proofs.YtlolomodcbkblaaGreatDoor.Mt (ptr nilp zeroM)

def WrH (F : List P2) (count : Int) (z : Nat) (sch : Int) (zt : Nat) (zc : Int) (Rn Rp : List N2) (Dn Dp : List Int) (w : World) (e : Ending) (w' : World) : Prop :=
  ∃ a1 c1 a15 k15 a16 k16 a18 k18 a19 k19, e = .returned (.tuple #[.agg #[.slice a1 F.length c1, .int .i64 4, .float .f64 0, .bool false, .float .f64 0, .slice none 0 0, .int .i64 0, .int .i64 0, .bool false, .int .u64 count, .float .f64 z, .slice none 0 0, .int .i64 0, .bool true, .int .i32 sch, .float .f64 zt, .int .u64 zc, .slice a15 Rn.length k15, .slice a16 Rp.length k16, .slice a18 Dn.length k18, .slice a19 Dp.length k19, .slice none 0 0, .int .u64 0, .float .f64 0, .slice none 0 0, .bool false, .int .i64 0], .bool true]) ∧ HRows F Rn Rp Dn Dp w.heap.size w' (.slice a1 F.length c1) (.slice a15 Rn.length k15) (.slice a16 Rp.length k16) (.slice a18 Dn.length k18) (.slice a19 Dp.length k19) ∧ Below w.heap.size w w'
set_option maxHeartbeats 4000000 in
set_option maxRecDepth 100000 in
theorem written_h (hb : Nat) (F : List P2) (lv : Value) (count : Int) (z : Nat) (sch : Int) (zt : Nat) (zc : Int) (vsn vdn vsp vdp : Value) (Rn Rp : List N2) (Dn Dp : List Int) (w : World)
    (hl : w.cell? ⟨hb, 13, none⟩ = some lv) (hps : Pairs w lv F) (hF : F.length ≤ 2147483647)
    (h : HC w hb count z sch zt zc vsn vdn vsp vdp) (hn : Spans w vsn Rn) (hp' : Spans w vsp Rp) (hdn : Sl.Of (Value.int .i64) w vdn Dn) (hdp : Sl.Of (Value.int .i64) w vdp Dp) (lRn : Rn.length ≤ 2147483648) (lRp : Rp.length ≤ 2147483648) (lDn : Dn.length ≤ 2147483648) (lDp : Dp.length ≤ 2147483648) :
    Calls Tryz.prog 41 #[.iface 235 (ptr hb), .nilIface] w (WrH F count z sch zt zc Rn Rp Dn Dp w) := by
  obtain ⟨qs, hql, hlvs, _⟩ := id hps
  obtain ⟨al, cl, rfl, _, _⟩ := Nd.sl_slice hlvs
  rw [hql] at hps hl
  have hlt := cell_lt hl
  obtain ⟨A1, hA1⟩ : ∃ A1, A1 = w.alloc (.cells #[.slice none 0 0, .int .i64 0, .float .f64 0, .bool false, .float .f64 0, .slice none 0 0, .int .i64 0, .int .i64 0, .bool false, .int .u64 0, .float .f64 0, .slice none 0 0, .int .i64 0, .bool false, .int .i32 0, .float .f64 0, .int .u64 0, .slice none 0 0, .slice none 0 0, .slice none 0 0, .slice none 0 0, .slice none 0 0, .int .u64 0, .float .f64 0, .slice none 0 0, .bool false, .int .i64 0] 40) := ⟨_, rfl⟩
  obtain ⟨A, hA⟩ : ∃ A, A = A1.alloc (.cells #[.slice none 0 0, .pointer none, .pointer none, .pointer none, .pointer none, .pointer none, .pointer none] 201) := ⟨_, rfl⟩
  have s1 : A1.heap.size = w.heap.size + 1 := by rw [hA1]; simp
  have s2 : A.heap.size = w.heap.size + 1 + 1 := by rw [hA]; simp [s1]
  have b1 : Below w.heap.size w A1 := by rw [hA1]; exact (Below.refl _ _).alloc (Nat.le_refl _) _
  have b2 : Below A1.heap.size A1 A := by rw [hA]; exact (Below.refl _ _).alloc (Nat.le_refl _) _
  have hqb : Below w.heap.size w A := b1.trans (b2.mono (by omega))
  have hWo : Whole A (w.heap.size + 1) 201 zeroM := by rw [hA, ← s1]; exact Whole.made _ _ _
  have hWr : Whole A w.heap.size 40 #[.slice none 0 0, .int .i64 0, .float .f64 0, .bool false, .float .f64 0, .slice none 0 0, .int .i64 0, .int .i64 0, .bool false, .int .u64 0, .float .f64 0, .slice none 0 0, .int .i64 0, .bool false, .int .i32 0, .float .f64 0, .int .u64 0, .slice none 0 0, .slice none 0 0, .slice none 0 0, .slice none 0 0, .slice none 0 0, .int .u64 0, .float .f64 0, .slice none 0 0, .bool false, .int .i64 0] := (b2.block _ (by omega)).trans (by rw [hA1]; exact Whole.made w _ _)
  have hAA : A = (w.alloc (.cells #[.slice none 0 0, .int .i64 0, .float .f64 0, .bool false, .float .f64 0, .slice none 0 0, .int .i64 0, .int .i64 0, .bool false, .int .u64 0, .float .f64 0, .slice none 0 0, .int .i64 0, .bool false, .int .i32 0, .float .f64 0, .int .u64 0, .slice none 0 0, .slice none 0 0, .slice none 0 0, .slice none 0 0, .slice none 0 0, .int .u64 0, .float .f64 0, .slice none 0 0, .bool false, .int .i64 0] 40)).alloc (.cells #[.slice none 0 0, .pointer none, .pointer none, .pointer none, .pointer none, .pointer none, .pointer none] 201) := by rw [hA, hA1]
  have CW := Lib.hid (writeNative_any hb (w.heap.size + 1) al F.length cl A ((hqb.cell (p := ⟨hb, 13, none⟩) hlt).trans hl) (by omega) hWo)
  have HG : Hid (∀ W, A.grownBy W (some (w.heap.size + 1)) → Below w.heap.size w W ∧ Whole W w.heap.size 40 #[.slice none 0 0, .int .i64 0, .float .f64 0, .bool false, .float .f64 0, .slice none 0 0, .int .i64 0, .int .i64 0, .bool false, .int .u64 0, .float .f64 0, .slice none 0 0, .int .i64 0, .bool false, .int .i32 0, .float .f64 0, .int .u64 0, .slice none 0 0, .slice none 0 0, .slice none 0 0, .slice none 0 0, .slice none 0 0, .int .u64 0, .float .f64 0, .slice none 0 0, .bool false, .int .i64 0] ∧ A.heap.size ≤ W.heap.size) := fun W k =>
    ⟨hqb.grown k (by omega) (fun j hj => by injection hj with hj; omega), (k.block w.heap.size (by omega) (by intro e; injection e with e; omega)).trans hWr, k.size⟩
  have HM : Hid (∀ W, Below w.heap.size w W → Whole W (w.heap.size + 1) 201 #[.slice al F.length cl, nilp, nilp, nilp, nilp, hp hb, nilp] → Calls Tryz.prog 86 #[ptr (w.heap.size + 1)] W (MetH F count z sch zt zc Rn Rp Dn Dp W)) := fun W k hx =>
    metricOf_h (w.heap.size + 1) hb al cl F count z sch zt zc _ _ _ _ Rn Rp Dn Dp W hx (hps.below k) hF (h.below k) (spans_below hn k) (spans_below hp' k) (hdn.below k) (hdp.below k) lRn lRp lDn lDp
  have hsz27 : (Tryz.prog.info? 40).map (·.size) = some 27 := by kernel_rfl
  clear hps hlvs hql h hn hp' hdn hdp hl hqb hWo hWr b1 b2 hA hA1 s1
  go_enter Tryz.func41, Tryz.ntmps41
  go_wp2_with fail
  rw [← hAA]
  clear hAA
  refine CW.out.mono ?_
  rintro e w2 ⟨rfl, hx2, hg2⟩
  obtain ⟨hb2, hr2, hs2⟩ := HG.out _ hg2
  have CM := Lib.hid (HM.out _ hb2 hx2)
  have HB2 := Lib.hid hb2
  have HR2 := Lib.hid hr2
  clear hx2 hg2 hb2 hr2
  go_wp2_with fail
  refine CM.out.mono ?_
  rintro e w3 ⟨a1, c1, a15, k15, a16, k16, a18, k18, a19, k19, rfl, hrw, hb3⟩
  have HR3 : Hid (Whole w3 w.heap.size 40 #[.slice none 0 0, .int .i64 0, .float .f64 0, .bool false, .float .f64 0, .slice none 0 0, .int .i64 0, .int .i64 0, .bool false, .int .u64 0, .float .f64 0, .slice none 0 0, .int .i64 0, .bool false, .int .i32 0, .float .f64 0, .int .u64 0, .slice none 0 0, .slice none 0 0, .slice none 0 0, .slice none 0 0, .slice none 0 0, .int .u64 0, .float .f64 0, .slice none 0 0, .bool false, .int .i64 0]) := (hb3.block w.heap.size (by omega)).trans HR2.out
  have HOut : Hid (∀ Wf, w3.grownBy Wf (some w.heap.size) → WrH F count z sch zt zc Rn Rp Dn Dp w (.returned (.tuple #[.agg #[.slice a1 F.length c1, .int .i64 4, .float .f64 0, .bool false, .float .f64 0, .slice none 0 0, .int .i64 0, .int .i64 0, .bool false, .int .u64 count, .float .f64 z, .slice none 0 0, .int .i64 0, .bool true, .int .i32 sch, .float .f64 zt, .int .u64 zc, .slice a15 Rn.length k15, .slice a16 Rp.length k16, .slice a18 Dn.length k18, .slice a19 Dp.length k19, .slice none 0 0, .int .u64 0, .float .f64 0, .slice none 0 0, .bool false, .int .i64 0], .bool true])) Wf) := fun Wf hg =>
    ⟨a1, c1, a15, k15, a16, k16, a18, k18, a19, k19, rfl, hrw.kept hg (by omega) (by omega), (HB2.out.trans (hb3.mono (by omega))).grown hg (by have := hb3.size; omega) (fun j hj => by injection hj with hj; omega)⟩
  clear hrw hb3
  rename_i K1 hK1 K2 hK2
  dsimp only
  refine hK2 _ _ ?_
  refine Big.wpList_store_whole rfl _ _ _ rfl w.heap.size 40 _ #[.slice a1 F.length c1, .int .i64 4, .float .f64 0, .bool false, .float .f64 0, .slice none 0 0, .int .i64 0, .int .i64 0, .bool false, .int .u64 count, .float .f64 z, .slice none 0 0, .int .i64 0, .bool true, .int .i32 sch, .float .f64 zt, .int .u64 zc, .slice a15 Rn.length k15, .slice a16 Rp.length k16, .slice a18 Dn.length k18, .slice a19 Dp.length k19, .slice none 0 0, .int .u64 0, .float .f64 0, .slice none 0 0, .bool false, .int .i64 0] rfl rfl HR3.out rfl hsz27 (by simp [Value.oneCell']) ?_
  intro W7 hx7 hg7 hs7
  simp only [Act.put]
  have HF := Lib.hid (HOut.out _ hg7)
  have HX7 := Lib.hid hx7
  clear hx7 hg7 hs7 HOut
  go_wp2_with fail
  exact bodyPost_ret (v := .tuple #[.agg #[.slice a1 F.length c1, .int .i64 4, .float .f64 0, .bool false, .float .f64 0, .slice none 0 0, .int .i64 0, .int .i64 0, .bool false, .int .u64 count, .float .f64 z, .slice none 0 0, .int .i64 0, .bool true, .int .i32 sch, .float .f64 zt, .int .u64 zc, .slice a15 Rn.length k15, .slice a16 Rp.length k16, .slice a18 Dn.length k18, .slice a19 Dp.length k19, .slice none 0 0, .int .u64 0, .float .f64 0, .slice none 0 0, .bool false, .int .i64 0], .bool true]) (Mt.res2 rfl _ _ _ _ _ _ rfl (Big.loaded_whole 40 w.heap.size 40 _ HX7.out _ Tryz.underlying40 rfl hsz27) rfl) rfl HF.out

def WrErr (w : World) (e : Ending) (w' : World) : Prop := e = .returned (.tuple #[.agg #[.slice none 0 0, .int .i64 0, .float .f64 0, .bool false, .float .f64 0, .slice none 0 0, .int .i64 0, .int .i64 0, .bool false, .int .u64 0, .float .f64 0, .slice none 0 0, .int .i64 0, .bool false, .int .i32 0, .float .f64 0, .int .u64 0, .slice none 0 0, .slice none 0 0, .slice none 0 0, .slice none 0 0, .slice none 0 0, .int .u64 0, .float .f64 0, .slice none 0 0, .bool false, .int .i64 0], .bool false]) ∧ Below w.heap.size w w'
set_option maxHeartbeats 2000000 in
set_option maxRecDepth 100000 in
theorem written_err (t : TypeId) (v : Value) (w : World) : Calls Tryz.prog 41 #[.nilIface, .iface t v] w (WrErr w) := by
  obtain ⟨A1, hA1⟩ : ∃ A1, A1 = w.alloc (.cells #[.slice none 0 0, .int .i64 0, .float .f64 0, .bool false, .float .f64 0, .slice none 0 0, .int .i64 0, .int .i64 0, .bool false, .int .u64 0, .float .f64 0, .slice none 0 0, .int .i64 0, .bool false, .int .i32 0, .float .f64 0, .int .u64 0, .slice none 0 0, .slice none 0 0, .slice none 0 0, .slice none 0 0, .slice none 0 0, .int .u64 0, .float .f64 0, .slice none 0 0, .bool false, .int .i64 0] 40) := ⟨_, rfl⟩
  obtain ⟨A, hA⟩ : ∃ A, A = A1.alloc (.cells #[.slice none 0 0, .pointer none, .pointer none, .pointer none, .pointer none, .pointer none, .pointer none] 201) := ⟨_, rfl⟩
  have s1 : A1.heap.size = w.heap.size + 1 := by rw [hA1]; simp
  have b1 : Below w.heap.size w A1 := by rw [hA1]; exact (Below.refl _ _).alloc (Nat.le_refl _) _
  have b2 : Below A1.heap.size A1 A := by rw [hA]; exact (Below.refl _ _).alloc (Nat.le_refl _) _
  have HB : Hid (Below w.heap.size w A) := b1.trans (b2.mono (by omega))
  have hWr : Whole A w.heap.size 40 #[.slice none 0 0, .int .i64 0, .float .f64 0, .bool false, .float .f64 0, .slice none 0 0, .int .i64 0, .int .i64 0, .bool false, .int .u64 0, .float .f64 0, .slice none 0 0, .int .i64 0, .bool false, .int .i32 0, .float .f64 0, .int .u64 0, .slice none 0 0, .slice none 0 0, .slice none 0 0, .slice none 0 0, .slice none 0 0, .int .u64 0, .float .f64 0, .slice none 0 0, .bool false, .int .i64 0] := (b2.block _ (by omega)).trans (by rw [hA1]; exact Whole.made w _ _)
  have hAA : A = (w.alloc (.cells #[.slice none 0 0, .int .i64 0, .float .f64 0, .bool false, .float .f64 0, .slice none 0 0, .int .i64 0, .int .i64 0, .bool false, .int .u64 0, .float .f64 0, .slice none 0 0, .int .i64 0, .bool false, .int .i32 0, .float .f64 0, .int .u64 0, .slice none 0 0, .slice none 0 0, .slice none 0 0, .slice none 0 0, .slice none 0 0, .int .u64 0, .float .f64 0, .slice none 0 0, .bool false, .int .i64 0] 40)).alloc (.cells #[.slice none 0 0, .pointer none, .pointer none, .pointer none, .pointer none, .pointer none, .pointer none] 201) := by rw [hA, hA1]
  have hsz27 : (Tryz.prog.info? 40).map (·.size) = some 27 := by kernel_rfl
  have hz := HB.out.size
  clear hA hA1 b1 b2 s1
  go_enter Tryz.func41, Tryz.ntmps41
  go_upto_region 2 with fail
  rw [← hAA]
  clear hAA
  go_upto_region 3 with fail
  refine wp_region_lit ?_
  refine wpList_plain rfl fun K3 hK3 => ?_
  go_simp
  refine hK3 _ _ ?_
  refine Big.wpList_store_whole rfl _ _ _ rfl w.heap.size 40 #[.slice none 0 0, .int .i64 0, .float .f64 0, .bool false, .float .f64 0, .slice none 0 0, .int .i64 0, .int .i64 0, .bool false, .int .u64 0, .float .f64 0, .slice none 0 0, .int .i64 0, .bool false, .int .i32 0, .float .f64 0, .int .u64 0, .slice none 0 0, .slice none 0 0, .slice none 0 0, .slice none 0 0, .slice none 0 0, .int .u64 0, .float .f64 0, .slice none 0 0, .bool false, .int .i64 0] #[.slice none 0 0, .int .i64 0, .float .f64 0, .bool false, .float .f64 0, .slice none 0 0, .int .i64 0, .int .i64 0, .bool false, .int .u64 0, .float .f64 0, .slice none 0 0, .int .i64 0, .bool false, .int .i32 0, .float .f64 0, .int .u64 0, .slice none 0 0, .slice none 0 0, .slice none 0 0, .slice none 0 0, .slice none 0 0, .int .u64 0, .float .f64 0, .slice none 0 0, .bool false, .int .i64 0] rfl rfl hWr rfl hsz27 (by simp [Value.oneCell']) ?_
  intro W7 hx7 hg7 hs7
  simp only [Act.put]
  have HF : Hid (WrErr w (.returned (.tuple #[.agg #[.slice none 0 0, .int .i64 0, .float .f64 0, .bool false, .float .f64 0, .slice none 0 0, .int .i64 0, .int .i64 0, .bool false, .int .u64 0, .float .f64 0, .slice none 0 0, .int .i64 0, .bool false, .int .i32 0, .float .f64 0, .int .u64 0, .slice none 0 0, .slice none 0 0, .slice none 0 0, .slice none 0 0, .slice none 0 0, .int .u64 0, .float .f64 0, .slice none 0 0, .bool false, .int .i64 0], .bool false])) W7) := ⟨rfl, HB.out.grown hg7 hz (fun j hj => by injection hj with hj; omega)⟩
  have HX7 := Lib.hid hx7
  clear hx7 hg7 hs7
  go_wp2_with fail
  exact bodyPost_ret (v := .tuple #[.agg #[.slice none 0 0, .int .i64 0, .float .f64 0, .bool false, .float .f64 0, .slice none 0 0, .int .i64 0, .int .i64 0, .bool false, .int .u64 0, .float .f64 0, .slice none 0 0, .int .i64 0, .bool false, .int .i32 0, .float .f64 0, .int .u64 0, .slice none 0 0, .slice none 0 0, .slice none 0 0, .slice none 0 0, .slice none 0 0, .int .u64 0, .float .f64 0, .slice none 0 0, .bool false, .int .i64 0], .bool false]) (Mt.res2 rfl _ _ _ _ _ _ rfl (Big.loaded_whole 40 w.heap.size 40 _ HX7.out _ Tryz.underlying40 rfl hsz27) rfl) rfl HF.out

end Go.Proofs.YtlolomodcbkblaaGreatDoor.Cn

set_option linter.unusedVariables false
set_option linter.unusedSimpArgs false
namespace Go.Proofs.YtlolomodcbkblaaGreatDoor.Cn
open Go.RowKit Go.Maps Go.WideMaps Go.ChangeShapes Go.WideShapes Go.Deep Fp Obs _root_.Go.Proofs.YtlolomodcbkblaaGreatDoor.Sp
open _root_.Go.Proofs.YtlolomodcbkblaaGreatDoor.Nd (Glob Pairs NewOk labs desc_any)
open _root_.Go.Proofs.YtlolomodcbkblaaGreatDoor.Mt (ptr nilp zeroM)

/-- what ConstNative answers -/
def ConstN (ok : Prop) (F : List P2) (count : Int) (z : Nat) (sch : Int) (zt : Nat) (zc : Int) (P Q : List N2) (w : World) (e : Ending) (w' : World) : Prop :=
  ((ok ∧ ∃ Xn Xp, Segs Q Xn ∧ (Segs P Xp ∨ (Segs P [] ∧ Xp = [(0, [])])) ∧ ∃ a1 c1 a15 k15 a16 k16 a18 k18 a19 k19, e = .returned (.tuple #[.agg #[.slice a1 F.length c1, .int .i64 4, .float .f64 0, .bool false, .float .f64 0, .slice none 0 0, .int .i64 0, .int .i64 0, .bool false, .int .u64 count, .float .f64 z, .slice none 0 0, .int .i64 0, .bool true, .int .i32 sch, .float .f64 zt, .int .u64 zc, .slice a15 (runsOf 0 Xn).length k15, .slice a16 (runsOf 0 Xp).length k16, .slice a18 (deltasOf 0 (counts Xn)).length k18, .slice a19 (deltasOf 0 (counts Xp)).length k19, .slice none 0 0, .int .u64 0, .float .f64 0, .slice none 0 0, .bool false, .int .i64 0], .bool true]) ∧ HRows F (runsOf 0 Xn) (runsOf 0 Xp) (deltasOf 0 (counts Xn)) (deltasOf 0 (counts Xp)) w.heap.size w' (.slice a1 F.length c1) (.slice a15 (runsOf 0 Xn).length k15) (.slice a16 (runsOf 0 Xp).length k16) (.slice a18 (deltasOf 0 (counts Xn)).length k18) (.slice a19 (deltasOf 0 (counts Xp)).length k19)) ∨ (¬ ok ∧ e = .returned (.tuple #[.agg #[.slice none 0 0, .int .i64 0, .float .f64 0, .bool false, .float .f64 0, .slice none 0 0, .int .i64 0, .int .i64 0, .bool false, .int .u64 0, .float .f64 0, .slice none 0 0, .int .i64 0, .bool false, .int .i32 0, .float .f64 0, .int .u64 0, .slice none 0 0, .slice none 0 0, .slice none 0 0, .slice none 0 0, .slice none 0 0, .int .u64 0, .float .f64 0, .slice none 0 0, .bool false, .int .i64 0], .bool false]))) ∧ Below w.heap.size w w'
set_option maxHeartbeats 2000000 in
set_option maxRecDepth 100000 in
theorem constNative_any (nm hp0 un : ByteArray) (L : List P2) (vv cv vp vq : Value) (P Q : List N2) (z zt : Nat) (count zc sch : Int) (w : World) (hG : Glob w) (hok : NewOk nm hp0 un [] L) (hV : Sl.Of Value.string w vv []) (hL : Ss.Of 2 pc w cv L) (hr : ∀ p ∈ L, p.1.size ≤ 2147483647 ∧ p.2.size ≤ 2147483647)
    (hp1 : Ss.Of 2 cc w vp P) (hq1 : Ss.Of 2 cc w vq Q) (hPl : P.length ≤ 2147483647) (hQl : Q.length ≤ 2147483647) (hPi : ∀ p ∈ P, In64 p.1 ∧ In64 p.2) (hQi : ∀ p ∈ Q, In64 p.1 ∧ In64 p.2) (hcP : Counts P) (hcQ : Counts Q) (tP tQ : Int) (htP : ∀ s, SumOf P s → s = tP) (htQ : ∀ s, SumOf Q s → s = tQ) (hz : 0 ≤ zc ∧ zc ≤ 1073741824) (hcount : tP + tQ + zc ≤ count ∧ count ≤ 9223372036854775807)
    (hkP : ∀ q : N2, lastN P q.1 = some q.2 → (-1073741824 < q.1 ∧ q.1 < 1073741824) ∧ In64 q.2) (hkQ : ∀ q : N2, lastN Q q.1 = some q.2 → (-1073741824 < q.1 ∧ q.1 < 1073741824) ∧ In64 q.2)
    (hlen : ∀ X, Segs P X ∨ Segs Q X → (runsOf 0 X).length ≤ 2147483648 ∧ (deltasOf 0 (counts X)).length ≤ 2147483648) (hF : (labs [] [] (fit L)).length ≤ 2147483647) :
    Calls Tryz.prog 22 #[.agg #[.string nm, .string hp0, .string un, vv, cv], .int .u64 count, .float .f64 z, vp, vq, .int .u64 zc, .int .i32 sch, .float .f64 zt, .int .i64 0, .slice none 0 0] w
      (ConstN (OkN sch z count (tP + tQ + zc)) (labs [] [] (fit L)) count z sch zt zc P Q w) := by
  obtain ⟨A1, hA1⟩ : ∃ A1, A1 = w.alloc (.cells #[.string nm, .string hp0, .string un, vv, cv] 74) := ⟨_, rfl⟩
  obtain ⟨A, hA⟩ : ∃ A, A = A1.alloc (.cells #[.slice none 0 0, .int .i64 0, .float .f64 0, .bool false, .float .f64 0, .slice none 0 0, .int .i64 0, .int .i64 0, .bool false, .int .u64 0, .float .f64 0, .slice none 0 0, .int .i64 0, .bool false, .int .i32 0, .float .f64 0, .int .u64 0, .slice none 0 0, .slice none 0 0, .slice none 0 0, .slice none 0 0, .slice none 0 0, .int .u64 0, .float .f64 0, .slice none 0 0, .bool false, .int .i64 0] 40) := ⟨_, rfl⟩
  have s1 : A1.heap.size = w.heap.size + 1 := by rw [hA1]; simp
  have s2 : A.heap.size = w.heap.size + 1 + 1 := by rw [hA]; simp [s1]
  have b1 : Below w.heap.size w A1 := by rw [hA1]; exact (Below.refl _ _).alloc (Nat.le_refl _) _
  have b2 : Below A1.heap.size A1 A := by rw [hA]; exact (Below.refl _ _).alloc (Nat.le_refl _) _
  have hb0 : Below w.heap.size w A := b1.trans (b2.mono (by omega))
  have hWr : Whole A (w.heap.size + 1) 40 #[.slice none 0 0, .int .i64 0, .float .f64 0, .bool false, .float .f64 0, .slice none 0 0, .int .i64 0, .int .i64 0, .bool false, .int .u64 0, .float .f64 0, .slice none 0 0, .int .i64 0, .bool false, .int .i32 0, .float .f64 0, .int .u64 0, .slice none 0 0, .slice none 0 0, .slice none 0 0, .slice none 0 0, .slice none 0 0, .int .u64 0, .float .f64 0, .slice none 0 0, .bool false, .int .i64 0] := by rw [hA, ← s1]; exact Whole.made _ _ _
  have CD := Lib.hid (desc_any nm hp0 un [] L vv cv A (hG.below hb0) hok (hV.below hb0) (hL.below hb0) hr)
  have hAA : A = (w.alloc (.cells #[.string nm, .string hp0, .string un, vv, cv] 74)).alloc (.cells #[.slice none 0 0, .int .i64 0, .float .f64 0, .bool false, .float .f64 0, .slice none 0 0, .int .i64 0, .int .i64 0, .bool false, .int .u64 0, .float .f64 0, .slice none 0 0, .int .i64 0, .bool false, .int .i32 0, .float .f64 0, .int .u64 0, .slice none 0 0, .slice none 0 0, .slice none 0 0, .slice none 0 0, .slice none 0 0, .int .u64 0, .float .f64 0, .slice none 0 0, .bool false, .int .i64 0] 40) := by rw [hA, hA1]
  have HU : Hid (∀ W, Below A.heap.size A W → Below w.heap.size w W) := fun W k => hb0.trans (k.mono (by omega))
  have CMp : Hid (∀ W, Below A.heap.size A W → Calls Tryz.prog 67 #[vp] W (MapOut P W)) := fun W k => map_any P vp W (hp1.below (HU.out W k)) hPl hPi
  have CMq : Hid (∀ W, Below A.heap.size A W → Calls Tryz.prog 67 #[vq] W (MapOut Q W)) := fun W k => map_any Q vq W (hq1.below (HU.out W k)) hQl hQi
  clear hA hA1 b1 b2 s1
  go_enter Tryz.func22, Tryz.ntmps22
  go_wp2_with fail
  rw [← hAA]
  clear hAA
  refine CD.out.mono ?_
  rintro e w1 ⟨d, v3, c, vn, rfl, hd, hb1⟩
  have HB1 : Hid (Below A.heap.size A w1) := hb1
  have HD1 := Lib.hid hd
  clear hd hb1
  go_wp2_with fail
  refine (CMp.out w1 HB1.out).mono ?_
  rintro e w2 ⟨rfl, hm2, hb2⟩
  have HB2 : Hid (Below A.heap.size A w2) := HB1.out.trans (hb2.mono HB1.out.size)
  have HM2 := Lib.hid hm2
  have HD2 := Lib.hid (HD1.out.below hb2)
  clear hm2 hb2
  go_wp2_with fail
  refine (CMq.out w2 HB2.out).mono ?_
  rintro e w3 ⟨rfl, hm3, hb3⟩
  have HB3 : Hid (Below A.heap.size A w3) := HB2.out.trans (hb3.mono HB2.out.size)
  have HM3 := Lib.hid hm3
  have HM3p : Hid (Mi w3 w1.heap.size P) := HM2.out.below hb3
  have HD3 := Lib.hid (HD2.out.below hb3)
  have hfl := Nd.fit_le L
  have hll := hok.lenL
  have CN := Lib.hid (newNative_any d c nm hp0 un (fit L) v3 vn P Q w1.heap.size w2.heap.size z zt count zc sch w3 (hG.below (HU.out _ HB3.out)) HD3.out (_root_.Go.Proofs.YtlolomodcbkblaaGreatDoor.Nd.fit_srt L) (by omega) (by simpa using hok.apart) HM3p.out HM3.out hPl hQl hcP hcQ tP tQ htP htQ hz hcount hkP hkQ)
  clear hm3 hb3
  go_wp2_with fail
  refine CN.out.mono ?_
  rintro e w4 ⟨hres, hb4⟩
  have HB4 : Hid (Below A.heap.size A w4) := HB3.out.trans (hb4.mono HB3.out.size)
  have hsz27 : (Tryz.prog.info? 40).map (·.size) = some 27 := by kernel_rfl
  have hWr4 : Whole w4 (w.heap.size + 1) 40 #[.slice none 0 0, .int .i64 0, .float .f64 0, .bool false, .float .f64 0, .slice none 0 0, .int .i64 0, .int .i64 0, .bool false, .int .u64 0, .float .f64 0, .slice none 0 0, .int .i64 0, .bool false, .int .i32 0, .float .f64 0, .int .u64 0, .slice none 0 0, .slice none 0 0, .slice none 0 0, .slice none 0 0, .slice none 0 0, .int .u64 0, .float .f64 0, .slice none 0 0, .bool false, .int .i64 0] := (HB4.out.block _ hWr.lt).trans hWr
  have hz4 := HB4.out.size
  rcases hres with ⟨hk, hb, d2, Xn, Xp, rfl, hat, hsq, hsp⟩ | ⟨hk, t, v, rfl⟩
  · obtain ⟨vsn, vdn, vsp, vdp, lv, hc, hl, hlb, sn, dn, sp, dp, hps⟩ := hat.seen
    have ln := hlen Xn (Or.inr hsq)
    have lp : (runsOf 0 Xp).length ≤ 2147483648 ∧ (deltasOf 0 (counts Xp)).length ≤ 2147483648 := by
      rcases hsp with h | ⟨_, rfl⟩
      · exact hlen Xp (Or.inl h)
      · simp [runsOf, counts, deltasOf]
    have CW := Lib.hid (written_h hb (labs [] [] (fit L)) lv count z sch zt zc vsn vdn vsp vdp (runsOf 0 Xn) (runsOf 0 Xp) (deltasOf 0 (counts Xn)) (deltasOf 0 (counts Xp)) w4 hl hps hF hc sn sp dn dp ln.1 lp.1 ln.2 lp.2)
    clear CN hG hok hV hL hr hp1 hq1 hPi hQi hcP hcQ htP htQ hkP hkQ CD CMp CMq HM2 HM3 HM3p HD1 HD2 HD3 HB1 HB2 HB3 hc hl hlb sn dn sp dp hps hat hlen ln lp hF
    obtain ⟨F, hFe⟩ : ∃ F, labs [] [] (fit L) = F := ⟨_, rfl⟩
    rw [hFe] at CW
    go_wp2_with fail
    refine CW.out.mono ?_
    rintro e w5 ⟨a1, c1, a15, k15, a16, k16, a18, k18, a19, k19, rfl, hrw, hb5⟩
    have hx5 : Whole w5 (w.heap.size + 1) 40 #[.slice none 0 0, .int .i64 0, .float .f64 0, .bool false, .float .f64 0, .slice none 0 0, .int .i64 0, .int .i64 0, .bool false, .int .u64 0, .float .f64 0, .slice none 0 0, .int .i64 0, .bool false, .int .i32 0, .float .f64 0, .int .u64 0, .slice none 0 0, .slice none 0 0, .slice none 0 0, .slice none 0 0, .slice none 0 0, .int .u64 0, .float .f64 0, .slice none 0 0, .bool false, .int .i64 0] := (hb5.block _ hWr4.lt).trans hWr4
    have HOut : Hid (∀ Wf, w5.grownBy Wf (some (w.heap.size + 1)) → ConstN (OkN sch z count (tP + tQ + zc)) (labs [] [] (fit L)) count z sch zt zc P Q w (.returned (.tuple #[.agg #[.slice a1 F.length c1, .int .i64 4, .float .f64 0, .bool false, .float .f64 0, .slice none 0 0, .int .i64 0, .int .i64 0, .bool false, .int .u64 count, .float .f64 z, .slice none 0 0, .int .i64 0, .bool true, .int .i32 sch, .float .f64 zt, .int .u64 zc, .slice a15 (runsOf 0 Xn).length k15, .slice a16 (runsOf 0 Xp).length k16, .slice a18 (deltasOf 0 (counts Xn)).length k18, .slice a19 (deltasOf 0 (counts Xp)).length k19, .slice none 0 0, .int .u64 0, .float .f64 0, .slice none 0 0, .bool false, .int .i64 0], .bool true])) Wf) := fun Wf hg => by
      rw [hFe]
      exact ⟨Or.inl ⟨hk, Xn, Xp, hsq, hsp, a1, c1, a15, k15, a16, k16, a18, k18, a19, k19, rfl, hrw.kept hg (by omega) (by omega)⟩, ((HU.out _ HB4.out).trans (hb5.mono (by omega))).grown hg (by have := hb5.size; omega) (fun j hj => by injection hj with hj; omega)⟩
    clear hb5 hrw
    rename_i K1 hK1 K2 hK2
    dsimp only
    refine hK2 _ _ ?_
    refine wpList_plain rfl fun K3 hK3 => ?_
    go_simp
    refine hK3 _ _ ?_
    refine wpList_plain rfl fun K4 hK4 => ?_
    go_simp
    refine hK4 _ _ ?_
    refine Big.wpList_store_whole rfl _ _ _ rfl (w.heap.size + 1) 40 #[.slice none 0 0, .int .i64 0, .float .f64 0, .bool false, .float .f64 0, .slice none 0 0, .int .i64 0, .int .i64 0, .bool false, .int .u64 0, .float .f64 0, .slice none 0 0, .int .i64 0, .bool false, .int .i32 0, .float .f64 0, .int .u64 0, .slice none 0 0, .slice none 0 0, .slice none 0 0, .slice none 0 0, .slice none 0 0, .int .u64 0, .float .f64 0, .slice none 0 0, .bool false, .int .i64 0] #[.slice a1 F.length c1, .int .i64 4, .float .f64 0, .bool false, .float .f64 0, .slice none 0 0, .int .i64 0, .int .i64 0, .bool false, .int .u64 count, .float .f64 z, .slice none 0 0, .int .i64 0, .bool true, .int .i32 sch, .float .f64 zt, .int .u64 zc, .slice a15 (runsOf 0 Xn).length k15, .slice a16 (runsOf 0 Xp).length k16, .slice a18 (deltasOf 0 (counts Xn)).length k18, .slice a19 (deltasOf 0 (counts Xp)).length k19, .slice none 0 0, .int .u64 0, .float .f64 0, .slice none 0 0, .bool false, .int .i64 0] rfl rfl hx5 rfl hsz27 (by simp [Value.oneCell']) ?_
    intro W7 hx7 hg7 hs7
    simp only [Act.put]
    have HF := Lib.hid (HOut.out W7 hg7)
    have HX7 := Lib.hid hx7
    clear hx7 hg7 hs7 HOut
    go_wp2_with fail
    exact bodyPost_ret (v := .tuple #[.agg #[.slice a1 F.length c1, .int .i64 4, .float .f64 0, .bool false, .float .f64 0, .slice none 0 0, .int .i64 0, .int .i64 0, .bool false, .int .u64 count, .float .f64 z, .slice none 0 0, .int .i64 0, .bool true, .int .i32 sch, .float .f64 zt, .int .u64 zc, .slice a15 (runsOf 0 Xn).length k15, .slice a16 (runsOf 0 Xp).length k16, .slice a18 (deltasOf 0 (counts Xn)).length k18, .slice a19 (deltasOf 0 (counts Xp)).length k19, .slice none 0 0, .int .u64 0, .float .f64 0, .slice none 0 0, .bool false, .int .i64 0], .bool true]) (Mt.res2 rfl _ _ _ _ _ _ rfl (Big.loaded_whole 40 (w.heap.size + 1) 40 _ HX7.out _ Tryz.underlying40 rfl hsz27) rfl) rfl HF.out

  · have CW := Lib.hid (written_err t v w4)
    clear CN hG hok hV hL hr hp1 hq1 hPi hQi hcP hcQ htP htQ hkP hkQ CD CMp CMq HM2 HM3 HM3p HD1 HD2 HD3 HB1 HB2 HB3
    go_wp2_with fail
    refine CW.out.mono ?_
    rintro e w5 ⟨rfl, hb5⟩
    have hx5 : Whole w5 (w.heap.size + 1) 40 #[.slice none 0 0, .int .i64 0, .float .f64 0, .bool false, .float .f64 0, .slice none 0 0, .int .i64 0, .int .i64 0, .bool false, .int .u64 0, .float .f64 0, .slice none 0 0, .int .i64 0, .bool false, .int .i32 0, .float .f64 0, .int .u64 0, .slice none 0 0, .slice none 0 0, .slice none 0 0, .slice none 0 0, .slice none 0 0, .int .u64 0, .float .f64 0, .slice none 0 0, .bool false, .int .i64 0] := (hb5.block _ hWr4.lt).trans hWr4
    have HOut : Hid (∀ Wf, w5.grownBy Wf (some (w.heap.size + 1)) → ConstN (OkN sch z count (tP + tQ + zc)) (labs [] [] (fit L)) count z sch zt zc P Q w (.returned (.tuple #[.agg #[.slice none 0 0, .int .i64 0, .float .f64 0, .bool false, .float .f64 0, .slice none 0 0, .int .i64 0, .int .i64 0, .bool false, .int .u64 0, .float .f64 0, .slice none 0 0, .int .i64 0, .bool false, .int .i32 0, .float .f64 0, .int .u64 0, .slice none 0 0, .slice none 0 0, .slice none 0 0, .slice none 0 0, .slice none 0 0, .int .u64 0, .float .f64 0, .slice none 0 0, .bool false, .int .i64 0], .bool false])) Wf) := fun Wf hg =>
      ⟨Or.inr ⟨hk, rfl⟩, ((HU.out _ HB4.out).trans (hb5.mono (by omega))).grown hg (by have := hb5.size; omega) (fun j hj => by injection hj with hj; omega)⟩
    clear hb5
    rename_i K1 hK1 K2 hK2
    dsimp only
    refine hK2 _ _ ?_
    refine wpList_plain rfl fun K3 hK3 => ?_
    go_simp
    refine hK3 _ _ ?_
    refine wpList_plain rfl fun K4 hK4 => ?_
    go_simp
    refine hK4 _ _ ?_
    refine Big.wpList_store_whole rfl _ _ _ rfl (w.heap.size + 1) 40 #[.slice none 0 0, .int .i64 0, .float .f64 0, .bool false, .float .f64 0, .slice none 0 0, .int .i64 0, .int .i64 0, .bool false, .int .u64 0, .float .f64 0, .slice none 0 0, .int .i64 0, .bool false, .int .i32 0, .float .f64 0, .int .u64 0, .slice none 0 0, .slice none 0 0, .slice none 0 0, .slice none 0 0, .slice none 0 0, .int .u64 0, .float .f64 0, .slice none 0 0, .bool false, .int .i64 0] #[.slice none 0 0, .int .i64 0, .float .f64 0, .bool false, .float .f64 0, .slice none 0 0, .int .i64 0, .int .i64 0, .bool false, .int .u64 0, .float .f64 0, .slice none 0 0, .int .i64 0, .bool false, .int .i32 0, .float .f64 0, .int .u64 0, .slice none 0 0, .slice none 0 0, .slice none 0 0, .slice none 0 0, .slice none 0 0, .int .u64 0, .float .f64 0, .slice none 0 0, .bool false, .int .i64 0] rfl rfl hx5 rfl hsz27 (by simp [Value.oneCell']) ?_
    intro W7 hx7 hg7 hs7
    simp only [Act.put]
    have HF := Lib.hid (HOut.out W7 hg7)
    have HX7 := Lib.hid hx7
    clear hx7 hg7 hs7 HOut
    go_wp2_with fail
    exact bodyPost_ret (v := .tuple #[.agg #[.slice none 0 0, .int .i64 0, .float .f64 0, .bool false, .float .f64 0, .slice none 0 0, .int .i64 0, .int .i64 0, .bool false, .int .u64 0, .float .f64 0, .slice none 0 0, .int .i64 0, .bool false, .int .i32 0, .float .f64 0, .int .u64 0, .slice none 0 0, .slice none 0 0, .slice none 0 0, .slice none 0 0, .slice none 0 0, .int .u64 0, .float .f64 0, .slice none 0 0, .bool false, .int .i64 0], .bool false]) (Mt.res2 rfl _ _ _ _ _ _ rfl (Big.loaded_whole 40 (w.heap.size + 1) 40 _ HX7.out _ Tryz.underlying40 rfl hsz27) rfl) rfl HF.out

end Go.Proofs.YtlolomodcbkblaaGreatDoor.Cn
