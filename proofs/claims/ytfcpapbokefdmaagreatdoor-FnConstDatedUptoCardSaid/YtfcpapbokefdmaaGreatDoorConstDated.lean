/- FnConstDated: a constant counter with a created timestamp is that counter with the timestamp; for gauges and untyped metrics it is an error: how the arguments are read, and the walk of the law. -/
import Derived.Test.YtfcpapbokefdmaaGreatDoorMte
import Derived.Test.YtfcpapbokefdmaaGreatDoorMtf
import Derived.Test.YtfcpapbokefdmaaGreatDoorNsh
import Derived.Test.YtfcpapbokefdmaaGreatDoorNsf
import Derived.Test.YtfcpapbokefdmaaGreatDoorNgl
import Derived.Deep.DeepCutAuto
set_option linter.unusedVariables false
set_option linter.unusedSimpArgs false
namespace Go.Proofs.YtfcpapbokefdmaaGreatDoor.ConstDated
open Go.RowKit Go.Maps Go.WideMaps Go.ChangeShapes Go.WideShapes Go.Deep Fp Obs _root_.Go.Proofs.YtfcpapbokefdmaaGreatDoor.Nd _root_.Go.Proofs.YtfcpapbokefdmaaGreatDoor.Mt

def Good (w : World) (v : Value) : Prop := ∃ nm hp un V L, MetaAt w v nm hp un V L ∧ Small nm hp un V L
def GoodS (w : World) (v : Value) : Prop := ∃ X : List ByteArray, Sl.Of Value.string w v X ∧ wt X ≤ 1048576
set_option maxRecDepth 100000 in
theorem read0 {H : Type} {enc : TypeId × Value → H} {W : World} {base b0 : Nat} {held : Bool} {r : Reach} {v : Value} {d : DataW H} {p : List MemPlace}
    (hv : Value.okWide Tryz.prog W r b0 25 v) (h : DataW.Trod enc Tryz.prog W base (fun _ => true) held 25 v d p) (hb : Rows.uptoBulk d ≤ 1048576) : Good W v := by
  obtain ⟨nm, hp, un, V, L, h1, h2, _⟩ := meta_read hv h hb
  exact ⟨nm, hp, un, V, L, h1, h2⟩
set_option maxRecDepth 100000 in
theorem read4 {H : Type} {enc : TypeId × Value → H} {W : World} {base b0 : Nat} {held : Bool} {r : Reach} {v : Value} {d : DataW H} {p : List MemPlace}
    (hv : Value.okWide Tryz.prog W r b0 22 v) (h : DataW.Trod enc Tryz.prog W base (fun _ => true) held 22 v d p) (hb : Rows.uptoBulk d ≤ 1048576) : GoodS W v := by
  obtain ⟨zs, h1, _, h2⟩ := Sl.open_strings_bulk Tryz.underlying22 Tryz.underlying9 (by kernel_rfl) hv h
  exact ⟨zs, h1, Nat.le_trans h2 hb⟩

/-- the reference's metric lies in block x -/
structure Want (LB : List P2) (kind : Int) (z x : Nat) (B : Nat) (A wx : World) : Prop where
  blk : ∃ a c, Whole wx x 62 (xcs (.slice a LB.length c) kind z false 0 false 0) ∧ Ss.Of 2 pc wx (.slice a LB.length c) LB
  b : Below B A wx
  lo : B ≤ x

set_option maxHeartbeats 16000000 in
set_option maxRecDepth 100000 in
theorem law_any (v : Value) (k : Int) (z : Nat) (t : Int) (v3 : Value) (w : World) (g1 : Good w v) (hk : (Lit.int .u8 k).wf = true) (hz : z < 18446744073709551616) (ht : (Lit.int .i64 t).wf = true) (g2 : GoodS w v3) (hG : Glob w) :
    Calls Tryz.prog 8 #[v, .int .u8 k, .float .f64 z, .int .i64 t, v3] w fun e w' => e = .returned (.bool true) ∧ Below w.heap.size w w' := by
  obtain ⟨nm, hp, un, V, L, hm, hs⟩ := g1
  obtain ⟨X, hx, hxw⟩ := g2
  simp [Lit.wf, IntKind.min, IntKind.max, IntKind.signed, IntKind.bits] at hk
  obtain ⟨k, rfl⟩ := Int.eq_ofNat_of_zero_le hk.1
  have hk2 : k < 256 := by omega
  clear hk
  have hall := hs.all
  have hxl := wt_len X
  have hxs : ∀ s ∈ X, s.size ≤ 1048576 := fun s h => Nat.le_trans (mem_wt h) hxw
  have hkc := kind_cases k
  obtain ⟨vv, cv, rfl, hvv, hcv⟩ := id hm.val
  obtain ⟨A, hA⟩ : ∃ A, A = w.alloc (.cells #[.string nm, .string hp, .string un, vv, cv] 25) := ⟨_, rfl⟩
  have s2 : A.heap.size = w.heap.size + 1 := by rw [hA]; simp
  have hqb : Below w.heap.size w A := by rw [hA]; exact (Below.refl _ _).alloc (Nat.le_refl _) _
  have HUp : Hid (∀ W : World, Below (w.heap.size + 1) A W → Below w.heap.size w W) := fun W h => hqb.trans (h.mono (by omega))
  have HTr : Hid (∀ W W' : World, Below (w.heap.size + 1) A W → Below W.heap.size W W' → Below (w.heap.size + 1) A W') := fun W W' h h' => h.trans (h'.mono (by have := h.size; omega))
  have HC : Hid (∀ W : World, Below (w.heap.size + 1) A W → W.cell? ⟨w.heap.size, 0, none⟩ = some (.string nm) ∧ W.cell? ⟨w.heap.size, 1, none⟩ = some (.string hp) ∧ W.cell? ⟨w.heap.size, 2, none⟩ = some (.string un) ∧ W.cell? ⟨w.heap.size, 3, none⟩ = some vv ∧ W.cell? ⟨w.heap.size, 4, none⟩ = some cv) := fun W h => by
    rw [hA] at h
    have e : ∀ j, W.cell? ⟨w.heap.size, j, none⟩ = (#[.string nm, .string hp, .string un, vv, cv] : Array Value)[j]? := fun j => (h.cell (p := ⟨w.heap.size, j, none⟩) (by show w.heap.size < w.heap.size + 1; omega)).trans (Sl.cell_new w _ _ j)
    exact ⟨e 0, e 1, e 2, e 3, e 4⟩
  obtain ⟨LB, hLB⟩ : ∃ LB, labs V X (fit L) = LB := ⟨_, rfl⟩
  obtain ⟨kd, hkd⟩ : ∃ kd, kindOf k = kd := ⟨_, rfl⟩
  have hll : LB.length ≤ 2147483647 := by
    have := labs_len (V := V) (X := X) (F := fit L)
    have := fit_le L
    have := hm.lenL
    have := hm.lenV
    rw [← hLB]; omega
  have HF4 : Hid (∀ W : World, Below (w.heap.size + 1) A W → Calls Tryz.prog 10 #[.agg #[.string nm, .string hp, .string un, vv, cv]] W (fun e w' => e = .returned (.bool true) ∧ Below (w.heap.size + 1) A w')) := fun W h => (fits4_any _ nm hp un V L W (hm.below (HUp.out W h)) hs).mono fun e w' ⟨he, hb⟩ => ⟨he, HTr.out _ _ h hb⟩
  have HF3 : Hid (∀ W : World, Below (w.heap.size + 1) A W → Calls Tryz.prog 16 #[v3] W (fun e w' => e = .returned (.bool true) ∧ W = w')) := fun W h => Fits.fits3_any v3 X W (hx.below (HUp.out W h)) (by omega) (fun z hz => by have := hxs z hz; omega)
  have CK : Hid (∀ W : World, Below (w.heap.size + 1) A W → Calls Tryz.prog 31 #[.int .u8 (k : Int)] W (fun e w' => e = .returned (.int .i64 kd) ∧ Below (w.heap.size + 1) A w' ∧ Below W.heap.size W w')) := fun W h => (valueKind_any k hk2 W).mono fun e w' ⟨he, hb⟩ => ⟨by rw [he, hkd], HTr.out _ _ h hb, hb⟩
  have CC : Hid (∀ W : World, Below (w.heap.size + 1) A W → Calls Tryz.prog 30 #[.agg #[.string nm, .string hp, .string un, vv, cv], .int .i64 kd, .float .f64 z, v3] W (fun e w' => ∃ a c, e = .returned (.tuple #[.agg (xcs (.slice a LB.length c) kd z false 0 false 0), .bool (sayB nm hp un V L && sayVB V X)]) ∧ Ss.Of 2 pc w' (.slice a LB.length c) LB ∧ Below (w.heap.size + 1) A w' ∧ Below W.heap.size W w')) := fun W h => by
    refine (constMetric_any _ nm hp un V X L v3 kd z W (hm.below (HUp.out W h)) (hx.below (HUp.out W h)) (by omega) (fun s h => by have := hxs s h; omega) (by rw [← hkd]; exact hkc)).mono ?_
    rintro e w' ⟨lab, rfl, ho, hb⟩
    rw [hLB] at ho
    obtain ⟨a, c, rfl, _, _⟩ := ho.slice
    exact ⟨a, c, rfl, ho, HTr.out _ _ h hb, hb⟩
  have HLv : Hid (∀ W : World, Below (w.heap.size + 1) A W → Calls Tryz.prog 32 #[] W (fun e w' => e = .returned (.bool true) ∧ Below (w.heap.size + 1) A w')) := fun W h => (awake_any W (hG.below (HUp.out W h))).mono fun e w' ⟨he, hb⟩ => ⟨he, HTr.out _ _ h hb⟩
  have hsz62 : (Tryz.prog.info? 62).map (·.size) = some 27 := by kernel_rfl
  have hsz75 : (Tryz.prog.info? 75).map (·.size) = some 27 := by kernel_rfl
  have k0 := HC.out A (Below.refl _ _)
  have HB0 : Hid (Below (w.heap.size + 1) A A) := Below.refl _ _
  go_enter Tryz.func8, Tryz.ntmps8
  go_wp2_with fail
  rw [← hA]
  clear hA
  refine (HF4.out A HB0.out).mono ?_
  rintro e w1 ⟨rfl, hb1⟩
  have HB1 := Lib.hid hb1
  have k1 := HC.out _ hb1
  clear hb1 k0
  go_wp2_with fail
  refine (HF3.out w1 HB1.out).mono ?_
  rintro e w2 ⟨rfl, rfl⟩
  go_wp2_with fail
  refine (CK.out w1 HB1.out).mono ?_
  rintro e y1 ⟨rfl, hb1, hxx⟩
  clear hxx
  have k2 := HC.out _ hb1
  have HE1 := Lib.hid hb1
  clear hb1 k1
  go_wp2_with fail
  refine (CC.out _ HE1.out).mono ?_
  rintro e y2 ⟨a2, c2, rfl, ho2, hb2, hxx⟩
  clear hxx
  have HE2 := Lib.hid hb2
  have hz2 := hb2.size
  have HO2 := Lib.hid ho2
  clear ho2 hb2 k2
  rename_i K1 hK1 K2 hK2
  dsimp only
  refine hK2 _ _ ?_
  refine wpList_plain rfl fun K3 hK3 => ?_
  go_simp
  refine hK3 _ _ ?_
  clear hK3 K3
  refine wpList_plain rfl fun K3 hK3 => ?_
  go_simp
  refine hK3 _ _ ?_
  clear hK3 K3
  refine wpList_plain rfl fun K3 hK3 => ?_
  go_simp
  refine hK3 _ _ ?_
  clear hK3 K3
  refine wpList_plain rfl fun K3 hK3 => ?_
  go_simp
  refine hK3 _ _ ?_
  clear hK3 K3
  refine Big.wpList_store_whole rfl _ _ _ rfl y2.heap.size 62 (xcs (.slice none 0 0) 0 0 false 0 false 0) (xcs (.slice a2 LB.length c2) kd z false 0 false 0) rfl rfl (Whole.made y2 _ _) rfl hsz62 (xcs_ones _ _ _ _ _ _ _ _ _) ?_
  intro W5 hx5 hg5 hs5
  simp only [Act.put]
  have hb25 : Below y2.heap.size y2 W5 := ((Below.refl _ _).alloc (Nat.le_refl _) _).grown hg5 (by simp) (fun j hj => by injection hj with hj; omega)
  have HB5 : Hid (Below (w.heap.size + 1) A W5) := HTr.out _ _ HE2.out hb25
  have HX5 := Lib.hid hx5
  have HO5 := Lib.hid (HO2.out.below hb25)
  have hlx : w.heap.size < y2.heap.size := by omega
  clear hx5 hg5 hs5 hb25 HO2 HE2 HE1
  cases hsay : (sayB nm hp un V L && sayVB V X) with
  | false =>
    clear CC CK HF4 HF3 hm hs hvv hcv hqb hx
    go_wp2_with fail
    refine (HLv.out _ HB5.out).mono ?_
    rintro e w7 ⟨rfl, hb7⟩
    have HF := Lib.hid (HUp.out _ hb7)
    clear hb7
    go_wp2_with fail
    go_ret
    exact ⟨rfl, HF.out⟩
  | true =>
    obtain ⟨hb1, hb2⟩ := Bool.and_eq_true_iff.1 hsay
    obtain ⟨hxa, hxV⟩ := sayVB_iff.1 hb2
    have ok := new_ok hb1 hs
    have hr : ∀ p ∈ L, p.1.size ≤ 2147483647 ∧ p.2.size ≤ 2147483647 := fun p hp => by have := mem_wp hp; omega
    have hxs2 : ∀ s ∈ X, Asc s ∧ s.size ≤ 9223372036854775807 := fun s h => ⟨ascii_asc (hxa s h), by have := hxs s h; omega⟩
    have x8 : W5.cell? ⟨y2.heap.size, 8, none⟩ = some (.bool false) := HX5.out.cell 8
    have x7 : W5.cell? ⟨y2.heap.size, 7, none⟩ = some (.int .i64 0) := HX5.out.cell 7
    have f8 := HX5.out.free 8
    have f7 := HX5.out.free 7
    go_upto_region 8 with fail
    obtain ⟨W6, hW6⟩ : ∃ W6, W6 = (W5.setCell ⟨y2.heap.size, 8, none⟩ (.bool true)).setCell ⟨y2.heap.size, 7, none⟩ (.int .i64 t) := ⟨_, rfl⟩
    rw [← hW6]
    have hg56 : W5.grownBy W6 (some y2.heap.size) := by
      rw [hW6]
      refine ⟨rfl, rfl, rfl, by simp [World.setCell], fun k hk hne => ?_⟩
      have hkb : k ≠ y2.heap.size := by rintro rfl; exact hne rfl
      rw [Below.heap_setCell _ ⟨y2.heap.size, 7, none⟩ _ k hkb, Below.heap_setCell _ ⟨y2.heap.size, 8, none⟩ _ k hkb]
    have hx6 : Whole W6 y2.heap.size 62 (xcs (.slice a2 LB.length c2) kd z true t false 0) := by rw [hW6]; exact (HX5.out.put 8 (.bool true)).put 7 (.int .i64 t)
    have ho6 : Ss.Of 2 pc W6 (.slice a2 LB.length c2) LB := ss_far HO5.out (xcs_far _ _ _ _ _ _ _ _ _) HX5.out hg56
    have HB6 : Hid (Below (w.heap.size + 1) A W6) := HB5.out.grown hg56 (by have := HB5.out.size; omega) (fun j hj => by injection hj with hj; omega)
    clear hW6 x8 x7 f8 f7 HX5 HO5 HB5
    have HU5 : Hid (∀ W, Below W6.heap.size W6 W → Below (w.heap.size + 1) A W) := fun W h => HTr.out _ _ HB6.out h
    have HWt : Hid (∀ W, Below W6.heap.size W6 W → Whole W y2.heap.size 62 (xcs (.slice a2 LB.length c2) kd z true t false 0) ∧ Ss.Of 2 pc W (.slice a2 LB.length c2) LB) := fun W h => ⟨(h.block _ hx6.lt).trans hx6, ho6.below h⟩
    have CM : Hid (∀ W, Below W6.heap.size W6 W → Calls Tryz.prog 14 #[.agg #[.string nm, .string hp, .string un, vv, cv]] W (fun e w' => ∃ v2 c2, e = .returned (.agg #[.string nm, .string hp, .string un, v2, c2]) ∧ Sl.Of Value.string w' v2 V ∧ Ss.Of 2 pc w' c2 L ∧ Below W6.heap.size W6 w')) := fun W h =>
      (metaTo_any _ nm hp un V L W (hm.below (HUp.out _ (HU5.out W h)))).mono fun e w' ⟨v2, c2, he, hv, hc, hb⟩ => ⟨v2, c2, he, hv, hc, h.trans (hb.mono h.size)⟩
    have k6 := HC.out W6 HB6.out
    have HB66 : Hid (Below W6.heap.size W6 W6) := Below.refl _ _
    by_cases hk0 : kd = 0
    · subst hk0
      have CD : Hid (∀ W va ca, Below W6.heap.size W6 W → Sl.Of Value.string W va V → Ss.Of 2 pc W ca L → Calls Tryz.prog 36 #[.agg #[.string nm, .string hp, .string un, va, ca], .int .i64 0, .float .f64 z, .int .i64 t, v3] W (fun e w' => ∃ a c, e = .returned (.tuple #[.agg (xcs (.slice a LB.length c) 0 z true t false 0), .bool true]) ∧ Ss.Of 2 pc w' (.slice a LB.length c) LB ∧ Below W6.heap.size W6 w')) := fun W va ca h h1 h2 => by
        have h0 := HUp.out _ (HU5.out W h)
        refine (constDated_any nm hp un V X L va ca v3 t z W (hG.below h0) ok h1 h2 hr (hx.below h0) hxV hxs2).mono ?_
        rintro e w' ⟨a, c, rfl, ho, hb⟩
        rw [hLB] at ho ⊢
        exact ⟨a, c, rfl, Ss.Of.own pc_len ho, h.trans (hb.mono h.size)⟩
      clear CC CK HF4 HF3 hm hs hvv hcv hqb hx hxs2 hr ok hxa hxV hb1 hb2 hsay hx6 ho6 hg56 hLB hkd hkc
      go_wp2_with fail
      refine (CM.out _ HB66.out).mono ?_
      rintro e y3 ⟨va, ca, rfl, hv1, hc1, hb1⟩
      have CDa := Lib.hid (CD.out _ _ _ hb1 hv1 hc1)
      clear hv1 hc1 hb1 k6
      go_wp2_with fail
      refine CDa.out.mono ?_
      rintro e y4 ⟨a3, c3, rfl, ho3, hb3⟩
      have HE3 := Lib.hid hb3
      have HO3 := Lib.hid ho3
      clear ho3 hb3 CDa CM CD
      rename_i K1 hK1 K2 hK2
      dsimp only
      refine hK2 _ _ ?_
      refine wpList_plain rfl fun K3 hK3 => ?_
      go_simp
      refine hK3 _ _ ?_
      clear hK3 K3
      refine wpList_plain rfl fun K3 hK3 => ?_
      go_simp
      refine hK3 _ _ ?_
      clear hK3 K3
      refine wpList_plain rfl fun K3 hK3 => ?_
      go_simp
      refine hK3 _ _ ?_
      clear hK3 K3
      refine wpList_plain rfl fun K3 hK3 => ?_
      go_simp
      refine hK3 _ _ ?_
      clear hK3 K3
      refine Big.wpList_store_whole rfl _ _ _ rfl y4.heap.size 75 (xcs (.slice none 0 0) 0 0 false 0 false 0) (xcs (.slice a3 LB.length c3) 0 z true t false 0) rfl rfl (Whole.made y4 _ _) rfl hsz75 (xcs_ones _ _ _ _ _ _ _ _ _) ?_
      intro y5 hx4 hg4 hs4
      simp only [Act.put]
      have hb34 : Below y4.heap.size y4 y5 := ((Below.refl _ _).alloc (Nat.le_refl _) _).grown hg4 (by simp) (fun j hj => by injection hj with hj; omega)
      have hb4 : Below W6.heap.size W6 y5 := HE3.out.trans (hb34.mono HE3.out.size)
      have HQ : Hid (∀ W, Below y5.heap.size y5 W → Whole W y4.heap.size 75 (xcs (.slice a3 LB.length c3) 0 z true t false 0) ∧ Whole W y2.heap.size 62 (xcs (.slice a2 LB.length c2) 0 z true t false 0)) := fun W h => ⟨(h.block _ hx4.lt).trans hx4, (HWt.out _ (hb4.trans (h.mono hb4.size))).1⟩
      have HP : Hid (∀ W, Below y5.heap.size y5 W → Ss.Of 2 pc W (.slice a3 LB.length c3) LB ∧ Ss.Of 2 pc W (.slice a2 LB.length c2) LB) := fun W h => ⟨(HO3.out.below hb34).below h, (HWt.out _ (hb4.trans (h.mono hb4.size))).2⟩
      have HU4 : Hid (∀ W, Below y5.heap.size y5 W → Below (w.heap.size + 1) A W) := fun W h => HU5.out _ (hb4.trans (h.mono hb4.size))
      have CF : Hid (∀ W, Below y5.heap.size y5 W → Calls Tryz.prog 35 #[.agg (xcs (.slice a3 LB.length c3) 0 z true t false 0)] W (fun e w' => ∃ fv, e = .returned (.agg fv) ∧ FromOk w' fv LB 0 z true t false 0 ∧ Below y5.heap.size y5 w')) := fun W h => (from_x LB _ 0 z true t false 0 W (HP.out W h).1 hll).mono fun e w' ⟨fv, he, hf, hb⟩ => ⟨fv, he, hf, h.trans (hb.mono h.size)⟩
      have CS : Hid (∀ W fv, Below y5.heap.size y5 W → FromOk W fv LB 0 z true t false 0 → Calls Tryz.prog 34 #[.agg fv, .agg (xcs (.slice a2 LB.length c2) 0 z true t false 0)] W (fun e w' => e = .returned (.bool true) ∧ Below y5.heap.size y5 w')) := fun W fv h hf => (same_x LB fv _ 0 z true t false 0 W hf (HP.out W h).2 hll).mono fun e w' ⟨he, hb⟩ => ⟨he, h.trans (hb.mono h.size)⟩
      have HE0 : Hid (Below y5.heap.size y5 y5.drew) := bdr (Below.refl _ _) 1
      have k1 := HQ.out _ HE0.out
      have CL : Hid (∀ W, Below y5.heap.size y5 W → Calls Tryz.prog 32 #[] W (fun e w' => e = .returned (.bool true) ∧ Below (w.heap.size + 1) A w' ∧ Below y5.heap.size y5 w')) := fun W h => (awake_any W (hG.below (HUp.out _ (HU4.out W h)))).mono fun e w' ⟨he, hb⟩ => ⟨he, HTr.out _ _ (HU4.out W h) hb, h.trans (hb.mono h.size)⟩
      clear hx4 hg4 hs4 hb34 hb4 HE3 HO3 HWt HU5 hG
      go_wp2_with fail
      refine wp_region_noPanic ?_
      refine wp_region_held_drew (S := fun W => Whole W y4.heap.size 75 (xcs (.slice a3 LB.length c3) 0 z true t false 0) ∧ Whole W y2.heap.size 62 (xcs (.slice a2 LB.length c2) 0 z true t false 0)) (by kernel_rfl) (by (with_reducible exact k1)) (fun hHeld => ?_)
      refine wpAnyH_take (i := 0) (v := ?_) rfl (by kernel_rfl) (by kernel_rfl) (by kernel_rfl) (fun _ _ _ h => h) (Or.inl ⟨by rfl, ?_⟩) hHeld ?_
      rotate_left
      · intro w hSw; (try dsimp only at hSw); go_simp; (try with_reducible rfl)
      try simp only [Act.put, List.setIfInBounds_toArray, List.set_cons_zero, List.set_cons_succ, List.getElem_toArray, List.getElem_cons_zero, List.getElem_cons_succ]
      refine wpAnyH_take (i := 1) (v := ?_) rfl (by kernel_rfl) (by kernel_rfl) (by kernel_rfl) (fun _ _ _ h => h) (Or.inl ⟨by rfl, ?_⟩) hHeld ?_
      rotate_left
      · intro w hSw; (try dsimp only at hSw); go_simp; (try with_reducible rfl)
      try simp only [Act.put, List.setIfInBounds_toArray, List.set_cons_zero, List.set_cons_succ, List.getElem_toArray, List.getElem_cons_zero, List.getElem_cons_succ]
      refine wpAnyH_take (i := 2) (v := .agg (xcs (.slice a3 LB.length c3) 0 z true t false 0)) rfl (by kernel_rfl) (by kernel_rfl) (by kernel_rfl) (fun _ _ _ h => h) (yields_whole (by rfl) 75 _ rfl y4.heap.size 75 (xcs (.slice a3 LB.length c3) 0 z true t false 0) rfl (fun W h => h.1) _ Tryz.underlying75 rfl hsz75) hHeld ?_
      try simp only [Act.put, List.setIfInBounds_toArray, List.set_cons_zero, List.set_cons_succ, List.getElem_toArray, List.getElem_cons_zero, List.getElem_cons_succ]
      refine wpAnyH_take (i := 4) (v := .agg (xcs (.slice a2 LB.length c2) 0 z true t false 0)) rfl (by kernel_rfl) (by kernel_rfl) (by kernel_rfl) (fun _ _ _ h => h) (yields_whole (by rfl) 62 _ rfl y2.heap.size 62 (xcs (.slice a2 LB.length c2) 0 z true t false 0) rfl (fun W h => h.2) _ Tryz.underlying62 rfl hsz62) hHeld ?_
      try simp only [Act.put, List.setIfInBounds_toArray, List.set_cons_zero, List.set_cons_succ, List.getElem_toArray, List.getElem_cons_zero, List.getElem_cons_succ]
      refine wpAnyH_ready (rs := [3]) (by kernel_rfl) (by simp) (AllReadyH.cons rfl (fun K hK => ?_) AllReadyH.nil)
      go_simp
      go_at_call 35; refine (CF.out _ HE0.out).mono ?_; rintro e z1 ⟨fv, rfl, hf, hb⟩; have HF1 := Lib.hid hf; have HE1 := Lib.hid hb; have q1 := HQ.out _ hb; clear hb hf
      refine hK.out _ _ ?_ (fun hHeld2 => ?_)
      · first | (with_reducible exact q1) | (with_reducible exact q2) | (with_reducible exact q3)
      clear hK K hHeld; have hHeld := hHeld2; clear hHeld2
      try simp only [Act.put, List.setIfInBounds_toArray, List.set_cons_zero, List.set_cons_succ, List.getElem_toArray, List.getElem_cons_zero, List.getElem_cons_succ]
      refine wpAnyH_ready (rs := [5]) (by kernel_rfl) (by simp) (AllReadyH.cons rfl (fun K hK => ?_) AllReadyH.nil)
      go_simp
      go_at_call 34; refine (CS.out _ _ HE1.out HF1.out).mono ?_; rintro e z2 ⟨rfl, hb⟩; have HE2 := Lib.hid hb; have q2 := HQ.out _ hb; clear hb
      refine hK.out _ _ ?_ (fun hHeld2 => ?_)
      · first | (with_reducible exact q1) | (with_reducible exact q2) | (with_reducible exact q3)
      clear hK K hHeld; have hHeld := hHeld2; clear hHeld2
      try simp only [Act.put, List.setIfInBounds_toArray, List.set_cons_zero, List.set_cons_succ, List.getElem_toArray, List.getElem_cons_zero, List.getElem_cons_succ]
      refine wpAnyH_take (i := 6) (v := ?_) rfl (by kernel_rfl) (by kernel_rfl) (by kernel_rfl) (fun _ _ _ h => h) (Or.inl ⟨by rfl, ?_⟩) hHeld ?_
      rotate_left
      · intro w hSw; (try dsimp only at hSw); go_simp; (try with_reducible rfl)
      try simp only [Act.put, List.setIfInBounds_toArray, List.set_cons_zero, List.set_cons_succ, List.getElem_toArray, List.getElem_cons_zero, List.getElem_cons_succ]
      refine wpAnyH_take (i := 7) (v := ?_) rfl (by kernel_rfl) (by kernel_rfl) (by kernel_rfl) (fun _ _ _ h => h) (Or.inl ⟨by rfl, ?_⟩) hHeld ?_
      rotate_left
      · intro w hSw; (try dsimp only at hSw); go_simp; (try with_reducible rfl)
      try simp only [Act.put, List.setIfInBounds_toArray, List.set_cons_zero, List.set_cons_succ, List.getElem_toArray, List.getElem_cons_zero, List.getElem_cons_succ]
      refine wpAnyH_ready (rs := [8]) (by kernel_rfl) (by simp) (AllReadyH.cons rfl (fun K hK => ?_) AllReadyH.nil)
      go_simp
      go_at_call 32; refine (CL.out _ HE2.out).mono ?_; rintro e z3 ⟨rfl, hb, hb'⟩; have HFin := Lib.hid (HUp.out _ hb); have q3 := HQ.out _ hb'; clear hb hb'
      refine hK.out _ _ ?_ (fun hHeld2 => ?_)
      · first | (with_reducible exact q1) | (with_reducible exact q2) | (with_reducible exact q3)
      clear hK K hHeld; have hHeld := hHeld2; clear hHeld2
      try simp only [Act.put, List.setIfInBounds_toArray, List.set_cons_zero, List.set_cons_succ, List.getElem_toArray, List.getElem_cons_zero, List.getElem_cons_succ]
      refine wpAnyH_take (i := 9) (v := ?_) rfl (by kernel_rfl) (by kernel_rfl) (by kernel_rfl) (fun _ _ _ h => h) (Or.inl ⟨by rfl, ?_⟩) hHeld ?_
      rotate_left
      · intro w hSw; (try dsimp only at hSw); go_simp; (try with_reducible rfl)
      try simp only [Act.put, List.setIfInBounds_toArray, List.set_cons_zero, List.set_cons_succ, List.getElem_toArray, List.getElem_cons_zero, List.getElem_cons_succ]
      refine wpAnyH_take (i := 10) (v := ?_) rfl (by kernel_rfl) (by kernel_rfl) (by kernel_rfl) (fun _ _ _ h => h) (Or.inl ⟨by rfl, ?_⟩) hHeld ?_
      rotate_left
      · intro w hSw; (try dsimp only at hSw); go_simp; (try with_reducible rfl)
      try simp only [Act.put, List.setIfInBounds_toArray, List.set_cons_zero, List.set_cons_succ, List.getElem_toArray, List.getElem_cons_zero, List.getElem_cons_succ]
      refine wpAnyH_done (by kernel_rfl) ?_ _
      refine NoPanic.normal ?_
      go_wp2_with fail
      go_ret
      exact ⟨rfl, HFin.out⟩
    · have hkn : (kd == 0) = false := beq_eq_false_iff_ne.2 hk0
      have hkm : (kd != 0) = true := bne_iff_ne.2 hk0
      have hk13 : kd = 1 ∨ kd = 3 := by rw [hkd] at hkc; rcases hkc with h | h | h; exact absurd h hk0; exact Or.inl h; exact Or.inr h
      have CD : Hid (∀ W va ca, Below W6.heap.size W6 W → Sl.Of Value.string W va V → Ss.Of 2 pc W ca L → Calls Tryz.prog 36 #[.agg #[.string nm, .string hp, .string un, va, ca], .int .i64 kd, .float .f64 z, .int .i64 t, v3] W (fun e w' => e = .returned (.tuple #[.agg (xcs (.slice none 0 0) 0 0 false 0 false 0), .bool false]) ∧ Below W6.heap.size W6 w')) := fun W va ca h h1 h2 => by
        have h0 := HUp.out _ (HU5.out W h)
        refine (constDated_err nm hp un V X L va ca v3 kd hk13 t z W (hG.below h0) ok h1 h2 hr (hx.below h0) hxV hxs2).mono ?_
        rintro e w' ⟨rfl, hb⟩
        exact ⟨rfl, h.trans (hb.mono h.size)⟩
      clear CC CK HF4 HF3 hm hs hvv hcv hqb hx hxs2 hr ok hxa hxV hb1 hb2 hsay hx6 ho6 hg56 hLB hkd hkc hk0 hk13
      go_wp2_with fail
      refine (CM.out _ HB66.out).mono ?_
      rintro e y3 ⟨va, ca, rfl, hv1, hc1, hb1⟩
      have CDa := Lib.hid (CD.out _ _ _ hb1 hv1 hc1)
      clear hv1 hc1 hb1 k6
      go_wp2_with fail
      refine CDa.out.mono ?_
      rintro e y4 ⟨rfl, hb3⟩
      have HE3 := Lib.hid hb3
      clear hb3 CDa CM CD
      rename_i K1 hK1 K2 hK2
      dsimp only
      refine hK2 _ _ ?_
      refine wpList_plain rfl fun K3 hK3 => ?_
      go_simp
      refine hK3 _ _ ?_
      clear hK3 K3
      refine wpList_plain rfl fun K3 hK3 => ?_
      go_simp
      refine hK3 _ _ ?_
      clear hK3 K3
      refine wpList_plain rfl fun K3 hK3 => ?_
      go_simp
      refine hK3 _ _ ?_
      clear hK3 K3
      refine wpList_plain rfl fun K3 hK3 => ?_
      go_simp
      refine hK3 _ _ ?_
      clear hK3 K3
      refine Big.wpList_store_whole rfl _ _ _ rfl y4.heap.size 75 (xcs (.slice none 0 0) 0 0 false 0 false 0) (xcs (.slice none 0 0) 0 0 false 0 false 0) rfl rfl (Whole.made y4 _ _) rfl hsz75 (xcs_ones _ _ _ _ _ _ _ _ _) ?_
      intro y5 hx4 hg4 hs4
      simp only [Act.put]
      have hb34 : Below y4.heap.size y4 y5 := ((Below.refl _ _).alloc (Nat.le_refl _) _).grown hg4 (by simp) (fun j hj => by injection hj with hj; omega)
      have HB7 : Hid (Below (w.heap.size + 1) A y5) := HU5.out _ (HE3.out.trans (hb34.mono HE3.out.size))
      clear hx4 hg4 hs4 hb34 HE3 HU5 HWt
      go_wp2_with fail
      refine (HLv.out _ HB7.out).mono ?_
      rintro e w7 ⟨rfl, hb7⟩
      have HF := Lib.hid (HUp.out _ hb7)
      clear hb7
      go_wp2_with fail
      go_ret
      exact ⟨rfl, HF.out⟩

end Go.Proofs.YtfcpapbokefdmaaGreatDoor.ConstDated
