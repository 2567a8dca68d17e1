/- A constant native histogram made (NewConstNativeHistogram). -/
import Derived.Test.YtlolomodcbkblaaGreatDoorMg15
import Derived.Test.YtlolomodcbkblaaGreatDoorMg8
set_option linter.unusedVariables false
set_option linter.unusedSimpArgs false
namespace Go.Proofs.YtlolomodcbkblaaGreatDoor.Cn
open Go.RowKit Go.Maps Go.WideMaps Go.ChangeShapes Go.WideShapes Go.Deep Fp Obs _root_.Go.Proofs.YtlolomodcbkblaaGreatDoor.Sp
open _root_.Go.Proofs.YtlolomodcbkblaaGreatDoor.Nd (Glob DescAt MakeOut make_any values_any labs Srt Pairs)
open _root_.Go.Proofs.YtlolomodcbkblaaGreatDoor.Mt (ptr)

/-- the segments made of a list of buckets -/
def Segs (P : List N2) (X : List Seg) : Prop := ∃ M, Rise M ∧ (∀ q, q ∈ M ↔ lastN P q.1 = some q.2) ∧ X = buildX M
/-- a constant native histogram in block hb -/
structure HistAt (W : World) (hb d : Nat) (count : Int) (z : Nat) (sch : Int) (zt : Nat) (zc : Int) (Xn Xp : List Seg) (F : List P2) : Prop where
  blk : ∃ c0 c1 ct sc zb zz vsn vdn vsp vdp lv, Whole W hb 249 #[ptr d, ptr c0, ptr c1, .slice none 0 0, ptr ct, ptr sc, ptr zb, ptr zz, vsn, vdn, vsp, vdp, .slice none 0 0, lv] ∧
    W.cell? ⟨c0, 0, none⟩ = some (.int .u64 count) ∧ W.cell? ⟨c1, 0, none⟩ = some (.float .f64 z) ∧ W.cell? ⟨ct, 0, none⟩ = some (.int .i64 0) ∧ W.cell? ⟨sc, 0, none⟩ = some (.int .i32 sch) ∧ W.cell? ⟨zb, 0, none⟩ = some (.float .f64 zt) ∧ W.cell? ⟨zz, 0, none⟩ = some (.int .u64 zc) ∧
    Spans W vsn (runsOf 0 Xn) ∧ Sl.Of (Value.int .i64) W vdn (deltasOf 0 (counts Xn)) ∧ Spans W vsp (runsOf 0 Xp) ∧ Sl.Of (Value.int .i64) W vdp (deltasOf 0 (counts Xp)) ∧ Pairs W lv F
/-- the conditions -/
def OkN (sch : Int) (z : Nat) (count sum : Int) : Prop := ¬ (sch > 8) ∧ ¬ (sch < -4) ∧ ((FloatKind.f64.format.order z z != some Ordering.eq) = true ∨ count = sum)
/-- .. or the error, where the schema is out of range or the counts do not fit -/
def NatOut (ok : Prop) (count : Int) (z : Nat) (sch : Int) (zt : Nat) (zc : Int) (P Q : List N2) (F : List P2) (w : World) (e : Ending) (w' : World) : Prop :=
  ((ok ∧ ∃ hb d Xn Xp, e = .returned (.tuple #[.iface 235 (ptr hb), .nilIface]) ∧ HistAt w' hb d count z sch zt zc Xn Xp F ∧ Segs Q Xn ∧ (Segs P Xp ∨ (Segs P [] ∧ Xp = [(0, [])]))) ∨
    (¬ ok ∧ ∃ t v, e = .returned (.tuple #[.nilIface, .iface t v]))) ∧ Below w.heap.size w w'

/-- a postcondition that simp lets alone -/
def AsR (R : Ending → World → Prop) (e : Ending) (w : World) : Prop := R e w
theorem spans_below {W W' : World} {v : Value} {R : List N2} (h : Spans W v R) (k : Below W.heap.size W W') : Spans W' v R := by
  obtain ⟨qs, h1, h2, h3⟩ := h
  exact ⟨qs, h1, h2.below k, fun i hi h4 => (h3 i hi h4).below k⟩
theorem ofU64_any (x : Int) (w : World) : Calls Tryz.prog 105 #[.int .u64 x] w fun e w' => e = .returned (.pointer (some ⟨w.heap.size, 0, none⟩)) ∧ w' = w.alloc (.cells #[.int .u64 x] 31) := by
  go_enter Tryz.func105, Tryz.ntmps105
  go_wp2
  go_ret
  exact ⟨rfl, rfl⟩
set_option maxHeartbeats 4000000 in
set_option maxRecDepth 100000 in
theorem newNative_any (d c : Nat) (nm hp un : ByteArray) (F : List P2) (v3 vn : Value) (P Q : List N2) (bp bq z zt : Nat) (count zc sch : Int) (w : World) (hG : Glob w) (hd : DescAt w d nm hp un [] F v3 c vn) (hs : Srt F) (hF : F.length ≤ 1048576) (hFn : (F.map (·.1)).Nodup)
    (hP : Mi w bp P) (hQ : Mi w bq Q) (hPl : P.length ≤ 2147483647) (hQl : Q.length ≤ 2147483647) (hcP : Counts P) (hcQ : Counts Q) (tP tQ : Int) (htP : ∀ s, SumOf P s → s = tP) (htQ : ∀ s, SumOf Q s → s = tQ) (hz : 0 ≤ zc ∧ zc ≤ 1073741824) (hcount : tP + tQ + zc ≤ count ∧ count ≤ 9223372036854775807)
    (hkP : ∀ q : N2, lastN P q.1 = some q.2 → (-1073741824 < q.1 ∧ q.1 < 1073741824) ∧ In64 q.2) (hkQ : ∀ q : N2, lastN Q q.1 = some q.2 → (-1073741824 < q.1 ∧ q.1 < 1073741824) ∧ In64 q.2) :
    Calls Tryz.prog 65 #[ptr d, .int .u64 count, .float .f64 z, .map (some bp), .map (some bq), .int .u64 zc, .int .i32 sch, .float .f64 zt, .int .i64 0, .slice none 0 0] w
      (NatOut (OkN sch z count (tP + tQ + zc)) count z sch zt zc P Q (labs [] [] F) w) := by
  obtain ⟨R, hR⟩ : ∃ R, NatOut (OkN sch z count (tP + tQ + zc)) count z sch zt zc P Q (labs [] [] F) w = R := ⟨_, rfl⟩
  have HR : Hid (∀ e w', NatOut (OkN sch z count (tP + tQ + zc)) count z sch zt zc P Q (labs [] [] F) w e w' → AsR R e w') := fun e w' h => by show R e w'; rw [← hR]; exact h
  rw [hR]
  refine Calls.mono (R := AsR R) ?_ fun e w' h => h
  clear hR
  obtain ⟨A1, hA1⟩ : ∃ A1, A1 = w.alloc (.cells #[.int .u64 count] 31) := ⟨_, rfl⟩
  obtain ⟨A2, hA2⟩ : ∃ A2, A2 = A1.alloc (.cells #[.float .f64 z] 24) := ⟨_, rfl⟩
  obtain ⟨A3, hA3⟩ : ∃ A3, A3 = A2.alloc (.cells #[.int .i32 sch] 21) := ⟨_, rfl⟩
  obtain ⟨A, hA⟩ : ∃ A, A = A3.alloc (.cells #[.float .f64 zt] 24) := ⟨_, rfl⟩
  have z1 : A1.heap.size = w.heap.size + 1 := by rw [hA1]; simp
  have z2 : A2.heap.size = w.heap.size + 1 + 1 := by rw [hA2]; simp [z1]
  have z3 : A3.heap.size = w.heap.size + 1 + 1 + 1 := by rw [hA3]; simp [z2]
  have s1 : A.heap.size = w.heap.size + 1 + 1 + 1 + 1 := by rw [hA]; simp [z3]
  have b1 : Below w.heap.size w A1 := by rw [hA1]; exact (Below.refl _ _).alloc (Nat.le_refl _) _
  have b2 : Below A1.heap.size A1 A2 := by rw [hA2]; exact (Below.refl _ _).alloc (Nat.le_refl _) _
  have b3 : Below A2.heap.size A2 A3 := by rw [hA3]; exact (Below.refl _ _).alloc (Nat.le_refl _) _
  have b4 : Below A3.heap.size A3 A := by rw [hA]; exact (Below.refl _ _).alloc (Nat.le_refl _) _
  have b24 : Below A2.heap.size A2 A := b3.trans (b4.mono (by omega))
  have b14 : Below A1.heap.size A1 A := b2.trans (b24.mono (by omega))
  have hb0 : Below w.heap.size w A := b1.trans (b14.mono (by omega))
  have hc0 : A.cell? ⟨w.heap.size, 0, none⟩ = some (.int .u64 count) := (b14.cell (p := ⟨w.heap.size, 0, none⟩) (by show w.heap.size < _; omega)).trans (by rw [hA1]; exact Sl.cell_new w _ _ 0)
  have hc1 : A.cell? ⟨w.heap.size + 1, 0, none⟩ = some (.float .f64 z) := (b24.cell (p := ⟨w.heap.size + 1, 0, none⟩) (by show w.heap.size + 1 < _; omega)).trans (by rw [hA2, ← z1]; exact Sl.cell_new A1 _ _ 0)
  have hc2 : A.cell? ⟨w.heap.size + 1 + 1, 0, none⟩ = some (.int .i32 sch) := (b4.cell (p := ⟨w.heap.size + 1 + 1, 0, none⟩) (by show w.heap.size + 1 + 1 < _; omega)).trans (by rw [hA3, ← z2]; exact Sl.cell_new A2 _ _ 0)
  have hc3 : A.cell? ⟨w.heap.size + 1 + 1 + 1, 0, none⟩ = some (.float .f64 zt) := by rw [hA, ← z3]; exact Sl.cell_new A3 _ _ 0
  have HUp : Hid (∀ W, Below A.heap.size A W → Below w.heap.size w W) := fun W h => hb0.trans (h.mono (by omega))
  have HC : Hid (∀ W, Below A.heap.size A W → W.cell? ⟨w.heap.size, 0, none⟩ = some (.int .u64 count) ∧ W.cell? ⟨w.heap.size + 1, 0, none⟩ = some (.float .f64 z) ∧ W.cell? ⟨w.heap.size + 1 + 1, 0, none⟩ = some (.int .i32 sch) ∧ W.cell? ⟨w.heap.size + 1 + 1 + 1, 0, none⟩ = some (.float .f64 zt)) := fun W h =>
    ⟨(h.cell (p := ⟨w.heap.size, 0, none⟩) (by show w.heap.size < _; omega)).trans hc0, (h.cell (p := ⟨w.heap.size + 1, 0, none⟩) (by show w.heap.size + 1 < _; omega)).trans hc1, (h.cell (p := ⟨w.heap.size + 1 + 1, 0, none⟩) (by show w.heap.size + 1 + 1 < _; omega)).trans hc2, (h.cell (p := ⟨w.heap.size + 1 + 1 + 1, 0, none⟩) (by show w.heap.size + 1 + 1 + 1 < _; omega)).trans hc3⟩
  have hAA : A = (((w.alloc (.cells #[.int .u64 count] 31)).alloc (.cells #[.float .f64 z] 24)).alloc (.cells #[.int .i32 sch] 21)).alloc (.cells #[.float .f64 zt] 24) := by rw [hA, hA3, hA2, hA1]
  have HD : Hid (∀ W, Below A.heap.size A W → DescAt W d nm hp un [] F v3 c vn) := fun W h => hd.below (HUp.out W h)
  have HDc : Hid (∀ W, Below A.heap.size A W → W.cell? ⟨d, 7, none⟩ = some .nilIface ∧ W.cell? ⟨d, 4, none⟩ = some (.pointer (some ⟨c, 0, none⟩)) ∧ W.cell? ⟨c, 0, none⟩ = some vn) := fun W h => by
    have g := HD.out W h
    exact ⟨g.c7, g.c4, g.n0⟩
  obtain ⟨an, cn, rfl, _, _⟩ := Nd.sl_slice hd.names
  have CV : Hid (∀ W, Below A.heap.size A W → Calls Tryz.prog 101 #[.slice none 0 0, .int .i64 0] W fun e w' => e = .returned .nilIface ∧ Below A.heap.size A w') := fun W h =>
    (values_any [] (.slice none 0 0) W (Or.inl ⟨rfl, none, 0, rfl, by omega⟩) (hG.below (HUp.out W h)) (by simp) (by simp)).mono fun e w' ⟨he, hb⟩ => ⟨he, h.trans (hb.mono h.size)⟩
  have CC : Hid (∀ W, Below A.heap.size A W → Calls Tryz.prog 103 #[.float .f64 z, .int .u64 count, .map (some bq), .map (some bp), .int .u64 zc] W (ValOut ((FloatKind.f64.format.order z z != some Ordering.eq) = true ∨ count = tP + tQ + zc) W)) := fun W h =>
    validateCount_any P Q bp bq z count zc W (hP.below (HUp.out W h)) (hQ.below (HUp.out W h)) hPl hQl hcP hcQ tP tQ htP htQ hz hcount
  have CMp : Hid (∀ W, Below A.heap.size A W → Calls Tryz.prog 104 #[.map (some bp)] W (MadeOut P W)) := fun W h => made_any P bp W (hP.below (HUp.out W h)) hPl hkP
  have CMq : Hid (∀ W, Below A.heap.size A W → Calls Tryz.prog 104 #[.map (some bq)] W (MadeOut Q W)) := fun W h => made_any Q bq W (hQ.below (HUp.out W h)) hQl hkQ
  have CL : Hid (∀ W, Below A.heap.size A W → Calls Tryz.prog 106 #[ptr d, .slice none 0 0] W (MakeOut [] [] F W)) := fun W h =>
    make_any d c nm hp un [] [] F v3 _ (.slice none 0 0) W (HD.out W h) (Or.inl ⟨rfl, none, 0, rfl, by omega⟩) rfl (by simpa using hFn) hs (by simp) hF
  have HB0 : Hid (Below A.heap.size A A) := Below.refl _ _
  obtain ⟨m1, m2, m3⟩ := HDc.out A HB0.out
  have k0 := HC.out A HB0.out
  clear hG hd hP hQ hcP hcQ htP htQ hkP hkQ hcount hb0 b1 b2 b3 b4 b24 b14 hA hA1 hA2 hA3 z1 z2 z3 hc0 hc1 hc2 hc3 hs hFn
  go_enter Tryz.func65, Tryz.ntmps65
  go_upto_region 1 with fail
  rw [← hAA]
  clear hAA
  go_wp2_with fail
  refine (CV.out A HB0.out).mono ?_
  rintro e W1 ⟨rfl, hb1⟩
  have HB1 := Lib.hid hb1
  have k1 := HC.out W1 hb1
  clear k0 m1 m2 m3 hb1
  by_cases q1 : sch > 8
  · go_wp2_with (go_at_call 102; refine (Mt.errNew_any _ _).mono ?_; rintro e w9 ⟨ae, rfl, hb9⟩; have HW9 : Hid (Below w.heap.size w w9) := HUp.out _ (HB1.out.trans (hb9.mono HB1.out.size)); clear hb9)
    exact bodyPost_ret (v := .tuple #[.nilIface, .iface 326 (ptr ae)]) (by simp [results, Tryz.results65, go_sem]) rfl (HR.out _ _ ⟨Or.inr ⟨fun h => h.1 q1, _, _, rfl⟩, HW9.out⟩)
  by_cases q2 : sch < -4
  · go_wp2_with (go_at_call 102; refine (Mt.errNew_any _ _).mono ?_; rintro e w9 ⟨ae, rfl, hb9⟩; have HW9 : Hid (Below w.heap.size w w9) := HUp.out _ (HB1.out.trans (hb9.mono HB1.out.size)); clear hb9)
    exact bodyPost_ret (v := .tuple #[.nilIface, .iface 326 (ptr ae)]) (by simp [results, Tryz.results65, go_sem]) rfl (HR.out _ _ ⟨Or.inr ⟨fun h => h.2.1 q2, _, _, rfl⟩, HW9.out⟩)
  go_wp2_with fail
  refine (CC.out W1 HB1.out).mono ?_
  rintro e W2 ⟨⟨hok, rfl⟩ | ⟨hok, te, ve, rfl⟩, hb2⟩
  · have HB2 : Hid (Below A.heap.size A W2) := HB1.out.trans (hb2.mono HB1.out.size)
    have k2 := HC.out W2 HB2.out
    clear hb2 k1
    go_wp2_with fail
    refine (CMq.out W2 HB2.out).mono ?_
    rintro e W3 ⟨Mq, vsn, vdn, rfl, hM1, hM2, hM3, hM4, hM5, hb3⟩
    have HB3 : Hid (Below A.heap.size A W3) := HB2.out.trans (hb3.mono HB2.out.size)
    obtain ⟨qn, hqn, hqv, _⟩ := id hM3
    obtain ⟨a1, c1, rfl⟩ := ptr_slice hqv
    obtain ⟨a2, c2, rfl⟩ := int_slice hM4
    obtain ⟨nn, hnn⟩ : ∃ nn, qn.length = nn := ⟨_, rfl⟩
    obtain ⟨nd, hnd⟩ : ∃ nd, (deltasOf 0 (counts (buildX Mq))).length = nd := ⟨_, rfl⟩
    rw [hnn] at hM3 hqn
    rw [hnd] at hM4
    have HQ3 := Lib.hid (And.intro hM3 hM4)
    have HSq : Hid (Segs Q (buildX Mq)) := ⟨Mq, hM1, hM2, rfl⟩
    have HNn := Lib.hid hqn
    simp only [hnn, hnd]
    have k3 := HC.out W3 HB3.out
    clear k2 hM1 hM2 hM3 hM4 hM5 hb3 hqv hqn hnn hnd
    go_wp2_with fail
    refine (CMp.out W3 HB3.out).mono ?_
    rintro e W4 ⟨Mp, vsp, vdp, rfl, hM1, hM2, hM3, hM4, hM5, hb4⟩
    have HB4 : Hid (Below A.heap.size A W4) := HB3.out.trans (hb4.mono HB3.out.size)
    obtain ⟨qp, hqp, hqv, _⟩ := id hM3
    obtain ⟨a3, c3, rfl⟩ := ptr_slice hqv
    obtain ⟨a4, c4, rfl⟩ := int_slice hM4
    obtain ⟨pn, hpn⟩ : ∃ pn, qp.length = pn := ⟨_, rfl⟩
    obtain ⟨pd, hpd⟩ : ∃ pd, (deltasOf 0 (counts (buildX Mp))).length = pd := ⟨_, rfl⟩
    rw [hpn] at hM3 hqp
    rw [hpd] at hM4
    have HQ4 : Hid (Spans W4 (.slice a1 nn c1) (runsOf 0 (buildX Mq)) ∧ Sl.Of (Value.int .i64) W4 (.slice a2 nd c2) (deltasOf 0 (counts (buildX Mq)))) := ⟨spans_below HQ3.out.1 hb4, HQ3.out.2.below hb4⟩
    have HP4 := Lib.hid (And.intro hM3 hM4)
    have HSp : Hid (Segs P (buildX Mp)) := ⟨Mp, hM1, hM2, rfl⟩
    have HPn := Lib.hid hqp
    simp only [hpn, hpd]
    have k4 := HC.out W4 HB4.out
    have HBt : Hid (Below A.heap.size A (W4.alloc (.cells #[.int .i64 0] 238))) := HB4.out.alloc HB4.out.size _
    have HBu : Hid (Below A.heap.size A ((W4.alloc (.cells #[.int .i64 0] 238)).alloc (.cells #[.int .u64 zc] 31))) := HBt.out.alloc HBt.out.size _
    clear k3 hM1 hM2 hM3 hM4 hM5 hb4 hqv hqp hpn hpd HQ3
    go_wp2_with (go_at_call 105; refine (ofU64_any _ _).mono ?_; rintro e w' ⟨rfl, rfl⟩)
    refine (CL.out _ HBu.out).mono ?_
    rintro e W6 ⟨vL, rfl, hpL, hb6⟩
    obtain ⟨ql, hql, hqv, _⟩ := id hpL
    obtain ⟨al, cl, rfl, _, _⟩ := Nd.sl_slice hqv
    obtain ⟨nl, hnl⟩ : ∃ nl, ql.length = nl := ⟨_, rfl⟩
    rw [hnl] at hpL
    simp only [hnl]
    have e4 : (W4.alloc (.cells #[.int .i64 0] 238)).heap.size = W4.heap.size + 1 := by simp
    have HBt6 : Below W4.heap.size W4 W6 := ((((Below.refl _ _).alloc (Nat.le_refl _) _).alloc (by rw [e4]; omega) _ : Below W4.heap.size W4 ((W4.alloc (.cells #[.int .i64 0] 238)).alloc (.cells #[.int .u64 zc] 31)))).trans (hb6.mono (by simp; omega))
    have HB6 : Hid (Below A.heap.size A W6) := HB4.out.trans (HBt6.mono HB4.out.size)
    have t1 : W6.cell? ⟨W4.heap.size, 0, none⟩ = some (.int .i64 0) := (hb6.cell (p := ⟨W4.heap.size, 0, none⟩) (by show W4.heap.size < _; simp; omega)).trans ((Sl.cell_old (W4.alloc (.cells #[.int .i64 0] 238)) _ W4.heap.size 0 (by rw [e4]; omega)).trans (Sl.cell_new W4 _ _ 0))
    have t2 : W6.cell? ⟨W4.heap.size + 1, 0, none⟩ = some (.int .u64 zc) := (hb6.cell (p := ⟨W4.heap.size + 1, 0, none⟩) (by show W4.heap.size + 1 < _; simp)).trans (by rw [← e4]; exact Sl.cell_new _ _ _ 0)
    have hlt6 : W4.heap.size + 1 < W6.heap.size := Nat.lt_of_lt_of_le (by simp) hb6.size
    have HP6 : Hid (Spans W6 (.slice a3 pn c3) (runsOf 0 (buildX Mp)) ∧ Sl.Of (Value.int .i64) W6 (.slice a4 pd c4) (deltasOf 0 (counts (buildX Mp)))) := ⟨spans_below HP4.out.1 HBt6, HP4.out.2.below HBt6⟩
    have HQ6 : Hid (Spans W6 (.slice a1 nn c1) (runsOf 0 (buildX Mq)) ∧ Sl.Of (Value.int .i64) W6 (.slice a2 nd c2) (deltasOf 0 (counts (buildX Mq)))) := ⟨spans_below HQ4.out.1 HBt6, HQ4.out.2.below HBt6⟩
    have HL6 := Lib.hid hpL
    have k6 := HC.out W6 HB6.out
    have T6 := Lib.hid (And.intro t1 t2)
    clear hpL hb6 hqv hql hnl HBt6 t1 t2 HP4 HQ4 k4 HBt HBu e4
    go_upto_region 14 with fail
    obtain ⟨W7, hW7⟩ : ∃ W7, W7 = W6.alloc (.cells #[ptr d, ptr w.heap.size, ptr (w.heap.size + 1), .slice none 0 0, ptr W4.heap.size, ptr (w.heap.size + 1 + 1), ptr (w.heap.size + 1 + 1 + 1), ptr (W4.heap.size + 1), .slice a1 nn c1, .slice a2 nd c2, .slice a3 pn c3, .slice a4 pd c4, .slice none 0 0, .slice al nl cl] 249) := ⟨_, rfl⟩
    rw [← hW7]
    have hx7 : Whole W7 W6.heap.size 249 #[ptr d, ptr w.heap.size, ptr (w.heap.size + 1), .slice none 0 0, ptr W4.heap.size, ptr (w.heap.size + 1 + 1), ptr (w.heap.size + 1 + 1 + 1), ptr (W4.heap.size + 1), .slice a1 nn c1, .slice a2 nd c2, .slice a3 pn c3, .slice a4 pd c4, .slice none 0 0, .slice al nl cl] := by rw [hW7]; exact Whole.made W6 _ _
    have hb7 : Below W6.heap.size W6 W7 := by rw [hW7]; exact (Below.refl _ _).alloc (Nat.le_refl _) _
    have HB7 : Hid (Below A.heap.size A W7) := HB6.out.trans (hb7.mono HB6.out.size)
    have k7 := HC.out W7 HB7.out
    have t7 : W7.cell? ⟨W4.heap.size, 0, none⟩ = some (.int .i64 0) ∧ W7.cell? ⟨W4.heap.size + 1, 0, none⟩ = some (.int .u64 zc) :=
      ⟨(hb7.cell (p := ⟨W4.heap.size, 0, none⟩) (by show W4.heap.size < _; omega)).trans T6.out.1, (hb7.cell (p := ⟨W4.heap.size + 1, 0, none⟩) (by show W4.heap.size + 1 < _; omega)).trans T6.out.2⟩
    have x6 : W7.cell? ⟨W6.heap.size, 6, none⟩ = some (ptr (w.heap.size + 1 + 1 + 1)) := hx7.cell 6
    have x7 : W7.cell? ⟨W6.heap.size, 7, none⟩ = some (ptr (W4.heap.size + 1)) := hx7.cell 7
    have x8 : W7.cell? ⟨W6.heap.size, 8, none⟩ = some (.slice a1 nn c1) := hx7.cell 8
    have x10 : W7.cell? ⟨W6.heap.size, 10, none⟩ = some (.slice a3 pn c3) := hx7.cell 10
    have HOk : Hid (OkN sch z count (tP + tQ + zc)) := ⟨by omega, by omega, hok⟩
    have HFin : Hid (NatOut (OkN sch z count (tP + tQ + zc)) count z sch zt zc P Q (labs [] [] F) w (.returned (.tuple #[.iface 235 (ptr W6.heap.size), .nilIface])) W7) :=
      ⟨Or.inl ⟨HOk.out, W6.heap.size, d, buildX Mq, buildX Mp, rfl, ⟨⟨_, _, _, _, _, _, _, _, _, _, _, hx7, k7.1, k7.2.1, t7.1, k7.2.2.1, k7.2.2.2, t7.2, spans_below HQ6.out.1 hb7, HQ6.out.2.below hb7, spans_below HP6.out.1 hb7, HP6.out.2.below hb7, HL6.out.below hb7⟩⟩, HSq.out, Or.inl HSp.out⟩, HUp.out _ HB7.out⟩
    clear hW7 hok k6
    by_cases f1 : (FloatKind.f64.format.order zt 0 == some Ordering.eq) = true
    case neg =>
      go_wp2_with fail
      exact bodyPost_ret (v := .tuple #[.iface 235 (ptr W6.heap.size), .nilIface]) (by simp [results, Tryz.results65, go_sem]) rfl (HR.out _ _ HFin.out)
    by_cases f2 : zc = 0
    case neg =>
      go_wp2_with fail
      exact bodyPost_ret (v := .tuple #[.iface 235 (ptr W6.heap.size), .nilIface]) (by simp [results, Tryz.results65, go_sem]) rfl (HR.out _ _ HFin.out)
    by_cases f3 : pn = 0
    case neg =>
      have f4 : ((pn : Int) == 0) = false := by rw [beq_eq_false_iff_ne]; omega
      go_wp2_with fail
      exact bodyPost_ret (v := .tuple #[.iface 235 (ptr W6.heap.size), .nilIface]) (by simp [results, Tryz.results65, go_sem]) rfl (HR.out _ _ HFin.out)
    by_cases f5 : nn = 0
    case neg =>
      have f4 : ((nn : Int) == 0) = false := by rw [beq_eq_false_iff_ne]; omega
      go_wp2_with fail
      exact bodyPost_ret (v := .tuple #[.iface 235 (ptr W6.heap.size), .nilIface]) (by simp [results, Tryz.results65, go_sem]) rfl (HR.out _ _ HFin.out)
    have eP : buildX Mp = [] := by
      cases e : buildX Mp with
      | nil => rfl
      | cons s r => have h := HPn.out; rw [e, f3] at h; simp [runsOf] at h
    rw [eP] at HP6 HSp
    obtain ⟨V, hV⟩ : ∃ V, V = (((W7.alloc (.cells #[.int .i32 0] 21)).alloc (.cells #[.int .u32 0] 254)).alloc (.cells #[ptr W7.heap.size, ptr (W7.heap.size + 1)] 256)).alloc (.cells #[ptr (W7.heap.size + 1 + 1)] 250) := ⟨_, rfl⟩
    have n4 : V.cell? ⟨W7.heap.size, 0, none⟩ = some (.int .i32 0) ∧ V.cell? ⟨W7.heap.size + 1, 0, none⟩ = some (.int .u32 0) ∧ (∀ j, V.cell? ⟨W7.heap.size + 1 + 1, j, none⟩ = (#[ptr W7.heap.size, ptr (W7.heap.size + 1)] : Array Value)[j]?) ∧ (∀ j u, [ptr (W7.heap.size + 1 + 1)][j]? = some u → V.cell? ((⟨W7.heap.size + 1 + 1 + 1, 0, none⟩ : Addr).add j) = some u) ∧ V.frozen? ⟨W7.heap.size, 0, none⟩ = false ∧ V.frozen? ⟨W7.heap.size + 1, 0, none⟩ = false ∧ Below W7.heap.size W7 V ∧ V.heap.size = W7.heap.size + 1 + 1 + 1 + 1 := by rw [hV]; exact new_four W7 _ _ _ _ _ _ _ _
    obtain ⟨n1, n2, n3, n5, _, _, nb, ns⟩ := n4
    have hlt7 := hx7.lt
    have hxV : Whole V W6.heap.size 249 #[ptr d, ptr w.heap.size, ptr (w.heap.size + 1), .slice none 0 0, ptr W4.heap.size, ptr (w.heap.size + 1 + 1), ptr (w.heap.size + 1 + 1 + 1), ptr (W4.heap.size + 1), .slice a1 nn c1, .slice a2 nd c2, .slice a3 pn c3, .slice a4 pd c4, .slice none 0 0, .slice al nl cl] := (nb.block _ hlt7).trans hx7
    have v10 : ((((W7.alloc (.cells #[.int .i32 0] 21)).alloc (.cells #[.int .u32 0] 254)).alloc (.cells #[ptr W7.heap.size, ptr (W7.heap.size + 1)] 256)).alloc (.cells #[ptr (W7.heap.size + 1 + 1)] 250)).cell? ⟨W6.heap.size, 10, none⟩ = some (.slice a3 pn c3) := by rw [← hV]; exact hxV.cell 10
    have vf : ((((W7.alloc (.cells #[.int .i32 0] 21)).alloc (.cells #[.int .u32 0] 254)).alloc (.cells #[ptr W7.heap.size, ptr (W7.heap.size + 1)] 256)).alloc (.cells #[ptr (W7.heap.size + 1 + 1)] 250)).frozen? ⟨W6.heap.size, 10, none⟩ = false := by rw [← hV]; exact hxV.free 10
    have hbV : Below W6.heap.size W6 (V.setCell ⟨W6.heap.size, 10, none⟩ (.slice (some ⟨W7.heap.size + 1 + 1 + 1, 0, none⟩) 1 1)) := ((hb7.trans (nb.mono hb7.size))).setCell (Nat.le_refl _) _
    have far : ∀ b j, b ≠ W6.heap.size → (V.setCell ⟨W6.heap.size, 10, none⟩ (.slice (some ⟨W7.heap.size + 1 + 1 + 1, 0, none⟩) 1 1)).cell? ⟨b, j, none⟩ = V.cell? ⟨b, j, none⟩ := fun b j hne => World.cell?_setCell_far V _ _ _ (by show W6.heap.size ≠ b; exact fun e => hne e.symm)
    have hszV : (V.setCell ⟨W6.heap.size, 10, none⟩ (.slice (some ⟨W7.heap.size + 1 + 1 + 1, 0, none⟩) 1 1)).heap.size = V.heap.size := by simp [World.setCell]
    have hSpan : Spans (V.setCell ⟨W6.heap.size, 10, none⟩ (.slice (some ⟨W7.heap.size + 1 + 1 + 1, 0, none⟩) 1 1)) (.slice (some ⟨W7.heap.size + 1 + 1 + 1, 0, none⟩) 1 1) (runsOf 0 [((0 : Int), [])]) := by
      refine ⟨[(W7.heap.size + 1 + 1, W7.heap.size, W7.heap.size + 1)], rfl, Or.inr ⟨W7.heap.size + 1 + 1 + 1, 0, 1, rfl, by simp, by simp, by omega, by rw [hszV, ns]; omega, fun i hi => ?_⟩, fun i hi hi2 => ?_⟩
      · obtain rfl : i = 0 := by simpa using hi
        rw [far _ _ (by omega)]
        exact n5 0 _ rfl
      · obtain rfl : i = 0 := by simpa using hi
        exact ⟨(far _ _ (by show W7.heap.size + 1 + 1 ≠ _; omega)).trans (n3 0), (far _ _ (by show W7.heap.size + 1 + 1 ≠ _; omega)).trans (n3 1), (far _ _ (by show W7.heap.size ≠ _; omega)).trans n1, (far _ _ (by show W7.heap.size + 1 ≠ _; omega)).trans n2, by show W7.heap.size + 1 + 1 < _; rw [hszV, ns]; omega, by show W7.heap.size < _; rw [hszV, ns]; omega, by show W7.heap.size + 1 < _; rw [hszV, ns]; omega⟩
    have HBV : Hid (Below A.heap.size A (V.setCell ⟨W6.heap.size, 10, none⟩ (.slice (some ⟨W7.heap.size + 1 + 1 + 1, 0, none⟩) 1 1))) := HB6.out.trans (hbV.mono HB6.out.size)
    have kV := HC.out _ HBV.out
    have HFin2 : Hid (AsR R (.returned (.tuple #[.iface 235 (ptr W6.heap.size), .nilIface])) (((((W7.alloc (.cells #[.int .i32 0] 21)).alloc (.cells #[.int .u32 0] 254)).alloc (.cells #[ptr W7.heap.size, ptr (W7.heap.size + 1)] 256)).alloc (.cells #[ptr (W7.heap.size + 1 + 1)] 250)).setCell ⟨W6.heap.size, 10, none⟩ (.slice (some ⟨W7.heap.size + 1 + 1 + 1, 0, none⟩) 1 1))) := by
      rw [← hV]
      exact HR.out _ _ ⟨Or.inl ⟨HOk.out, W6.heap.size, d, buildX Mq, [((0 : Int), [])], rfl, ⟨⟨_, _, _, _, _, _, _, _, _, _, _, hxV.put 10 _, kV.1, kV.2.1, (hbV.cell (p := ⟨W4.heap.size, 0, none⟩) (by show W4.heap.size < _; omega)).trans T6.out.1, kV.2.2.1, kV.2.2.2, (hbV.cell (p := ⟨W4.heap.size + 1, 0, none⟩) (by show W4.heap.size + 1 < _; omega)).trans T6.out.2, spans_below HQ6.out.1 hbV, HQ6.out.2.below hbV, hSpan, HP6.out.2.below hbV, HL6.out.below hbV⟩⟩, HSq.out, Or.inr ⟨HSp.out, rfl⟩⟩, HUp.out _ HBV.out⟩
    clear HFin hV n1 n2 n3 n5 nb ns hxV hbV far hszV hSpan kV HBV
    have f6 : ((pn : Int) == 0) = true := by rw [f3]; rfl
    have f7 : ((nn : Int) == 0) = true := by rw [f5]; rfl
    go_wp2_with (first
      | (go_at_call 107; refine (of32_any _ _).mono ?_; rintro e w' ⟨rfl, rfl⟩)
      | (go_at_call 108; refine (ofu32_any _ _).mono ?_; rintro e w' ⟨rfl, rfl⟩))
    exact bodyPost_ret (v := .tuple #[.iface 235 (ptr W6.heap.size), .nilIface]) (by simp [results, Tryz.results65, go_sem]) rfl (HFin2.out)
  · have HB2 : Hid (Below w.heap.size w W2) := HUp.out _ (HB1.out.trans (hb2.mono HB1.out.size))
    go_wp2_with fail
    exact bodyPost_ret (v := .tuple #[.nilIface, .iface te ve]) (by simp [results, Tryz.results65, go_sem]) rfl (HR.out _ _ ⟨Or.inr ⟨fun h => hok h.2.2, _, _, rfl⟩, HB2.out⟩)

end Go.Proofs.YtlolomodcbkblaaGreatDoor.Cn
