/- FnConstNative: a constant native histogram written as asked, or refused: how the arguments are read, and the walk of the law. -/
import Derived.Test.YtlolomodcbkblaaGreatDoorMg18
import Derived.Test.YtlolomodcbkblaaGreatDoorCnj
import Derived.Test.YtlolomodcbkblaaGreatDoorMg19
import Derived.Test.YtlolomodcbkblaaGreatDoorMg22
import Derived.Test.YtlolomodcbkblaaGreatDoorMg7
import Derived.Test.YtlolomodcbkblaaGreatDoorMg23
import Derived.Test.YtlolomodcbkblaaGreatDoorMg3
import Derived.Deep.DeepCutAuto
set_option linter.unusedVariables false
set_option linter.unusedSimpArgs false
namespace Go.Proofs.YtlolomodcbkblaaGreatDoor.ConstNative
open Go.RowKit Go.Maps Go.WideMaps Go.ChangeShapes Go.WideShapes Go.Deep Fp Obs _root_.Go.Proofs.YtlolomodcbkblaaGreatDoor.Nd _root_.Go.Proofs.YtlolomodcbkblaaGreatDoor.Mt _root_.Go.Proofs.YtlolomodcbkblaaGreatDoor.Sp _root_.Go.Proofs.YtlolomodcbkblaaGreatDoor.Cn

def Good (w : World) (v : Value) : Prop := ∃ nm hp un V L, MetaAt w v nm hp un V L ∧ Small nm hp un V L
def GoodC (w : World) (v : Value) : Prop := ∃ L : List N2, Ss.Of 2 cc w v L
set_option maxRecDepth 100000 in
theorem read0 {H : Type} {enc : TypeId × Value → H} {W : World} {base b0 : Nat} {held : Bool} {r : Reach} {v : Value} {d : DataW H} {p : List MemPlace}
    (hv : Value.okWide Tryz.prog W r b0 66 v) (h : DataW.Trod enc Tryz.prog W base (fun _ => true) held 66 v d p) (hb : Rows.uptoBulk d ≤ 1048576) : Good W v := by
  obtain ⟨nm, hp, un, V, L, h1, h2, _⟩ := meta_read hv h hb
  exact ⟨nm, hp, un, V, L, h1, h2⟩
set_option maxRecDepth 100000 in
theorem read3 {H : Type} {enc : TypeId × Value → H} {W : World} {base b0 : Nat} {held : Bool} {r : Reach} {v : Value} {d : DataW H} {p : List MemPlace}
    (hv : Value.okWide Tryz.prog W r b0 67 v) (h : DataW.Trod enc Tryz.prog W base (fun _ => true) held 67 v d p) (hb : Rows.uptoBulk d ≤ 1048576) : GoodC W v := by
  obtain ⟨L, h1, _⟩ := Spans.read0 hv h
  exact ⟨L, h1⟩
set_option maxRecDepth 100000 in
theorem read4 {H : Type} {enc : TypeId × Value → H} {W : World} {base b0 : Nat} {held : Bool} {r : Reach} {v : Value} {d : DataW H} {p : List MemPlace}
    (hv : Value.okWide Tryz.prog W r b0 67 v) (h : DataW.Trod enc Tryz.prog W base (fun _ => true) held 67 v d p) (hb : Rows.uptoBulk d ≤ 1048576) : GoodC W v := by
  obtain ⟨L, h1, _⟩ := Spans.read0 hv h
  exact ⟨L, h1⟩

set_option maxHeartbeats 16000000 in
set_option maxRecDepth 100000 in
theorem law_any (v : Value) (more : Int) (z : Nat) (v3 v4 : Value) (zc0 sch : Int) (zt : Nat) (w : World) (g1 : Good w v) (hmo : (Lit.int .u64 more).wf = true) (hz : z < 18446744073709551616) (g3 : GoodC w v3) (g4 : GoodC w v4) (hzc0 : (Lit.int .u64 zc0).wf = true) (hsch : (Lit.int .i32 sch).wf = true) (hzt : zt < 18446744073709551616) (hG : Glob w) :
    Calls Tryz.prog 5 #[v, .int .u64 more, .float .f64 z, v3, v4, .int .u64 zc0, .int .i32 sch, .float .f64 zt] w fun e w' => e = .returned (.bool true) ∧ Below w.heap.size w w' := by
  obtain ⟨nm, hp, un, V, L, hm, hs⟩ := g1
  obtain ⟨P0, h3⟩ := g3
  obtain ⟨Q0, h4⟩ := g4
  simp [Lit.wf, IntKind.min, IntKind.max, IntKind.signed, IntKind.bits] at hmo hzc0 hsch
  obtain ⟨vv, cv, rfl, hvv, hcv⟩ := id hm.val
  obtain ⟨av, xv, rfl, _, _⟩ := Nd.sl_slice hvv
  obtain ⟨vl, hvl⟩ : ∃ vl, V.length = vl := ⟨_, rfl⟩
  rw [hvl] at hm hvv
  obtain ⟨p3, c3, rfl, _, _⟩ := h3.slice
  obtain ⟨p4, c4, rfl, _, _⟩ := h4.slice
  obtain ⟨A, hA⟩ : ∃ A, A = w.alloc (.cells #[.string nm, .string hp, .string un, .slice av vl xv, cv] 66) := ⟨_, rfl⟩
  have s2 : A.heap.size = w.heap.size + 1 := by rw [hA]; simp
  have hqb : Below w.heap.size w A := by rw [hA]; exact (Below.refl _ _).alloc (Nat.le_refl _) _
  have HUp : Hid (∀ W : World, Below (w.heap.size + 1) A W → Below w.heap.size w W) := fun W h => hqb.trans (h.mono (by omega))
  have HTr : Hid (∀ W W' : World, Below (w.heap.size + 1) A W → Below W.heap.size W W' → Below (w.heap.size + 1) A W') := fun W W' h h' => h.trans (h'.mono (by have := h.size; omega))
  have HC : Hid (∀ W : World, Below (w.heap.size + 1) A W → W.cell? ⟨w.heap.size, 0, none⟩ = some (.string nm) ∧ W.cell? ⟨w.heap.size, 1, none⟩ = some (.string hp) ∧ W.cell? ⟨w.heap.size, 2, none⟩ = some (.string un) ∧ W.cell? ⟨w.heap.size, 3, none⟩ = some (.slice av vl xv) ∧ W.cell? ⟨w.heap.size, 4, none⟩ = some cv) := fun W h => by
    rw [hA] at h
    have e : ∀ j, W.cell? ⟨w.heap.size, j, none⟩ = (#[.string nm, .string hp, .string un, .slice av vl xv, cv] : Array Value)[j]? := fun j => (h.cell (p := ⟨w.heap.size, j, none⟩) (by show w.heap.size < w.heap.size + 1; omega)).trans (Sl.cell_new w _ _ j)
    exact ⟨e 0, e 1, e 2, e 3, e 4⟩
  have HF4 : Hid (∀ W : World, Below (w.heap.size + 1) A W → Calls Tryz.prog 17 #[.agg #[.string nm, .string hp, .string un, .slice av vl xv, cv]] W (fun e w' => e = .returned (.bool true) ∧ Below (w.heap.size + 1) A w')) := fun W h => (fits4_any _ nm hp un V L W (hm.below (HUp.out W h)) hs).mono fun e w' ⟨he, hb⟩ => ⟨he, HTr.out _ _ h hb⟩
  have CSay : Hid (∀ W : World, Below (w.heap.size + 1) A W → Calls Tryz.prog 18 #[.agg #[.string nm, .string hp, .string un, .slice av vl xv, cv]] W (fun e w' => e = .returned (.bool (sayB nm hp un V L)) ∧ Below (w.heap.size + 1) A w')) := fun W h => (say_any _ nm hp un V L W (hm.below (HUp.out W h))).mono fun e w' ⟨he, hb⟩ => ⟨he, HTr.out _ _ h hb⟩
  have HLv : Hid (∀ W : World, Below (w.heap.size + 1) A W → Calls Tryz.prog 19 #[] W (fun e w' => e = .returned (.bool true) ∧ Below (w.heap.size + 1) A w')) := fun W h => (Ch.live_any W (hG.below (HUp.out W h))).mono fun e w' ⟨he, hb⟩ => ⟨he, HTr.out _ _ h hb⟩
  have k0 := HC.out A (Below.refl _ _)
  have HB0 : Hid (Below (w.heap.size + 1) A A) := Below.refl _ _
  by_cases hP0 : (P0.length : Int) ≤ 2147483647
  rotate_left
  · clear CSay HLv hm hs h3 h4 hcv hvv hqb
    go_enter Tryz.func5, Tryz.ntmps5
    go_wp2_with fail
    rw [← hA]
    clear hA
    refine (HF4.out A HB0.out).mono ?_
    rintro e w1 ⟨rfl, hb1⟩
    have HF := Lib.hid (HUp.out _ hb1)
    clear hb1
    go_wp2_with fail
    go_ret
    exact ⟨rfl, HF.out⟩
  by_cases hQ0 : (Q0.length : Int) ≤ 2147483647
  rotate_left
  · clear CSay HLv hm hs h3 h4 hcv hvv hqb
    go_enter Tryz.func5, Tryz.ntmps5
    go_wp2_with fail
    rw [← hA]
    clear hA
    refine (HF4.out A HB0.out).mono ?_
    rintro e w1 ⟨rfl, hb1⟩
    have HF := Lib.hid (HUp.out _ hb1)
    clear hb1
    go_wp2_with fail
    go_ret
    exact ⟨rfl, HF.out⟩
  by_cases hsay : sayB nm hp un V L = true
  rotate_left
  · have hsf : sayB nm hp un V L = false := by simpa using hsay
    rw [hsf] at CSay
    clear hm hs h3 h4 hcv hvv hqb hsay
    go_enter Tryz.func5, Tryz.ntmps5
    go_wp2_with fail
    rw [← hA]
    clear hA
    refine (HF4.out A HB0.out).mono ?_
    rintro e w1 ⟨rfl, hb1⟩
    have HB1 := Lib.hid hb1
    have k1 := HC.out _ HB1.out
    clear hb1 k0
    go_wp2_with (first
      | (go_at_call 18; refine (CSay.out _ HB1.out).mono ?_; rintro e w2 ⟨rfl, hb2⟩; have HB2 := Lib.hid hb2; have k2 := HC.out _ HB2.out; clear hb2 k1)
      | (go_at_call 19; refine (HLv.out _ HB2.out).mono ?_; rintro e w3 ⟨rfl, hb3⟩; have HF := Lib.hid (HUp.out _ hb3); clear hb3))
    go_ret
    exact ⟨rfl, HF.out⟩
  by_cases hVz : vl = 0
  rotate_left
  · have hVl : (0 : Int) < vl := by omega
    have hVn : 0 < vl := by omega
    rw [hsay] at CSay
    clear hm hs h3 h4 hcv hvv hqb hsay
    go_enter Tryz.func5, Tryz.ntmps5
    go_wp2_with fail
    rw [← hA]
    clear hA
    refine (HF4.out A HB0.out).mono ?_
    rintro e w1 ⟨rfl, hb1⟩
    have HB1 := Lib.hid hb1
    have k1 := HC.out _ HB1.out
    clear hb1 k0
    go_wp2_with (first
      | (go_at_call 18; refine (CSay.out _ HB1.out).mono ?_; rintro e w2 ⟨rfl, hb2⟩; have HB2 := Lib.hid hb2; have k2 := HC.out _ HB2.out; clear hb2 k1)
      | (go_at_call 19; refine (HLv.out _ HB2.out).mono ?_; rintro e w3 ⟨rfl, hb3⟩; have HF := Lib.hid (HUp.out _ hb3); clear hb3))
    go_ret
    exact ⟨rfl, HF.out⟩
  subst hVz
  by_cases hnan : FloatKind.f64.format.order zt zt = some Ordering.eq
  rotate_left
  · rw [hsay] at CSay
    have hnan2 : (FloatKind.f64.format.order zt zt != some Ordering.eq) = true := by simpa using hnan
    clear hm hs h3 h4 hcv hvv hqb hsay
    go_enter Tryz.func5, Tryz.ntmps5
    go_wp2_with fail
    rw [← hA]
    clear hA
    refine (HF4.out A HB0.out).mono ?_
    rintro e w1 ⟨rfl, hb1⟩
    have HB1 := Lib.hid hb1
    have k1 := HC.out _ HB1.out
    clear hb1 k0
    go_wp2_with (first
      | (go_at_call 18; refine (CSay.out _ HB1.out).mono ?_; rintro e w2 ⟨rfl, hb2⟩; have HB2 := Lib.hid hb2; have k2 := HC.out _ HB2.out; clear hb2 k1)
      | (go_at_call 19; refine (HLv.out _ HB2.out).mono ?_; rintro e w3 ⟨rfl, hb3⟩; have HF := Lib.hid (HUp.out _ hb3); clear hb3))
    go_ret
    exact ⟨rfl, HF.out⟩
  have hV : V = [] := List.length_eq_zero_iff.1 hvl
  subst hV
  rw [hsay] at CSay
  have ok := new_ok hsay hs
  have hall := hs.all
  have hr : ∀ p ∈ L, p.1.size ≤ 2147483647 ∧ p.2.size ≤ 2147483647 := fun p hp => by have := mem_wp hp; omega
  have HP := Lib.hid (fits_fine P0)
  have HQ := Lib.hid (fits_fine Q0)
  have CF3 : Hid (∀ W : World, Below (w.heap.size + 1) A W → Calls Tryz.prog 20 #[.slice p3 P0.length c3] W (fun e w' => ∃ a c, e = .returned (.slice a (fitsN (P0.map cf)).length c) ∧ Ss.Of 2 cc w' (.slice a (fitsN (P0.map cf)).length c) (fitsN (P0.map cf)) ∧ Below (w.heap.size + 1) A w' ∧ Below W.heap.size W w')) := fun W h => by
    refine (cellsFit_any P0 _ W (h3.below (HUp.out W h)) (by omega)).mono ?_
    rintro e w' ⟨v, rfl, ho, hb⟩
    have h1 : Ss.Of 2 cc w' v (fitsN (P0.map cf)) := Ss.Of.own cc_len ho
    obtain ⟨a, c, rfl, _, _⟩ := id h1.slice
    exact ⟨a, c, rfl, h1, HTr.out _ _ h hb, hb⟩
  have CF4 : Hid (∀ W : World, Below (w.heap.size + 1) A W → Calls Tryz.prog 20 #[.slice p4 Q0.length c4] W (fun e w' => ∃ a c, e = .returned (.slice a (fitsN (Q0.map cf)).length c) ∧ Ss.Of 2 cc w' (.slice a (fitsN (Q0.map cf)).length c) (fitsN (Q0.map cf)) ∧ Below (w.heap.size + 1) A w' ∧ Below W.heap.size W w')) := fun W h => by
    refine (cellsFit_any Q0 _ W (h4.below (HUp.out W h)) (by omega)).mono ?_
    rintro e w' ⟨v, rfl, ho, hb⟩
    have h1 : Ss.Of 2 cc w' v (fitsN (Q0.map cf)) := Ss.Of.own cc_len ho
    obtain ⟨a, c, rfl, _, _⟩ := id h1.slice
    exact ⟨a, c, rfl, h1, HTr.out _ _ h hb, hb⟩
  obtain ⟨P, hPe⟩ : ∃ P, fitsN (P0.map cf) = P := ⟨_, rfl⟩
  obtain ⟨Q, hQe⟩ : ∃ Q, fitsN (Q0.map cf) = Q := ⟨_, rfl⟩
  rw [hPe] at HP CF3
  rw [hQe] at HQ CF4
  have hlP := HP.out.len
  have hlQ := HQ.out.len
  have CT : Hid (∀ (R : List N2) (W : World) (u : Value), Fine R → Ss.Of 2 cc W u R → Calls Tryz.prog 21 #[u] W (fun e w' => e = .returned (.int .u64 (total R)) ∧ W = w')) := fun R W u hR h => total_any R u W h (by have := hR.len; omega) (fun p hp => by have := hR.cnt p hp; omega)
  have CTo : Hid (∀ (R : List N2) (W : World) (u : Value), Fine R → Ss.Of 2 cc W u R → Below (w.heap.size + 1) A W → Calls Tryz.prog 24 #[u] W (fun e w' => ∃ a c, e = .returned (.slice a R.length c) ∧ Ss.Of 2 cc w' (.slice a R.length c) R ∧ Below (w.heap.size + 1) A w' ∧ Below W.heap.size W w')) := fun R W u hR h hB => by
    refine (cellsTo_any R u W h (by have := hR.len; omega)).mono ?_
    rintro e w' ⟨v, rfl, ho, hb⟩
    obtain ⟨a, c, rfl, _, _⟩ := id ho.slice
    exact ⟨a, c, rfl, ho, HTr.out _ _ hB hb, hb⟩
  have CM : Hid (∀ W, Below (w.heap.size + 1) A W → Calls Tryz.prog 23 #[.agg #[.string nm, .string hp, .string un, .slice av 0 xv, cv]] W (fun e w' => ∃ v2 c2, e = .returned (.agg #[.string nm, .string hp, .string un, v2, c2]) ∧ Sl.Of Value.string w' v2 [] ∧ Ss.Of 2 pc w' c2 L ∧ Below (w.heap.size + 1) A w' ∧ Below W.heap.size W w')) := fun W h =>
    (metaTo_any _ nm hp un [] L W (hm.below (HUp.out _ h))).mono fun e w' ⟨v2, c2, he, hv, hc, hb⟩ => ⟨v2, c2, he, hv, hc, HTr.out _ _ h hb, hb⟩
  obtain ⟨tp, htp⟩ : ∃ t, total P = t := ⟨_, rfl⟩
  obtain ⟨tq, htq⟩ : ∃ t, total Q = t := ⟨_, rfl⟩
  obtain ⟨zc, hzc⟩ : ∃ t, zc0.tmod 1073741824 = t := ⟨_, rfl⟩
  obtain ⟨md, hmd⟩ : ∃ t, more.tmod 3 = t := ⟨_, rfl⟩
  have hP1 := HP.out.total
  have hQ1 := HQ.out.total
  rw [htp] at hP1
  rw [htq] at hQ1
  have hzc1 : 0 ≤ zc ∧ zc ≤ 1073741823 := by
    have e1 := (tmod_in zc0 1073741824 (by decide)).2
    have e2 := Int.tmod_nonneg 1073741824 hzc0.1
    rw [hzc] at e1 e2
    omega
  have hmd1 : 0 ≤ md ∧ md ≤ 2 := by
    have e1 := (tmod_in more 3 (by decide)).2
    have e2 := Int.tmod_nonneg 3 hmo.1
    rw [hmd] at e1 e2
    omega
  have w1' : IntKind.u64.wrap zc = zc := IntWalk.u64_in _ (by omega)
  have w2' : IntKind.u64.wrap (zc + tp) = zc + tp := IntWalk.u64_in _ (by omega)
  have w3' : IntKind.u64.wrap (zc + tp + tq) = zc + tp + tq := IntWalk.u64_in _ (by omega)
  have w4' : IntKind.u64.wrap md = md := IntWalk.u64_in _ (by omega)
  have w5' : IntKind.u64.wrap (zc + tp + tq + md) = zc + tp + tq + md := IntWalk.u64_in _ (by omega)
  obtain ⟨F, hF⟩ : ∃ F, labs [] [] (fit L) = F := ⟨_, rfl⟩
  have hFl : F.length ≤ 2147483647 := by
    have e1 := labs_len (V := []) (X := []) (F := fit L)
    have e2 := fit_le L
    have e3 := hm.lenL
    rw [← hF]
    simp only [List.length_nil] at e1
    omega
  have CC : Hid (∀ W va ca vp vq, Below (w.heap.size + 1) A W → Sl.Of Value.string W va [] → Ss.Of 2 pc W ca L → Ss.Of 2 cc W vp P → Ss.Of 2 cc W vq Q → Calls Tryz.prog 22 #[.agg #[.string nm, .string hp, .string un, va, ca], .int .u64 (zc + tp + tq + md), .float .f64 z, vp, vq, .int .u64 zc, .int .i32 sch, .float .f64 zt, .int .i64 0, .slice none 0 0] W
      (ConstN (OkN sch z (zc + tp + tq + md) (tp + tq + zc)) F (zc + tp + tq + md) z sch zt zc P Q W)) := fun W va ca vp vq h h1 h2 h5 h6 => by
    have h0 := HUp.out _ h
    have hh := constNative_any nm hp un L va ca vp vq P Q z zt (zc + tp + tq + md) zc sch W (hG.below h0) ok h1 h2 hr h5 h6 (by omega) (by omega) HP.out.in64 HQ.out.in64 HP.out.counts HQ.out.counts tp tq (by rw [← htp]; exact HP.out.sum) (by rw [← htq]; exact HQ.out.sum) (by omega) (by omega) HP.out.keys HQ.out.keys (fun X hX => hX.elim (fun h => HP.out.lens h) (fun h => HQ.out.lens h)) (by rw [hF]; exact hFl)
    rw [hF] at hh
    exact hh
  have hsz40 : (Tryz.prog.info? 40).map (·.size) = some 27 := by kernel_rfl
  have hsz52 : (Tryz.prog.info? 52).map (·.size) = some 13 := by kernel_rfl
  have hnan2 : (FloatKind.f64.format.order zt zt != some Ordering.eq) = false := by rw [hnan]; rfl
  clear hm hs h3 h4 hcv hvv hqb hsay hall hr ok hF hzc0 hmo
  go_enter Tryz.func5, Tryz.ntmps5
  go_wp2_with fail
  rw [← hA]
  clear hA
  refine (HF4.out A HB0.out).mono ?_
  rintro e w1 ⟨rfl, hb1⟩
  have HB1 := Lib.hid hb1
  have k1 := HC.out _ HB1.out
  clear hb1 k0 HF4
  go_wp2_with (first
    | (go_at_call 18; refine (CSay.out _ HB1.out).mono ?_; rintro e w2 ⟨rfl, hb2⟩; have HB2 := Lib.hid hb2; have k2 := HC.out _ HB2.out; clear hb2 k1))
  refine (CF3.out _ HB2.out).mono ?_
  rintro e w3 ⟨a3, e3, rfl, ho3, hb3, _⟩
  have HB3 := Lib.hid hb3
  have HO3 := Lib.hid ho3
  clear hb3 ho3 k2 CF3 CSay
  go_wp2_with fail
  refine (CF4.out _ HB3.out).mono ?_
  rintro e w4 ⟨a4, e4, rfl, ho4, hb4, hb4'⟩
  have HB4 := Lib.hid hb4
  have HO4 := Lib.hid ho4
  have HP4 := Lib.hid (HO3.out.below hb4')
  have CT3 := Lib.hid (CT.out P w4 _ HP.out HP4.out)
  have CT4 := Lib.hid (CT.out Q w4 _ HQ.out HO4.out)
  rw [htp] at CT3
  rw [htq] at CT4
  have k4 := HC.out _ HB4.out
  clear hb4 ho4 hb4' CF4 CT htp htq
  go_wp2_with fail
  refine CT3.out.mono ?_
  rintro e w5 ⟨rfl, rfl⟩
  go_wp2_with fail
  refine CT4.out.mono ?_
  rintro e w5 ⟨rfl, rfl⟩
  clear CT3 CT4
  go_upto_region 7 with fail
  go_upto_region 8 with fail
  go_wp2_with fail
  refine (CM.out _ HB4.out).mono ?_
  rintro e w5 ⟨va, ca, rfl, hva, hca, hb5, hb5'⟩
  have HB5 := Lib.hid hb5
  have HVa := Lib.hid hva
  have HCa := Lib.hid hca
  have HP5 := Lib.hid (HP4.out.below hb5')
  have HO5 := Lib.hid (HO4.out.below hb5')
  clear hb5 hb5' hva hca k4 CM HO3
  go_wp2_with fail
  refine (CTo.out P _ _ HP.out HP5.out HB5.out).mono ?_
  rintro e w6 ⟨a6, e6, rfl, ho6, hb6, hb6'⟩
  have HB6 := Lib.hid hb6
  have HO6 := Lib.hid ho6
  have HV6 := Lib.hid (HVa.out.below hb6')
  have HC6 := Lib.hid (HCa.out.below hb6')
  have HP6 := Lib.hid (HP5.out.below hb6')
  have HQ6 := Lib.hid (HO5.out.below hb6')
  clear hb6 hb6' ho6
  go_wp2_with fail
  refine (CTo.out Q _ _ HQ.out HQ6.out HB6.out).mono ?_
  rintro e w7 ⟨a7, e7, rfl, ho7, hb7, hb7'⟩
  have HB7 := Lib.hid hb7
  have CC7 := Lib.hid (CC.out _ _ _ _ _ hb7 (HV6.out.below hb7') (HC6.out.below hb7') (HO6.out.below hb7') ho7)
  have HP7 := Lib.hid (HP6.out.below hb7')
  have HQ7 := Lib.hid (HQ6.out.below hb7')
  clear hb7 hb7' ho7 HV6 HC6 HO6 HQ6 HVa HCa CTo CC HO4 HP4 HP5 HO5 HP6
  go_wp2_with fail
  refine CC7.out.mono ?_
  rintro e w8 ⟨hcase, hb8⟩
  clear CC7
  rcases hcase with ⟨hok, Xn, Xp, hXn, hXp, a1, c1, a15, k15, a16, k16, a18, k18, a19, k19, rfl, hrw⟩ | ⟨hno, rfl⟩
  · have hRn : Reads Q Xn := HQ.out.pos (Or.inl hXn)
    have hRp : Reads P Xp := HP.out.pos hXp
    have l1 : (runsOf 0 Xn).length ≤ 2147483647 := by rw [runsOf_len]; have := hRn.len; omega
    have l2 : (runsOf 0 Xp).length ≤ 2147483647 := by rw [runsOf_len]; have := hRp.len; omega
    have l3 : (deltasOf 0 (Sp.counts Xn)).length ≤ 2147483648 := by rw [deltasOf_len]; have := hRn.sum; omega
    have l4 : (deltasOf 0 (Sp.counts Xp)).length ≤ 2147483648 := by rw [deltasOf_len]; have := hRp.sum; omega
    have CN : Hid (∀ W vn vp vd vu, Ss.Of 2 rc W vn (runsOf 0 Xn) → Ss.Of 2 rc W vp (runsOf 0 Xp) → Sl.Of (Value.int .i64) W vd (deltasOf 0 (Sp.counts Xn)) → Sl.Of (Value.int .i64) W vu (deltasOf 0 (Sp.counts Xp)) → Calls Tryz.prog 25 #[.agg #[.int .u64 (zc + tp + tq + md), .float .f64 z, .slice none 0 0, .int .i64 0, .bool true, .int .i32 sch, .float .f64 zt, .int .u64 zc, vn, vp, vd, vu, .slice none 0 0]] W (CellsOut P Q W)) := fun W vn vp vd vu h1 h2 h3 h4 => nativeCells_any P Q Xn Xp hRp hRn (zc + tp + tq + md) zc sch z zt vn vp vd vu W h1 h2 h3 h4
    clear hXn hXp hRn hRp
    generalize runsOf 0 Xn = Rn at hrw CN l1 ⊢
    generalize runsOf 0 Xp = Rp at hrw CN l2 ⊢
    generalize deltasOf 0 (Sp.counts Xn) = Dn at hrw CN l3 ⊢
    generalize deltasOf 0 (Sp.counts Xp) = Dp at hrw CN l4 ⊢
    have HB8 : Hid (Below (w.heap.size + 1) A w8) := HTr.out _ _ HB7.out hb8
    have HP8 := Lib.hid (HP7.out.below hb8)
    have HQ8 := Lib.hid (HQ7.out.below hb8)
    have q1 := Lib.hid (Ss.Of.own pc_len hrw.lab)
    have q2 := Lib.hid (Ss.Of.own rc_len hrw.neg)
    have q3 := Lib.hid (Ss.Of.own rc_len hrw.pos)
    have q4 := Lib.hid (Sl.Of.own hrw.down)
    have q5 := Lib.hid (Sl.Of.own hrw.up)
    clear hb8 HP7 HQ7 hrw
    rename_i K1 hK1 K2 hK2
    dsimp only
    refine hK2 _ _ ?_
    refine wpList_plain rfl fun K3 hK3 => ?_
    go_simp
    refine hK3 _ _ ?_
    clear hK3 K3
    refine wpList_plain rfl fun K3 hK3 => ?_
    go_simp
    refine hK3 _ _ ?_
    clear hK3 K3
    refine wpList_plain rfl fun K3 hK3 => ?_
    go_simp
    refine hK3 _ _ ?_
    clear hK3 K3
    refine wpList_plain rfl fun K3 hK3 => ?_
    go_simp
    refine hK3 _ _ ?_
    clear hK3 K3
    refine Big.wpList_store_whole rfl _ _ _ rfl w8.heap.size 40 #[.slice none 0 0, .int .i64 0, .float .f64 0, .bool false, .float .f64 0, .slice none 0 0, .int .i64 0, .int .i64 0, .bool false, .int .u64 0, .float .f64 0, .slice none 0 0, .int .i64 0, .bool false, .int .i32 0, .float .f64 0, .int .u64 0, .slice none 0 0, .slice none 0 0, .slice none 0 0, .slice none 0 0, .slice none 0 0, .int .u64 0, .float .f64 0, .slice none 0 0, .bool false, .int .i64 0] #[.slice a1 F.length c1, .int .i64 4, .float .f64 0, .bool false, .float .f64 0, .slice none 0 0, .int .i64 0, .int .i64 0, .bool false, .int .u64 (zc + tp + tq + md), .float .f64 z, .slice none 0 0, .int .i64 0, .bool true, .int .i32 sch, .float .f64 zt, .int .u64 zc, .slice a15 Rn.length k15, .slice a16 Rp.length k16, .slice a18 Dn.length k18, .slice a19 Dp.length k19, .slice none 0 0, .int .u64 0, .float .f64 0, .slice none 0 0, .bool false, .int .i64 0] rfl rfl (Whole.made w8 _ _) rfl hsz40 (by simp [Value.oneCell']) ?_
    intro w9 hx9 hg9 hs9
    simp only [Act.put]
    have b89 : Below w8.heap.size w8 w9 := ((Below.refl _ _).alloc (Nat.le_refl _) _).grown hg9 (by simp) (fun j hj => by injection hj with hj; omega)
    have HB9 : Hid (Below (w.heap.size + 1) A w9) := HTr.out _ _ HB8.out b89
    have HX9 := Lib.hid hx9
    have HP9 := Lib.hid (HP8.out.below b89)
    have HQ9 := Lib.hid (HQ8.out.below b89)
    have CF := Lib.hid (metricFrom_h a1 a15 a16 a18 a19 F.length c1 Rn.length Rp.length k15 k16 k18 k19 F (zc + tp + tq + md) z sch zt zc Rn Rp Dn Dp w9 (q1.out.below b89) hFl (q2.out.below b89) (q3.out.below b89) (q4.out.below b89) (q5.out.below b89) l1 l2 l3 l4)
    have hi1 : ¬ (8 < sch) := hok.1
    have hi2 : ¬ (sch < -4) := hok.2.1
    have hor := hok.2.2
    clear hx9 hg9 hs9 b89 HP8 HQ8 HB8 q1 q2 q3 q4 q5 hok
    by_cases hm0 : 0 < md
    · have hm2 : zc + tp + tq < zc + tp + tq + md := by omega
      have hn1 : (FloatKind.f64.format.order z z != some Ordering.eq) = true := hor.elim (fun h => h) (fun h => by omega)
      have hn2 : ¬ (FloatKind.f64.format.order z z = some Ordering.eq) := by simpa using hn1
      have hn3 : (FloatKind.f64.format.order z z == some Ordering.eq) = false := by simpa using hn2
      clear hor
      go_upto_region 11 with fail
      refine wp_region_lit ?_
      refine Big.wpList_load_whole rfl _ _ rfl w8.heap.size 40 #[.slice a1 F.length c1, .int .i64 4, .float .f64 0, .bool false, .float .f64 0, .slice none 0 0, .int .i64 0, .int .i64 0, .bool false, .int .u64 (zc + tp + tq + md), .float .f64 z, .slice none 0 0, .int .i64 0, .bool true, .int .i32 sch, .float .f64 zt, .int .u64 zc, .slice a15 Rn.length k15, .slice a16 Rp.length k16, .slice a18 Dn.length k18, .slice a19 Dp.length k19, .slice none 0 0, .int .u64 0, .float .f64 0, .slice none 0 0, .bool false, .int .i64 0] rfl HX9.out _ Tryz.underlying40 rfl hsz40 ?_
      simp only [Act.put]
      go_wp2_with fail
      refine CF.out.mono ?_
      rintro e y1 ⟨d1, f1, b15, m15, b16, m16, b18, m18, b19, m19, rfl, hrows, hb1⟩
      have HE1 := Lib.hid (HTr.out _ _ HB9.out hb1)
      have r1 := Lib.hid (Ss.Of.own rc_len hrows.1)
      have r2 := Lib.hid (Ss.Of.own rc_len hrows.2.1)
      have r3 : Hid (Sl.Of (Value.int .i64) y1 (.slice b18 Dn.length m18) Dn) := by have h := hrows.2.2.1; rw [flat_one'] at h; exact Sl.Of.own h
      have r4 : Hid (Sl.Of (Value.int .i64) y1 (.slice b19 Dp.length m19) Dp) := by have h := hrows.2.2.2; rw [flat_one'] at h; exact Sl.Of.own h
      have HPa := Lib.hid (HP9.out.below hb1)
      have HQa := Lib.hid (HQ9.out.below hb1)
      clear hrows hb1 CF HX9 HP9 HQ9
      rename_i K1 hK1 K2 hK2
      dsimp only
      refine hK2 _ _ ?_
      refine wpList_plain rfl fun K3 hK3 => ?_
      go_simp
      refine hK3 _ _ ?_
      clear hK3 K3
      refine wpList_plain rfl fun K3 hK3 => ?_
      go_simp
      refine hK3 _ _ ?_
      clear hK3 K3
      refine Big.wpList_store_whole rfl _ _ _ rfl y1.heap.size 52 #[.int .u64 0, .float .f64 0, .slice none 0 0, .int .i64 0, .bool false, .int .i32 0, .float .f64 0, .int .u64 0, .slice none 0 0, .slice none 0 0, .slice none 0 0, .slice none 0 0, .slice none 0 0] #[.int .u64 (zc + tp + tq + md), .float .f64 z, .slice none 0 0, .int .i64 0, .bool true, .int .i32 sch, .float .f64 zt, .int .u64 zc, .slice b15 Rn.length m15, .slice b16 Rp.length m16, .slice b18 Dn.length m18, .slice b19 Dp.length m19, .slice none 0 0] rfl rfl (Whole.made y1 _ _) rfl hsz52 (by simp [Value.oneCell']) ?_
      intro y2 hx2 hg2 hs2
      simp only [Act.put]
      have b12 : Below y1.heap.size y1 y2 := ((Below.refl _ _).alloc (Nat.le_refl _) _).grown hg2 (by simp) (fun j hj => by injection hj with hj; omega)
      have HE2 := Lib.hid (HTr.out _ _ HE1.out b12)
      have HX2 := Lib.hid hx2
      have CN2 := Lib.hid (CN.out y2 _ _ _ _ (r1.out.below b12) (r2.out.below b12) (r3.out.below b12) (r4.out.below b12))
      have HPb := Lib.hid (HPa.out.below b12)
      have HQb := Lib.hid (HQa.out.below b12)
      clear hx2 hg2 hs2 b12 r1 r2 r3 r4 HPa HQa CN
      go_upto_region 12 with fail
      refine wp_region_lit ?_
      refine Big.wpList_load_whole rfl _ _ rfl y1.heap.size 52 #[.int .u64 (zc + tp + tq + md), .float .f64 z, .slice none 0 0, .int .i64 0, .bool true, .int .i32 sch, .float .f64 zt, .int .u64 zc, .slice b15 Rn.length m15, .slice b16 Rp.length m16, .slice b18 Dn.length m18, .slice b19 Dp.length m19, .slice none 0 0] rfl HX2.out _ Tryz.underlying52 rfl hsz52 ?_
      simp only [Act.put]
      go_wp2_with fail
      refine CN2.out.mono ?_
      rintro e y3 ⟨u1, u2, rfl, hu1, hu2, hb3⟩
      obtain ⟨g1, n1, rfl, _, _⟩ := id hu1.slice
      obtain ⟨g2, n2, rfl, _, _⟩ := id hu2.slice
      have HE3 := Lib.hid (HTr.out _ _ HE2.out hb3)
      have hx3 : Whole y3 y1.heap.size 52 #[.int .u64 (zc + tp + tq + md), .float .f64 z, .slice none 0 0, .int .i64 0, .bool true, .int .i32 sch, .float .f64 zt, .int .u64 zc, .slice b15 Rn.length m15, .slice b16 Rp.length m16, .slice b18 Dn.length m18, .slice b19 Dp.length m19, .slice none 0 0] := (hb3.block _ HX2.out.lt).trans HX2.out
      have x0 : y3.cell? ⟨y1.heap.size, 0, none⟩ = some (.int .u64 (zc + tp + tq + md)) := hx3.cell 0
      have x1 : y3.cell? ⟨y1.heap.size, 1, none⟩ = some (.float .f64 z) := hx3.cell 1
      have x4 : y3.cell? ⟨y1.heap.size, 4, none⟩ = some (.bool true) := hx3.cell 4
      have x5 : y3.cell? ⟨y1.heap.size, 5, none⟩ = some (.int .i32 sch) := hx3.cell 5
      have x6 : y3.cell? ⟨y1.heap.size, 6, none⟩ = some (.float .f64 zt) := hx3.cell 6
      have x7 : y3.cell? ⟨y1.heap.size, 7, none⟩ = some (.int .u64 zc) := hx3.cell 7
      have CS1 := Lib.hid (same_any P _ _ y3 hu1 (HPb.out.below hb3) (by omega))
      have CS2 : Hid (∀ W, Below y3.heap.size y3 W → Calls Tryz.prog 27 #[.slice g2 Q.length n2, .slice a4 Q.length e4] W fun e w' => e = .returned (.bool true) ∧ Below W.heap.size W w') := fun W h => same_any Q _ _ W (hu2.below h) ((HQb.out.below hb3).below h) (by omega)
      clear hx3 hu1 hu2 hb3 HPb HQb CN2 HX2
      go_wp2_with (go_at_call 26; refine (sameNum_self _ _).mono ?_; rintro e w' ⟨rfl, rfl⟩)
      refine CS1.out.mono ?_
      rintro e y4 ⟨rfl, hb4⟩
      have HE4 := Lib.hid (HTr.out _ _ HE3.out hb4)
      have CS3 := Lib.hid (CS2.out _ hb4)
      clear hb4 CS1 CS2 x0 x1 x4 x5 x6 x7
      go_wp2_with fail
      refine CS3.out.mono ?_
      rintro e y5 ⟨rfl, hb5⟩
      have HE5 := Lib.hid (HTr.out _ _ HE4.out hb5)
      clear hb5 CS3
      go_wp2_with fail
      refine (HLv.out _ HE5.out).mono ?_
      rintro e y6 ⟨rfl, hb6⟩
      have HF := Lib.hid (HUp.out _ hb6)
      clear hb6
      go_wp2_with fail
      go_ret
      exact ⟨rfl, HF.out⟩
    · have hm2 : ¬ (zc + tp + tq < zc + tp + tq + md) := by omega
      clear hor
      go_upto_region 11 with fail
      refine wp_region_lit ?_
      refine Big.wpList_load_whole rfl _ _ rfl w8.heap.size 40 #[.slice a1 F.length c1, .int .i64 4, .float .f64 0, .bool false, .float .f64 0, .slice none 0 0, .int .i64 0, .int .i64 0, .bool false, .int .u64 (zc + tp + tq + md), .float .f64 z, .slice none 0 0, .int .i64 0, .bool true, .int .i32 sch, .float .f64 zt, .int .u64 zc, .slice a15 Rn.length k15, .slice a16 Rp.length k16, .slice a18 Dn.length k18, .slice a19 Dp.length k19, .slice none 0 0, .int .u64 0, .float .f64 0, .slice none 0 0, .bool false, .int .i64 0] rfl HX9.out _ Tryz.underlying40 rfl hsz40 ?_
      simp only [Act.put]
      go_wp2_with fail
      refine CF.out.mono ?_
      rintro e y1 ⟨d1, f1, b15, m15, b16, m16, b18, m18, b19, m19, rfl, hrows, hb1⟩
      have HE1 := Lib.hid (HTr.out _ _ HB9.out hb1)
      have r1 := Lib.hid (Ss.Of.own rc_len hrows.1)
      have r2 := Lib.hid (Ss.Of.own rc_len hrows.2.1)
      have r3 : Hid (Sl.Of (Value.int .i64) y1 (.slice b18 Dn.length m18) Dn) := by have h := hrows.2.2.1; rw [flat_one'] at h; exact Sl.Of.own h
      have r4 : Hid (Sl.Of (Value.int .i64) y1 (.slice b19 Dp.length m19) Dp) := by have h := hrows.2.2.2; rw [flat_one'] at h; exact Sl.Of.own h
      have HPa := Lib.hid (HP9.out.below hb1)
      have HQa := Lib.hid (HQ9.out.below hb1)
      clear hrows hb1 CF HX9 HP9 HQ9
      rename_i K1 hK1 K2 hK2
      dsimp only
      refine hK2 _ _ ?_
      refine wpList_plain rfl fun K3 hK3 => ?_
      go_simp
      refine hK3 _ _ ?_
      clear hK3 K3
      refine wpList_plain rfl fun K3 hK3 => ?_
      go_simp
      refine hK3 _ _ ?_
      clear hK3 K3
      refine Big.wpList_store_whole rfl _ _ _ rfl y1.heap.size 52 #[.int .u64 0, .float .f64 0, .slice none 0 0, .int .i64 0, .bool false, .int .i32 0, .float .f64 0, .int .u64 0, .slice none 0 0, .slice none 0 0, .slice none 0 0, .slice none 0 0, .slice none 0 0] #[.int .u64 (zc + tp + tq + md), .float .f64 z, .slice none 0 0, .int .i64 0, .bool true, .int .i32 sch, .float .f64 zt, .int .u64 zc, .slice b15 Rn.length m15, .slice b16 Rp.length m16, .slice b18 Dn.length m18, .slice b19 Dp.length m19, .slice none 0 0] rfl rfl (Whole.made y1 _ _) rfl hsz52 (by simp [Value.oneCell']) ?_
      intro y2 hx2 hg2 hs2
      simp only [Act.put]
      have b12 : Below y1.heap.size y1 y2 := ((Below.refl _ _).alloc (Nat.le_refl _) _).grown hg2 (by simp) (fun j hj => by injection hj with hj; omega)
      have HE2 := Lib.hid (HTr.out _ _ HE1.out b12)
      have HX2 := Lib.hid hx2
      have CN2 := Lib.hid (CN.out y2 _ _ _ _ (r1.out.below b12) (r2.out.below b12) (r3.out.below b12) (r4.out.below b12))
      have HPb := Lib.hid (HPa.out.below b12)
      have HQb := Lib.hid (HQa.out.below b12)
      clear hx2 hg2 hs2 b12 r1 r2 r3 r4 HPa HQa CN
      go_upto_region 12 with fail
      refine wp_region_lit ?_
      refine Big.wpList_load_whole rfl _ _ rfl y1.heap.size 52 #[.int .u64 (zc + tp + tq + md), .float .f64 z, .slice none 0 0, .int .i64 0, .bool true, .int .i32 sch, .float .f64 zt, .int .u64 zc, .slice b15 Rn.length m15, .slice b16 Rp.length m16, .slice b18 Dn.length m18, .slice b19 Dp.length m19, .slice none 0 0] rfl HX2.out _ Tryz.underlying52 rfl hsz52 ?_
      simp only [Act.put]
      go_wp2_with fail
      refine CN2.out.mono ?_
      rintro e y3 ⟨u1, u2, rfl, hu1, hu2, hb3⟩
      obtain ⟨g1, n1, rfl, _, _⟩ := id hu1.slice
      obtain ⟨g2, n2, rfl, _, _⟩ := id hu2.slice
      have HE3 := Lib.hid (HTr.out _ _ HE2.out hb3)
      have hx3 : Whole y3 y1.heap.size 52 #[.int .u64 (zc + tp + tq + md), .float .f64 z, .slice none 0 0, .int .i64 0, .bool true, .int .i32 sch, .float .f64 zt, .int .u64 zc, .slice b15 Rn.length m15, .slice b16 Rp.length m16, .slice b18 Dn.length m18, .slice b19 Dp.length m19, .slice none 0 0] := (hb3.block _ HX2.out.lt).trans HX2.out
      have x0 : y3.cell? ⟨y1.heap.size, 0, none⟩ = some (.int .u64 (zc + tp + tq + md)) := hx3.cell 0
      have x1 : y3.cell? ⟨y1.heap.size, 1, none⟩ = some (.float .f64 z) := hx3.cell 1
      have x4 : y3.cell? ⟨y1.heap.size, 4, none⟩ = some (.bool true) := hx3.cell 4
      have x5 : y3.cell? ⟨y1.heap.size, 5, none⟩ = some (.int .i32 sch) := hx3.cell 5
      have x6 : y3.cell? ⟨y1.heap.size, 6, none⟩ = some (.float .f64 zt) := hx3.cell 6
      have x7 : y3.cell? ⟨y1.heap.size, 7, none⟩ = some (.int .u64 zc) := hx3.cell 7
      have CS1 := Lib.hid (same_any P _ _ y3 hu1 (HPb.out.below hb3) (by omega))
      have CS2 : Hid (∀ W, Below y3.heap.size y3 W → Calls Tryz.prog 27 #[.slice g2 Q.length n2, .slice a4 Q.length e4] W fun e w' => e = .returned (.bool true) ∧ Below W.heap.size W w') := fun W h => same_any Q _ _ W (hu2.below h) ((HQb.out.below hb3).below h) (by omega)
      clear hx3 hu1 hu2 hb3 HPb HQb CN2 HX2
      go_wp2_with (go_at_call 26; refine (sameNum_self _ _).mono ?_; rintro e w' ⟨rfl, rfl⟩)
      refine CS1.out.mono ?_
      rintro e y4 ⟨rfl, hb4⟩
      have HE4 := Lib.hid (HTr.out _ _ HE3.out hb4)
      have CS3 := Lib.hid (CS2.out _ hb4)
      clear hb4 CS1 CS2 x0 x1 x4 x5 x6 x7
      go_wp2_with fail
      refine CS3.out.mono ?_
      rintro e y5 ⟨rfl, hb5⟩
      have HE5 := Lib.hid (HTr.out _ _ HE4.out hb5)
      clear hb5 CS3
      go_wp2_with fail
      refine (HLv.out _ HE5.out).mono ?_
      rintro e y6 ⟨rfl, hb6⟩
      have HF := Lib.hid (HUp.out _ hb6)
      clear hb6
      go_wp2_with fail
      go_ret
      exact ⟨rfl, HF.out⟩
  · have HB8 : Hid (Below (w.heap.size + 1) A w8) := HTr.out _ _ HB7.out hb8
    clear hb8 HP7 HQ7
    rename_i K1 hK1 K2 hK2
    dsimp only
    refine hK2 _ _ ?_
    refine wpList_plain rfl fun K3 hK3 => ?_
    go_simp
    refine hK3 _ _ ?_
    clear hK3 K3
    refine wpList_plain rfl fun K3 hK3 => ?_
    go_simp
    refine hK3 _ _ ?_
    clear hK3 K3
    refine wpList_plain rfl fun K3 hK3 => ?_
    go_simp
    refine hK3 _ _ ?_
    clear hK3 K3
    refine wpList_plain rfl fun K3 hK3 => ?_
    go_simp
    refine hK3 _ _ ?_
    clear hK3 K3
    refine Big.wpList_store_whole rfl _ _ _ rfl w8.heap.size 40 #[.slice none 0 0, .int .i64 0, .float .f64 0, .bool false, .float .f64 0, .slice none 0 0, .int .i64 0, .int .i64 0, .bool false, .int .u64 0, .float .f64 0, .slice none 0 0, .int .i64 0, .bool false, .int .i32 0, .float .f64 0, .int .u64 0, .slice none 0 0, .slice none 0 0, .slice none 0 0, .slice none 0 0, .slice none 0 0, .int .u64 0, .float .f64 0, .slice none 0 0, .bool false, .int .i64 0] #[.slice none 0 0, .int .i64 0, .float .f64 0, .bool false, .float .f64 0, .slice none 0 0, .int .i64 0, .int .i64 0, .bool false, .int .u64 0, .float .f64 0, .slice none 0 0, .int .i64 0, .bool false, .int .i32 0, .float .f64 0, .int .u64 0, .slice none 0 0, .slice none 0 0, .slice none 0 0, .slice none 0 0, .slice none 0 0, .int .u64 0, .float .f64 0, .slice none 0 0, .bool false, .int .i64 0] rfl rfl (Whole.made w8 _ _) rfl hsz40 (by simp [Value.oneCell']) ?_
    intro w9 hx9 hg9 hs9
    simp only [Act.put]
    have HB9 : Hid (Below (w.heap.size + 1) A w9) := HTr.out _ _ HB8.out (((Below.refl _ _).alloc (Nat.le_refl _) _).grown hg9 (by simp) (fun j hj => by injection hj with hj; omega))
    clear hx9 hg9 hs9
    by_cases hi2 : sch < -4
    · clear hno
      go_wp2_with (go_at_call 19; refine (HLv.out _ HB9.out).mono ?_; rintro e w10 ⟨rfl, hb10⟩; have HF := Lib.hid (HUp.out _ hb10); clear hb10)
      go_ret
      exact ⟨rfl, HF.out⟩
    by_cases hi1 : 8 < sch
    · clear hno
      go_wp2_with (go_at_call 19; refine (HLv.out _ HB9.out).mono ?_; rintro e w10 ⟨rfl, hb10⟩; have HF := Lib.hid (HUp.out _ hb10); clear hb10)
      go_ret
      exact ⟨rfl, HF.out⟩
    by_cases hn : FloatKind.f64.format.order z z = some Ordering.eq
    · have hm0 : 0 < md := by
        have h1 : ¬ (md = 0) := fun h => hno ⟨hi1, hi2, Or.inr (by omega)⟩
        omega
      have hm2 : zc + tp + tq < zc + tp + tq + md := by omega
      have hn1 : (FloatKind.f64.format.order z z == some Ordering.eq) = true := by rw [hn]; rfl
      clear hno
      go_wp2_with (go_at_call 19; refine (HLv.out _ HB9.out).mono ?_; rintro e w10 ⟨rfl, hb10⟩; have HF := Lib.hid (HUp.out _ hb10); clear hb10)
      go_ret
      exact ⟨rfl, HF.out⟩
    · exact absurd ⟨hi1, hi2, Or.inl (by simpa using hn)⟩ hno

end Go.Proofs.YtlolomodcbkblaaGreatDoor.ConstNative
