/- Gauges: what the reference says of a list of calls (spec.GaugeRun), and what the gauge does (impl.GaugeRun). -/
import Derived.Test.YtlolomodcbkblaaGreatDoorGan
import Derived.Test.YtlolomodcbkblaaGreatDoorMg9
set_option linter.unusedVariables false
set_option linter.unusedSimpArgs false
namespace Go.Proofs.YtlolomodcbkblaaGreatDoor.Gg
open Go.RowKit Go.Maps Go.WideMaps Go.ChangeShapes Go.WideShapes Go.Deep Fp Obs Plf Flo _root_.Go.Proofs.YtlolomodcbkblaaGreatDoor.Nd _root_.Go.Proofs.YtlolomodcbkblaaGreatDoor.Mt

/-- what a call makes of a gauge's value (none: some NaN) -/
def gstep (o : Option Nat) (s : Int × Nat × Int) : Option Nat :=
  if s.1 = 0 then addO o (some ONE) else if s.1 = 1 then addO o (some NEG1) else if s.1 = 2 then addO o (some s.2.1) else if s.1 = 3 then addO o (negO s.2.1) else if s.1 = 4 then some s.2.1 else o
theorem gstep0 (o : Option Nat) (z : Nat) (t : Int) : gstep o (0, z, t) = addO o (some ONE) := rfl
theorem gstep1 (o : Option Nat) (z : Nat) (t : Int) : gstep o (1, z, t) = addO o (some NEG1) := rfl
theorem gstep2 (o : Option Nat) (z : Nat) (t : Int) : gstep o (2, z, t) = addO o (some z) := rfl
theorem gstep3 (o : Option Nat) (z : Nat) (t : Int) : gstep o (3, z, t) = addO o (negO z) := rfl
theorem gstep4 (o : Option Nat) (z : Nat) (t : Int) : gstep o (4, z, t) = some z := rfl
def gv (l : List (Int × Nat × Int)) : Option Nat := l.foldl gstep (some 0)
theorem gv_snoc (l : List (Int × Nat × Int)) (s : Int × Nat × Int) : gv (l ++ [s]) = gstep (gv l) s := by unfold gv; rw [List.foldl_append]; rfl
theorem gv_take {L : List Stp} {k : Nat} (h : k < L.length) : gv ((L.take (k + 1)).map ky) = gstep (gv ((L.take k).map ky)) (ky L[k]) := by
  rw [List.take_succ_eq_append_getElem h, List.map_append, List.map_singleton, gv_snoc]

theorem gstep_no {o : Option Nat} {z : Nat} {k t : Int} (h0 : ¬ k = 0) (h1 : ¬ k = 1) (h2 : ¬ k = 2) (h3 : ¬ k = 3) (h4 : ¬ k = 4) : gstep o (k, z, t) = o := by
  unfold gstep; simp [h0, h1, h2, h3, h4]
theorem _root_.Plf.Rep.left {o p : Option Nat} {z r : Nat} (h : Rep o z) (hr : Rep (addO (some z) p) r) : Rep (addO o p) r := by
  rcases h with rfl | ⟨rfl, h⟩
  · exact hr
  · have e : addO (some z) p = none := by
      cases p with
      | none => rfl
      | some y => exact add_nan (Or.inl h)
    rw [e] at hr
    cases p <;> exact hr
set_option maxHeartbeats 8000000 in
set_option maxRecDepth 100000 in
theorem specGauge_any (L : List Stp) (v : Value) (w : World) (hof : Ss.Of 4 sc w v L) :
    Calls Tryz.prog 8 #[v] w fun e w' => ∃ z b, e = .returned (.tuple #[.float .f64 z, .bool b]) ∧ (b = true → Rep (gv (L.map ky)) z) ∧ Below w.heap.size w w' := by
  obtain ⟨av, cv, rfl, _, _⟩ := hof.slice
  have HOf := Lib.hid hof
  clear hof
  go_enter Tryz.func8, Tryz.ntmps8
  go_wp2_with fail
  go_loopw [4, 5] (fun vz vk wr => ∃ (k z : Nat), k ≤ L.length ∧ vz = .float .f64 z ∧ vk = .int .i64 (k : Int) ∧ Hid (Below w.heap.size w wr ∧ Rep (gv ((L.take k).map ky)) z)) (fun _ k _ => L.length - (intOf k).toNat)
  case atStart => exact ⟨0, 0, Nat.zero_le _, rfl, rfl, Below.refl _ _, Rep.of 0⟩
  case round =>
    obtain ⟨k, z, hk, rfl, rfl, hrel⟩ := hrel
    have hbw : Hid (Below w.heap.size w wr) := hrel.out.1
    have HRep : Hid (Rep (gv ((L.take k).map ky)) z) := hrel.out.2
    clear hrel
    by_cases hlt : k < L.length
    · obtain ⟨b, off, hav, hb, d0, d1, d2, d3⟩ := step_of HOf.out hlt
      subst hav
      have htk0 := gv_take hlt
      obtain ⟨sk, sz, sl, st, hs⟩ : ∃ sk sz sl st, L[k] = ⟨sk, sz, sl, st⟩ := ⟨_, _, _, _, rfl⟩
      rw [hs] at d0 d1 d2 d3 htk0
      have htk : ∀ i, sk = i → Hid (gv ((L.take (k + 1)).map ky) = gstep (gv ((L.take k).map ky)) (i, sz, st)) := fun i hi => by subst hi; exact htk0
      have c0 : wr.cell? ⟨b, off + k * 4, none⟩ = some (.int .i64 sk) := by rw [hbw.out.cell (p := ⟨b, off + k * 4, none⟩) hb]; exact d0
      have c1 : wr.cell? ⟨b, off + k * 4 + 1, none⟩ = some (.float .f64 sz) := by rw [hbw.out.cell (p := ⟨b, off + k * 4 + 1, none⟩) hb]; exact d1
      have z1 : (0 : Int) ≤ (k : Int) := by omega
      have z2 : (k : Int) < (L.length : Int) := by omega
      clear d0 d1 d2 d3 hs htk0
      by_cases q0 : sk = 0
      · subst q0
        have HTk := htk 0 rfl
        obtain ⟨r, W2, hr, hrep, hw, _⟩ := run_any (P := Tryz.prog) .add (Or.inl rfl) 24 z ONE wr
        have hb2 : Hid (Below w.heap.size w W2) := below_one hbw.out hw
        have hn : Hid (Rep (gv ((L.take (k + 1)).map ky)) r) := by rw [HTk.out, gstep0]; exact HRep.out.add (Rep.of _) hrep
        clear hrep hw hbw
        go_wp2_with fail
        go_roundw
        case rel => exact ⟨k + 1, r, by omega, rfl, by go_num, hb2.out, hn.out⟩
        case measure => simp [intOf]; omega
      by_cases q1 : sk = 1
      · subst q1
        have HTk := htk 1 rfl
        obtain ⟨r, W2, hr, hrep, hw, _⟩ := run_any (P := Tryz.prog) .sub (Or.inr (Or.inl rfl)) 24 z ONE wr
        have hb2 : Hid (Below w.heap.size w W2) := below_one hbw.out hw
        have hn : Hid (Rep (gv ((L.take (k + 1)).map ky)) r) := by rw [HTk.out, gstep1]; exact HRep.out.sub_one hrep
        clear hrep hw hbw
        go_wp2_with fail
        go_roundw
        case rel => exact ⟨k + 1, r, by omega, rfl, by go_num, hb2.out, hn.out⟩
        case measure => simp [intOf]; omega
      by_cases q2 : sk = 2
      · subst q2
        have HTk := htk 2 rfl
        obtain ⟨r, W2, hr, hrep, hw, _⟩ := run_any (P := Tryz.prog) .add (Or.inl rfl) 24 z sz wr
        have hb2 : Hid (Below w.heap.size w W2) := below_one hbw.out hw
        have hn : Hid (Rep (gv ((L.take (k + 1)).map ky)) r) := by rw [HTk.out, gstep2]; exact HRep.out.add (Rep.of _) hrep
        clear hrep hw hbw
        go_wp2_with fail
        go_roundw
        case rel => exact ⟨k + 1, r, by omega, rfl, by go_num, hb2.out, hn.out⟩
        case measure => simp [intOf]; omega
      by_cases q3 : sk = 3
      · subst q3
        have HTk := htk 3 rfl
        obtain ⟨r, W2, hr, hrep, hw, _⟩ := run_any (P := Tryz.prog) .sub (Or.inr (Or.inl rfl)) 24 z sz wr
        have hb2 : Hid (Below w.heap.size w W2) := below_one hbw.out hw
        have hn : Hid (Rep (gv ((L.take (k + 1)).map ky)) r) := by rw [HTk.out, gstep3]; exact HRep.out.sub hrep
        clear hrep hw hbw
        go_wp2_with fail
        go_roundw
        case rel => exact ⟨k + 1, r, by omega, rfl, by go_num, hb2.out, hn.out⟩
        case measure => simp [intOf]; omega
      by_cases q4 : sk = 4
      · subst q4
        have HTk := htk 4 rfl
        have hn : Hid (Rep (gv ((L.take (k + 1)).map ky)) sz) := by rw [HTk.out, gstep4]; exact Rep.of sz
        go_wp2_with fail
        go_roundw
        case rel => exact ⟨k + 1, sz, by omega, rfl, by go_num, hbw.out, hn.out⟩
        case measure => simp [intOf]; omega
      · go_wp2_with fail
        go_ret2
        exact ⟨0, false, rfl, (fun h => by cases h), hbw.out⟩
    · obtain rfl : k = L.length := by omega
      have hn : Hid (Rep (gv (L.map ky)) z) := by have h := HRep.out; rwa [List.take_length] at h
      go_wp2_with fail
      go_ret2
      exact ⟨z, true, rfl, fun _ => hn.out, hbw.out⟩

/-- the gauge while the calls are done -/
structure GRun (w wr : World) (g z d : Nat) (sf : Value) (al : Option Addr) (cl : Nat) (B : Nat) (l : List (Int × Nat × Int)) : Prop where
  rep : Rep (gv l) z
  gau : Gauge wr g z sf (.slice al 0 cl) d
  b : Below B w wr
  ge : B ≤ g
theorem GRun.alloc {w wr : World} {g z d : Nat} {sf : Value} {al : Option Addr} {cl B : Nat} {l : List (Int × Nat × Int)} (h : GRun w wr g z d sf al cl B l) (hB : B ≤ wr.heap.size) (o : Obj) : GRun w (wr.alloc o) g z d sf al cl B l :=
  ⟨h.rep, (((Below.refl _ wr).alloc (Nat.le_refl _) o).block _ h.gau.lt).trans h.gau, h.b.alloc hB o, h.ge⟩
/-- the gauge written behind the calls -/
def GaugeOut (l : List (Int × Nat × Int)) (w : World) (e : Ending) (w' : World) : Prop :=
  ∃ a c z, e = .returned (.agg (xcs (.slice a 0 c) 1 z false 0 false 0)) ∧ Rep (gv l) z ∧ Ss.Of 2 pc w' (.slice a 0 c) [] ∧ Below w.heap.size w w'
set_option maxHeartbeats 16000000 in
set_option maxRecDepth 100000 in
theorem gaugeRun_any (L : List Stp) (v : Value) (w : World) (hG : Glob w) (hof : Ss.Of 4 sc w v L) (hsl : ∀ s ∈ L, ∃ a n c, s.l = .slice a n c) :
    Calls Tryz.prog 10 #[v] w (GaugeOut (L.map ky) w) := by
  obtain ⟨av, cv, rfl, _, _⟩ := hof.slice
  obtain ⟨A, hA⟩ : ∃ A, A = w.alloc (.cells #[.slice none 0 0, .int .i64 0, .float .f64 0, .bool false, .float .f64 0, .slice none 0 0, .int .i64 0, .int .i64 0, .bool false, .int .u64 0, .float .f64 0, .slice none 0 0, .int .i64 0, .bool false, .int .i32 0, .float .f64 0, .int .u64 0, .slice none 0 0, .slice none 0 0, .slice none 0 0, .slice none 0 0, .slice none 0 0, .int .u64 0, .float .f64 0, .slice none 0 0, .bool false, .int .i64 0] 40) := ⟨_, rfl⟩
  have s1 : A.heap.size = w.heap.size + 1 := by rw [hA]; simp
  have hb0 : Below w.heap.size w A := by rw [hA]; exact (Below.refl _ _).alloc (Nat.le_refl _) _
  have hx0 : Whole A w.heap.size 40 (xcs (.slice none 0 0) 0 0 false 0 false 0) := by rw [hA]; exact Whole.made w _ _
  have hsz40 : (Tryz.prog.info? 40).map (·.size) = some 27 := by kernel_rfl
  have CG := Lib.hid (newGauge_any A (hG.below hb0))
  have HUp : Hid (∀ W, Below A.heap.size A W → Below w.heap.size w W) := fun W h => hb0.trans (h.mono (by omega))
  have HX : Hid (∀ W, Below A.heap.size A W → Whole W w.heap.size 40 (xcs (.slice none 0 0) 0 0 false 0 false 0)) := fun W h => (h.block _ hx0.lt).trans hx0
  have HOf : Hid (∀ W, Below A.heap.size A W → Ss.Of 4 sc W (.slice av L.length cv) L) := fun W h => hof.below (HUp.out W h)
  have HSl := Lib.hid hsl
  have HSe : Hid (∀ (y4 y5 : World) {a : Option Addr} {c : Nat}, Below A.heap.size A y4 → Ss.Of 2 pc y4 (.slice a 0 c) ([] : List P2) → y4.grownBy y5 (some w.heap.size) → Ss.Of 2 pc y5 (.slice a 0 c) ([] : List P2)) := fun y4 y5 a c _ h _ => by
    rcases h with h | ⟨b, off, cap, h1, h2, _⟩
    · exact Or.inl h
    · exact absurd h2 (by simp)
  clear hof hsl hG hx0 hb0
  go_enter Tryz.func10, Tryz.ntmps10
  go_wp2_with fail
  rw [← hA]
  clear hA
  refine CG.out.mono ?_
  rintro e w1 ⟨g, d, sf, al, cl, hcl, rfl, hg, hge, hb1⟩
  have HR0 : Hid (GRun A w1 g 0 d sf al cl A.heap.size (([] : List Stp).map ky)) := ⟨Rep.of 0, hg, hb1, hge⟩
  have hsf := @Flo.run_store_float Tryz.prog
  clear CG hg hge hb1
  go_wp2_with fail
  go_loopw [12] (fun vk wr => ∃ (k z : Nat), k ≤ L.length ∧ vk = .int .i64 (k : Int) ∧ Hid (GRun A wr g z d sf al cl A.heap.size ((L.take k).map ky))) (fun k _ => L.length - (intOf k).toNat)
  case atStart => exact ⟨0, 0, Nat.zero_le _, rfl, HR0.out⟩
  case round =>
    obtain ⟨k, z, hk, rfl, hrun⟩ := hrel
    have hbw := hrun.out.b
    by_cases hlt : k < L.length
    · obtain ⟨b, off, hav, hb, d0, d1, d2, d3⟩ := step_of (HOf.out _ hbw) hlt
      subst hav
      have htk0 := gv_take hlt
      obtain ⟨xa, xn, xc, hxl⟩ := HSl.out L[k] (List.getElem_mem hlt)
      obtain ⟨sk, sz, sl, st, hs⟩ : ∃ sk sz sl st, L[k] = ⟨sk, sz, sl, st⟩ := ⟨_, _, _, _, rfl⟩
      rw [hs] at d0 d1 d2 d3 htk0 hxl
      have hxl : sl = .slice xa xn xc := hxl
      subst hxl
      have htk : ∀ i, sk = i → Hid (gv ((L.take (k + 1)).map ky) = gstep (gv ((L.take k).map ky)) (i, sz, st)) := fun i hi => by subst hi; exact htk0
      have c0 : wr.cell? ⟨b, off + k * 4, none⟩ = some (.int .i64 sk) := d0
      have c1 : wr.cell? ⟨b, off + k * 4 + 1, none⟩ = some (.float .f64 sz) := d1
      have c2 : wr.cell? ⟨b, off + k * 4 + 2, none⟩ = some (.slice xa xn xc) := d2
      have c3 : wr.cell? ⟨b, off + k * 4 + 3, none⟩ = some (.int .i64 st) := d3
      have z1 : (0 : Int) ≤ (k : Int) := by omega
      have z2 : (k : Int) < (L.length : Int) := by omega
      obtain ⟨W1, hW1⟩ : ∃ W1, W1 = wr.alloc (.cells #[.int .i64 sk, .float .f64 sz, .slice xa xn xc, .int .i64 st] 110) := ⟨_, rfl⟩
      have hr1 : GRun A W1 g z d sf al cl A.heap.size ((L.take k).map ky) := by rw [hW1]; exact hrun.out.alloc hbw.size _
      have m0 : W1.cell? ⟨wr.heap.size, 0, none⟩ = some (.int .i64 sk) := by rw [hW1]; exact Sl.cell_new wr _ _ 0
      have m1 : W1.cell? ⟨wr.heap.size, 1, none⟩ = some (.float .f64 sz) := by rw [hW1]; exact Sl.cell_new wr _ _ 1
      have hgau := hr1.gau
      have HNx : Hid (∀ (w2 : World) (r : Nat), Rep (gv ((L.take (k + 1)).map ky)) r → Gauge w2 g r sf (.slice al 0 cl) d → W1.grownBy w2 (some g) → GRun A w2 g r d sf al cl A.heap.size ((L.take (k + 1)).map ky)) := fun w2 r h1 h2 h3 =>
        ⟨h1, h2, hr1.b.grown h3 hr1.b.size (fun j hj => by injection hj with hj; rw [← hj]; exact hr1.ge), hr1.ge⟩
      clear d0 d1 d2 d3 hs htk0 hrun hbw
      have hrp := Lib.hid hr1.rep
      clear hr1
      go_upto_region 5 with fail
      rw [← hW1]
      clear hW1 c0 c1 c2 c3
      by_cases q0 : sk = 0
      · subst q0
        have C := Lib.hid (inc_any g z d sf (.slice al 0 cl) W1 hgau)
        have HTk := htk 0 rfl
        clear hgau
        go_wp2_with fail
        refine C.out.mono ?_
        rintro e w2 ⟨rfl, r, hr, hg, hgr⟩
        have HN := Lib.hid (HNx.out w2 r (by rw [HTk.out, gstep0]; exact hrp.out.add (Rep.of _) hr) hg hgr)
        clear hr hg hgr C
        go_wp2_with fail
        go_roundw
        case rel => exact ⟨k + 1, r, by omega, by go_num, HN.out⟩
        case measure => simp [intOf]; omega
      by_cases q1 : sk = 1
      · subst q1
        have C := Lib.hid (dec_any g z d sf (.slice al 0 cl) W1 hgau)
        have HTk := htk 1 rfl
        clear hgau
        go_wp2_with fail
        refine C.out.mono ?_
        rintro e w2 ⟨rfl, r, hr, hg, hgr⟩
        have HN := Lib.hid (HNx.out w2 r (by rw [HTk.out, gstep1]; exact hrp.out.add (Rep.of _) hr) hg hgr)
        clear hr hg hgr C
        go_wp2_with fail
        go_roundw
        case rel => exact ⟨k + 1, r, by omega, by go_num, HN.out⟩
        case measure => simp [intOf]; omega
      by_cases q2 : sk = 2
      · subst q2
        have C := Lib.hid (add_any g z sz d sf (.slice al 0 cl) W1 hgau)
        have HTk := htk 2 rfl
        clear hgau
        go_wp2_with fail
        refine C.out.mono ?_
        rintro e w2 ⟨rfl, r, hr, hg, hgr⟩
        have HN := Lib.hid (HNx.out w2 r (by rw [HTk.out, gstep2]; exact hrp.out.add (Rep.of _) hr) hg hgr)
        clear hr hg hgr C
        go_wp2_with fail
        go_roundw
        case rel => exact ⟨k + 1, r, by omega, by go_num, HN.out⟩
        case measure => simp [intOf]; omega
      by_cases q3 : sk = 3
      · subst q3
        have C := Lib.hid (sub_any g z sz d sf (.slice al 0 cl) W1 hgau)
        have HTk := htk 3 rfl
        clear hgau
        go_wp2_with fail
        refine C.out.mono ?_
        rintro e w2 ⟨rfl, r, hr, hg, hgr⟩
        have HN := Lib.hid (HNx.out w2 r (by rw [HTk.out, gstep3]; exact hrp.out.left hr) hg hgr)
        clear hr hg hgr C
        go_wp2_with fail
        go_roundw
        case rel => exact ⟨k + 1, r, by omega, by go_num, HN.out⟩
        case measure => simp [intOf]; omega
      by_cases q4 : sk = 4
      · subst q4
        have C := Lib.hid (set_any g z sz d sf (.slice al 0 cl) W1 hgau)
        have HTk := htk 4 rfl
        clear hgau
        go_wp2_with fail
        refine C.out.mono ?_
        rintro e w2 ⟨rfl, r, hr, hg, hgr⟩
        have HN := Lib.hid (HNx.out w2 r (by rw [HTk.out, gstep4]; exact hr) hg hgr)
        clear hr hg hgr C
        go_wp2_with fail
        go_roundw
        case rel => exact ⟨k + 1, r, by omega, by go_num, HN.out⟩
        case measure => simp [intOf]; omega
      have HN : Hid (GRun A W1 g z d sf al cl A.heap.size ((L.take (k + 1)).map ky)) := HNx.out W1 z (by rw [(htk sk rfl).out, gstep_no q0 q1 q2 q3 q4]; exact hrp.out) hgau (World.grownBy.refl _ _)
      clear hgau
      go_wp2_with fail
      go_roundw
      case rel => exact ⟨k + 1, z, by omega, by go_num, HN.out⟩
      case measure => simp [intOf]; omega
    · obtain rfl : k = L.length := by omega
      have hrep := hrun.out.rep
      rw [List.take_length] at hrep
      have HRep := Lib.hid hrep
      have CW := Lib.hid (writtenGauge_any g z d sf al cl wr hrun.out.gau hcl)
      have HB := Lib.hid hbw
      clear hrep hrun hbw HOf HSl HR0
      go_wp2_with fail
      refine CW.out.mono ?_
      rintro e w3 ⟨a1, c1, rfl, ho3, hb3⟩
      have HB3 : Hid (Below A.heap.size A w3) := HB.out.trans (hb3.mono HB.out.size)
      have HO3 : Hid (Ss.Of 2 pc w3 (.slice a1 0 c1) ([] : List P2)) := Ss.Of.own pc_len ho3
      clear ho3 hb3 CW HB
      rename_i K1 hK1 K2 hK2
      dsimp only
      refine hK2 _ _ ?_
      refine wpList_plain rfl fun K3 hK3 => ?_
      go_simp
      refine hK3 _ _ ?_
      clear hK3 K3
      refine wpList_plain rfl fun K3 hK3 => ?_
      go_simp
      refine hK3 _ _ ?_
      clear hK3 K3
      refine wpList_plain rfl fun K3 hK3 => ?_
      go_simp
      refine hK3 _ _ ?_
      clear hK3 K3
      refine wpList_plain rfl fun K3 hK3 => ?_
      go_simp
      refine hK3 _ _ ?_
      clear hK3 K3
      refine Big.wpList_store_whole rfl _ _ _ rfl w3.heap.size 40 (xcs (.slice none 0 0) 0 0 false 0 false 0) (xcs (.slice a1 0 c1) 1 z false 0 false 0) rfl rfl (Whole.made w3 _ _) rfl hsz40 (xcs_ones _ _ _ _ _ _ _ _ _) ?_
      intro y4 hx4 hg4 hs4
      simp only [Act.put]
      have hb34 : Below w3.heap.size w3 y4 := ((Below.refl _ _).alloc (Nat.le_refl _) _).grown hg4 (by simp) (fun j hj => by injection hj with hj; omega)
      have HX4 := Lib.hid hx4
      have HB4 : Hid (Below A.heap.size A y4) := HB3.out.trans (hb34.mono HB3.out.size)
      have HO4 : Hid (Ss.Of 2 pc y4 (.slice a1 0 c1) ([] : List P2)) := HO3.out.below hb34
      clear hx4 hg4 hs4 hb34 HB3 HO3
      go_upto_region 18 with fail
      refine wp_region_lit ?_
      refine Big.wpList_load_whole rfl _ _ rfl w3.heap.size 40 (xcs (.slice a1 0 c1) 1 z false 0 false 0) rfl HX4.out _ Tryz.underlying40 rfl hsz40 ?_
      simp only [Act.put]
      refine Big.wpList_store_whole rfl _ _ _ rfl w.heap.size 40 (xcs (.slice none 0 0) 0 0 false 0 false 0) (xcs (.slice a1 0 c1) 1 z false 0 false 0) rfl rfl (HX.out _ HB4.out) rfl hsz40 (xcs_ones _ _ _ _ _ _ _ _ _) ?_
      intro y5 hx5 hg5 hs5
      simp only [Act.put]
      have hlo : w.heap.size ≤ y4.heap.size := by have := HB4.out.size; omega
      have HF : Hid (GaugeOut (L.map ky) w (.returned (.agg (xcs (.slice a1 0 c1) 1 z false 0 false 0))) y5) := ⟨a1, c1, z, rfl, HRep.out, HSe.out _ _ HB4.out HO4.out hg5, (HUp.out _ HB4.out).grown hg5 hlo (fun j hj => by injection hj with hj; omega)⟩
      have HX5 := Lib.hid hx5
      clear hx5 hg5 hs5
      go_wp2_with fail
      exact bodyPost_ret (v := .agg (xcs (.slice a1 0 c1) 1 z false 0 false 0)) (res1 Tryz.results10 _ _ _ _ _ rfl (Big.loaded_whole 40 w.heap.size 40 _ HX5.out _ Tryz.underlying40 rfl hsz40)) rfl HF.out

end Go.Proofs.YtlolomodcbkblaaGreatDoor.Gg
