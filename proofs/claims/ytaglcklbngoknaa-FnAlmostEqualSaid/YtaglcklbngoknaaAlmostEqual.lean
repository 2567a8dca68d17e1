/- FnAlmostEqual: the walks of AlmostEqualFloat64 and of the law. -/
import Derived.Test.YtaglcklbngoknaaFlo
import Derived.Test.YtaglcklbngoknaaAe
set_option linter.unusedVariables false
set_option linter.unusedSimpArgs false
namespace Go.Proofs.Ytaglcklbngoknaa.AlmostEqual
open Go.RowKit Plf

set_option maxHeartbeats 1000000 in
set_option maxRecDepth 100000 in
theorem minNormal_any (w : World) :
    Calls Try.prog 49 #[] w fun e w' => e = .returned (.float .f64 4503599627370496) ∧ w = w' := by
  have h2 := Flo.call_from
  go_enter Try.func49, Try.ntmps49
  go_wp2
  go_ret
  exact ⟨rfl, rfl⟩

theorem call_min (x y : Nat) (W : World) : (callFunc 63 #[.float .f64 x, .float .f64 y]).run Try.prog W = .ok (.value (.float .f64 (minW x y))) W := by
  rw [run_callFunc_extern Try.func63 (by kernel_rfl) (by kernel_rfl) (by kernel_rfl) (e := Extern.MathDim.pick "math.archMin" true .lt) (by kernel_rfl)]
  rfl

set_option maxHeartbeats 1000000 in
set_option maxRecDepth 100000 in
theorem min_any (x y : Nat) (w : World) :
    Calls Try.prog 50 #[.float .f64 x, .float .f64 y] w fun e w' => e = .returned (.float .f64 (minW x y)) ∧ w = w' := by
  have h2 := call_min
  go_enter Try.func50, Try.ntmps50
  go_wp2
  go_ret
  exact ⟨rfl, rfl⟩

set_option maxHeartbeats 1000000 in
set_option maxRecDepth 100000 in
theorem inner_any (a b c : Nat) (r : Bool) (hr : ae a b c = r) (ha : a < 18446744073709551616) (hb : b < 18446744073709551616) (w : World) :
    Calls Try.prog 30 #[.float .f64 a, .float .f64 b, .float .f64 c] w fun e w' => e = .returned (.bool r) ∧ Below w.heap.size w w' := by
  have hr' := Lib.hid hr
  clear hr
  by_cases h0 : eqW a b = true
  · have hrr : r = true := by rw [← hr'.out]; unfold ae; rw [if_pos h0]
    subst hrr
    have h1 : (FloatKind.f64.format.order a b == some Ordering.eq) = true := h0
    clear h0 hr'
    go_enter Try.func30, Try.ntmps30
    go_wp2
    go_ret
    exact ⟨rfl, Below.refl _ _⟩
  · have h1 : (FloatKind.f64.format.order a b == some Ordering.eq) = false := by
      have : eqW a b = false := by simpa using h0
      exact this
    go_enter Try.func30, Try.ntmps30
    go_wp2_with fail
    refine (Flo.abs_any a ha w).mono ?_
    rintro e w1 ⟨rfl, rfl⟩
    go_wp2_with fail
    refine (Flo.abs_any b hb w).mono ?_
    rintro e w1 ⟨rfl, rfl⟩
    obtain ⟨d, w1, k1, rd, hw1, hd⟩ := Flo.run_any (P := Try.prog) .sub (by simp) 23 a b w
    go_wp2_with fail
    refine (Flo.abs_any d hd w1).mono ?_
    rintro e w2 ⟨rfl, rfl⟩
    clear k1
    have b1 : Below w.heap.size w w1 := Flo.below_one (Below.refl _ _) hw1
    go_wp2_with fail
    · have hz : FloatKind.f64.format.order a 0 = some Ordering.eq := by assumption
      have sm : small a b = true := by unfold small eqW; rw [show (D.order a 0 == some Ordering.eq) = true from by simpa using (show D.order a 0 = some Ordering.eq from hz)]; rfl
      refine (minNormal_any w1).mono ?_
      rintro e w2 ⟨rfl, rfl⟩
      obtain ⟨m, w2, k2, rm, hw2, hm⟩ := Flo.run_any (P := Try.prog) .mul (by simp) 23 c 4503599627370496 w1
      go_wp2_with fail
      go_ret
      refine ⟨?_, Flo.below_one b1 hw2⟩
      have fin : ltW (absW d) m = r := by
        rw [ltW_rep (Rep.abs rd) (Rep.mulO rm), ← hr'.out, ae, if_neg h0, if_pos sm]; rfl
      exact congrArg (fun x => Ending.returned (Value.bool x)) fin
    · have hz2 : FloatKind.f64.format.order b 0 = some Ordering.eq := by assumption
      have sm : small a b = true := by unfold small eqW; rw [show (D.order b 0 == some Ordering.eq) = true from by simpa using (show D.order b 0 = some Ordering.eq from hz2)]; simp
      refine (minNormal_any w1).mono ?_
      rintro e w2 ⟨rfl, rfl⟩
      obtain ⟨m, w2, k2, rm, hw2, hm⟩ := Flo.run_any (P := Try.prog) .mul (by simp) 23 c 4503599627370496 w1
      go_wp2_with fail
      go_ret
      refine ⟨?_, Flo.below_one b1 hw2⟩
      have fin : ltW (absW d) m = r := by
        rw [ltW_rep (Rep.abs rd) (Rep.mulO rm), ← hr'.out, ae, if_neg h0, if_pos sm]; rfl
      exact congrArg (fun x => Ending.returned (Value.bool x)) fin
    · have hz : ¬ FloatKind.f64.format.order a 0 = some Ordering.eq := by assumption
      have hz2 : ¬ FloatKind.f64.format.order b 0 = some Ordering.eq := by assumption
      have z1 : eqW a 0 = false := by unfold eqW; simpa using (show ¬ D.order a 0 = some Ordering.eq from hz)
      have z2 : eqW b 0 = false := by unfold eqW; simpa using (show ¬ D.order b 0 = some Ordering.eq from hz2)
      obtain ⟨s, w2, ks, rs, hw2, hs⟩ := Flo.run_any (P := Try.prog) .add (by simp) 23 (absW a) (absW b) w1
      have b2 : Below w.heap.size w w2 := Flo.below_one b1 hw2
      by_cases hlt : ltW s minNorm = true
      · have sm : small a b = true := by
          unfold small; rw [z1, z2, Bool.false_or, Bool.false_or, ← hlt]; exact (ltW_rep rs (Rep.of _)).symm
        have hl : (FloatKind.f64.format.order s 4503599627370496 == some Ordering.lt) = true := hlt
        clear hlt
        rw [ks]
        simp only [Result.andThen]
        rw [Oper.upon_value]
        clear ks
        go_wp2_with fail
        refine (minNormal_any w2).mono ?_
        rintro e w3 ⟨rfl, rfl⟩
        go_wp2_with fail
        refine (minNormal_any w2).mono ?_
        rintro e w3 ⟨rfl, rfl⟩
        obtain ⟨m, w3, k3, rm, hw3, hm⟩ := Flo.run_any (P := Try.prog) .mul (by simp) 23 c 4503599627370496 w2
        go_wp2_with fail
        go_ret
        refine ⟨?_, Flo.below_one b2 hw3⟩
        have fin : ltW (absW d) m = r := by
          rw [ltW_rep (Rep.abs rd) (Rep.mulO rm), ← hr'.out, ae, if_neg h0, if_pos sm]; rfl
        exact congrArg (fun x => Ending.returned (Value.bool x)) fin
      · have sm : small a b = false := by
          unfold small; rw [z1, z2, Bool.false_or, Bool.false_or, ← Bool.eq_false_iff.2 hlt]; exact (ltW_rep rs (Rep.of _)).symm
        have hl : (FloatKind.f64.format.order s 4503599627370496 == some Ordering.lt) = false := Bool.eq_false_iff.2 hlt
        have z1' : (FloatKind.f64.format.order a 0 == some Ordering.eq) = false := z1
        have z2' : (FloatKind.f64.format.order b 0 == some Ordering.eq) = false := z2
        clear hlt
        rw [ks]
        simp only [Result.andThen]
        rw [Oper.upon_value]
        clear ks
        go_wp2_with fail
        refine (minNormal_any w2).mono ?_
        rintro e w3 ⟨rfl, rfl⟩
        obtain ⟨s2, w3, k3, rs2, hw3, hs2⟩ := Flo.run_any (P := Try.prog) .add (by simp) 23 (absW a) (absW b) w2
        go_wp2_with fail
        refine (min_any s2 _ w3).mono ?_
        rintro e w4 ⟨rfl, rfl⟩
        obtain ⟨q, w4, k4, rq, hw4, hq⟩ := Flo.run_any (P := Try.prog) .quo (by simp) 23 (absW d) (minW s2 9218868437227405311) w3
        go_wp2_with fail
        go_ret
        refine ⟨?_, Flo.below_one (Flo.below_one b2 hw3) hw4⟩
        have fin : ltW q c = r := by
          rw [ltW_rep (Rep.quo (Rep.abs rd) (Rep.den rs2) rq) (Rep.of c), ← hr'.out, ae, if_neg h0, if_neg (by rw [sm]; decide)]; rfl
        exact congrArg (fun x => Ending.returned (Value.bool x)) fin

set_option maxHeartbeats 1000000 in
set_option maxRecDepth 100000 in
theorem impl_any (a b c : Nat) (r : Bool) (hr : ae a b c = r) (ha : a < 18446744073709551616) (hb : b < 18446744073709551616) (w : World) :
    Calls Try.prog 14 #[.float .f64 a, .float .f64 b, .float .f64 c] w fun e w' => e = .returned (.bool r) ∧ Below w.heap.size w w' := by
  have hr' := Lib.hid hr
  clear hr
  go_enter Try.func14, Try.ntmps14
  go_wp2_with fail
  refine (inner_any a b c r hr'.out ha hb w).mono ?_
  rintro e w1 ⟨rfl, b1⟩
  go_wp2_with fail
  go_ret
  exact ⟨rfl, b1⟩

-- the law, its numbers almost equal, and epsilon not above the other one
set_option maxHeartbeats 1000000 in
set_option maxRecDepth 100000 in
theorem law_le (a b c d : Nat) (w : World) (ha : a < 18446744073709551616) (hb : b < 18446744073709551616) (lt eq ab : Bool) (hq : (lt || eq) = true)
    (h3 : (FloatKind.f64.format.order c d == some Ordering.lt) = lt) (h4 : (FloatKind.f64.format.order c d == some Ordering.eq) = eq) (h2 : (FloatKind.f64.format.order a b == some Ordering.eq) = ab)
    (q1 : (FloatKind.f64.format.order a a != some Ordering.eq) = false) (q2 : (FloatKind.f64.format.order b b != some Ordering.eq) = false)
    (Q0 : Hid (ae a b c = true)) (Q1 : Hid (ae b a c = true)) (Q2 : Hid (ae a b d = true)) (Q3 : Hid (ae 4607182418800017408 4607182418800017408 0 = true)) :
    Calls Try.prog 5 #[.float .f64 a, .float .f64 b, .float .f64 c, .float .f64 d] w fun e w' => e = .returned (.bool true) ∧ Below w.heap.size w w' := by
  cases lt <;> cases eq <;> first | (cases hq; done) | skip
  all_goals clear hq
  all_goals cases ab
  all_goals
    go_enter Try.func5, Try.ntmps5
    go_wp2_with fail
    refine (impl_any a b c true Q0.out ha hb w).mono ?_
    rintro e w1 ⟨rfl, b1⟩
    go_wp2_with fail
    refine (impl_any b a c true Q1.out hb ha w1).mono ?_
    rintro e w2 ⟨rfl, b2⟩
    have b2 := b1.trans (b2.mono b1.size)
    go_wp2_with fail
    refine (impl_any a b d true Q2.out ha hb w2).mono ?_
    rintro e w3 ⟨rfl, b3⟩
    have b3 := b2.trans (b3.mono b2.size)
    go_wp2_with fail
    refine (impl_any _ _ _ true Q3.out (by decide) (by decide) w3).mono ?_
    rintro e w4 ⟨rfl, b4⟩
    have b4 := b3.trans (b4.mono b3.size)
    go_wp2_with fail
    go_ret
    exact ⟨rfl, b4⟩

-- .. epsilon not at most the other one
set_option maxHeartbeats 1000000 in
set_option maxRecDepth 100000 in
theorem law_gt (a b c d : Nat) (w : World) (ha : a < 18446744073709551616) (hb : b < 18446744073709551616) (ab : Bool)
    (h3 : (FloatKind.f64.format.order c d == some Ordering.lt) = false) (h4 : (FloatKind.f64.format.order c d == some Ordering.eq) = false) (h2 : (FloatKind.f64.format.order a b == some Ordering.eq) = ab)
    (q1 : (FloatKind.f64.format.order a a != some Ordering.eq) = false) (q2 : (FloatKind.f64.format.order b b != some Ordering.eq) = false)
    (Q0 : Hid (ae a b c = true)) (Q1 : Hid (ae b a c = true)) (Q3 : Hid (ae 4607182418800017408 4607182418800017408 0 = true)) :
    Calls Try.prog 5 #[.float .f64 a, .float .f64 b, .float .f64 c, .float .f64 d] w fun e w' => e = .returned (.bool true) ∧ Below w.heap.size w w' := by
  cases ab
  all_goals
    go_enter Try.func5, Try.ntmps5
    go_wp2_with fail
    refine (impl_any a b c true Q0.out ha hb w).mono ?_
    rintro e w1 ⟨rfl, b1⟩
    go_wp2_with fail
    refine (impl_any b a c true Q1.out hb ha w1).mono ?_
    rintro e w2 ⟨rfl, b2⟩
    have b2 := b1.trans (b2.mono b1.size)
    go_wp2_with fail
    refine (impl_any _ _ _ true Q3.out (by decide) (by decide) w2).mono ?_
    rintro e w4 ⟨rfl, b4⟩
    have b4 := b2.trans (b4.mono b2.size)
    go_wp2_with fail
    go_ret
    exact ⟨rfl, b4⟩

-- .. not almost equal
set_option maxHeartbeats 1000000 in
set_option maxRecDepth 100000 in
theorem law_no (a b c d : Nat) (w : World) (ha : a < 18446744073709551616) (hb : b < 18446744073709551616) (na nb : Bool)
    (h2 : (FloatKind.f64.format.order a b == some Ordering.eq) = false)
    (q1 : (FloatKind.f64.format.order a a != some Ordering.eq) = na) (q2 : (FloatKind.f64.format.order b b != some Ordering.eq) = nb)
    (Q0 : Hid (ae a b c = false)) (Q1 : Hid (ae b a c = false)) (Q3 : Hid (ae 4607182418800017408 4607182418800017408 0 = true)) :
    Calls Try.prog 5 #[.float .f64 a, .float .f64 b, .float .f64 c, .float .f64 d] w fun e w' => e = .returned (.bool true) ∧ Below w.heap.size w w' := by
  cases na <;> cases nb
  all_goals
    go_enter Try.func5, Try.ntmps5
    go_wp2_with fail
    refine (impl_any a b c false Q0.out ha hb w).mono ?_
    rintro e w1 ⟨rfl, b1⟩
    go_wp2_with fail
    refine (impl_any b a c false Q1.out hb ha w1).mono ?_
    rintro e w2 ⟨rfl, b2⟩
    have b2 := b1.trans (b2.mono b1.size)
    go_wp2_with fail
    refine (impl_any _ _ _ true Q3.out (by decide) (by decide) w2).mono ?_
    rintro e w4 ⟨rfl, b4⟩
    have b4 := b2.trans (b4.mono b2.size)
    go_wp2_with fail
    go_ret
    exact ⟨rfl, b4⟩

theorem law_any (a b c d : Nat) (w : World) (ha : a < 18446744073709551616) (hb : b < 18446744073709551616) (hc : c < 18446744073709551616) (hd : d < 18446744073709551616) :
    Calls Try.prog 5 #[.float .f64 a, .float .f64 b, .float .f64 c, .float .f64 d] w fun e w' => e = .returned (.bool true) ∧ Below w.heap.size w w' := by
  have Q3 := Lib.hid (ae_same (a := 4607182418800017408) (b := 4607182418800017408) 0 (by decide))
  by_cases hx : ae a b c = true
  · have nn : ∀ z, isNan D z = false → (FloatKind.f64.format.order z z != some Ordering.eq) = false := by
      intro z hz
      have this : (FloatKind.f64.format.order z z == some Ordering.eq) = true := (eqW_iff z z).2 ⟨hz, hz, rfl⟩
      rw [bne, this]; rfl
    have q1 := nn a (by
      cases e : isNan D a
      · rfl
      · rw [ae_nan c (Or.inl e)] at hx; cases hx)
    have q2 := nn b (by
      cases e : isNan D b
      · rfl
      · rw [ae_nan c (Or.inr e)] at hx; cases hx)
    have Q1 := Lib.hid (ae_comm b a c ▸ hx : ae b a c = true)
    have Q0 := Lib.hid hx
    by_cases hle : leW c d = true
    · exact law_le a b c d w ha hb _ _ _ hle rfl rfl rfl q1 q2 Q0 Q1 (Lib.hid (ae_grows hx hle)) Q3
    · have h : (FloatKind.f64.format.order c d == some Ordering.lt || FloatKind.f64.format.order c d == some Ordering.eq) = false := by
        have := Bool.eq_false_iff.2 hle
        exact this
      rw [Bool.or_eq_false_iff] at h
      exact law_gt a b c d w ha hb _ h.1 h.2 rfl q1 q2 Q0 Q1 Q3
  · have hx := Bool.eq_false_iff.2 hx
    have h2 : (FloatKind.f64.format.order a b == some Ordering.eq) = false := by
      have : eqW a b = false := by
        cases e : eqW a b
        · rfl
        · rw [ae_same c e] at hx; cases hx
      exact this
    exact law_no a b c d w ha hb _ _ h2 rfl rfl (Lib.hid hx) (Lib.hid (ae_comm b a c ▸ hx : ae b a c = false)) Q3

end Go.Proofs.Ytaglcklbngoknaa.AlmostEqual
