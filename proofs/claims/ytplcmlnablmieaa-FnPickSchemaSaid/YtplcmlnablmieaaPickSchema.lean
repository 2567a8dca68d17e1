/- FnPickSchema: the walk of the law. -/
import Derived.Test.YtplcmlnablmieaaPts
import Derived.Deep.Cut
set_option linter.unusedVariables false
set_option linter.unusedSimpArgs false
namespace Go.Proofs.Ytplcmlnablmieaa.PickSchema
open Go.RowKit Plf Ieee _root_.Go.Proofs.Ytplcmlnablmieaa.Ps

theorem region_sch {x : Nat} {n : Int} (h1 : 4607182418800017408 < x) (h2 : x < 9218868437227405312) (h : Region x n) : Sch x n := by
  obtain ⟨hn, hall, h3⟩ := h
  have hc : n = -4 ∨ n = -3 ∨ n = -2 ∨ n = -1 ∨ n = 0 ∨ n = 1 ∨ n = 2 ∨ n = 3 ∨ n = 4 ∨ n = 5 ∨ n = 6 ∨ n = 7 ∨ n = 8 := by omega
  rcases hc with rfl | rfl | rfl | rfl | rfl | rfl | rfl | rfl | rfl | rfl | rfl | rfl | rfl
  · have e : fac (-4) = 4679240012837945344 := by decide +kernel
    refine pick_m4 ?_ h2
    rcases h3 with ⟨g, _⟩ | ⟨g, _⟩
    · omega
    · exact absurd g (by decide)
  · refine pick_m3 ?_ ?_
    · have e : fac (-3) = 4643211215818981376 := by decide +kernel
      rcases h3 with ⟨g, _⟩ | ⟨g, _⟩
      · omega
      · exact absurd g (by decide)
    · have e : lo (-4) = 4679240012828938145 := by decide +kernel
      have := hall (-4) (by decide) (by decide)
      omega
  · refine pick_m2 ?_ ?_
    · have e : fac (-2) = 4625196817309499392 := by decide +kernel
      rcases h3 with ⟨g, _⟩ | ⟨g, _⟩
      · omega
      · exact absurd g (by decide)
    · have e : lo (-3) = 4643211215809974177 := by decide +kernel
      have := hall (-3) (by decide) (by decide)
      omega
  · refine pick_m1 ?_ ?_
    · have e : fac (-1) = 4616189618054758400 := by decide +kernel
      rcases h3 with ⟨g, _⟩ | ⟨g, _⟩
      · omega
      · exact absurd g (by decide)
    · have e : lo (-2) = 4625196817300492193 := by decide +kernel
      have := hall (-2) (by decide) (by decide)
      omega
  · refine pick_0 ?_ ?_
    · have e : fac 0 = 4611686018427387904 := by decide +kernel
      rcases h3 with ⟨g, _⟩ | ⟨g, _⟩
      · omega
      · exact absurd g (by decide)
    · have e : lo (-1) = 4616189618045751201 := by decide +kernel
      have := hall (-1) (by decide) (by decide)
      omega
  · refine pick_1 ?_ ?_
    · have e : hi 1 = 4609047870851541737 := by decide +kernel
      rcases h3 with ⟨_, g | ⟨g, _⟩⟩ | ⟨g, _⟩
      · omega
      · exact absurd g (by decide)
      · exact absurd g (by decide)
    · have e : lo 0 = 4611686018418380705 := by decide +kernel
      have := hall 0 (by decide) (by decide)
      omega
  · refine pick_2 ?_ ?_
    · have e : hi 2 = 4608034531897995222 := by decide +kernel
      rcases h3 with ⟨_, g | ⟨g, _⟩⟩ | ⟨g, _⟩
      · omega
      · exact absurd g (by decide)
      · exact absurd g (by decide)
    · have e : lo 1 = 4609047870838803634 := by decide +kernel
      have := hall 1 (by decide) (by decide)
      omega
  · refine pick_3 ?_ ?_
    · have e : hi 3 = 4607590029396034022 := by decide +kernel
      rcases h3 with ⟨_, g | ⟨g, _⟩⟩ | ⟨g, _⟩
      · omega
      · exact absurd g (by decide)
      · exact absurd g (by decide)
    · have e : lo 2 = 4608034531887283796 := by decide +kernel
      have := hall 2 (by decide) (by decide)
      omega
  · refine pick_4 ?_ ?_
    · have e : hi 4 = 4607381810194762782 := by decide +kernel
      rcases h3 with ⟨_, g | ⟨g, _⟩⟩ | ⟨g, _⟩
      · omega
      · exact absurd g (by decide)
      · exact absurd g (by decide)
    · have e : lo 3 = 4607590029386211601 := by decide +kernel
      have := hall 3 (by decide) (by decide)
      omega
  · refine pick_5 ?_ ?_
    · have e : hi 5 = 4607281034795138780 := by decide +kernel
      rcases h3 with ⟨_, g | ⟨g, _⟩⟩ | ⟨g, _⟩
      · omega
      · exact absurd g (by decide)
      · exact absurd g (by decide)
    · have e : lo 4 = 4607381810185356800 := by decide +kernel
      have := hall 4 (by decide) (by decide)
      omega
  · refine pick_6 ?_ ?_
    · have e : hi 6 = 4607231459789174818 := by decide +kernel
      rcases h3 with ⟨_, g | ⟨g, _⟩⟩ | ⟨g, _⟩
      · omega
      · exact absurd g (by decide)
      · exact absurd g (by decide)
    · have e : lo 5 = 4607281034785934349 := by decide +kernel
      have := hall 5 (by decide) (by decide)
      omega
  · refine pick_7 ?_ ?_
    · have e : hi 7 = 4607206872905173739 := by decide +kernel
      rcases h3 with ⟨_, g | ⟨g, _⟩⟩ | ⟨g, _⟩
      · omega
      · exact absurd g (by decide)
      · exact absurd g (by decide)
    · have e : lo 6 = 4607231459780069537 := by decide +kernel
      have := hall 6 (by decide) (by decide)
      omega
  · have e : lo 7 = 4607206872896117631 := by decide +kernel
    have := hall 7 (by decide) (by decide)
    exact pick_8 h1 (by omega)
theorem pick_said {x : Nat} {n : Int} (h1 : 4607182418800017408 < x) (h2 : x ≤ 9218868437227405312) (h : Region x n) (w : World) : Calls Try.prog 5 #[.float .f64 x] w (Says n w) := by
  by_cases hx : x = 9218868437227405312
  · obtain ⟨hn, hall, h3⟩ := h
    have : n = -4 := by
      rcases Int.lt_or_le (-4) n with hl | hl
      · have h4 := hall (-4) (by decide) hl
        have := (fac_facts (k := -4) (by decide) (by decide)).2.2.2
        omega
      · omega
    rw [this, hx]
    exact inf_walk w
  · exact sch_walk h1 (by omega) (region_sch h1 (by omega) h) w
theorem pick_five (w : World) : Calls Try.prog 5 #[.float .f64 4617315517961601024] w (Says (-1) w) :=
  sch_walk (by decide) (by decide) (pick_m1 (by decide) (by decide)) w
theorem gt_one {x : Nat} (hx : x < 18446744073709551616) (h : ¬ (4607182418800017408 < x ∧ x ≤ 9218868437227405312)) : (FloatKind.f64.format.order x 4607182418800017408 == some Ordering.gt) = false := by
  show (D.order x 4607182418800017408 == _) = false
  by_cases hn : isNan D x = true
  · rw [order_nan (Or.inl hn)]; rfl
  · have hn' : isNan D x = false := by cases e : isNan D x <;> simp_all
    have s1 : sv D 4607182418800017408 = 4607182418800017408 := by decide +kernel
    have hs : sv D x ≤ 4607182418800017408 := by
      by_cases hl : x < 9223372036854775808
      · obtain ⟨a, b, _⟩ := sv_low hl
        rw [b] at hn'
        have := of_decide_eq_false hn'
        omega
      · have e : isNeg D x = true := by
          unfold isNeg
          rw [dbl_sw]
          have : x / 9223372036854775808 = 1 := by omega
          rw [this]; rfl
        unfold sv
        rw [e]
        simp only [if_true]
        omega
    rw [order_num hn' (by decide +kernel), s1]
    simp only [compare, compareOfLessAndEq]
    by_cases h1 : sv D x < 4607182418800017408
    · rw [if_pos h1]; rfl
    · rw [if_neg h1, if_pos (by omega)]; rfl

set_option maxHeartbeats 4000000 in
set_option maxRecDepth 100000 in
theorem law_any (x : Nat) (w : World) (hx' : x < 18446744073709551616) :
    Calls Try.prog 3 #[.float .f64 x] w fun e w' => e = .returned (.bool true) ∧ Below w.heap.size w w' := by
  have C5 := Lib.hid (pick_five w)
  by_cases h : 4607182418800017408 < x ∧ x ≤ 9218868437227405312
  · have CS := Lib.hid (spec_walk h.1 h.2 w)
    have CP : Hid (∀ n, Region x n → Calls Try.prog 5 #[.float .f64 x] w (Says n w)) := fun n hn => pick_said h.1 h.2 hn w
    clear h hx'
    go_enter Try.func3, Try.ntmps3
    go_upto_region 2 with (first
      | (go_at_call 4; refine CS.out.mono ?_; rintro e w1 ⟨n, said, rfl, hreg, hn, rfl⟩; have HReg := Lib.hid hreg; clear hreg))
    cases said
    · clear HReg CP
      go_wp2_with (first
        | (go_at_call 5; refine C5.out.mono ?_; rintro e w1 ⟨rfl, rfl⟩))
      go_ret
      exact ⟨rfl, Below.refl _ _⟩
    · have CN := Lib.hid (CP.out n (HReg.out rfl))
      have hw : IntKind.i32.wrap n = n := IntWalk.i32_in _ (by omega)
      clear HReg CP
      go_wp2_with (first
        | (go_at_call 5; refine CN.out.mono ?_; rintro e w1 ⟨rfl, rfl⟩)
        | (go_at_call 5; refine C5.out.mono ?_; rintro e w1 ⟨rfl, rfl⟩))
      go_ret
      exact ⟨rfl, Below.refl _ _⟩
  · have o := gt_one hx' h
    have CS : Hid (Calls Try.prog 4 #[.float .f64 x] w fun e w' => e = .returned (.tuple #[.int .i64 0, .bool false]) ∧ w = w') := by
      show Calls _ _ _ _ _
      clear C5 h hx'
      go_enter Try.func4, Try.ntmps4
      go_wp2_with fail
      exact bodyPost_ret (v := .tuple #[.int .i64 0, .bool false]) (by simp [results, Try.results4, go_sem]) rfl ⟨rfl, rfl⟩
    clear o h hx'
    go_enter Try.func3, Try.ntmps3
    go_wp2_with (first
      | (go_at_call 4; refine CS.out.mono ?_; rintro e w1 ⟨rfl, rfl⟩)
      | (go_at_call 5; refine C5.out.mono ?_; rintro e w1 ⟨rfl, rfl⟩))
    go_ret
    exact ⟨rfl, Below.refl _ _⟩

end Go.Proofs.Ytplcmlnablmieaa.PickSchema
