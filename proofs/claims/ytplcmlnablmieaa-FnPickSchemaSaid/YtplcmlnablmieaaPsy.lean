/- The schema picked, walked: pickSchema and its doors, by schema. -/
import Derived.Test.YtplcmlnablmieaaPsx
set_option linter.unusedVariables false
set_option linter.unusedSimpArgs false
namespace Go.Proofs.Ytplcmlnablmieaa.Ps
open Go.RowKit Plf Ieee

set_option maxHeartbeats 1000000 in
set_option maxRecDepth 100000 in
theorem Log2_of {x z : Nat} (h : ∀ w, Calls Try.prog 15 #[.float .f64 x] w fun e w' => e = .returned (.float .f64 z) ∧ w = w') (w : World) : Calls Try.prog 11 #[.float .f64 x] w fun e w' => e = .returned (.float .f64 z) ∧ w = w' := by
  have C := Lib.hid (h w)
  clear h
  go_enter Try.func11, Try.ntmps11
  go_wp2_with (first
    | (go_at_call 15; refine C.out.mono ?_; rintro e w1 ⟨rfl, rfl⟩))
  go_ret
  exact ⟨rfl, rfl⟩
abbrev INF : Nat := 9218868437227405312
abbrev NINF : Nat := 18442240474082181120
theorem call_log_zero {x : Nat} (hx : x = 0 ∨ x = 9223372036854775808) (W : World) : (callFunc 26 #[.float .f64 x]).run Try.prog W = .ok (.value (.float .f64 NINF)) W := by
  rw [run_callFunc_extern Try.func26 (by kernel_rfl) (by kernel_rfl) (by kernel_rfl) (e := Extern.MathLog.archLog) (by kernel_rfl)]
  have e : (Extern.MathLog.archLog #[.float .f64 x]).run Try.prog W = .ok (.float .f64 NINF) W := by
    delta Extern.MathLog.archLog
    rw [match_log, if_pos (by rcases hx with rfl | rfl <;> decide)]
    rfl
  rw [e]; rfl
theorem call_log_inf (W : World) : (callFunc 26 #[.float .f64 9218868437227405312]).run Try.prog W = .ok (.value (.float .f64 INF)) W := by
  rw [run_callFunc_extern Try.func26 (by kernel_rfl) (by kernel_rfl) (by kernel_rfl) (e := Extern.MathLog.archLog) (by kernel_rfl)]
  have e : (Extern.MathLog.archLog #[.float .f64 9218868437227405312]).run Try.prog W = .ok (.float .f64 INF) W := by
    delta Extern.MathLog.archLog
    rw [match_log, if_neg (by decide), if_neg (by decide), if_pos (by decide)]
    rfl
  rw [e]; rfl
set_option maxHeartbeats 1000000 in
set_option maxRecDepth 100000 in
theorem log2_zero {x : Nat} (hx : x = 0 ∨ x = 9223372036854775808) (w : World) : Calls Try.prog 15 #[.float .f64 x] w fun e w' => e = .returned (.float .f64 NINF) ∧ w = w' := by
  have h0 : (FloatKind.f64.format.order x 0 == some Ordering.eq) = true := by rcases hx with rfl | rfl <;> decide +kernel
  have h1 : (FloatKind.f64.format.order x 4602678819172646912 == some Ordering.eq) = false := by rcases hx with rfl | rfl <;> decide +kernel
  have c1 := call_log_zero hx
  have r1 : (binOp .mul 22 (.float .f64 18442240474082181120) (.float .f64 4609176140021203710)).run Try.prog w = .ok (.float .f64 NINF) w := run_float_arith w .mul _ .f64 _ _ _ (by decide +kernel)
  have r2 : (binOp .add 22 (.float .f64 18442240474082181120) (.float .f64 (floatOfInt FloatKind.f64 0))).run Try.prog w = .ok (.float .f64 NINF) w := run_float_arith w .add _ .f64 _ _ _ (by decide +kernel)
  have CR : Hid (Calls Try.prog 25 #[.float .f64 x] w fun e w' => e = .returned (.tuple #[.float .f64 x, .int .i64 0]) ∧ w = w') := by
    clear c1 h1 hx r1 r2
    show Calls _ _ _ _ _
    go_enter Try.func25, Try.ntmps25
    go_wp2_with fail
    exact bodyPost_ret (v := .tuple #[.float .f64 x, .int .i64 0]) (by simp [results, Try.results25, go_sem]) rfl ⟨rfl, rfl⟩
  have CF : Hid (Calls Try.prog 19 #[.float .f64 x] w fun e w' => e = .returned (.tuple #[.float .f64 x, .int .i64 0]) ∧ w = w') := by
    clear c1 h1 hx r1 r2 h0
    show Calls _ _ _ _ _
    go_enter Try.func19, Try.ntmps19
    go_wp2_with (first
      | (go_at_call 25; refine CR.out.mono ?_; rintro e w1 ⟨rfl, rfl⟩))
    exact bodyPost_ret (v := .tuple #[.float .f64 x, .int .i64 0]) (by simp [results, Try.results19, go_sem]) rfl ⟨rfl, rfl⟩
  have CL : Hid (Calls Try.prog 20 #[.float .f64 x] w fun e w' => e = .returned (.float .f64 NINF) ∧ w = w') := by
    clear h0 h1 hx r1 r2
    show Calls _ _ _ _ _
    go_enter Try.func20, Try.ntmps20
    go_wp2_with fail
    go_ret
    exact ⟨rfl, rfl⟩
  clear c1 h0 hx
  go_enter Try.func15, Try.ntmps15
  go_wp2_with (first
    | (go_at_call 19; refine CF.out.mono ?_; rintro e w1 ⟨rfl, rfl⟩)
    | (go_at_call 20; refine CL.out.mono ?_; rintro e w1 ⟨rfl, rfl⟩))
  go_ret
  exact ⟨rfl, rfl⟩
set_option maxHeartbeats 1000000 in
set_option maxRecDepth 100000 in
theorem log2_inf (w : World) : Calls Try.prog 15 #[.float .f64 9218868437227405312] w fun e w' => e = .returned (.float .f64 INF) ∧ w = w' := by
  have c1 := call_log_inf
  have c2 := Lib.hid (Flo.abs_any 9218868437227405312 (by decide) w)
  rw [show absW 9218868437227405312 = 9218868437227405312 by decide] at c2
  have o1 : (FloatKind.f64.format.order 9218868437227405312 0 == some Ordering.eq) = false := by decide +kernel
  have o2 : (FloatKind.f64.format.order 9218868437227405312 4602678819172646912 == some Ordering.eq) = false := by decide +kernel
  have o3 : (FloatKind.f64.format.order 9218868437227405312 9218868437227405311 == some Ordering.gt) = true := by decide +kernel
  have r1 : (binOp .mul 22 (.float .f64 9218868437227405312) (.float .f64 4609176140021203710)).run Try.prog w = .ok (.float .f64 INF) w := run_float_arith w .mul _ .f64 _ _ _ (by decide +kernel)
  have r2 : (binOp .add 22 (.float .f64 9218868437227405312) (.float .f64 (floatOfInt FloatKind.f64 0))).run Try.prog w = .ok (.float .f64 INF) w := run_float_arith w .add _ .f64 _ _ _ (by decide +kernel)
  have CI : Hid (Calls Try.prog 17 #[.float .f64 9218868437227405312, .int .i64 0] w fun e w' => e = .returned (.bool true) ∧ w = w') := by
    clear c1 r1 r2 o1 o2
    show Calls _ _ _ _ _
    go_enter Try.func17, Try.ntmps17
    go_wp2_with (first
      | (go_at_call 21; refine c2.out.mono ?_; rintro e w1 ⟨rfl, rfl⟩))
    go_ret
    exact ⟨rfl, rfl⟩
  have CR : Hid (Calls Try.prog 25 #[.float .f64 9218868437227405312] w fun e w' => e = .returned (.tuple #[.float .f64 9218868437227405312, .int .i64 0]) ∧ w = w') := by
    clear c1 o2 r1 r2 o3
    show Calls _ _ _ _ _
    go_enter Try.func25, Try.ntmps25
    go_wp2_with (first
      | (go_at_call 17; refine CI.out.mono ?_; rintro e w1 ⟨rfl, rfl⟩))
    exact bodyPost_ret (v := .tuple #[.float .f64 9218868437227405312, .int .i64 0]) (by simp [results, Try.results25, go_sem]) rfl ⟨rfl, rfl⟩
  have CF : Hid (Calls Try.prog 19 #[.float .f64 9218868437227405312] w fun e w' => e = .returned (.tuple #[.float .f64 9218868437227405312, .int .i64 0]) ∧ w = w') := by
    clear c1 r1 r2 o1 o2 o3
    show Calls _ _ _ _ _
    go_enter Try.func19, Try.ntmps19
    go_wp2_with (first
      | (go_at_call 25; refine CR.out.mono ?_; rintro e w1 ⟨rfl, rfl⟩))
    exact bodyPost_ret (v := .tuple #[.float .f64 9218868437227405312, .int .i64 0]) (by simp [results, Try.results19, go_sem]) rfl ⟨rfl, rfl⟩
  have CL : Hid (Calls Try.prog 20 #[.float .f64 9218868437227405312] w fun e w' => e = .returned (.float .f64 INF) ∧ w = w') := by
    clear r1 r2 o1 o2 o3
    show Calls _ _ _ _ _
    go_enter Try.func20, Try.ntmps20
    go_wp2_with fail
    go_ret
    exact ⟨rfl, rfl⟩
  clear c1 o1 o3
  go_enter Try.func15, Try.ntmps15
  go_wp2_with (first
    | (go_at_call 19; refine CF.out.mono ?_; rintro e w1 ⟨rfl, rfl⟩)
    | (go_at_call 20; refine CL.out.mono ?_; rintro e w1 ⟨rfl, rfl⟩))
  go_ret
  exact ⟨rfl, rfl⟩

end Go.Proofs.Ytplcmlnablmieaa.Ps
