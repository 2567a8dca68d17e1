/- math.Float64bits, Float64frombits, Abs in a walk. -/
import Derived.Test.YtplcmlnablmieaaFlo
set_option linter.unusedVariables false
set_option linter.unusedSimpArgs false
namespace Go.Proofs.Ytplcmlnablmieaa.Flo
open Go.RowKit Plf

theorem call_bits (x : Nat) (W : World) : (callFunc 29 #[.float .f64 x]).run Try.prog W = .ok (.value (.int .u64 x)) W := by
  rw [run_callFunc_extern Try.func29 (by kernel_rfl) (by kernel_rfl) (by kernel_rfl) (e := Extern.MathFloatBits.float64bits) (by kernel_rfl)]
  rfl
theorem call_from (n : Int) (W : World) : (callFunc 28 #[.int .u64 n]).run Try.prog W = .ok (.value (.float .f64 n.toNat)) W := by
  rw [run_callFunc_extern Try.func28 (by kernel_rfl) (by kernel_rfl) (by kernel_rfl) (e := Extern.MathFloatBits.float64frombits) (by kernel_rfl)]
  rfl

theorem clear_sign (x : Nat) (h : x < 18446744073709551616) : (bits .andNot .u64 (x : Int) 9223372036854775808).toNat = absW x := by
  have := u64_andNot_nat x 9223372036854775808 h (by decide)
  rw [show ((9223372036854775808 : Nat) : Int) = 9223372036854775808 from rfl] at this
  rw [this, Int.toNat_natCast]
  exact Nat.and_two_pow_sub_one_eq_mod x 63

set_option maxHeartbeats 1000000 in
set_option maxRecDepth 100000 in
theorem abs_any (x : Nat) (hx : x < 18446744073709551616) (w : World) :
    Calls Try.prog 21 #[.float .f64 x] w fun e w' => e = .returned (.float .f64 (absW x)) ∧ w = w' := by
  have H := clear_sign x hx
  generalize absW x = y at H ⊢
  have HH := Lib.hid H
  clear H hx
  have h1 := call_bits
  have h2 := call_from
  go_enter Try.func21, Try.ntmps21
  go_wp2
  go_ret
  rw [HH.out]
  exact ⟨rfl, rfl⟩

end Go.Proofs.Ytplcmlnablmieaa.Flo
