/- The schema picked, walked: Log2, Floor, pickSchema. -/
import Derived.Test.YtplcmlnablmieaaPsw
set_option linter.unusedVariables false
set_option linter.unusedSimpArgs false
namespace Go.Proofs.Ytplcmlnablmieaa.Ps
open Go.RowKit Plf Ieee

set_option maxHeartbeats 1000000 in
set_option maxRecDepth 100000 in
theorem Frexp_norm {x : Nat} (h : Norm x) (w : World) : Calls Try.prog 19 #[.float .f64 x] w fun e w' => e = .returned (.tuple #[.float .f64 (frac x), .int .i64 (expo x)]) ∧ w = w' := by
  have CF := Lib.hid (frexp_norm h w)
  generalize frac x = φ at CF ⊢
  generalize expo x = n at CF ⊢
  clear h
  go_enter Try.func19, Try.ntmps19
  go_wp2_with (first
    | (go_at_call 25; refine CF.out.mono ?_; rintro e w1 ⟨rfl, rfl⟩))
  exact bodyPost_ret (v := .tuple #[.float .f64 φ, .int .i64 n]) (by simp [results, Try.results19, go_sem]) rfl ⟨rfl, rfl⟩
theorem eq_half {φ : Nat} (h1 : HALF ≤ φ) (h2 : φ < ONE) : (FloatKind.f64.format.order φ 4602678819172646912 == some Ordering.eq) = decide (φ = HALF) := by
  have hH : HALF = 4602678819172646912 := rfl
  have hO : ONE = 4607182418800017408 := rfl
  obtain ⟨a1, b1, _⟩ := sv_low (x := φ) (by omega)
  obtain ⟨a2, b2, _⟩ := sv_low (x := 4602678819172646912) (by decide)
  show (D.order φ 4602678819172646912 == _) = _
  rw [order_num (by rw [b1]; exact decide_eq_false (by omega)) (by rw [b2]; decide), a1, a2]
  simp only [compare, compareOfLessAndEq]
  by_cases h : φ = HALF
  · rw [if_neg (by omega), if_pos (by omega), decide_eq_true h]; rfl
  · rw [if_neg (by omega), if_neg (by omega), decide_eq_false h]; rfl
set_option maxHeartbeats 1000000 in
set_option maxRecDepth 100000 in
theorem log2_norm {x z : Nat} (hN : Norm x) (h : Lg x z) (w : World) : Calls Try.prog 15 #[.float .f64 x] w fun e w' => e = .returned (.float .f64 z) ∧ w = w' := by
  have CF := Lib.hid (Frexp_norm hN w)
  have hf1 : HALF ≤ frac x := by unfold frac; omega
  have hf2 := frac_lt x
  have hq := eq_half hf1 hf2
  have he : -1022 ≤ expo x ∧ expo x ≤ 1024 := by have := hN.2; have := hN.1; unfold expo; omega
  have hiff : x % 4503599627370496 = 0 ↔ frac x = HALF := by unfold frac; omega
  unfold Lg at h
  simp only [ne_eq, hiff] at h
  clear hiff hN
  generalize frac x = φ at CF hf1 hf2 hq h
  generalize expo x = n at CF he h
  have hw : wrap64 (n - 1) = n - 1 := by unfold wrap64; omega
  rcases h with ⟨h0, hz⟩ | ⟨h0, y, l, e1, e2, e3⟩
  · rw [decide_eq_true h0] at hq
    have hz' : floatOfInt FloatKind.f64 (n - 1) = z := hz.symm
    clear hz
    go_enter Try.func15, Try.ntmps15
    go_wp2_with (first
      | (go_at_call 19; refine CF.out.mono ?_; rintro e w1 ⟨rfl, rfl⟩))
    go_ret
    first | (rw [← hz']; exact ⟨rfl, rfl⟩) | exact ⟨rfl, rfl⟩
  · rw [decide_eq_false h0] at hq
    have CL := Lib.hid (log_any hf1 hf2 e1 w)
    have r1 : (binOp .mul 22 (.float .f64 y) (.float .f64 4609176140021203710)).run Try.prog w = .ok (.float .f64 l) w := run_float_arith w .mul _ .f64 y _ l e2
    have r2 : (binOp .add 22 (.float .f64 l) (.float .f64 (floatOfInt FloatKind.f64 n))).run Try.prog w = .ok (.float .f64 z) w := run_float_arith w .add _ .f64 l _ z e3
    clear e1 e2 e3 hf1 hf2
    go_enter Try.func15, Try.ntmps15
    go_wp2_with (first
      | (go_at_call 19; refine CF.out.mono ?_; rintro e w1 ⟨rfl, rfl⟩)
      | (go_at_call 20; refine CL.out.mono ?_; rintro e w1 ⟨rfl, rfl⟩))
    go_ret
    exact ⟨rfl, rfl⟩
theorem match_fl (x : Nat) (h1 : Nat → Sem Value) (h2 : Array Value → Sem Value) : Extern.MathFloor.toIntegral.match_2 (fun _ => Sem Value) #[.float .f64 x] h1 h2 = h1 x := rfl
theorem call_floor {z : Nat} {F : Nat} (h : ∀ s t, D.read z ≠ .nan s t) (hF : D.write ((D.read z).integral .down) = F) (W : World) : (callFunc 12 #[.float .f64 z]).run Try.prog W = .ok (.value (.float .f64 F)) W := by
  rw [run_callFunc_extern Try.func12 (by kernel_rfl) (by kernel_rfl) (by kernel_rfl) (e := Extern.MathFloor.toIntegral "math.archFloor" .down) (by kernel_rfl)]
  have e : (Extern.MathFloor.toIntegral "math.archFloor" .down #[.float .f64 z]).run Try.prog W = .ok (.float .f64 F) W := by
    have hd : FloatKind.f64.decode z = D.read z := rfl
    delta Extern.MathFloor.toIntegral
    rw [match_fl, hd]
    generalize D.read z = d at h hF ⊢
    cases d with
    | nan s t => exact absurd rfl (h s t)
    | number s m i => rw [← hF]; rfl
    | infinity s => rw [← hF]; rfl
  rw [e]; rfl
set_option maxHeartbeats 1000000 in
set_option maxRecDepth 100000 in
theorem floor_any {z F : Nat} (h : ∀ s t, D.read z ≠ .nan s t) (hF : D.write ((D.read z).integral .down) = F) (w : World) : Calls Try.prog 10 #[.float .f64 z] w fun e w' => e = .returned (.float .f64 F) ∧ w = w' := by
  have h1 := call_floor h hF
  clear h hF
  go_enter Try.func10, Try.ntmps10
  go_wp2
  go_ret
  exact ⟨rfl, rfl⟩

end Go.Proofs.Ytplcmlnablmieaa.Ps
