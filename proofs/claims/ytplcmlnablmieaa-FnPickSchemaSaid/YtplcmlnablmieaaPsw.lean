/- The schema picked, walked: math.Log, Frexp, Log2, Floor on words. -/
import Derived.Test.YtplcmlnablmieaaFloAbs
import Derived.Test.YtplcmlnablmieaaPsn
set_option linter.unusedVariables false
set_option linter.unusedSimpArgs false
namespace Go.Proofs.Ytplcmlnablmieaa.Ps
open Go.RowKit Plf Ieee

theorem arith_run {P : Program} (op : BinOp) {x y r : Nat} (h : floatBits op .f64 x y = some r) (w : World) : (Extern.MathAsm.arith op x y).run P w = .ok r w := by
  unfold floatBits at h
  unfold Extern.MathAsm.arith
  cases op <;> simp only at h <;> first | (cases h; done) | skip
  all_goals simp [Op.floatArith, h]
theorem radd {P : Program} {x y r : Nat} (h : D.add x y = some r) (w : World) : (Extern.MathAsm.add x y).run P w = .ok r w := arith_run .add h w
theorem rsub {P : Program} {x y r : Nat} (h : D.sub x y = some r) (w : World) : (Extern.MathAsm.sub x y).run P w = .ok r w := arith_run .sub h w
theorem rmul {P : Program} {x y r : Nat} (h : D.mul x y = some r) (w : World) : (Extern.MathAsm.mul x y).run P w = .ok r w := arith_run .mul h w
theorem rdiv {P : Program} {x y r : Nat} (h : D.div x y = some r) (w : World) : (Extern.MathAsm.div x y).run P w = .ok r w := arith_run .quo h w

theorem match_log (x : Nat) (h1 : Nat → Sem Value) (h2 : Array Value → Sem Value) : Extern.MathLog.archLog.match_1 (fun _ => Sem Value) #[.float .f64 x] h1 h2 = h1 x := rfl
theorem bnd {α β : Type} {P : Program} {s : Sem α} {F : α → Sem β} {a : α} {w : World} (h : s.run P w = .ok a w) : (s >>= F).run P w = (F a).run P w := by
  rw [Sem.run_bind, h]; rfl
set_option maxRecDepth 4000 in
theorem archLog_run {P : Program} {x z : Nat} (hx : HALF ≤ x) (hx' : x < ONE) (h : logO x (smB x) = some z) (w : World) : (Extern.MathLog.archLog #[.float .f64 x]).run P w = .ok (.float .f64 z) w := by
  have hH : HALF = 4602678819172646912 := rfl
  have hO : ONE = 4607182418800017408 := rfl
  have m0 : (x % 2 ^ 63 == 0) = false := by rw [show (2 : Nat) ^ 63 = 9223372036854775808 by decide]; simp; omega
  have m1 : (x ≥ 2 ^ 63) = False := by rw [show (2 : Nat) ^ 63 = 9223372036854775808 by decide]; simp; omega
  have m2 : (x ≥ Extern.MathAsm.posInf) = False := by rw [show Extern.MathAsm.posInf = 9218868437227405312 by rfl]; simp; omega
  have m3 : x % 2 ^ 52 + Extern.MathAsm.half = x := by rw [show (2 : Nat) ^ 52 = 4503599627370496 by decide, show Extern.MathAsm.half = 4602678819172646912 by rfl]; omega
  have m4 : Extern.MathAsm.ofInt32 (Int.ofNat (x / 2 ^ 52) - 0x3FE) = 0 := by
    have : x / 2 ^ 52 = 1022 := by rw [show (2 : Nat) ^ 52 = 4503599627370496 by decide]; omega
    rw [this]; decide +kernel
  have m5 : (!Extern.MathAsm.lt 0x3FE6A09E667F3BCD x) = smB x := rfl
  unfold logO at h
  obtain ⟨k, e_k, h⟩ := bind_some h
  have r_k : ∀ w : World, (Extern.MathAsm.sub 0 (if smB x = true then Extern.MathAsm.one else 0)).run P w = .ok k w := fun w => rsub e_k w
  obtain ⟨u, e_u, h⟩ := bind_some h
  have r_u : ∀ w : World, (Extern.MathAsm.add (if smB x = true then Extern.MathAsm.one else 0) Extern.MathAsm.one).run P w = .ok u w := fun w => radd e_u w
  obtain ⟨f1, e_f1, h⟩ := bind_some h
  have r_f1 : ∀ w : World, (Extern.MathAsm.mul x u).run P w = .ok f1 w := fun w => rmul e_f1 w
  obtain ⟨f, e_f, h⟩ := bind_some h
  have r_f : ∀ w : World, (Extern.MathAsm.sub f1 Extern.MathAsm.one).run P w = .ok f w := fun w => rsub e_f w
  obtain ⟨g, e_g, h⟩ := bind_some h
  have r_g : ∀ w : World, (Extern.MathAsm.add Extern.MathAsm.two f).run P w = .ok g w := fun w => radd e_g w
  obtain ⟨s, e_s, h⟩ := bind_some h
  have r_s : ∀ w : World, (Extern.MathAsm.div f g).run P w = .ok s w := fun w => rdiv e_s w
  obtain ⟨s2, e_s2, h⟩ := bind_some h
  have r_s2 : ∀ w : World, (Extern.MathAsm.mul s s).run P w = .ok s2 w := fun w => rmul e_s2 w
  obtain ⟨s4, e_s4, h⟩ := bind_some h
  have r_s4 : ∀ w : World, (Extern.MathAsm.mul s2 s2).run P w = .ok s4 w := fun w => rmul e_s4 w
  obtain ⟨a1, e_a1, h⟩ := bind_some h
  have r_a1 : ∀ w : World, (Extern.MathAsm.mul 4594499633228436036 s4).run P w = .ok a1 w := fun w => rmul e_a1 w
  obtain ⟨a2, e_a2, h⟩ := bind_some h
  have r_a2 : ∀ w : World, (Extern.MathAsm.add a1 4595719342595441630).run P w = .ok a2 w := fun w => radd e_a2 w
  obtain ⟨a3, e_a3, h⟩ := bind_some h
  have r_a3 : ∀ w : World, (Extern.MathAsm.mul a2 s4).run P w = .ok a3 w := fun w => rmul e_a3 w
  obtain ⟨a4, e_a4, h⟩ := bind_some h
  have r_a4 : ∀ w : World, (Extern.MathAsm.add a3 4598818590951641945).run P w = .ok a4 w := fun w => radd e_a4 w
  obtain ⟨a5, e_a5, h⟩ := bind_some h
  have r_a5 : ∀ w : World, (Extern.MathAsm.mul a4 s4).run P w = .ok a5 w := fun w => rmul e_a5 w
  obtain ⟨a6, e_a6, h⟩ := bind_some h
  have r_a6 : ∀ w : World, (Extern.MathAsm.add a5 4604180019048437139).run P w = .ok a6 w := fun w => radd e_a6 w
  obtain ⟨t1, e_t1, h⟩ := bind_some h
  have r_t1 : ∀ w : World, (Extern.MathAsm.mul s2 a6).run P w = .ok t1 w := fun w => rmul e_t1 w
  obtain ⟨b1, e_b1, h⟩ := bind_some h
  have r_b1 : ∀ w : World, (Extern.MathAsm.mul 4594685411790997151 s4).run P w = .ok b1 w := fun w => rmul e_b1 w
  obtain ⟨b2, e_b2, h⟩ := bind_some h
  have r_b2 : ∀ w : World, (Extern.MathAsm.add b1 4597174411056806063).run P w = .ok b2 w := fun w => radd e_b2 w
  obtain ⟨b3, e_b3, h⟩ := bind_some h
  have r_b3 : ∀ w : World, (Extern.MathAsm.mul b2 s4).run P w = .ok b3 w := fun w => rmul e_b3 w
  obtain ⟨b4, e_b4, h⟩ := bind_some h
  have r_b4 : ∀ w : World, (Extern.MathAsm.add b3 4600877379321592324).run P w = .ok b4 w := fun w => radd e_b4 w
  obtain ⟨t2, e_t2, h⟩ := bind_some h
  have r_t2 : ∀ w : World, (Extern.MathAsm.mul s4 b4).run P w = .ok t2 w := fun w => rmul e_t2 w
  obtain ⟨r, e_r, h⟩ := bind_some h
  have r_r : ∀ w : World, (Extern.MathAsm.add t1 t2).run P w = .ok r w := fun w => radd e_r w
  obtain ⟨h1, e_h1, h⟩ := bind_some h
  have r_h1 : ∀ w : World, (Extern.MathAsm.mul Extern.MathAsm.half f).run P w = .ok h1 w := fun w => rmul e_h1 w
  obtain ⟨hf, e_hf, h⟩ := bind_some h
  have r_hf : ∀ w : World, (Extern.MathAsm.mul h1 f).run P w = .ok hf w := fun w => rmul e_hf w
  obtain ⟨i1, e_i1, h⟩ := bind_some h
  have r_i1 : ∀ w : World, (Extern.MathAsm.add r hf).run P w = .ok i1 w := fun w => radd e_i1 w
  obtain ⟨i2, e_i2, h⟩ := bind_some h
  have r_i2 : ∀ w : World, (Extern.MathAsm.mul s i1).run P w = .ok i2 w := fun w => rmul e_i2 w
  obtain ⟨i3, e_i3, h⟩ := bind_some h
  have r_i3 : ∀ w : World, (Extern.MathAsm.mul 4461442080421002358 k).run P w = .ok i3 w := fun w => rmul e_i3 w
  obtain ⟨inr, e_inr, h⟩ := bind_some h
  have r_inr : ∀ w : World, (Extern.MathAsm.add i2 i3).run P w = .ok inr w := fun w => radd e_inr w
  obtain ⟨k1, e_k1, h⟩ := bind_some h
  have r_k1 : ∀ w : World, (Extern.MathAsm.mul k 4604418534311723008).run P w = .ok k1 w := fun w => rmul e_k1 w
  obtain ⟨j1, e_j1, h⟩ := bind_some h
  have r_j1 : ∀ w : World, (Extern.MathAsm.sub hf inr).run P w = .ok j1 w := fun w => rsub e_j1 w
  obtain ⟨j2, e_j2, h⟩ := bind_some h
  have r_j2 : ∀ w : World, (Extern.MathAsm.sub j1 f).run P w = .ok j2 w := fun w => rsub e_j2 w
  obtain ⟨lg, e_lg, h⟩ := bind_some h
  have r_lg : ∀ w : World, (Extern.MathAsm.sub k1 j2).run P w = .ok lg w := fun w => rsub e_lg w
  injection h with h
  subst h
  delta Extern.MathLog.archLog
  rw [match_log, if_neg (by rw [m0]; decide), if_neg (by rw [m1]; exact id), if_neg (by rw [m2]; exact id)]
  extract_lets f1' k' sm
  have g1 : f1' = x := m3
  have g2 : k' = 0 := m4
  have g3 : sm = smB x := by show (!Extern.MathAsm.lt 0x3FE6A09E667F3BCD f1') = _; rw [g1]; exact m5
  clear_value sm k' f1'
  subst g2
  subst g3
  subst g1
  refine (bnd (r_k w)).trans ?_
  refine (bnd (r_u w)).trans ?_
  refine (bnd (r_f1 w)).trans ?_
  refine (bnd (r_f w)).trans ?_
  refine (bnd (r_g w)).trans ?_
  refine (bnd (r_s w)).trans ?_
  refine (bnd (r_s2 w)).trans ?_
  refine (bnd (r_s4 w)).trans ?_
  refine (bnd (r_a1 w)).trans ?_
  refine (bnd (r_a2 w)).trans ?_
  refine (bnd (r_a3 w)).trans ?_
  refine (bnd (r_a4 w)).trans ?_
  refine (bnd (r_a5 w)).trans ?_
  refine (bnd (r_a6 w)).trans ?_
  refine (bnd (r_t1 w)).trans ?_
  refine (bnd (r_b1 w)).trans ?_
  refine (bnd (r_b2 w)).trans ?_
  refine (bnd (r_b3 w)).trans ?_
  refine (bnd (r_b4 w)).trans ?_
  refine (bnd (r_t2 w)).trans ?_
  refine (bnd (r_r w)).trans ?_
  refine (bnd (r_h1 w)).trans ?_
  refine (bnd (r_hf w)).trans ?_
  refine (bnd (r_i1 w)).trans ?_
  refine (bnd (r_i2 w)).trans ?_
  refine (bnd (r_i3 w)).trans ?_
  refine (bnd (r_inr w)).trans ?_
  refine (bnd (r_k1 w)).trans ?_
  refine (bnd (r_j1 w)).trans ?_
  refine (bnd (r_j2 w)).trans ?_
  refine (bnd (r_lg w)).trans ?_
  rfl

theorem call_log {x z : Nat} (hx : HALF ≤ x) (hx' : x < ONE) (h : logO x (smB x) = some z) (W : World) : (callFunc 26 #[.float .f64 x]).run Try.prog W = .ok (.value (.float .f64 z)) W := by
  rw [run_callFunc_extern Try.func26 (by kernel_rfl) (by kernel_rfl) (by kernel_rfl) (e := Extern.MathLog.archLog) (by kernel_rfl)]
  rw [archLog_run hx hx' h]
  rfl
set_option maxHeartbeats 1000000 in
set_option maxRecDepth 100000 in
theorem log_any {x z : Nat} (hx : HALF ≤ x) (hx' : x < ONE) (h : logO x (smB x) = some z) (w : World) :
    Calls Try.prog 20 #[.float .f64 x] w fun e w' => e = .returned (.float .f64 z) ∧ w = w' := by
  have h1 := call_log hx hx' h
  clear hx hx' h
  go_enter Try.func20, Try.ntmps20
  go_wp2
  go_ret
  exact ⟨rfl, rfl⟩

theorem andn (x : Nat) (h : x < 9223372036854775808) : x &&& 9227875636482146303 = x % 4503599627370496 := by
  have e : (9227875636482146303 : Nat) = 2 ^ 63 ||| (2 ^ 52 - 1) := by decide
  have e2 : x &&& 2 ^ 63 = 0 := by
    refine Nat.eq_of_testBit_eq fun i => ?_
    rw [Nat.testBit_and, Nat.testBit_two_pow, Nat.zero_testBit]
    by_cases hi : 63 = i
    · rw [← hi, Nat.testBit_lt_two_pow (by rw [show (2 : Nat) ^ 63 = 9223372036854775808 by decide]; exact h)]; rfl
    · simp [hi]
  rw [e, Nat.and_or_distrib_left, Nat.and_two_pow_sub_one_eq_mod, e2, Nat.zero_or, show (2 : Nat) ^ 52 = 4503599627370496 by decide]
theorem orr (y : Nat) (h : y < 4503599627370496) : y ||| 4602678819172646912 = y + 4602678819172646912 := by
  have := Nat.two_pow_add_eq_or_of_lt (i := 52) (b := y) (by rw [show (2 : Nat) ^ 52 = 4503599627370496 by decide]; exact h) 1022
  rw [show (2 : Nat) ^ 52 * 1022 = 4602678819172646912 by decide] at this
  rw [Nat.or_comm, ← this, Nat.add_comm]
theorem andE (y : Nat) (h : y < 2048) : y &&& 2047 = y := by
  have := Nat.and_two_pow_sub_one_eq_mod y 11
  rw [show (2 : Nat) ^ 11 - 1 = 2047 by decide, show (2 : Nat) ^ 11 = 2048 by decide] at this
  rw [this]; exact Nat.mod_eq_of_lt h
theorem frac_bits {x : Nat} (h : x < 9223372036854775808) : (bits .or .u64 (bits .andNot .u64 (x : Int) 9218868437227405312) 4602678819172646912).toNat = frac x := by
  have h1 := u64_andNot_nat x 9218868437227405312 (by omega) (by decide)
  rw [show ((9218868437227405312 : Nat) : Int) = 9218868437227405312 from rfl, show 18446744073709551615 - 9218868437227405312 = 9227875636482146303 by decide, andn x h] at h1
  have hm := Nat.mod_lt x (show 0 < 4503599627370496 by decide)
  have h2 := u64_or_nat (x % 4503599627370496) 4602678819172646912 (by omega) (by decide)
  rw [show ((4602678819172646912 : Nat) : Int) = 4602678819172646912 from rfl, orr _ hm] at h2
  rw [h1, h2, Int.toNat_natCast]
  rfl
theorem expo_bits {x : Nat} (h : x < 9223372036854775808) : wrap64 (wrap64 (wrap64 (wrap64 (bits .and .u64 ((x : Int) / 4503599627370496) 2047) - 1023) + 1)) = expo x := by
  have hq : x / 4503599627370496 < 2048 := by omega
  have h1 := u64_and_nat (x / 4503599627370496) 2047 (by omega) (by decide)
  rw [show ((2047 : Nat) : Int) = 2047 from rfl, andE _ hq, show ((x / 4503599627370496 : Nat) : Int) = (x : Int) / 4503599627370496 by omega] at h1
  rw [h1]
  unfold expo
  simp only [wrap64]
  omega
/-- a normal positive number is finite, and not a NaN -/
theorem norm_ord {x : Nat} (h : Norm x) : (FloatKind.f64.format.order x 0 == some Ordering.eq) = false ∧ absW x = x ∧ (FloatKind.f64.format.order x 9218868437227405311 == some Ordering.gt) = false ∧ (FloatKind.f64.format.order x x != some Ordering.eq) = false ∧ (FloatKind.f64.format.order x 4503599627370496 == some Ordering.lt) = false := by
  obtain ⟨h1, h2⟩ := h
  have e : ∀ z, z ≤ 9218868437227405312 → sv D z = z ∧ isNan D z = false := fun z hz => by
    obtain ⟨a, b, _⟩ := sv_low (x := z) (by omega)
    exact ⟨a, by rw [b]; exact decide_eq_false (by omega)⟩
  have o : ∀ z, z ≤ 9218868437227405312 → D.order x z = some (compare (x : Int) (z : Int)) := fun z hz => by
    rw [order_num (e x (by omega)).2 (e z hz).2, (e x (by omega)).1, (e z hz).1]
  have c : ∀ a b : Int, compare a b = if a < b then .lt else if a = b then .eq else .gt := fun a b => by
    simp only [compare, compareOfLessAndEq]
  show (D.order x 0 == _) = false ∧ _ ∧ (D.order x 9218868437227405311 == _) = false ∧ (D.order x x != _) = false ∧ (D.order x 4503599627370496 == _) = false
  rw [o 0 (by decide), o 9218868437227405311 (by decide), o x (by omega), o 4503599627370496 (by decide), c, c, c, c]
  refine ⟨?_, Nat.mod_eq_of_lt (by omega), ?_, ?_, ?_⟩
  · rw [if_neg (by omega), if_neg (by omega)]; rfl
  · by_cases hh : x = 9218868437227405311
    · rw [if_neg (by omega), if_pos (by omega)]; rfl
    · rw [if_pos (by omega)]; rfl
  · rw [if_neg (by omega), if_pos rfl]; rfl
  · by_cases hh : x = 4503599627370496
    · rw [if_neg (by omega), if_pos (by omega)]; rfl
    · rw [if_neg (by omega), if_neg (by omega)]; rfl
set_option maxHeartbeats 1000000 in
set_option maxRecDepth 100000 in
theorem inf_any {x : Nat} (h : Norm x) (w : World) : Calls Try.prog 17 #[.float .f64 x, .int .i64 0] w fun e w' => e = .returned (.bool false) ∧ w = w' := by
  obtain ⟨h0, h1, h2, h3, h4⟩ := norm_ord h
  have hx : x < 18446744073709551616 := by have := h.2; omega
  have CA := Lib.hid (Flo.abs_any x hx w)
  rw [h1] at CA
  clear h h0 h1 h3 h4
  go_enter Try.func17, Try.ntmps17
  go_wp2_with fail
  refine CA.out.mono ?_
  rintro e w1 ⟨rfl, rfl⟩
  go_wp2_with fail
  go_ret
  exact ⟨rfl, rfl⟩
set_option maxHeartbeats 1000000 in
set_option maxRecDepth 100000 in
theorem nan_any {x : Nat} (h : Norm x) (w : World) : Calls Try.prog 16 #[.float .f64 x] w fun e w' => e = .returned (.bool false) ∧ w = w' := by
  obtain ⟨h0, h1, h2, h3, h4⟩ := norm_ord h
  clear h h0 h1 h2 h4
  go_enter Try.func16, Try.ntmps16
  go_wp2_with fail
  go_ret
  exact ⟨rfl, rfl⟩
set_option maxHeartbeats 1000000 in
set_option maxRecDepth 100000 in
theorem normalize_any {x : Nat} (h : Norm x) (w : World) : Calls Try.prog 32 #[.float .f64 x] w fun e w' => e = .returned (.tuple #[.float .f64 x, .int .i64 0]) ∧ w = w' := by
  obtain ⟨h0, h1, h2, h3, h4⟩ := norm_ord h
  have hx : x < 18446744073709551616 := by have := h.2; omega
  have CA := Lib.hid (Flo.abs_any x hx w)
  rw [h1] at CA
  clear h h0 h1 h2 h3
  go_enter Try.func32, Try.ntmps32
  go_wp2_with fail
  refine CA.out.mono ?_
  rintro e w1 ⟨rfl, rfl⟩
  go_wp2_with fail
  exact bodyPost_ret (v := .tuple #[.float .f64 x, .int .i64 0]) (by simp [results, Try.results32, go_sem]) rfl ⟨rfl, rfl⟩
set_option maxHeartbeats 2000000 in
set_option maxRecDepth 100000 in
theorem frexp_norm {x : Nat} (h : Norm x) (w : World) : Calls Try.prog 25 #[.float .f64 x] w fun e w' => e = .returned (.tuple #[.float .f64 (frac x), .int .i64 (expo x)]) ∧ w = w' := by
  obtain ⟨h0, h1, h2, h3, h4⟩ := norm_ord h
  have c1 := Flo.call_bits
  have c2 := Flo.call_from
  have CI := Lib.hid (inf_any h w)
  have CN := Lib.hid (nan_any h w)
  have CM := Lib.hid (normalize_any h w)
  have HX : Hid (Norm x) := h
  clear h h1 h2 h3 h4
  go_enter Try.func25, Try.ntmps25
  go_wp2_with (first
    | (go_at_call 17; refine CI.out.mono ?_; rintro e w1 ⟨rfl, rfl⟩)
    | (go_at_call 16; refine CN.out.mono ?_; rintro e w1 ⟨rfl, rfl⟩)
    | (go_at_call 32; refine CM.out.mono ?_; rintro e w1 ⟨rfl, rfl⟩))
  have hl : x < 9223372036854775808 := by have := HX.out.2; omega
  exact bodyPost_ret (v := .tuple #[.float .f64 (frac x), .int .i64 (expo x)]) (by rw [← frac_bits hl, ← expo_bits hl]; simp [results, Try.results25, go_sem]) rfl ⟨rfl, rfl⟩

end Go.Proofs.Ytplcmlnablmieaa.Ps
