/- Floats: twice a whole number below 2^53 by itself twice over is one. -/
import Derived.Test.YtplcmlnablmieaaFl3
set_option linter.unusedVariables false
set_option linter.unusedSimpArgs false
namespace Plf
open Ieee

theorem dbl_frac : D.fractionBits = 52 := by decide
theorem dbl_least : D.leastPlace = -1074 := by decide
/-- a whole number below 2^53 is exact -/
theorem whole_rung {m : Nat} (h0 : m ≠ 0) (h : m.log2 ≤ 52) : rungOf D m 0 = (m.log2 + 1022) * D.binade + m * 2 ^ (52 - m.log2) := by
  have hl : lastOf D m 0 = (m.log2 : Int) - 52 := by
    unfold lastOf
    rw [dbl_frac, dbl_least]
    have : (0 : Int) ≤ (m.log2 : Int) := by omega
    omega
  have hk : keptOf m 0 ((m.log2 : Int) - 52) = m * 2 ^ (52 - m.log2) := by
    unfold keptOf
    rw [show ((m.log2 : Int) - 52 - 0).toNat = 0 by omega, show (0 - ((m.log2 : Int) - 52)).toNat = 52 - m.log2 by omega, Nat.pow_zero, rne_one]
  unfold rungOf
  rw [if_neg h0, hl, hk, dbl_least, show ((m.log2 : Int) - 52 - -1074).toNat = m.log2 + 1022 by omega]
  refine Nat.min_eq_left ?_
  have h2 := Nat.lt_log2_self (n := m)
  have h3 : m * 2 ^ (52 - m.log2) ≤ 2 ^ (m.log2 + 1) * 2 ^ (52 - m.log2) := Nat.mul_le_mul_right _ (Nat.le_of_lt h2)
  rw [← Nat.pow_add, show m.log2 + 1 + (52 - m.log2) = 53 by omega] at h3
  have e : (2 : Nat) ^ 53 = 9007199254740992 := by decide
  rw [e] at h3
  rw [dbl_inf, dbl_bin]
  generalize m * 2 ^ (52 - m.log2) = K at *
  have : (m.log2 + 1022) * 4503599627370496 ≤ 1074 * 4503599627370496 := Nat.mul_le_mul_right _ (by omega)
  exact Nat.le_trans (Nat.add_le_add this h3) (by decide)
theorem whole_parts {m : Nat} (h0 : m ≠ 0) (h : m.log2 ≤ 52) : rm D (rungOf D m 0) = m * 2 ^ (52 - m.log2) ∧ rp D (rungOf D m 0) = (m.log2 : Int) - 52 ∧ 0 < rungOf D m 0 ∧ rungOf D m 0 < D.infRung := by
  rw [whole_rung h0 h]
  have h1 := Nat.log2_self_le h0
  have h2 := Nat.lt_log2_self (n := m)
  have h3 : m * 2 ^ (52 - m.log2) < 2 ^ (m.log2 + 1) * 2 ^ (52 - m.log2) := Nat.mul_lt_mul_of_pos_right h2 (two_pos _)
  have h4 : 2 ^ m.log2 * 2 ^ (52 - m.log2) ≤ m * 2 ^ (52 - m.log2) := Nat.mul_le_mul_right _ h1
  rw [← Nat.pow_add, show m.log2 + 1 + (52 - m.log2) = 53 by omega] at h3
  rw [← Nat.pow_add, show m.log2 + (52 - m.log2) = 52 by omega] at h4
  have e1 : (2 : Nat) ^ 53 = 9007199254740992 := by decide
  have e2 : (2 : Nat) ^ 52 = 4503599627370496 := by decide
  rw [e1] at h3
  rw [e2] at h4
  generalize m * 2 ^ (52 - m.log2) = K at *
  generalize m.log2 = L at *
  have hq : ((L + 1022) * D.binade + K) / D.binade = L + 1023 := by
    rw [dbl_bin]; omega
  have hr : ((L + 1022) * D.binade + K) % D.binade = K - 4503599627370496 := by
    rw [dbl_bin]; omega
  have hge : ¬ ((L + 1022) * D.binade + K) < D.binade := by rw [dbl_bin]; omega
  refine ⟨?_, ?_, by rw [dbl_bin]; omega, by rw [dbl_bin, dbl_inf]; omega⟩
  · unfold rm
    rw [if_neg hge, hr, dbl_bin]; omega
  · unfold rp
    rw [if_neg hge, hq, dbl_least]; omega

/-- the word of a whole number -/
def wholeW (m : Nat) : Nat := D.word false (rungOf D m 0)
theorem wholeW_num {m : Nat} (h0 : m ≠ 0) (h : m.log2 ≤ 52) : D.read (wholeW m) = .number false (m * 2 ^ (52 - m.log2)) ((m.log2 : Int) - 52) := by
  obtain ⟨p1, p2, p3, p4⟩ := whole_parts h0 h
  have hs := rungOf_lt D m 0
  have hr : rung D (wholeW m) = rungOf D m 0 := rung_word D false hs
  rw [read_num D dbl (by rw [hr]; exact p4), hr, p1, p2]
  congr 1
  exact neg_word D false hs
theorem two_num : D.read 4611686018427387904 = .number false 4503599627370496 (-51) := by decide +kernel
theorem write_num (s : Bool) (m : Nat) (i : Int) : D.write (.number s m i) = D.word s (rungOf D m i) := by
  show D.nearest _ _ _ = _
  rw [nearest_eq]
theorem mul_two {m : Nat} (h0 : m ≠ 0) (h : m.log2 ≤ 52) : D.mul 4611686018427387904 (wholeW m) = some (wholeW (2 * m)) := by
  unfold Format.mul
  rw [two_num, wholeW_num h0 h]
  simp only [Datum.product, Option.map_some, Bool.xor_false]
  rw [write_num]
  unfold wholeW
  congr 2
  rw [show 4503599627370496 * (m * 2 ^ (52 - m.log2)) = m * 2 ^ (52 - m.log2 + 52) by
    rw [Nat.pow_add, show (4503599627370496 : Nat) = 2 ^ 52 by decide]
    rw [Nat.mul_comm (2 ^ 52), Nat.mul_assoc], rungOf_shift]
  rw [show -51 + ((m.log2 : Int) - 52) + ((52 - m.log2 + 52 : Nat) : Int) = 0 + ((1 : Nat) : Int) by omega, ← rungOf_shift]
  rw [Nat.pow_one, Nat.mul_comm]
theorem div_self {m : Nat} (h0 : m ≠ 0) (h : m.log2 ≤ 52) : D.div (wholeW m) (wholeW m) = some 4607182418800017408 := by
  have hk : m * 2 ^ (52 - m.log2) ≠ 0 := Nat.mul_ne_zero h0 (Nat.ne_of_gt (two_pos _))
  unfold Format.div
  rw [wholeW_num h0 h]
  generalize m * 2 ^ (52 - m.log2) = K at *
  simp only [Datum.quotient, if_neg hk, Option.map_some, Bool.xor_self]
  rw [write_num, dbl_frac, show 52 + 2 + K.log2 - K.log2 = 54 by omega, Nat.shiftLeft_eq, Nat.mul_div_cancel_left _ (Nat.pos_of_ne_zero hk), Nat.mul_mod_right]
  rw [show ((m.log2 : Int) - 52 - ((m.log2 : Int) - 52) - ((54 : Nat) : Int) - 1) = -55 by omega]
  congr 1
theorem half_div {m : Nat} (h0 : m ≠ 0) (h : m.log2 ≤ 51) : (D.mul 4611686018427387904 (wholeW m)).bind (fun x => D.div x (wholeW (m + m))) = some 4607182418800017408 := by
  rw [mul_two h0 (by omega)]
  show D.div (wholeW (2 * m)) (wholeW (m + m)) = _
  rw [← Nat.two_mul]
  refine div_self (by omega) ?_
  have := log2_shift h0 1
  rw [Nat.pow_one] at this
  rw [Nat.mul_comm, this]
  omega
theorem log_small {m : Nat} (h0 : m ≠ 0) (h : m ≤ 4294967296) : m.log2 ≤ 51 := by
  have := (Nat.log2_lt h0 (k := 33)).2 (Nat.lt_of_le_of_lt h (by decide))
  omega

end Plf
