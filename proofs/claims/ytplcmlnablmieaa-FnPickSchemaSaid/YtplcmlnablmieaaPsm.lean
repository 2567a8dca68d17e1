/- Floats: whole numbers as words; a number rounded is itself; rounding down; the logarithm to base 2 as the routine gives it, between two whole numbers. -/
import Derived.Test.YtplcmlnablmieaaPsl
import Derived.Test.YtplcmlnablmieaaFlr
set_option linter.unusedVariables false
set_option linter.unusedSimpArgs false
namespace Plf
open Ieee

theorem write_lt (s : Bool) (m : Nat) (p : Int) : D.write (.number s m p) < 18446744073709551616 := by
  have e : D.write (.number s m p) = D.word s (rungOf D m p) := by show D.nearest _ _ _ = _; rw [nearest_eq]
  have h := rungOf_le_inf D m p
  rw [dbl_inf] at h
  rw [e]
  unfold Format.word
  rw [dbl_sw]
  cases s <;> simp <;> omega
theorem add_lt {x y z : Nat} (h : D.add x y = some z) : z < 18446744073709551616 := by
  have := Go.floatBits_wf (op := .add) (k := .f64) (x := x) (y := y) h
  simpa [Go.Lit.wf] using this
/-- the word of a whole number -/
def wI (n : Int) : Nat := D.write (.number (decide (n < 0)) n.natAbs 0)
theorem wI_sv (n : Int) : sv D (wI n) = RZ n 0 ∧ isNan D (wI n) = false := sv_write (fun _ => rfl)
theorem RZ_val {z : Nat} (hz : fin z = true) : sv D z = RZ (val z) D.leastPlace := by
  have h := fin_iff.1 hz
  have hs := rungOf_self h
  have hp := rp_ge D (rung D z)
  have e : rungOf D (mg D (rung D z)) D.leastPlace = rung D z := by
    unfold mg
    rw [rungOf_shift, show D.leastPlace + ((rp D (rung D z) - D.leastPlace).toNat : Int) = rp D (rung D z) by omega, hs]
  have m0 := mg_le (rung D z) 0
  rw [mg_zero] at m0
  unfold RZ val sv
  cases isNeg D z
  · simp only [Bool.false_eq_true, if_false]
    rw [if_neg (by omega), Int.natAbs_natCast, e]
  · simp only [if_true]
    rw [Int.natAbs_neg, Int.natAbs_natCast, e]
    by_cases h0 : mg D (rung D z) = 0
    · rw [if_neg (by omega)]
      have : rung D z = 0 := by omega
      rw [this]; rfl
    · rw [if_pos (by omega)]
theorem ge_of {z u : Nat} {v : Int} (hz : sv D z = RZ v D.leastPlace) (hu : fin u = true) (h : val u ≤ v) : sv D u ≤ sv D z := by
  rw [RZ_val hu, hz]
  exact RZ_le D.leastPlace (Int.le_refl _) (Int.le_refl _) (by rw [Int.sub_self]; simp; exact h)
theorem le_of {z u : Nat} {v : Int} (hz : sv D z = RZ v D.leastPlace) (hu : fin u = true) (h : v ≤ val u) : sv D z ≤ sv D u := by
  rw [RZ_val hu, hz]
  exact RZ_le D.leastPlace (Int.le_refl _) (Int.le_refl _) (by rw [Int.sub_self]; simp; exact h)
theorem whole_fin {n : Int} (h : n.natAbs ≤ 4294967296) : fin (wI n) = true ∧ val (wI n) = n * (big : Int) := by
  by_cases h0 : n = 0
  · subst h0
    exact ⟨by decide +kernel, by rw [Int.zero_mul]; decide +kernel⟩
  · have hm : n.natAbs ≠ 0 := by omega
    have hl := log_small hm h
    obtain ⟨p1, p2, p3, p4⟩ := whole_parts hm (by omega)
    have hr : rungOf D n.natAbs 0 < D.signWeight := rungOf_lt D _ _
    have e : wI n = D.word (decide (n < 0)) (rungOf D n.natAbs 0) := write_num _ _ _
    have e1 : rung D (wI n) = rungOf D n.natAbs 0 := by rw [e, rung_word D _ hr]
    have e2 : isNeg D (wI n) = decide (n < 0) := by rw [e, neg_word D _ hr]
    refine ⟨by rw [fin_iff, e1]; exact p4, ?_⟩
    have e3 : mg D (rungOf D n.natAbs 0) = n.natAbs * big := by
      unfold mg
      rw [p1, p2, least]
      have e4 : ((n.natAbs.log2 : Int) - 52 - -1074).toNat = n.natAbs.log2 + 1022 := by omega
      rw [e4]
      have e5 := big_eq n.natAbs 0
      rw [Nat.pow_zero, Nat.mul_one] at e5
      have e6 : 52 - n.natAbs.log2 + (n.natAbs.log2 + 1022) = 0 + 1074 := by omega
      rw [e5, Nat.mul_assoc, ← Nat.pow_add, e6]
    unfold val
    rw [e1, e2, e3]
    by_cases hn : n < 0
    · rw [decide_eq_true hn]
      simp only [if_true]
      push_cast
      have : (n.natAbs : Int) = -n := by omega
      rw [this, Int.neg_mul, Int.neg_neg]
    · rw [decide_eq_false hn]
      simp only [Bool.false_eq_true, if_false]
      push_cast
      have : (n.natAbs : Int) = n := by omega
      rw [this]

/-- cutting downwards -/
theorem cut_pos (n d : Nat) : Toward.down.cut false n d * 2 ^ d ≤ n ∧ n < (Toward.down.cut false n d + 1) * 2 ^ d := by
  unfold Toward.cut
  simp only [Bool.false_and, Bool.toNat_false, Nat.add_zero, Nat.one_shiftLeft]
  by_cases h : d ≤ n.log2 + 2
  · rw [Nat.min_eq_left h]
    have h1 := Nat.div_mul_le_self n (2 ^ d)
    have h2 := Nat.lt_div_mul_add (a := n) (Nat.two_pow_pos d)
    rw [Nat.add_mul, Nat.one_mul]
    omega
  · rw [Nat.min_eq_right (by omega)]
    have h1 : n < 2 ^ (n.log2 + 1) := Nat.lt_log2_self
    have h2 : 2 ^ (n.log2 + 1) ≤ 2 ^ (n.log2 + 2) := Nat.pow_le_pow_right (by decide) (by omega)
    have h3 : 2 ^ (n.log2 + 2) ≤ 2 ^ d := Nat.pow_le_pow_right (by decide) (by omega)
    rw [Nat.div_eq_of_lt (by omega)]
    omega
theorem cut_neg (n d : Nat) : n ≤ Toward.down.cut true n d * 2 ^ d ∧ Toward.down.cut true n d * 2 ^ d < n + 2 ^ d := by
  unfold Toward.cut
  simp only [Bool.true_and, Nat.one_shiftLeft]
  by_cases h : d ≤ n.log2 + 2
  · rw [Nat.min_eq_left h]
    have h1 := Nat.div_add_mod n (2 ^ d)
    have h2 := Nat.mod_lt n (Nat.two_pow_pos d)
    have h3 : 2 ^ d * (n / 2 ^ d) = n / 2 ^ d * 2 ^ d := Nat.mul_comm _ _
    by_cases h0 : n % 2 ^ d = 0
    · rw [h0]
      have : ((0 : Nat) != 0).toNat = 0 := rfl
      rw [this, Nat.add_zero]
      omega
    · have : (n % 2 ^ d != 0).toNat = 1 := by rw [bne_iff_ne.2 h0]; rfl
      rw [this, Nat.add_mul, Nat.one_mul]
      omega
  · rw [Nat.min_eq_right (by omega)]
    have h1 : n < 2 ^ (n.log2 + 1) := Nat.lt_log2_self
    have h2 : 2 ^ (n.log2 + 1) ≤ 2 ^ (n.log2 + 2) := Nat.pow_le_pow_right (by decide) (by omega)
    have h3 : 2 ^ (n.log2 + 2) ≤ 2 ^ d := Nat.pow_le_pow_right (by decide) (by omega)
    rw [Nat.div_eq_of_lt (by omega), Nat.mod_eq_of_lt (by omega)]
    by_cases h0 : n = 0
    · subst h0
      have : ((0 : Nat) != 0).toNat = 0 := rfl
      rw [this]
      have := Nat.two_pow_pos d
      omega
    · have : (n != 0).toNat = 1 := by rw [bne_iff_ne.2 h0]; rfl
      rw [this]
      omega
/-- rounding down: a sign, a magnitude, together the whole number at most z -/
theorem floor_num {z : Nat} (hz : fin z = true) : ∃ s c, (D.read z).integral .down = .number s c 0 ∧ (if s then -(c : Int) else (c : Int)) * (big : Int) ≤ val z ∧ val z < ((if s then -(c : Int) else (c : Int)) + 1) * (big : Int) := by
  have h := fin_iff.1 hz
  rw [read_num D dbl h]
  refine ⟨_, _, rfl, ?_⟩
  obtain ⟨n, hn⟩ : ∃ n, n = rm D (rung D z) <<< (rp D (rung D z)).toNat := ⟨_, rfl⟩
  obtain ⟨d, hd⟩ : ∃ d, d = (-rp D (rung D z)).toNat := ⟨_, rfl⟩
  rw [← hn, ← hd]
  have key : mg D (rung D z) * 2 ^ d = n * big := by
    have hp := rp_ge D (rung D z)
    rw [least] at hp
    unfold mg
    rw [hn, Nat.shiftLeft_eq, hd, least]
    rw [big_eq, Nat.mul_assoc, ← Nat.pow_add]
    congr 2
    omega
  have P := Nat.two_pow_pos d
  unfold val
  have lft : ∀ {a b : Nat}, a * 2 ^ d ≤ b * 2 ^ d → a ≤ b := fun {a b} h => Nat.le_of_mul_le_mul_right h P
  have ltt : ∀ {a b : Nat}, a * 2 ^ d < b * 2 ^ d → a < b := fun {a b} h => Nat.lt_of_mul_lt_mul_right h
  have sw : ∀ a b c : Nat, a * b * c = a * c * b := fun a b c => Nat.mul_right_comm a b c
  cases isNeg D z
  · simp only [Bool.false_eq_true, if_false]
    obtain ⟨h1, h2⟩ := cut_pos n d
    generalize Toward.down.cut false n d = c at h1 h2 ⊢
    have g1 : c * big ≤ mg D (rung D z) := lft (by rw [key, sw]; exact Nat.mul_le_mul_right _ h1)
    have g2 : mg D (rung D z) < (c + 1) * big := ltt (by rw [key, sw]; exact Nat.mul_lt_mul_of_pos_right h2 big_pos)
    exact ⟨by exact_mod_cast g1, by exact_mod_cast g2⟩
  · simp only [if_true]
    obtain ⟨h1, h2⟩ := cut_neg n d
    generalize Toward.down.cut true n d = c at h1 h2 ⊢
    have g1 : mg D (rung D z) ≤ c * big := lft (by rw [key, sw]; exact Nat.mul_le_mul_right _ h1)
    have g2 : c * big < mg D (rung D z) + big := ltt (by rw [Nat.add_mul, key, sw, Nat.mul_comm big, ← Nat.add_mul]; exact Nat.mul_lt_mul_of_pos_right h2 big_pos)
    have g1 : (mg D (rung D z) : Int) ≤ (c : Int) * (big : Int) := by exact_mod_cast g1
    have g2 : (c : Int) * (big : Int) < (mg D (rung D z) : Int) + (big : Int) := by exact_mod_cast g2
    rw [Int.add_mul, Int.neg_mul, Int.one_mul]
    omega

/-- the fraction of a word, from 1/2 to 1 -/
def frac (x : Nat) : Nat := x % 4503599627370496 + HALF
/-- the exponent that belongs to it -/
def expo (x : Nat) : Int := (x / 4503599627370496 : Nat) - 1022
def smB (φ : Nat) : Bool := !ltW SQ2 φ
/-- what the program's logarithm to base 2 of a normal positive number is -/
def Lg (x z : Nat) : Prop :=
  (x % 4503599627370496 = 0 ∧ z = wI (expo x - 1)) ∨ (x % 4503599627370496 ≠ 0 ∧ ∃ y l, logO (frac x) (smB (frac x)) = some y ∧ D.mul y INV = some l ∧ D.add l (wI (expo x)) = some z)
/-- a normal positive number -/
def Norm (x : Nat) : Prop := 4503599627370496 ≤ x ∧ x < 9218868437227405312
theorem sv_low {x : Nat} (h : x < 9223372036854775808) : sv D x = x ∧ isNan D x = decide (9218868437227405312 < x) ∧ rung D x = x := by
  have e : rung D x = x := by rw [rung_eq]; exact Nat.mod_eq_of_lt h
  have e2 : isNeg D x = false := by
    unfold isNeg
    rw [dbl_sw, Nat.div_eq_of_lt h]; rfl
  refine ⟨by unfold sv; rw [e, e2]; rfl, by unfold isNan; rw [e, dbl_inf], e⟩
theorem smB_le {φ : Nat} (h : φ ≤ SQ2) : smB φ = true := by
  have hq : SQ2 = 4604544271217802189 := rfl
  have h1 := (sv_low (x := φ) (by omega)).1
  have h2 := (sv_low (x := SQ2) (by decide)).1
  unfold smB
  cases e : ltW SQ2 φ
  · rfl
  · rw [ltW_iff] at e
    omega
theorem smB_gt {φ : Nat} (h : SQ2 < φ) (h' : φ < ONE) : smB φ = false := by
  have hq : SQ2 = 4604544271217802189 := rfl
  have hone : ONE = 4607182418800017408 := rfl
  obtain ⟨h1, n1, _⟩ := sv_low (x := φ) (by omega)
  obtain ⟨h2, n2, _⟩ := sv_low (x := SQ2) (by decide)
  unfold smB
  have : ltW SQ2 φ = true := by
    rw [ltW_iff]
    refine ⟨?_, ?_, by omega⟩
    · rw [n2]; decide
    · rw [n1]; exact decide_eq_false (by omega)
  rw [this]; rfl
theorem frac_lt (x : Nat) : frac x < ONE := by
  unfold frac
  have hh : HALF = 4602678819172646912 := rfl
  have := Nat.mod_lt x (show 0 < 4503599627370496 by decide)
  show _ < 4607182418800017408
  omega
/-- between the bounds of its logarithm's part -/
theorem lg_lies {x lo hi : Nat} (hx : Norm x) (h0 : x % 4503599627370496 ≠ 0) (h : Lies lo hi (frac x) (smB (frac x))) (f1 : fin lo = true) (f2 : fin hi = true) :
    ∃ z v, Lg x z ∧ sv D z = RZ (v + expo x * (big : Int)) D.leastPlace ∧ isNan D z = false ∧ val lo ≤ v ∧ v ≤ val hi ∧ (∃ l, fin l = true ∧ v = val l) ∧ z < 18446744073709551616 := by
  obtain ⟨y, l, e1, e2, g1, g2⟩ := h
  have fl := fin_of_sv f1 f2 g1 g2
  have he : (expo x).natAbs ≤ 4294967296 := by
    unfold expo
    have := hx.2
    have h2 : x / 4503599627370496 < 2048 := by omega
    omega
  obtain ⟨w1, w2⟩ := whole_fin he
  obtain ⟨z, hz, hs, hn⟩ := add_num fl w1
  rw [w2] at hs
  exact ⟨z, val l, Or.inr ⟨h0, y, l, e1, e2, hz⟩, hs, hn, val_le.2 g1, val_le.2 g2, ⟨l, fl, rfl⟩, add_lt hz⟩

end Plf
