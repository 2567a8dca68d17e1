/- Floats: the negative of a number as a product by -1; a difference as a sum; sums of results that may be NaN. -/
import Derived.Test.YtplcmlnablmieaaFl3
import Derived.Laws.FloatArith
set_option linter.unusedVariables false
set_option linter.unusedSimpArgs false
namespace Plf
open Ieee

theorem rungOf_self {r : Nat} (h : r < D.infRung) : rungOf D (rm D r) (rp D r) = r := by
  unfold rm rp
  by_cases hb : r < D.binade
  · rw [if_pos hb, if_pos hb]
    by_cases h0 : r = 0
    · subst h0; simp [rungOf]
    · have hl : r.log2 < 52 := (Nat.log2_lt h0).2 (by rw [dbl_bin] at hb; omega)
      have hL : lastOf D r D.leastPlace = D.leastPlace := by
        unfold lastOf
        have : (D.fractionBits : Int) = 52 := rfl
        omega
      unfold rungOf
      rw [if_neg h0, hL]
      unfold keptOf
      simp only [Int.sub_self, Int.toNat_zero, Nat.pow_zero, Nat.mul_one, Nat.zero_mul, Nat.zero_add, rne_one]
      omega
  · rw [if_neg hb, if_neg hb]
    have hbn : D.binade = 4503599627370496 := dbl_bin
    have hm := Nat.mod_lt r (binade_pos D)
    have hd := Nat.div_add_mod r D.binade
    have hq : 1 ≤ r / D.binade := (Nat.le_div_iff_mul_le (binade_pos D)).2 (by omega)
    have h0 : D.binade + r % D.binade ≠ 0 := by omega
    have hl : (D.binade + r % D.binade).log2 = 52 := (Nat.log2_eq_iff h0).2 ⟨by rw [hbn]; omega, by rw [hbn] at hm ⊢; omega⟩
    have hL : lastOf D (D.binade + r % D.binade) (D.leastPlace + (r / D.binade - 1 : Nat)) = D.leastPlace + (r / D.binade - 1 : Nat) := by
      unfold lastOf
      rw [hl]
      have : (D.fractionBits : Int) = 52 := rfl
      omega
    unfold rungOf
    rw [if_neg h0, hL]
    unfold keptOf
    have e1 : (D.leastPlace + ((r / D.binade - 1 : Nat) : Int) - D.leastPlace).toNat = r / D.binade - 1 := by omega
    rw [e1]
    simp only [Int.sub_self, Int.toNat_zero, Nat.pow_zero, Nat.mul_one, rne_one]
    have e2 : (r / D.binade - 1) * D.binade + (D.binade + r % D.binade) = r := by
      rw [Nat.sub_mul, Nat.one_mul]
      have h3 : D.binade ≤ r / D.binade * D.binade := Nat.le_mul_of_pos_left _ hq
      rw [Nat.mul_comm] at hd
      omega
    rw [e2]
    omega

abbrev ONE : Nat := 4607182418800017408
abbrev NEG1 : Nat := 13830554455654793216
theorem read_one : D.read ONE = .number false 4503599627370496 (-52) := by decide
theorem read_neg1 : D.read NEG1 = .number true 4503599627370496 (-52) := by decide
theorem sub_one (v : Nat) : D.sub v ONE = D.add v NEG1 := by
  unfold Format.sub Format.add
  rw [read_one, read_neg1]
  rfl
theorem mul_nan {x y : Nat} (h : isNan D x = true) : D.mul x y = none := by
  unfold Format.mul
  rw [read_nan D dbl h]
  rfl
theorem mul_neg1 {x : Nat} (h : isNan D x = false) : ∃ m, D.mul x NEG1 = some m ∧ D.read m = (D.read x).opposite := by
  have k := rung_le_of h
  rcases Nat.lt_or_eq_of_le k with l | l
  · refine ⟨D.word (!isNeg D x) (rung D x), ?_, ?_⟩
    · unfold Format.mul
      rw [read_num D dbl l, read_neg1]
      simp only [Datum.product, Option.map_some, Bool.xor_true]
      show some (D.nearest _ _ _) = _
      rw [nearest_eq]
      have e := rungOf_shift D (rm D (rung D x)) (rp D (rung D x) + -52) 52
      have e2 : rm D (rung D x) * 4503599627370496 = rm D (rung D x) * 2 ^ 52 := rfl
      rw [e2, e]
      have e3 : rp D (rung D x) + -52 + ((52 : Nat) : Int) = rp D (rung D x) := by omega
      rw [e3, rungOf_self l]
    · have hw : rung D x < D.signWeight := Nat.lt_trans l D.infRung_lt
      rw [read_num D dbl l, read_num D dbl (by rw [rung_word D _ hw]; exact l), rung_word D _ hw, neg_word D _ hw]
      rfl
  · have hw : D.infRung < D.signWeight := D.infRung_lt
    refine ⟨D.word (!isNeg D x) D.infRung, ?_, ?_⟩
    · unfold Format.mul
      rw [read_inf D dbl l, read_neg1]
      simp only [Datum.product, Option.map_some, Bool.xor_true]
      rfl
    · rw [read_inf D dbl l, read_inf D dbl (by rw [rung_word D _ hw]), neg_word D _ hw]
      rfl
theorem sub_as_add (v x : Nat) (h : isNan D x = false) : ∃ m, D.mul x NEG1 = some m ∧ D.sub v x = D.add v m := by
  obtain ⟨m, h1, h2⟩ := mul_neg1 h
  exact ⟨m, h1, by unfold Format.sub Format.add; rw [h2]⟩

/-- sums of results that may be NaN -/
def addO : Option Nat → Option Nat → Option Nat
  | some x, some y => D.add x y
  | _, _ => none
theorem Rep.add {o p : Option Nat} {x y r : Nat} (h : Rep o x) (k : Rep p y) (hr : Rep (D.add x y) r) : Rep (addO o p) r := by
  rcases h with rfl | ⟨rfl, h⟩
  · rcases k with rfl | ⟨rfl, k⟩
    · exact hr
    · rw [add_nan (Or.inr k)] at hr
      exact hr
  · rw [add_nan (Or.inl h)] at hr
    cases p <;> exact hr
/-- what x times -1 is -/
def negO (x : Nat) : Option Nat := D.mul x NEG1
theorem Rep.sub {o : Option Nat} {v x r : Nat} (h : Rep o v) (hr : Rep (D.sub v x) r) : Rep (addO o (negO x)) r := by
  cases e : isNan D x with
  | true =>
    unfold negO
    rw [mul_nan e]
    rw [sub_nan (Or.inr e)] at hr
    cases o <;> exact hr
  | false =>
    obtain ⟨m, h1, h2⟩ := sub_as_add v x e
    unfold negO
    rw [h1]
    rw [h2] at hr
    exact h.add (Or.inl rfl) hr
theorem Rep.sub_one {o : Option Nat} {v r : Nat} (h : Rep o v) (hr : Rep (D.sub v ONE) r) : Rep (addO o (some NEG1)) r := by
  rw [Plf.sub_one] at hr
  exact h.add (Or.inl rfl) hr
/-- two words that stand for one result are the same, or both are NaN -/
theorem Rep.two {o : Option Nat} {x y : Nat} (h : Rep o x) (k : Rep o y) : x = y ∨ (isNan D x = true ∧ isNan D y = true) := by
  rcases h with rfl | ⟨rfl, h⟩
  · rcases k with k | ⟨k, _⟩
    · exact Or.inl (Option.some.inj k)
    · cases k
  · rcases k with k | ⟨_, k⟩
    · cases k
    · exact Or.inr ⟨h, k⟩

end Plf
