/- The order of two words of a float format is the order of their signed rungs. -/
import Derived.Test.YtplcmlnablmieaaFl
namespace Plf
open Ieee
variable (f : Format)

def rung (w : Nat) : Nat := w % f.signWeight
def isNeg (w : Nat) : Bool := w / f.signWeight % 2 == 1
def isNan (w : Nat) : Bool := decide (f.infRung < rung f w)
/-- the signed rung -/
def sv (w : Nat) : Int := if isNeg f w then -(rung f w : Int) else (rung f w : Int)

def rm (r : Nat) : Nat := if r < f.binade then r else f.binade + r % f.binade
def rp (r : Nat) : Int := if r < f.binade then f.leastPlace else f.leastPlace + (r / f.binade - 1 : Nat)
/-- the magnitude of a rung in units of the least place -/
def mg (r : Nat) : Nat := rm f r * 2 ^ (rp f r - f.leastPlace).toNat

theorem binade_pos : 0 < f.binade := Nat.two_pow_pos _
theorem sw_pos : 0 < f.signWeight := Nat.two_pow_pos _

theorem mg_low {r : Nat} (h : r < f.binade) : mg f r = r := by
  unfold mg rm rp; rw [if_pos h, if_pos h]; simp
theorem mg_high {r : Nat} (h : ¬ r < f.binade) : mg f r = (f.binade + r % f.binade) * 2 ^ (r / f.binade - 1) := by
  unfold mg rm rp; rw [if_neg h, if_neg h]
  congr 2
  omega

theorem mg_lt {r r' : Nat} (h : r < r') : mg f r < mg f r' := by
  have hB := binade_pos f
  by_cases h1 : r < f.binade
  · rw [mg_low f h1]
    by_cases h2 : r' < f.binade
    · rw [mg_low f h2]; exact h
    · rw [mg_high f h2]
      have : (f.binade + r' % f.binade) * 1 ≤ (f.binade + r' % f.binade) * 2 ^ (r' / f.binade - 1) := Nat.mul_le_mul_left _ (Nat.two_pow_pos _)
      omega
  · have h2 : ¬ r' < f.binade := by omega
    rw [mg_high f h1, mg_high f h2]
    have q1 : 1 ≤ r / f.binade := (Nat.one_le_div_iff hB).2 (by omega)
    have hq : r / f.binade ≤ r' / f.binade := Nat.div_le_div_right (by omega)
    have e1 := Nat.div_add_mod r f.binade
    have e2 := Nat.div_add_mod r' f.binade
    have l1 := Nat.mod_lt r hB
    have l2 := Nat.mod_lt r' hB
    by_cases e : r / f.binade = r' / f.binade
    · rw [e] at e1 ⊢
      exact Nat.mul_lt_mul_of_pos_right (by omega) (Nat.two_pow_pos _)
    · have a1 : (f.binade + r % f.binade) * 2 ^ (r / f.binade - 1) < (2 * f.binade) * 2 ^ (r / f.binade - 1) := Nat.mul_lt_mul_of_pos_right (by omega) (Nat.two_pow_pos _)
      have a2 : (2 * f.binade) * 2 ^ (r / f.binade - 1) = f.binade * 2 ^ (r / f.binade) := by
        rw [Nat.mul_comm 2, Nat.mul_assoc, ← Nat.pow_succ']; congr 2; omega
      have a3 : f.binade * 2 ^ (r / f.binade) ≤ (f.binade + r' % f.binade) * 2 ^ (r' / f.binade - 1) := Nat.mul_le_mul (by omega) (Nat.pow_le_pow_right (by omega) (by omega))
      omega

theorem mg_lt_iff (r r' : Nat) : mg f r < mg f r' ↔ r < r' := by
  constructor
  · intro h
    rcases Nat.lt_trichotomy r r' with h1 | h1 | h1
    · exact h1
    · rw [h1] at h; omega
    · have := mg_lt f h1; omega
  · exact mg_lt f

theorem mg_inj {r r' : Nat} (h : mg f r = mg f r') : r = r' := by
  rcases Nat.lt_trichotomy r r' with h1 | h1 | h1
  · have := mg_lt f h1; omega
  · exact h1
  · have := mg_lt f h1; omega

theorem mg_le_iff (r r' : Nat) : mg f r ≤ mg f r' ↔ r ≤ r' := by
  have := mg_lt_iff f r' r
  omega

theorem rp_ge (r : Nat) : f.leastPlace ≤ rp f r := by
  unfold rp; split <;> omega

/-- what a word reads as -/
theorem read_eq (hf : f.binade ≤ f.infRung) (w : Nat) : f.read w = if rung f w < f.infRung then .number (isNeg f w) (rm f (rung f w)) (rp f (rung f w)) else if rung f w = f.infRung then .infinity (isNeg f w) else .nan (isNeg f w) (rung f w - f.infRung) := by
  unfold Format.read rm rp rung isNeg
  simp only []
  by_cases h1 : w % f.signWeight < f.binade
  · rw [if_pos h1, if_pos (by omega), if_pos h1, if_pos h1]
  · rw [if_neg h1]
    by_cases h2 : w % f.signWeight < f.infRung
    · rw [if_pos h2, if_pos h2, if_neg h1, if_neg h1]
    · rw [if_neg h2, if_neg h2]

theorem read_num (hf : f.binade ≤ f.infRung) {w : Nat} (h : rung f w < f.infRung) : f.read w = .number (isNeg f w) (rm f (rung f w)) (rp f (rung f w)) := by rw [read_eq f hf, if_pos h]
theorem read_inf (hf : f.binade ≤ f.infRung) {w : Nat} (h : rung f w = f.infRung) : f.read w = .infinity (isNeg f w) := by rw [read_eq f hf, if_neg (by omega), if_pos h]
theorem read_nan (hf : f.binade ≤ f.infRung) {w : Nat} (h : isNan f w = true) : f.read w = .nan (isNeg f w) (rung f w - f.infRung) := by
  unfold isNan at h
  have := of_decide_eq_true h
  rw [read_eq f hf, if_neg (by omega), if_neg (by omega)]

theorem compare_congr {a b c d : Int} (h1 : a < b ↔ c < d) (h2 : a = b ↔ c = d) : compare a b = compare c d := by
  simp only [compare, compareOfLessAndEq]
  by_cases x : a < b
  · rw [if_pos x, if_pos (h1.1 x)]
  · rw [if_neg x, if_neg (fun y => x (h1.2 y))]
    by_cases z : a = b
    · rw [if_pos z, if_pos (h2.1 z)]
    · rw [if_neg z, if_neg (fun y => z (h2.2 y))]

theorem signed_eq (s : Bool) (m k : Nat) : signed s m k = if s then -((m * 2 ^ k : Nat) : Int) else ((m * 2 ^ k : Nat) : Int) := by
  unfold signed; rw [Nat.shiftLeft_eq]

/-- the exact order of two finite data is that of their signed units -/
theorem compare_signed (s t : Bool) (r r' : Nat) (base : Int) (h1 : base ≤ rp f r) (h2 : base ≤ rp f r') (hb : f.leastPlace ≤ base) :
    compare (signed s (rm f r) (rp f r - base).toNat) (signed t (rm f r') (rp f r' - base).toNat) = compare (if s then -(r : Int) else (r : Int)) (if t then -(r' : Int) else (r' : Int)) := by
  have e : ∀ x, base ≤ rp f x → mg f x = rm f x * 2 ^ (rp f x - base).toNat * 2 ^ (base - f.leastPlace).toNat := by
    intro x hx
    unfold mg
    rw [Nat.mul_assoc, ← Nat.pow_add]
    congr 2; omega
  have p : 0 < 2 ^ (base - f.leastPlace).toNat := Nat.two_pow_pos _
  have i1 := mg_lt_iff f r r'
  have i2 := mg_lt_iff f r' r
  have z1 : mg f 0 = 0 := mg_low f (binade_pos f)
  have n1 := mg_lt_iff f 0 r
  have n2 := mg_lt_iff f 0 r'
  rw [e r h1, e r' h2] at i1 i2
  rw [e r h1, z1] at n1
  rw [e r' h2, z1] at n2
  rw [signed_eq, signed_eq]
  generalize hA : rm f r * 2 ^ (rp f r - base).toNat = X at *
  generalize hC : rm f r' * 2 ^ (rp f r' - base).toNat = Y at *
  rw [Nat.mul_lt_mul_right p] at i1 i2
  have m1 : 0 < X ↔ 0 < r := by rw [← n1]; constructor; (intro h; exact Nat.mul_pos h p); (intro h; exact Nat.pos_of_mul_pos_right h)
  have m2 : 0 < Y ↔ 0 < r' := by rw [← n2]; constructor; (intro h; exact Nat.mul_pos h p); (intro h; exact Nat.pos_of_mul_pos_right h)
  apply compare_congr <;> cases s <;> cases t <;> simp only [if_true, if_false, Bool.false_eq_true] <;> omega

/-- THE ORDER OF TWO WORDS IS THE ORDER OF THEIR SIGNED RUNGS -/
theorem order_eq (hf : f.binade ≤ f.infRung) (x y : Nat) : f.order x y = if isNan f x = true ∨ isNan f y = true then none else some (compare (sv f x) (sv f y)) := by
  unfold Format.order
  by_cases hx : isNan f x = true
  · rw [if_pos (Or.inl hx), read_nan f hf hx]; rfl
  by_cases hy : isNan f y = true
  · rw [if_pos (Or.inr hy), read_nan f hf hy]; unfold Datum.order; split <;> first | rfl | simp_all
  rw [if_neg (by rintro (h | h); exact hx h; exact hy h)]
  have kx : rung f x ≤ f.infRung := by unfold isNan at hx; simpa using hx
  have ky : rung f y ≤ f.infRung := by unfold isNan at hy; simpa using hy
  have ip : 0 < f.infRung := Nat.lt_of_lt_of_le (binade_pos f) hf
  rcases Nat.lt_or_eq_of_le kx with lx | lx <;> rcases Nat.lt_or_eq_of_le ky with ly | ly
  · rw [read_num f hf lx, read_num f hf ly]
    simp only [Datum.order]
    rw [compare_signed f _ _ _ _ _ (by omega) (by omega) (by have := rp_ge f (rung f x); have := rp_ge f (rung f y); omega)]
    rfl
  · rw [read_num f hf lx, read_inf f hf ly]
    simp only [Datum.order, sv]
    congr 1
    symm
    cases isNeg f y <;> cases isNeg f x <;> simp only [if_true, if_false, Bool.false_eq_true, compare, compareOfLessAndEq] <;> (repeat (first | rw [if_pos (by omega)] | rw [if_neg (by omega)]))
  · rw [read_inf f hf lx, read_num f hf ly]
    simp only [Datum.order, sv]
    congr 1
    symm
    cases isNeg f y <;> cases isNeg f x <;> simp only [if_true, if_false, Bool.false_eq_true, compare, compareOfLessAndEq] <;> (repeat (first | rw [if_pos (by omega)] | rw [if_neg (by omega)]))
  · rw [read_inf f hf lx, read_inf f hf ly]
    simp only [Datum.order, sv]
    congr 1
    rw [lx, ly]
    cases isNeg f y <;> cases isNeg f x <;> simp only [if_true, if_false, Bool.false_eq_true, compare, compareOfLessAndEq, Bool.toNat_true, Bool.toNat_false] <;> (repeat (first | rw [if_pos (by omega)] | rw [if_neg (by omega)]))
end Plf
