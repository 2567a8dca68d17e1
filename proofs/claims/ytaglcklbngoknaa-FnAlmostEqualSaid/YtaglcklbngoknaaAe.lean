/- Whether two numbers are almost equal, as a function of words; it is symmetric, true of equal ones, false of NaN, and grows with epsilon. No Go. -/
import Derived.Test.YtaglcklbngoknaaFl3
set_option linter.unusedSimpArgs false
namespace Plf
open Ieee

def minW (x y : Nat) : Nat :=
  if D.read x == .infinity true || D.read y == .infinity true then D.write (.infinity true)
  else if (D.read x).isNaN || (D.read y).isNaN then 0x7FF8000000000001
  else if (D.read x).isZero && (D.read y).isZero then (if (D.read x).neg == true then x else y)
  else if (D.read x).order (D.read y) == some .lt then x else y

def minNorm : Nat := 4503599627370496
def maxFin : Nat := 9218868437227405311
def mulO (x y : Nat) : Option Nat := D.mul x y
/-- the denominator: what math.Min gives of the sum of the magnitudes and the greatest number -/
def den (s : Option Nat) : Option Nat := s.map fun v => minW v maxFin
def quoO (x y : Option Nat) : Option Nat := x.bind fun a => y.bind fun b => D.div a b

def small (a b : Nat) : Bool := eqW a 0 || eqW b 0 || ltO (D.add (absW a) (absW b)) (some minNorm)
def ae (a b e : Nat) : Bool :=
  if eqW a b then true
  else if small a b then ltO ((D.sub a b).map absW) (mulO e minNorm)
  else ltO (quoO ((D.sub a b).map absW) (den (D.add (absW a) (absW b)))) (some e)

theorem eqW_comm (a b : Nat) : eqW a b = eqW b a := by
  rw [Bool.eq_iff_iff, eqW_iff, eqW_iff]
  constructor <;> (rintro ⟨h1, h2, h3⟩; exact ⟨h2, h1, h3.symm⟩)

theorem small_comm (a b : Nat) : small a b = small b a := by
  unfold small
  rw [add_comm (absW a), Bool.or_comm (eqW a 0)]

theorem ae_comm (a b e : Nat) : ae a b e = ae b a e := by
  unfold ae
  rw [eqW_comm a b, small_comm a b, sub_abs a b, add_comm (absW a) (absW b)]

theorem ae_same {a b : Nat} (e : Nat) (h : eqW a b = true) : ae a b e = true := by unfold ae; rw [if_pos h]

theorem ltO_none (o : Option Nat) : ltO none o = false := rfl

theorem ae_nan {a b : Nat} (e : Nat) (h : isNan D a = true ∨ isNan D b = true) : ae a b e = false := by
  have h1 : eqW a b = false := by
    cases x : eqW a b
    · rfl
    · rw [eqW_iff] at x; rcases h with h | h <;> simp_all
  unfold ae
  rw [if_neg (by rw [h1]; decide), sub_nan h]
  split <;> rfl

theorem ltW_trans {x y z : Nat} (h : ltW x y = true) (k : leW y z = true) : ltW x z = true := by
  rw [ltW_iff] at *
  rw [leW_iff] at k
  exact ⟨h.1, k.2.1, by omega⟩

theorem ae_grows {a b e m : Nat} (h : ae a b e = true) (k : leW e m = true) : ae a b m = true := by
  unfold ae at *
  by_cases h1 : eqW a b = true
  · rw [if_pos h1]
  · rw [if_neg h1] at h ⊢
    by_cases h2 : small a b = true
    · rw [if_pos h2] at h ⊢
      obtain ⟨p, q, e1, e2, hpq⟩ := mul_mono (c := minNorm) (by decide) (by decide) (by decide) k
      unfold mulO at *
      rw [e1] at h
      rw [e2]
      cases hd : (D.sub a b).map absW with
      | none => rw [hd] at h; cases h
      | some d =>
        rw [hd] at h
        exact ltW_trans h hpq
    · rw [if_neg h2] at h ⊢
      cases hd : quoO ((D.sub a b).map absW) (den (D.add (absW a) (absW b))) with
      | none => rw [hd] at h; cases h
      | some d =>
        rw [hd] at h
        exact ltW_trans h k

theorem Rep.mulO {x y r : Nat} (h : Rep (D.mul x y) r) : Rep (mulO x y) r := h

theorem isNaN_read {x : Nat} (h : isNan D x = true) : (D.read x).isNaN = true := by rw [read_nan D dbl h]; rfl
theorem minW_nan {x y : Nat} (h : isNan D x = true) (hy : (D.read y == .infinity true) = false) : isNan D (minW x y) = true := by
  unfold minW
  have h1 : (D.read x == .infinity true) = false := by rw [read_nan D dbl h]; rfl
  rw [h1, hy, isNaN_read h, if_neg (by decide), Bool.true_or, if_pos rfl]
  decide

theorem Rep.den {o : Option Nat} {r : Nat} (h : Rep o r) : Rep (den o) (minW r maxFin) := by
  rcases h with rfl | ⟨rfl, h⟩
  · exact Or.inl rfl
  · exact Or.inr ⟨rfl, minW_nan h (by decide)⟩

theorem Rep.quo {o p : Option Nat} {x y r : Nat} (h : Rep o x) (k : Rep p y) (hr : Rep (D.div x y) r) : Rep (quoO o p) r := by
  have div_nan2 : isNan D y = true → D.div x y = none := by
    intro hy
    unfold Format.div
    rw [read_nan D dbl hy]
    cases D.read x <;> rfl
  rcases h with rfl | ⟨rfl, h⟩
  · rcases k with rfl | ⟨rfl, k⟩
    · exact hr
    · rw [div_nan2 k] at hr
      exact hr
  · rw [div_nan h] at hr
    exact hr

end Plf
