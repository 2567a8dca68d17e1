/- Words of results: their rungs; sums, products and quotients of words, with 'none' for NaN. Floats in a walk: an arithmetic operation gives its rounded result or some NaN. -/
import Derived.Test.YtlolomodcbkblaaGreatDoorMg16
import Derived.Test.YtlolomodcbkblaaGreatDoorProg
import Derived.WalkKit
import Derived.WalkSpells
import Derived.WalkLawsBesides
import Derived.Outline
import Derived.Lib.Hide
import Derived.Laws.Cover2
import Derived.Laws.FloatArith
import Derived.Laws.Externs
import Derived.Laws.NewFold
import Derived.Laws.BitsAllLaws
namespace Plf
open Ieee

theorem dbl : Ieee.double.binade ≤ Ieee.double.infRung := by decide
theorem dbl_sw : Ieee.double.signWeight = 9223372036854775808 := by decide
theorem dbl_inf : Ieee.double.infRung = 9218868437227405312 := by decide
theorem dbl_bin : Ieee.double.binade = 4503599627370496 := by decide

section
variable (f : Format)
theorem rung_word (s : Bool) {r : Nat} (h : r < f.signWeight) : rung f (f.word s r) = r := by
  unfold rung Format.word
  cases s
  · simp; exact Nat.mod_eq_of_lt h
  · simp; exact Nat.mod_eq_of_lt h
theorem neg_word (s : Bool) {r : Nat} (h : r < f.signWeight) : isNeg f (f.word s r) = s := by
  unfold isNeg Format.word
  have p := sw_pos f
  cases s
  · simp only [Bool.false_eq_true, if_false]
    rw [Nat.div_eq_of_lt h]; rfl
  · simp only [if_true]
    rw [Nat.add_div_left _ p, Nat.div_eq_of_lt h]; rfl
theorem sv_word (s : Bool) {r : Nat} (h : r < f.signWeight) : sv f (f.word s r) = if s then -(r : Int) else (r : Int) := by
  unfold sv; rw [rung_word f s h, neg_word f s h]
theorem rungOf_le_inf (m : Nat) (p : Int) : rungOf f m p ≤ f.infRung := by
  unfold rungOf; split
  · exact Nat.zero_le _
  · exact Nat.min_le_right _ _
theorem rungOf_lt (m : Nat) (p : Int) : rungOf f m p < f.signWeight := Nat.lt_of_le_of_lt (rungOf_le_inf f m p) f.infRung_lt
theorem nan_word (s : Bool) (m : Nat) (p : Int) : isNan f (f.word s (rungOf f m p)) = false := by
  unfold isNan
  rw [rung_word f s (rungOf_lt f m p)]
  have := rungOf_le_inf f m p
  simpa using this
theorem rungOf_zero (p : Int) : rungOf f 0 p = 0 := by simp [rungOf]
end

/-- the double format, as the walk spells it -/
abbrev D : Format := Ieee.double

def eqW (x y : Nat) : Bool := D.order x y == some .eq
def ltW (x y : Nat) : Bool := D.order x y == some .lt
def leW (x y : Nat) : Bool := D.order x y == some .lt || D.order x y == some .eq

theorem order_nan {x y : Nat} (h : isNan D x = true ∨ isNan D y = true) : D.order x y = none := by rw [order_eq D dbl, if_pos h]
theorem order_num {x y : Nat} (h1 : isNan D x = false) (h2 : isNan D y = false) : D.order x y = some (compare (sv D x) (sv D y)) := by
  rw [order_eq D dbl, if_neg (by simp [h1, h2])]

theorem ltW_iff (x y : Nat) : ltW x y = true ↔ isNan D x = false ∧ isNan D y = false ∧ sv D x < sv D y := by
  unfold ltW
  by_cases h : isNan D x = true ∨ isNan D y = true
  · rw [order_nan h]
    constructor
    · intro hh; cases hh
    · rintro ⟨a, b, _⟩; rcases h with h | h <;> simp_all
  · have h1 : isNan D x = false := by cases e : isNan D x <;> simp_all
    have h2 : isNan D y = false := by cases e : isNan D y <;> simp_all
    rw [order_num h1 h2]
    constructor
    · intro hh
      refine ⟨h1, h2, ?_⟩
      have : compare (sv D x) (sv D y) = .lt := by simpa using hh
      exact Int.compare_eq_lt.1 this
    · rintro ⟨_, _, hh⟩
      rw [Int.compare_eq_lt.2 hh]; rfl
theorem eqW_iff (x y : Nat) : eqW x y = true ↔ isNan D x = false ∧ isNan D y = false ∧ sv D x = sv D y := by
  unfold eqW
  by_cases h : isNan D x = true ∨ isNan D y = true
  · rw [order_nan h]
    constructor
    · intro hh; cases hh
    · rintro ⟨a, b, _⟩; rcases h with h | h <;> simp_all
  · have h1 : isNan D x = false := by cases e : isNan D x <;> simp_all
    have h2 : isNan D y = false := by cases e : isNan D y <;> simp_all
    rw [order_num h1 h2]
    constructor
    · intro hh
      refine ⟨h1, h2, ?_⟩
      have : compare (sv D x) (sv D y) = .eq := by simpa using hh
      exact Int.compare_eq_eq.1 this
    · rintro ⟨_, _, hh⟩
      rw [Int.compare_eq_eq.2 hh]; rfl
theorem leW_iff (x y : Nat) : leW x y = true ↔ isNan D x = false ∧ isNan D y = false ∧ sv D x ≤ sv D y := by
  have h1 := ltW_iff x y
  have h2 := eqW_iff x y
  have : leW x y = true ↔ ltW x y = true ∨ eqW x y = true := by unfold leW ltW eqW; simp
  rw [this, h1, h2]
  constructor
  · rintro (⟨a, b, c⟩ | ⟨a, b, c⟩)
    · exact ⟨a, b, by omega⟩
    · exact ⟨a, b, by omega⟩
  · rintro ⟨a, b, c⟩
    by_cases e : sv D x = sv D y
    · exact Or.inr ⟨a, b, e⟩
    · exact Or.inl ⟨a, b, by omega⟩

/-- a result that may be NaN ('none') below another one -/
def ltO : Option Nat → Option Nat → Bool
  | some x, some y => ltW x y
  | _, _ => false
/-- a word stands for a result -/
def Rep (o : Option Nat) (r : Nat) : Prop := o = some r ∨ (o = none ∧ isNan D r = true)
theorem Rep.of (r : Nat) : Rep (some r) r := Or.inl rfl
theorem ltW_rep {o p : Option Nat} {x y : Nat} (h : Rep o x) (k : Rep p y) : ltW x y = ltO o p := by
  rcases h with rfl | ⟨rfl, h⟩ <;> rcases k with rfl | ⟨rfl, k⟩
  · rfl
  · cases e : ltW x y
    · rfl
    · rw [ltW_iff] at e; simp_all
  · cases e : ltW x y
    · rfl
    · rw [ltW_iff] at e; simp_all
  · cases e : ltW x y
    · rfl
    · rw [ltW_iff] at e; simp_all

/-- the word without its sign -/
def absW (x : Nat) : Nat := x % 9223372036854775808
theorem rung_eq (x : Nat) : rung D x = x % 9223372036854775808 := by unfold rung; rw [dbl_sw]
theorem rung_abs (x : Nat) : rung D (absW x) = rung D x := by
  rw [rung_eq, rung_eq]; unfold absW; exact Nat.mod_mod _ _
theorem nan_abs (x : Nat) : isNan D (absW x) = isNan D x := by unfold isNan; rw [rung_abs]
theorem Rep.abs {o : Option Nat} {x : Nat} (h : Rep o x) : Rep (o.map absW) (absW x) := by
  rcases h with rfl | ⟨rfl, h⟩
  · exact Or.inl rfl
  · exact Or.inr ⟨rfl, by rw [nan_abs]; exact h⟩
theorem absW_word (s : Bool) {r : Nat} (h : r < 9223372036854775808) : absW (D.word s r) = r := by
  unfold absW
  have := rung_word D s (r := r) (by rw [dbl_sw]; exact h)
  rw [rung_eq] at this
  exact this

/-! sums -/
theorem sum_comm (x y : Datum) : x.sum y = y.sum x := by
  cases x <;> cases y <;> simp only [Datum.sum]
  · rename_i s m i t n j
    rw [Int.min_comm i j]
    rw [Int.add_comm (signed s _ _)]
    simp only [Bool.and_comm s t]
  · rename_i s t
    by_cases h : s = t
    · subst h; rfl
    · rw [if_neg h, if_neg (fun e => h e.symm)]
theorem add_comm (x y : Nat) : D.add x y = D.add y x := by unfold Format.add; rw [sum_comm]

theorem signed_not (s : Bool) (m k : Nat) : signed (!s) m k = -signed s m k := by
  unfold signed; cases s <;> simp

/-- 'x - y' and 'y - x' have the same magnitude -/
theorem sub_abs (x y : Nat) : (D.sub x y).map absW = (D.sub y x).map absW := by
  unfold Format.sub
  have key : ∀ (s t : Bool) (m : Nat) (p : Int), absW (D.write (.number s m p)) = absW (D.write (.number t m p)) := by
    intro s t m p
    show absW (D.nearest s m p) = absW (D.nearest t m p)
    rw [nearest_eq, nearest_eq, absW_word s (by have := rungOf_lt D m p; rw [dbl_sw] at this; exact this), absW_word t (by have := rungOf_lt D m p; rw [dbl_sw] at this; exact this)]
  have keyi : ∀ (s t : Bool), absW (D.write (.infinity s)) = absW (D.write (.infinity t)) := by decide
  generalize D.read x = a
  generalize D.read y = b
  cases a <;> cases b <;> simp only [Datum.sum, Datum.opposite, Option.map_none, Option.map_some]
  · rename_i s m i t n j
    rw [Int.min_comm j i]
    congr 1
    have e : (signed s m (i - min i j).toNat + signed (!t) n (j - min i j).toNat).natAbs = (signed t n (j - min i j).toNat + signed (!s) m (i - min i j).toNat).natAbs := by
      rw [signed_not, signed_not]; omega
    rw [e]
    exact key _ _ _ _
  · exact congrArg some (keyi _ _)
  · exact congrArg some (keyi _ _)
  · rename_i s t
    by_cases h : s = t
    · subst h; simp
    · have h1 : s = !t := by cases s <;> cases t <;> simp_all
      have h2 : t = !s := by rw [h1]; simp
      rw [if_pos h1, if_pos h2]
      exact congrArg some (keyi _ _)

theorem add_nan {x y : Nat} (h : isNan D x = true ∨ isNan D y = true) : D.add x y = none := by
  unfold Format.add
  rcases h with h | h
  · rw [read_nan D dbl h]; rfl
  · rw [read_nan D dbl h, sum_comm]; rfl
theorem sub_nan {x y : Nat} (h : isNan D x = true ∨ isNan D y = true) : D.sub x y = none := by
  unfold Format.sub
  rcases h with h | h
  · rw [read_nan D dbl h]; rfl
  · rw [read_nan D dbl h, sum_comm]; rfl
theorem div_nan {x y : Nat} (h : isNan D x = true) : D.div x y = none := by
  unfold Format.div
  rw [read_nan D dbl h]; rfl

/-! products by a positive number -/
theorem nan_of_le {x : Nat} (h : rung D x ≤ D.infRung) : isNan D x = false := by
  unfold isNan
  exact decide_eq_false (Nat.not_lt.2 h)
theorem rung_le_of {x : Nat} (h : isNan D x = false) : rung D x ≤ D.infRung := by
  unfold isNan at h
  exact Nat.not_lt.1 (of_decide_eq_false h)

/-- units of a rung at any base below -/
theorem units_le {r r' : Nat} (base : Int) (h1 : base ≤ D.leastPlace) (h : r ≤ r') : rm D r * 2 ^ (rp D r - base).toNat ≤ rm D r' * 2 ^ (rp D r' - base).toNat := by
  have e : ∀ x, rm D x * 2 ^ (rp D x - base).toNat = mg D x * 2 ^ (D.leastPlace - base).toNat := by
    intro x
    unfold mg
    rw [Nat.mul_assoc, ← Nat.pow_add]
    have := rp_ge D x
    congr 2; omega
  rw [e, e]
  exact Nat.mul_le_mul_right _ ((mg_le_iff D r r').2 h)

/-- a product by a positive finite number keeps the order -/
theorem mul_mono {x y c : Nat} (hc : isNeg D c = false) (h0 : 0 < rung D c) (h1 : rung D c < D.infRung) (h : leW x y = true) :
    ∃ p q, D.mul x c = some p ∧ D.mul y c = some q ∧ leW p q = true := by
  rw [leW_iff] at h
  obtain ⟨hx, hy, hxy⟩ := h
  have kx := rung_le_of hx
  have ky := rung_le_of hy
  have rc := read_num D dbl h1
  rw [hc] at rc
  have hm : rm D (rung D c) ≠ 0 := by
    unfold rm; split
    · omega
    · have := binade_pos D; omega
  -- the product of a word
  have prod : ∀ z, isNan D z = false → ∃ R, D.mul z c = some (D.word (isNeg D z) R) ∧ R ≤ D.infRung ∧ (rung D z < D.infRung → R = rungOf D (rm D (rung D z) * rm D (rung D c)) (rp D (rung D z) + rp D (rung D c))) ∧ (rung D z = D.infRung → R = D.infRung) := by
    intro z hz
    have kz := rung_le_of hz
    rcases Nat.lt_or_eq_of_le kz with l | l
    · refine ⟨_, ?_, rungOf_le_inf D _ _, fun _ => rfl, fun e => by omega⟩
      unfold Format.mul
      rw [read_num D dbl l, rc]
      simp only [Datum.product, Option.map_some, Bool.xor_false]
      show some (D.nearest _ _ _) = _
      rw [nearest_eq]
    · refine ⟨D.infRung, ?_, Nat.le_refl _, fun e => by omega, fun _ => rfl⟩
      unfold Format.mul
      rw [read_inf D dbl l, rc]
      simp only [Datum.product, if_neg hm, Option.map_some, Bool.xor_false]
      rfl
  obtain ⟨R, e1, b1, f1, g1⟩ := prod x hx
  obtain ⟨R', e2, b2, f2, g2⟩ := prod y hy
  refine ⟨_, _, e1, e2, ?_⟩
  have swl := D.infRung_lt
  have mono : ∀ {r r' R R' : Nat}, r ≤ r' → r ≤ D.infRung → r' ≤ D.infRung → R ≤ D.infRung → (r < D.infRung → R = rungOf D (rm D r * rm D (rung D c)) (rp D r + rp D (rung D c))) → (r = D.infRung → R = D.infRung) → (r' < D.infRung → R' = rungOf D (rm D r' * rm D (rung D c)) (rp D r' + rp D (rung D c))) → (r' = D.infRung → R' = D.infRung) → R ≤ R' := by
    intro r r' R R' hr k1 k2 hR a1 a2 a3 a4
    rcases Nat.lt_or_eq_of_le k2 with l | l
    · rw [a1 (by omega), a3 l]
      have g1 := rp_ge D r
      have g2 := rp_ge D r'
      have g3 := rp_ge D (rung D c)
      apply rungOf_le D (D.leastPlace + D.leastPlace) (by omega) (by omega)
      have u := units_le (D.leastPlace) (by omega) hr
      have e : ∀ z, D.leastPlace ≤ rp D z → rm D z * rm D (rung D c) * 2 ^ (rp D z + rp D (rung D c) - (D.leastPlace + D.leastPlace)).toNat = rm D z * 2 ^ (rp D z - D.leastPlace).toNat * (rm D (rung D c) * 2 ^ (rp D (rung D c) - D.leastPlace).toNat) := by
        intro z hz
        rw [show (rp D z + rp D (rung D c) - (D.leastPlace + D.leastPlace)).toNat = (rp D z - D.leastPlace).toNat + (rp D (rung D c) - D.leastPlace).toNat by omega, Nat.pow_add]
        simp only [Nat.mul_assoc, Nat.mul_left_comm]
      rw [e r g1, e r' g2]
      exact Nat.mul_le_mul_right _ u
    · rw [a4 l]; exact hR
  have z0 : rungOf D (rm D 0 * rm D (rung D c)) (rp D 0 + rp D (rung D c)) = 0 := by
    have : rm D 0 = 0 := by unfold rm; rw [if_pos (binade_pos D)]
    rw [this, Nat.zero_mul, rungOf_zero]
  rw [leW_iff]
  have w1 : R < D.signWeight := by omega
  have w2 : R' < D.signWeight := by omega
  refine ⟨nan_of_le (by rw [rung_word D _ w1]; exact b1), nan_of_le (by rw [rung_word D _ w2]; exact b2), ?_⟩
  rw [sv_word D _ w1, sv_word D _ w2]
  unfold sv at hxy
  cases sx : isNeg D x <;> cases sy : isNeg D y <;> simp only [sx, sy, Bool.false_eq_true, if_true, if_false] at hxy ⊢
  · have := mono (by omega) kx ky b1 f1 g1 f2 g2
    omega
  · -- x is not below nought and y not above: both are nought
    have hx0 : rung D x = 0 := by omega
    have hy0 : rung D y = 0 := by omega
    have ip : 0 < D.infRung := by rw [dbl_inf]; omega
    have a1 := f1 (by omega)
    have a2 := f2 (by omega)
    rw [hx0, z0] at a1
    rw [hy0, z0] at a2
    omega
  · omega
  · have := mono (r := rung D y) (r' := rung D x) (by omega) ky kx b2 f2 g2 f1 g1
    omega
end Plf

set_option linter.unusedVariables false
set_option linter.unusedSimpArgs false
namespace Go.Proofs.YtlolomodcbkblaaGreatDoor.Flo
open Go.RowKit Plf

/-- an arithmetic operation on floats, in one world: its result stands for the rounded result (or is a NaN), the world is the same or one draw further -/
theorem run_any {P : Program} (op : BinOp) (hop : op = .add ∨ op = .sub ∨ op = .mul ∨ op = .quo) (t : TypeId) (x y : Nat) (w : World) :
    ∃ r w', (binOp op t (.float .f64 x) (.float .f64 y)).run P w = .ok (.float .f64 r) w' ∧ Rep (floatBits op .f64 x y) r ∧ (w' = w ∨ w' = w.drew) ∧ r < 18446744073709551616 := by
  cases e : floatBits op .f64 x y with
  | some r => exact ⟨r, w, run_float_arith w op t .f64 x y r e, Or.inl rfl, Or.inl rfl, by simpa [Lit.wf] using floatBits_wf e⟩
  | none =>
    have hcut : ∀ n, (Question.nanBits .f64 x y).cut n = (n % 2) * 9223372036854775808 + 9218868437227405312 + 1 + (n / 2) % 4503599627370495 := fun n => rfl
    refine ⟨(Question.nanBits .f64 x y).cut (w.tape w.drawn (.nanBits .f64 x y)), w.drew, ?_, Or.inr ⟨rfl, ?_⟩, Or.inr rfl, ?_⟩
    · unfold floatBits at e
      rcases hop with rfl | rfl | rfl | rfl <;> simp only at e <;> simp [binOp, Op.floatArith, e, Question.forced]
    · rw [hcut]
      generalize w.tape w.drawn (.nanBits .f64 x y) = t
      have h1 : t % 2 < 2 := Nat.mod_lt _ (by omega)
      have h2 : t / 2 % 4503599627370495 < 4503599627370495 := Nat.mod_lt _ (by omega)
      generalize t % 2 = u at h1 ⊢
      generalize t / 2 % 4503599627370495 = v at h2 ⊢
      unfold isNan
      rw [rung_eq, dbl_inf]
      apply decide_eq_true
      have : u = 0 ∨ u = 1 := by omega
      rcases this with rfl | rfl <;> omega
    · rw [hcut]
      generalize w.tape w.drawn (.nanBits .f64 x y) = t
      have h1 : t % 2 < 2 := Nat.mod_lt _ (by omega)
      have h2 : t / 2 % 4503599627370495 < 4503599627370495 := Nat.mod_lt _ (by omega)
      omega

/-- an operation whose result is some NaN draws it -/
theorem run_nan {P : Program} (op : BinOp) (hop : op = .add ∨ op = .sub ∨ op = .mul ∨ op = .quo) (t : TypeId) (x y : Nat) (e : floatBits op .f64 x y = none) :
    ∃ v : World → Nat, (∀ W, (binOp op t (.float .f64 x) (.float .f64 y)).run P W = .ok (.float .f64 (v W)) W.drew) ∧ ∀ W, isNan D (v W) = true := by
  have h : ∀ W, ∃ r, (binOp op t (.float .f64 x) (.float .f64 y)).run P W = .ok (.float .f64 r) W.drew ∧ isNan D r = true := by
    intro W
    have hcut : ∀ n, (Question.nanBits .f64 x y).cut n = (n % 2) * 9223372036854775808 + 9218868437227405312 + 1 + (n / 2) % 4503599627370495 := fun n => rfl
    refine ⟨(Question.nanBits .f64 x y).cut (W.tape W.drawn (.nanBits .f64 x y)), ?_, ?_⟩
    · unfold floatBits at e
      rcases hop with rfl | rfl | rfl | rfl <;> simp only at e <;> simp [binOp, Op.floatArith, e, Question.forced]
    · rw [hcut]
      generalize W.tape W.drawn (.nanBits .f64 x y) = t
      have h1 : t % 2 < 2 := Nat.mod_lt _ (by omega)
      have h2 : t / 2 % 4503599627370495 < 4503599627370495 := Nat.mod_lt _ (by omega)
      generalize t % 2 = u at h1 ⊢
      generalize t / 2 % 4503599627370495 = v at h2 ⊢
      unfold isNan
      rw [rung_eq, dbl_inf]
      apply decide_eq_true
      have : u = 0 ∨ u = 1 := by omega
      rcases this with rfl | rfl <;> omega
  obtain ⟨v, hv⟩ := Classical.skolem.1 h
  exact ⟨v, fun W => (hv W).1, fun W => (hv W).2⟩
theorem run_add_nan {P : Program} (t : TypeId) (x : Nat) (v : World → Nat) (hv : ∀ W, isNan D (v W) = true) :
    ∃ u : World → World → Nat, (∀ V W, (binOp .add t (.float .f64 x) (.float .f64 (v V))).run P W = .ok (.float .f64 (u V W)) W.drew) ∧ ∀ V W, isNan D (u V W) = true := by
  have h : ∀ V, ∃ u : World → Nat, (∀ W, (binOp .add t (.float .f64 x) (.float .f64 (v V))).run P W = .ok (.float .f64 (u W)) W.drew) ∧ ∀ W, isNan D (u W) = true :=
    fun V => run_nan .add (Or.inl rfl) t x (v V) (add_nan (Or.inr (hv V)))
  obtain ⟨u, hu⟩ := Classical.skolem.1 h
  exact ⟨u, fun V => (hu V).1, fun V => (hu V).2⟩

theorem run_store_float {P : Program} (a : Addr) (k : FloatKind) (z : Nat) (m : Mode) (w : World) : (store a (.float k z) m).run P w = stored P w a (.float k z) m := run_store P w a _ m rfl

theorem below_one {B : Nat} {a w w' : World} (h : Below B a w) (k : w' = w ∨ w' = w.drew) : Below B a w' := by
  rcases k with rfl | rfl
  · exact h
  · exact h.drew

end Go.Proofs.YtlolomodcbkblaaGreatDoor.Flo
