/- Floats in a walk: an arithmetic operation gives its rounded result or some NaN. -/
import Derived.Test.YtplcmlnablmieaaProg
import Derived.Test.YtplcmlnablmieaaFl3
import Derived.WalkKit
import Derived.WalkSpells
import Derived.WalkLawsBesides
import Derived.Outline
import Derived.Lib.Hide
import Derived.Laws.Cover2
import Derived.Laws.FloatArith
import Derived.Laws.Externs
import Derived.Laws.NewFold
import Derived.Laws.BitsAllLaws
set_option linter.unusedVariables false
set_option linter.unusedSimpArgs false
namespace Go.Proofs.Ytplcmlnablmieaa.Flo
open Go.RowKit Plf

/-- an arithmetic operation on floats, in one world: its result stands for the rounded result (or is a NaN), the world is the same or one draw further -/
theorem run_any {P : Program} (op : BinOp) (hop : op = .add ∨ op = .sub ∨ op = .mul ∨ op = .quo) (t : TypeId) (x y : Nat) (w : World) :
    ∃ r w', (binOp op t (.float .f64 x) (.float .f64 y)).run P w = .ok (.float .f64 r) w' ∧ Rep (floatBits op .f64 x y) r ∧ (w' = w ∨ w' = w.drew) ∧ r < 18446744073709551616 := by
  cases e : floatBits op .f64 x y with
  | some r => exact ⟨r, w, run_float_arith w op t .f64 x y r e, Or.inl rfl, Or.inl rfl, by simpa [Lit.wf] using floatBits_wf e⟩
  | none =>
    have hcut : ∀ n, (Question.nanBits .f64 x y).cut n = (n % 2) * 9223372036854775808 + 9218868437227405312 + 1 + (n / 2) % 4503599627370495 := fun n => rfl
    refine ⟨(Question.nanBits .f64 x y).cut (w.tape w.drawn (.nanBits .f64 x y)), w.drew, ?_, Or.inr ⟨rfl, ?_⟩, Or.inr rfl, ?_⟩
    · unfold floatBits at e
      rcases hop with rfl | rfl | rfl | rfl <;> simp only at e <;> simp [binOp, Op.floatArith, e, Question.forced]
    · rw [hcut]
      generalize w.tape w.drawn (.nanBits .f64 x y) = t
      have h1 : t % 2 < 2 := Nat.mod_lt _ (by omega)
      have h2 : t / 2 % 4503599627370495 < 4503599627370495 := Nat.mod_lt _ (by omega)
      generalize t % 2 = u at h1 ⊢
      generalize t / 2 % 4503599627370495 = v at h2 ⊢
      unfold isNan
      rw [rung_eq, dbl_inf]
      apply decide_eq_true
      have : u = 0 ∨ u = 1 := by omega
      rcases this with rfl | rfl <;> omega
    · rw [hcut]
      generalize w.tape w.drawn (.nanBits .f64 x y) = t
      have h1 : t % 2 < 2 := Nat.mod_lt _ (by omega)
      have h2 : t / 2 % 4503599627370495 < 4503599627370495 := Nat.mod_lt _ (by omega)
      omega

/-- an operation whose result is some NaN draws it -/
theorem run_nan {P : Program} (op : BinOp) (hop : op = .add ∨ op = .sub ∨ op = .mul ∨ op = .quo) (t : TypeId) (x y : Nat) (e : floatBits op .f64 x y = none) :
    ∃ v : World → Nat, (∀ W, (binOp op t (.float .f64 x) (.float .f64 y)).run P W = .ok (.float .f64 (v W)) W.drew) ∧ ∀ W, isNan D (v W) = true := by
  have h : ∀ W, ∃ r, (binOp op t (.float .f64 x) (.float .f64 y)).run P W = .ok (.float .f64 r) W.drew ∧ isNan D r = true := by
    intro W
    have hcut : ∀ n, (Question.nanBits .f64 x y).cut n = (n % 2) * 9223372036854775808 + 9218868437227405312 + 1 + (n / 2) % 4503599627370495 := fun n => rfl
    refine ⟨(Question.nanBits .f64 x y).cut (W.tape W.drawn (.nanBits .f64 x y)), ?_, ?_⟩
    · unfold floatBits at e
      rcases hop with rfl | rfl | rfl | rfl <;> simp only at e <;> simp [binOp, Op.floatArith, e, Question.forced]
    · rw [hcut]
      generalize W.tape W.drawn (.nanBits .f64 x y) = t
      have h1 : t % 2 < 2 := Nat.mod_lt _ (by omega)
      have h2 : t / 2 % 4503599627370495 < 4503599627370495 := Nat.mod_lt _ (by omega)
      generalize t % 2 = u at h1 ⊢
      generalize t / 2 % 4503599627370495 = v at h2 ⊢
      unfold isNan
      rw [rung_eq, dbl_inf]
      apply decide_eq_true
      have : u = 0 ∨ u = 1 := by omega
      rcases this with rfl | rfl <;> omega
  obtain ⟨v, hv⟩ := Classical.skolem.1 h
  exact ⟨v, fun W => (hv W).1, fun W => (hv W).2⟩
theorem run_add_nan {P : Program} (t : TypeId) (x : Nat) (v : World → Nat) (hv : ∀ W, isNan D (v W) = true) :
    ∃ u : World → World → Nat, (∀ V W, (binOp .add t (.float .f64 x) (.float .f64 (v V))).run P W = .ok (.float .f64 (u V W)) W.drew) ∧ ∀ V W, isNan D (u V W) = true := by
  have h : ∀ V, ∃ u : World → Nat, (∀ W, (binOp .add t (.float .f64 x) (.float .f64 (v V))).run P W = .ok (.float .f64 (u W)) W.drew) ∧ ∀ W, isNan D (u W) = true :=
    fun V => run_nan .add (Or.inl rfl) t x (v V) (add_nan (Or.inr (hv V)))
  obtain ⟨u, hu⟩ := Classical.skolem.1 h
  exact ⟨u, fun V => (hu V).1, fun V => (hu V).2⟩

theorem run_store_float {P : Program} (a : Addr) (k : FloatKind) (z : Nat) (m : Mode) (w : World) : (store a (.float k z) m).run P w = stored P w a (.float k z) m := run_store P w a _ m rfl

theorem below_one {B : Nat} {a w w' : World} (h : Below B a w) (k : w' = w ∨ w' = w.drew) : Below B a w' := by
  rcases k with rfl | rfl
  · exact h
  · exact h.drew

end Go.Proofs.Ytplcmlnablmieaa.Flo
