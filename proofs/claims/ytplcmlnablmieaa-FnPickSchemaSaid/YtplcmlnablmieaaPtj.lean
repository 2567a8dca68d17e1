/- The schema picked: the plain law joined to the walk. -/
import Derived.Test.YtplcmlnablmieaaPsz
set_option linter.unusedVariables false
set_option linter.unusedSimpArgs false
namespace Go.Proofs.Ytplcmlnablmieaa.Ps
open Go.RowKit Plf Ieee

theorem lg_lt {x z : Nat} (h : Lg x z) : z < 18446744073709551616 := by
  rcases h with ⟨_, rfl⟩ | ⟨_, y, l, _, _, e⟩
  · exact write_lt _ _ _
  · exact add_lt e
theorem one_ord {x : Nat} (h1 : 4607182418800017408 < x) (h2 : x ≤ 9218868437227405312) : (FloatKind.f64.format.order x 4607182418800017408 == some Ordering.lt) = false ∧ (FloatKind.f64.format.order x 4607182418800017408 == some Ordering.eq) = false ∧ (FloatKind.f64.format.order x 4607182418800017408 == some Ordering.gt) = true := by
  obtain ⟨a1, b1, _⟩ := sv_low (x := x) (by omega)
  obtain ⟨a2, b2, _⟩ := sv_low (x := 4607182418800017408) (by decide)
  have e : FloatKind.f64.format.order x 4607182418800017408 = some .gt := by
    show D.order x 4607182418800017408 = _
    rw [order_num (by rw [b1]; exact decide_eq_false (by omega)) (by rw [b2]; decide), a1, a2]
    simp only [compare, compareOfLessAndEq]
    rw [if_neg (by omega), if_neg (by omega)]
  rw [e]
  exact ⟨rfl, rfl, rfl⟩
theorem fin_read {z : Nat} (h : fin z = true) : ∀ s t, D.read z ≠ .nan s t := fun s t e => by
  rw [read_num D dbl (fin_iff.1 h)] at e
  cases e
theorem nan_NINF (s : Bool) (t : Nat) : D.read NINF ≠ .nan s t := fun e => by
  have e2 : D.read NINF = .infinity true := by decide +kernel
  rw [e2] at e
  cases e
theorem nan_INF (s : Bool) (t : Nat) : D.read INF ≠ .nan s t := fun e => by
  have e2 : D.read INF = .infinity false := by decide +kernel
  rw [e2] at e
  cases e
theorem wn_sv (s : Bool) (c : Nat) (h : c = 0 → s = false) : sv D (D.write (.number s c 0)) = RZ (if s then -(c : Int) else (c : Int)) 0 ∧ isNan D (D.write (.number s c 0)) = false := by
  have hc : (if s = true then -(c : Int) else (c : Int)).natAbs = c := by cases s <;> simp
  have := sv_write (s := s) (v := if s then -(c : Int) else (c : Int)) (p := 0) (fun h0 => by cases s <;> simp <;> omega)
  rw [hc] at this
  exact this
theorem mul_lt {a b : Int} (h : a * (big : Int) < b * (big : Int)) : a < b := Int.lt_of_mul_lt_mul_right h (Int.le_of_lt big_pos')
theorem RZ0 {u v : Int} (h : u ≤ v) : RZ u 0 ≤ RZ v 0 := RZ_le 0 (Int.le_refl _) (Int.le_refl _) (by rw [Int.sub_self]; simpa using h)
set_option maxRecDepth 20000 in
/-- a factor that picks schema n -/
theorem sch_walk {x : Nat} {n : Int} (h1 : 4607182418800017408 < x) (h2 : x < 9218868437227405312) (h : Sch x n) (w : World) : Calls Try.prog 5 #[.float .f64 x] w (Says n w) := by
  obtain ⟨o1, o2, o3⟩ := one_ord h1 (Nat.le_of_lt h2)
  refine door_walk n w o3 ?_
  obtain ⟨y, hy, hr⟩ := h
  have C1 := Log2_of (fun w => log2_norm ⟨by omega, h2⟩ hy w) w
  rcases hr with ⟨hz, rfl⟩ | ⟨hN, z, hz, fz, hr⟩
  · have hy0 : y = 0 ∨ y = 9223372036854775808 := by have := lg_lt hy; omega
    have C2 := Log2_of (fun w => log2_zero hy0 w) w
    have C3 := floor_any (z := NINF) (F := NINF) nan_NINF (by decide +kernel) w
    exact pick_walk 8 _ _ _ _ o1 o2 w C1 C2 C3 rfl rfl rfl rfl (Or.inl ⟨by decide +kernel, rfl⟩)
  · have C2 := Log2_of (fun w => log2_norm hN hz w) w
    obtain ⟨s, c, hi, g1, g2⟩ := floor_num fz
    have C3 := floor_any (F := D.write (.number s c 0)) (fin_read fz) (by rw [hi]) w
    rcases hr with ⟨rfl, hv⟩ | ⟨rfl, hv⟩ | ⟨r1, r2, hv1, hv2⟩
    · have hk : (if s then -(c : Int) else (c : Int)) < -7 := mul_lt (by omega)
      obtain ⟨e1, e2⟩ := wn_sv s c (fun h => by subst h; cases s <;> simp at hk)
      have hle : leW (D.write (.number s c 0)) 13844065254536904704 = true := by
        rw [leW_iff]
        refine ⟨e2, by decide, ?_⟩
        rw [e1, show sv D 13844065254536904704 = RZ (-8) 0 by decide +kernel]
        exact RZ0 (by omega)
      exact pick_walk 8 _ _ _ _ o1 o2 w C1 C2 C3 rfl rfl rfl rfl (Or.inl ⟨hle, rfl⟩)
    · have hk : 3 < (if s then -(c : Int) else (c : Int)) := by
        have : 4 * (big : Int) < ((if s then -(c : Int) else (c : Int)) + 1) * (big : Int) := by omega
        have := mul_lt this
        omega
      obtain ⟨e1, e2⟩ := wn_sv s c (fun h => by subst h; cases s <;> simp at hk)
      have s4 : sv D 4616189618054758400 = RZ 4 0 := by decide +kernel
      have s8 : sv D 13844065254536904704 = RZ (-8) 0 := by decide +kernel
      have s48 : RZ (-8) 0 < RZ 4 0 := by decide +kernel
      have hge : sv D 4616189618054758400 ≤ sv D (D.write (.number s c 0)) := by rw [e1, s4]; exact RZ0 (by omega)
      have hle : leW (D.write (.number s c 0)) 13844065254536904704 = false := by
        cases hh : leW (D.write (.number s c 0)) 13844065254536904704
        · rfl
        · rw [leW_iff] at hh; omega
      have ho : D.order (D.write (.number s c 0)) 4616189618054758400 = some .gt ∨ D.order (D.write (.number s c 0)) 4616189618054758400 = some .eq := by
        rw [order_num e2 (by decide)]
        simp only [compare, compareOfLessAndEq]
        rw [if_neg (by omega)]
        by_cases hh : sv D (D.write (.number s c 0)) = sv D 4616189618054758400
        · rw [if_pos hh]; exact Or.inr rfl
        · rw [if_neg hh]; exact Or.inl rfl
      have hgb : ((FloatKind.f64.format.order (D.write (.number s c 0)) 4616189618054758400 == some Ordering.gt) || (FloatKind.f64.format.order (D.write (.number s c 0)) 4616189618054758400 == some Ordering.eq)) = true := by
        show ((D.order _ _ == _) || (D.order _ _ == _)) = true
        rcases ho with h | h <;> rw [h] <;> rfl
      exact pick_walk (-4) _ _ _ _ o1 o2 w C1 C2 C3 rfl rfl rfl rfl (Or.inr (Or.inl ⟨hle, hgb, rfl⟩))
    · have k1 : (if s then -(c : Int) else (c : Int)) < -n + 1 := mul_lt (by omega)
      have k2 : -n < (if s then -(c : Int) else (c : Int)) + 1 := mul_lt (by omega)
      have hk : (if s then -(c : Int) else (c : Int)) = -n := by omega
      have hcase : (s = false ∧ (c = 0 ∨ c = 1 ∨ c = 2 ∨ c = 3) ∧ n = -(c : Int)) ∨ (s = true ∧ (c = 0 ∨ c = 1 ∨ c = 2 ∨ c = 3 ∨ c = 4 ∨ c = 5 ∨ c = 6 ∨ c = 7) ∧ n = (c : Int)) := by
        cases s
        · simp only [Bool.false_eq_true, if_false] at hk
          exact Or.inl ⟨rfl, by omega, by omega⟩
        · simp only [if_true] at hk
          exact Or.inr ⟨rfl, by omega, by omega⟩
      clear hk k1 k2 hv1 hv2 g1 g2 hi r1 r2
      rcases hcase with ⟨rfl, rfl | rfl | rfl | rfl, rfl⟩ | ⟨rfl, rfl | rfl | rfl | rfl | rfl | rfl | rfl | rfl, rfl⟩
      · exact pick_walk _ _ _ _ _ o1 o2 w C1 C2 C3 rfl rfl rfl rfl (Or.inr (Or.inr ⟨by decide +kernel, by decide +kernel, 0, by decide +kernel, by decide, by decide, by decide⟩))
      · exact pick_walk _ _ _ _ _ o1 o2 w C1 C2 C3 rfl rfl rfl rfl (Or.inr (Or.inr ⟨by decide +kernel, by decide +kernel, 1, by decide +kernel, by decide, by decide, by decide⟩))
      · exact pick_walk _ _ _ _ _ o1 o2 w C1 C2 C3 rfl rfl rfl rfl (Or.inr (Or.inr ⟨by decide +kernel, by decide +kernel, 2, by decide +kernel, by decide, by decide, by decide⟩))
      · exact pick_walk _ _ _ _ _ o1 o2 w C1 C2 C3 rfl rfl rfl rfl (Or.inr (Or.inr ⟨by decide +kernel, by decide +kernel, 3, by decide +kernel, by decide, by decide, by decide⟩))
      · exact pick_walk _ _ _ _ _ o1 o2 w C1 C2 C3 rfl rfl rfl rfl (Or.inr (Or.inr ⟨by decide +kernel, by decide +kernel, 0, by decide +kernel, by decide, by decide, by decide⟩))
      · exact pick_walk _ _ _ _ _ o1 o2 w C1 C2 C3 rfl rfl rfl rfl (Or.inr (Or.inr ⟨by decide +kernel, by decide +kernel, -1, by decide +kernel, by decide, by decide, by decide⟩))
      · exact pick_walk _ _ _ _ _ o1 o2 w C1 C2 C3 rfl rfl rfl rfl (Or.inr (Or.inr ⟨by decide +kernel, by decide +kernel, -2, by decide +kernel, by decide, by decide, by decide⟩))
      · exact pick_walk _ _ _ _ _ o1 o2 w C1 C2 C3 rfl rfl rfl rfl (Or.inr (Or.inr ⟨by decide +kernel, by decide +kernel, -3, by decide +kernel, by decide, by decide, by decide⟩))
      · exact pick_walk _ _ _ _ _ o1 o2 w C1 C2 C3 rfl rfl rfl rfl (Or.inr (Or.inr ⟨by decide +kernel, by decide +kernel, -4, by decide +kernel, by decide, by decide, by decide⟩))
      · exact pick_walk _ _ _ _ _ o1 o2 w C1 C2 C3 rfl rfl rfl rfl (Or.inr (Or.inr ⟨by decide +kernel, by decide +kernel, -5, by decide +kernel, by decide, by decide, by decide⟩))
      · exact pick_walk _ _ _ _ _ o1 o2 w C1 C2 C3 rfl rfl rfl rfl (Or.inr (Or.inr ⟨by decide +kernel, by decide +kernel, -6, by decide +kernel, by decide, by decide, by decide⟩))
      · exact pick_walk _ _ _ _ _ o1 o2 w C1 C2 C3 rfl rfl rfl rfl (Or.inr (Or.inr ⟨by decide +kernel, by decide +kernel, -7, by decide +kernel, by decide, by decide, by decide⟩))
/-- the infinite factor -/
theorem inf_walk (w : World) : Calls Try.prog 5 #[.float .f64 9218868437227405312] w (Says (-4) w) := by
  obtain ⟨o1, o2, o3⟩ := one_ord (x := 9218868437227405312) (by decide) (Nat.le_refl _)
  refine door_walk _ w o3 ?_
  have C1 := Log2_of (fun w => log2_inf w) w
  have C3 := floor_any (z := INF) (F := INF) nan_INF (by decide +kernel) w
  exact pick_walk (-4) _ _ _ _ o1 o2 w C1 C1 C3 rfl rfl rfl rfl (Or.inr (Or.inl ⟨by decide +kernel, by decide +kernel, rfl⟩))

end Go.Proofs.Ytplcmlnablmieaa.Ps
