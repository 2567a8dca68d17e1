/- Intervals of floats: sums, differences, products and quotients of numbers lie between those of the ends. -/
import Derived.Test.YtplcmlnablmieaaFlm
set_option linter.unusedVariables false
set_option linter.unusedSimpArgs false
namespace Plf
open Ieee

/-- a finite number -/
def fin (x : Nat) : Bool := decide (rung D x < D.infRung)
/-- its value in units of the least place -/
def val (x : Nat) : Int := if isNeg D x then -(mg D (rung D x) : Int) else (mg D (rung D x) : Int)
theorem fin_iff {x : Nat} : fin x = true ↔ rung D x < D.infRung := by unfold fin; exact decide_eq_true_iff
theorem mg_zero : mg D 0 = 0 := by decide
theorem mg_le (a b : Nat) : mg D a ≤ mg D b ↔ a ≤ b := mg_le_iff D a b
theorem val_le {x y : Nat} : val x ≤ val y ↔ sv D x ≤ sv D y := by
  have h1 := mg_le (rung D x) (rung D y)
  have h2 := mg_le (rung D y) (rung D x)
  have h3 := mg_le (rung D x) 0
  have h4 := mg_le (rung D y) 0
  rw [mg_zero] at h3 h4
  unfold val sv
  cases isNeg D x <;> cases isNeg D y <;> simp only [Bool.false_eq_true, if_false, if_true] <;> omega
theorem nan_fin {x : Nat} (h : fin x = true) : isNan D x = false := nan_of_le (Nat.le_of_lt (fin_iff.1 h))
theorem fin_of_sv {l h z : Nat} (hl : fin l = true) (hh : fin h = true) (h1 : sv D l ≤ sv D z) (h2 : sv D z ≤ sv D h) : fin z = true := by
  rw [fin_iff] at *
  unfold sv at h1 h2
  cases hzn : isNeg D z <;> rw [hzn] at h1 h2 <;> simp only [Bool.false_eq_true, if_false, if_true] at h1 h2
  · split at h2 <;> omega
  · split at h1 <;> omega

/-- a signed number of units of place p, rounded: its signed rung -/
def RZ (v : Int) (p : Int) : Int := if v < 0 then -(rungOf D v.natAbs p : Int) else (rungOf D v.natAbs p : Int)
theorem pow_posI (n : Nat) : (0 : Int) < 2 ^ n := by
  have := Nat.two_pow_pos n
  exact_mod_cast this
theorem RZ_le {u v : Int} {i j : Int} (c : Int) (hi : c ≤ i) (hj : c ≤ j) (h : u * 2 ^ (i - c).toNat ≤ v * 2 ^ (j - c).toNat) : RZ u i ≤ RZ v j := by
  have p1 := pow_posI (i - c).toNat
  have p2 := pow_posI (j - c).toNat
  unfold RZ
  by_cases hu : u < 0
  · rw [if_pos hu]
    by_cases hv : v < 0
    · rw [if_pos hv]
      have : rungOf D v.natAbs j ≤ rungOf D u.natAbs i := by
        refine rungOf_le D c hj hi ?_
        have e1 : (v.natAbs : Int) = -v := by omega
        have e2 : (u.natAbs : Int) = -u := by omega
        have : ((v.natAbs * 2 ^ (j - c).toNat : Nat) : Int) ≤ ((u.natAbs * 2 ^ (i - c).toNat : Nat) : Int) := by
          push_cast
          rw [e1, e2, Int.neg_mul, Int.neg_mul]
          omega
        exact_mod_cast this
      omega
    · rw [if_neg hv]; omega
  · rw [if_neg hu]
    have hu0 : 0 ≤ u * 2 ^ (i - c).toNat := Int.mul_nonneg (by omega) (by omega)
    by_cases hv : v < 0
    · have : v * 2 ^ (j - c).toNat < 0 := Int.mul_neg_of_neg_of_pos hv p2
      omega
    · rw [if_neg hv]
      have : rungOf D u.natAbs i ≤ rungOf D v.natAbs j := by
        refine rungOf_le D c hi hj ?_
        have e1 : (v.natAbs : Int) = v := by omega
        have e2 : (u.natAbs : Int) = u := by omega
        have : ((u.natAbs * 2 ^ (i - c).toNat : Nat) : Int) ≤ ((v.natAbs * 2 ^ (j - c).toNat : Nat) : Int) := by
          push_cast
          rw [e1, e2]
          exact h
        exact_mod_cast this
      omega
theorem RZ_eq {u v : Int} {i j : Int} (c : Int) (hi : c ≤ i) (hj : c ≤ j) (h : u * 2 ^ (i - c).toNat = v * 2 ^ (j - c).toNat) : RZ u i = RZ v j :=
  Int.le_antisymm (RZ_le c hi hj (Int.le_of_eq h)) (RZ_le c hj hi (Int.le_of_eq h.symm))
/-- what is written of a number -/
theorem sv_write {s : Bool} {v : Int} {p : Int} (hs : v ≠ 0 → s = decide (v < 0)) : sv D (D.write (.number s v.natAbs p)) = RZ v p ∧ isNan D (D.write (.number s v.natAbs p)) = false := by
  have e : D.write (.number s v.natAbs p) = D.word s (rungOf D v.natAbs p) := by show D.nearest _ _ _ = _; rw [nearest_eq]
  rw [e]
  refine ⟨?_, nan_word D _ _ _⟩
  rw [sv_word D _ (rungOf_lt D _ _)]
  unfold RZ
  by_cases h0 : v = 0
  · subst h0
    simp [rungOf_zero]
  · rw [hs h0]
    simp
theorem least : D.leastPlace = -1074 := by decide
theorem val_units (x : Nat) (base : Int) (hb : base ≤ D.leastPlace) : signed (isNeg D x) (rm D (rung D x)) (rp D (rung D x) - base).toNat = val x * 2 ^ (D.leastPlace - base).toNat := by
  have h := rp_ge D (rung D x)
  rw [signed_eq]
  unfold val mg
  have e : rm D (rung D x) * 2 ^ (rp D (rung D x) - base).toNat = rm D (rung D x) * 2 ^ (rp D (rung D x) - D.leastPlace).toNat * 2 ^ (D.leastPlace - base).toNat := by
    rw [Nat.mul_assoc, ← Nat.pow_add]; congr 2; omega
  rw [e]
  cases isNeg D x <;> simp only [Bool.false_eq_true, if_false, if_true] <;> push_cast <;> simp [Int.neg_mul]
/-- the same at a base above the least place: what is summed there -/
theorem val_at (x : Nat) (base : Int) (hb : D.leastPlace ≤ base) (hr : base ≤ rp D (rung D x)) : signed (isNeg D x) (rm D (rung D x)) (rp D (rung D x) - base).toNat * 2 ^ (base - D.leastPlace).toNat = val x := by
  rw [signed_eq]
  unfold val mg
  have e : rm D (rung D x) * 2 ^ (rp D (rung D x) - D.leastPlace).toNat = rm D (rung D x) * 2 ^ (rp D (rung D x) - base).toNat * 2 ^ (base - D.leastPlace).toNat := by
    rw [Nat.mul_assoc, ← Nat.pow_add]; congr 2; omega
  rw [e]
  cases isNeg D x <;> simp only [Bool.false_eq_true, if_false, if_true] <;> push_cast <;> simp [Int.neg_mul]
theorem sum_num {x y : Nat} (hx : fin x = true) (s : Bool) (m : Nat) (j : Int) (v : Int) (hj : D.leastPlace ≤ j) (hv : ∀ base, D.leastPlace ≤ base → base ≤ j → signed s m (j - base).toNat * 2 ^ (base - D.leastPlace).toNat = v) :
    ∃ z, ((D.read x).sum (.number s m j)).map D.write = some z ∧ sv D z = RZ (val x + v) D.leastPlace ∧ isNan D z = false := by
  rw [fin_iff] at hx
  rw [read_num D dbl hx]
  have h1 := rp_ge D (rung D x)
  simp only [Datum.sum, Option.map_some]
  refine ⟨_, rfl, ?_⟩
  obtain ⟨base, hb⟩ : ∃ base, base = min (rp D (rung D x)) j := ⟨_, rfl⟩
  rw [← hb]
  obtain ⟨tot, ht⟩ : ∃ tot, tot = signed (isNeg D x) (rm D (rung D x)) (rp D (rung D x) - base).toNat + signed s m (j - base).toNat := ⟨_, rfl⟩
  rw [← ht]
  have hw := sv_write (s := if tot = 0 then isNeg D x && s else decide (tot < 0)) (v := tot) (p := base) (fun h => by rw [if_neg h])
  refine ⟨hw.1.trans (RZ_eq D.leastPlace (by omega) (by omega) ?_), hw.2⟩
  rw [ht, Int.add_mul, val_at x base (by omega) (by omega), hv base (by omega) (by omega), Int.sub_self]
  simp
theorem add_num {x y : Nat} (hx : fin x = true) (hy : fin y = true) : ∃ z, D.add x y = some z ∧ sv D z = RZ (val x + val y) D.leastPlace ∧ isNan D z = false := by
  have hy' := fin_iff.1 hy
  unfold Format.add
  rw [read_num D dbl hy']
  exact sum_num (y := y) hx _ _ _ _ (rp_ge D _) (fun base h1 h2 => val_at y base h1 h2)
theorem sub_num {x y : Nat} (hx : fin x = true) (hy : fin y = true) : ∃ z, D.sub x y = some z ∧ sv D z = RZ (val x - val y) D.leastPlace ∧ isNan D z = false := by
  have hy' := fin_iff.1 hy
  unfold Format.sub
  rw [read_num D dbl hy']
  have e : val x - val y = val x + -val y := by omega
  rw [e]
  refine sum_num (y := y) hx (!isNeg D (y)) _ _ _ (rp_ge D _) (fun base h1 h2 => ?_)
  rw [signed_not, Int.neg_mul, val_at y base h1 h2]
theorem mul_num {x y : Nat} (hx : fin x = true) (hy : fin y = true) : ∃ z, D.mul x y = some z ∧ sv D z = RZ (val x * val y) (D.leastPlace + D.leastPlace) ∧ isNan D z = false := by
  have hx' := fin_iff.1 hx
  have hy' := fin_iff.1 hy
  have h1 := rp_ge D (rung D x)
  have h2 := rp_ge D (rung D y)
  unfold Format.mul
  rw [read_num D dbl hx', read_num D dbl hy']
  simp only [Datum.product, Option.map_some]
  refine ⟨_, rfl, ?_⟩
  have hv1 := val_units x (D.leastPlace) (Int.le_refl _)
  have hv2 := val_units y (D.leastPlace) (Int.le_refl _)
  rw [signed_eq, Int.sub_self] at hv1 hv2
  simp only [Int.toNat_zero, Int.pow_zero, Int.mul_one] at hv1 hv2
  obtain ⟨a, ha⟩ : ∃ a, a = rm D (rung D x) := ⟨_, rfl⟩
  obtain ⟨b, hb⟩ : ∃ b, b = rm D (rung D y) := ⟨_, rfl⟩
  rw [← ha] at hv1 ⊢
  rw [← hb] at hv2 ⊢
  obtain ⟨v, hv⟩ : ∃ v : Int, v = if isNeg D x ^^ isNeg D y then -((a * b : Nat) : Int) else ((a * b : Nat) : Int) := ⟨_, rfl⟩
  have hab : v.natAbs = a * b := by rw [hv]; split <;> simp [Int.natAbs_mul]
  rw [← hab]
  have hw := sv_write (s := isNeg D x ^^ isNeg D y) (v := v) (p := rp D (rung D x) + rp D (rung D y)) (fun h0 => by
    rw [hv] at h0 ⊢
    cases hxy : isNeg D x ^^ isNeg D y
    · simp only [Bool.false_eq_true, if_false]
      exact (decide_eq_false (by omega)).symm
    · rw [hxy] at h0
      simp only [if_true] at h0 ⊢
      exact (decide_eq_true (by omega)).symm)
  refine ⟨hw.1.trans (RZ_eq (D.leastPlace + D.leastPlace) (by omega) (by omega) ?_), hw.2⟩
  rw [← hv1, ← hv2, hv, show (rp D (rung D x) + rp D (rung D y) - (D.leastPlace + D.leastPlace)).toNat = (rp D (rung D x) - D.leastPlace).toNat + (rp D (rung D y) - D.leastPlace).toNat by omega, Int.pow_add, Int.sub_self]
  generalize (rp D (rung D x) - D.leastPlace).toNat = i
  generalize (rp D (rung D y) - D.leastPlace).toNat = j
  have e : (a : Int) * b * (2 ^ i * 2 ^ j) = a * 2 ^ i * (b * 2 ^ j) := by
    rw [Int.mul_assoc, Int.mul_assoc, Int.mul_left_comm (b : Int) (2 ^ i : Int)]
  cases isNeg D x <;> cases isNeg D y <;> simp [e, Int.neg_mul, Int.mul_neg]

/-- an interval, and what lies in it -/
abbrev I := Nat × Nat
structure In (p : I) (x : Nat) : Prop where
  lo : sv D p.1 ≤ sv D x
  hi : sv D x ≤ sv D p.2
  fl : fin p.1 = true
  fh : fin p.2 = true
theorem In.fin {p : I} {x : Nat} (h : In p x) : fin x = true := fin_of_sv h.fl h.fh h.lo h.hi
theorem In.vlo {p : I} {x : Nat} (h : In p x) : val p.1 ≤ val x := val_le.2 h.lo
theorem In.vhi {p : I} {x : Nat} (h : In p x) : val x ≤ val p.2 := val_le.2 h.hi
theorem In.pt {x : Nat} (h : Plf.fin x = true) : In (x, x) x := ⟨Int.le_refl _, Int.le_refl _, h, h⟩
def mk (a b : Option Nat) : Option I :=
  match a, b with
  | some a, some b => if fin a && fin b then some (a, b) else none
  | _, _ => none
theorem mk_some {a b : Option Nat} {r : I} (h : mk a b = some r) : a = some r.1 ∧ b = some r.2 ∧ fin r.1 = true ∧ fin r.2 = true := by
  unfold mk at h
  split at h
  · rename_i a b
    split at h
    · rename_i hf
      injection h with h
      subst h
      rw [Bool.and_eq_true] at hf
      exact ⟨rfl, rfl, hf.1, hf.2⟩
    · cases h
  · cases h
def iadd (p q : I) : Option I := mk (D.add p.1 q.1) (D.add p.2 q.2)
def isub (p q : I) : Option I := mk (D.sub p.1 q.2) (D.sub p.2 q.1)
theorem iadd_in {p q r : I} {x y : Nat} (h : iadd p q = some r) (hx : In p x) (hy : In q y) : ∃ z, D.add x y = some z ∧ In r z := by
  obtain ⟨e1, e2, f1, f2⟩ := mk_some h
  obtain ⟨z, hz, hs, _⟩ := add_num hx.fin hy.fin
  obtain ⟨a, ha, hsa, _⟩ := add_num hx.fl hy.fl
  obtain ⟨b, hb, hsb, _⟩ := add_num hx.fh hy.fh
  rw [e1] at ha; injection ha with ha; subst ha
  rw [e2] at hb; injection hb with hb; subst hb
  have k1 := hx.vlo; have k2 := hx.vhi; have k3 := hy.vlo; have k4 := hy.vhi
  refine ⟨z, hz, ?_, ?_, f1, f2⟩
  · rw [hsa, hs]; exact RZ_le D.leastPlace (Int.le_refl _) (Int.le_refl _) (by rw [Int.sub_self]; simp; omega)
  · rw [hsb, hs]; exact RZ_le D.leastPlace (Int.le_refl _) (Int.le_refl _) (by rw [Int.sub_self]; simp; omega)
theorem isub_in {p q r : I} {x y : Nat} (h : isub p q = some r) (hx : In p x) (hy : In q y) : ∃ z, D.sub x y = some z ∧ In r z := by
  obtain ⟨e1, e2, f1, f2⟩ := mk_some h
  obtain ⟨z, hz, hs, _⟩ := sub_num hx.fin hy.fin
  obtain ⟨a, ha, hsa, _⟩ := sub_num hx.fl hy.fh
  obtain ⟨b, hb, hsb, _⟩ := sub_num hx.fh hy.fl
  rw [e1] at ha; injection ha with ha; subst ha
  rw [e2] at hb; injection hb with hb; subst hb
  have k1 := hx.vlo; have k2 := hx.vhi; have k3 := hy.vlo; have k4 := hy.vhi
  refine ⟨z, hz, ?_, ?_, f1, f2⟩
  · rw [hsa, hs]; exact RZ_le D.leastPlace (Int.le_refl _) (Int.le_refl _) (by rw [Int.sub_self]; simp; omega)
  · rw [hsb, hs]; exact RZ_le D.leastPlace (Int.le_refl _) (Int.le_refl _) (by rw [Int.sub_self]; simp; omega)
def minW (a b : Option Nat) : Option Nat :=
  match a, b with
  | some a, some b => some (if sv D a ≤ sv D b then a else b)
  | _, _ => none
def maxW (a b : Option Nat) : Option Nat :=
  match a, b with
  | some a, some b => some (if sv D a ≤ sv D b then b else a)
  | _, _ => none
theorem minW_some {a b : Option Nat} {r : Nat} (h : minW a b = some r) : ∃ u v, a = some u ∧ b = some v ∧ sv D r ≤ sv D u ∧ sv D r ≤ sv D v := by
  unfold minW at h
  split at h
  · rename_i u v
    injection h with h
    refine ⟨u, v, rfl, rfl, ?_⟩
    rw [← h]
    split <;> omega
  · cases h
theorem maxW_some {a b : Option Nat} {r : Nat} (h : maxW a b = some r) : ∃ u v, a = some u ∧ b = some v ∧ sv D u ≤ sv D r ∧ sv D v ≤ sv D r := by
  unfold maxW at h
  split at h
  · rename_i u v
    injection h with h
    refine ⟨u, v, rfl, rfl, ?_⟩
    rw [← h]
    split <;> omega
  · cases h
def imul (p q : I) : Option I :=
  mk (minW (minW (D.mul p.1 q.1) (D.mul p.1 q.2)) (minW (D.mul p.2 q.1) (D.mul p.2 q.2))) (maxW (maxW (D.mul p.1 q.1) (D.mul p.1 q.2)) (maxW (D.mul p.2 q.1) (D.mul p.2 q.2)))
/-- one factor at an end -/
theorem mul_end (a x b y : Int) (h1 : a ≤ x) (h2 : x ≤ b) : (a * y ≤ x * y ∧ x * y ≤ b * y) ∨ (b * y ≤ x * y ∧ x * y ≤ a * y) := by
  rcases Int.le_total 0 y with h | h
  · exact Or.inl ⟨Int.mul_le_mul_of_nonneg_right h1 h, Int.mul_le_mul_of_nonneg_right h2 h⟩
  · exact Or.inr ⟨Int.mul_le_mul_of_nonpos_right h2 h, Int.mul_le_mul_of_nonpos_right h1 h⟩
theorem imul_in {p q r : I} {x y : Nat} (h : imul p q = some r) (hx : In p x) (hy : In q y) : ∃ z, D.mul x y = some z ∧ In r z := by
  obtain ⟨e1, e2, f1, f2⟩ := mk_some h
  obtain ⟨z, hz, hs, _⟩ := mul_num hx.fin hy.fin
  obtain ⟨c1, g1, s1, _⟩ := mul_num hx.fl hy.fl
  obtain ⟨c2, g2, s2, _⟩ := mul_num hx.fl hy.fh
  obtain ⟨c3, g3, s3, _⟩ := mul_num hx.fh hy.fl
  obtain ⟨c4, g4, s4, _⟩ := mul_num hx.fh hy.fh
  rw [g1, g2, g3, g4] at e1 e2
  obtain ⟨u1, u2, hu1, hu2, b1, b2⟩ := minW_some e1
  obtain ⟨d1, d2, hd1, hd2, b3, b4⟩ := minW_some hu1
  injection hd1 with hd1; injection hd2 with hd2; subst hd1; subst hd2
  obtain ⟨d1, d2, hd1, hd2, b5, b6⟩ := minW_some hu2
  injection hd1 with hd1; injection hd2 with hd2; subst hd1; subst hd2
  obtain ⟨t1, t2, ht1, ht2, b7, b8⟩ := maxW_some e2
  obtain ⟨d1, d2, hd1, hd2, b9, b10⟩ := maxW_some ht1
  injection hd1 with hd1; injection hd2 with hd2; subst hd1; subst hd2
  obtain ⟨d1, d2, hd1, hd2, b11, b12⟩ := maxW_some ht2
  injection hd1 with hd1; injection hd2 with hd2; subst hd1; subst hd2
  have le : ∀ {u v : Int}, u ≤ v → RZ u (D.leastPlace + D.leastPlace) ≤ RZ v (D.leastPlace + D.leastPlace) := fun {u v} h => RZ_le _ (Int.le_refl _) (Int.le_refl _) (by rw [Int.sub_self]; simp; exact h)
  have k1 := mul_end _ _ _ (val y) hx.vlo hx.vhi
  have k2 := mul_end _ _ _ (val p.1) hy.vlo hy.vhi
  have k3 := mul_end _ _ _ (val p.2) hy.vlo hy.vhi
  simp only [Int.mul_comm (val q.1), Int.mul_comm (val q.2), Int.mul_comm (val y)] at k2 k3
  refine ⟨z, hz, ?_, ?_, f1, f2⟩
  · rw [hs]
    rcases k1 with ⟨k, _⟩ | ⟨k, _⟩
    · rcases k2 with ⟨m, _⟩ | ⟨m, _⟩
      · have := le (Int.le_trans m k); omega
      · have := le (Int.le_trans m k); omega
    · rcases k3 with ⟨m, _⟩ | ⟨m, _⟩
      · have := le (Int.le_trans m k); omega
      · have := le (Int.le_trans m k); omega
  · rw [hs]
    rcases k1 with ⟨_, k⟩ | ⟨_, k⟩
    · rcases k3 with ⟨_, m⟩ | ⟨_, m⟩
      · have := le (Int.le_trans k m); omega
      · have := le (Int.le_trans k m); omega
    · rcases k2 with ⟨_, m⟩ | ⟨_, m⟩
      · have := le (Int.le_trans k m); omega
      · have := le (Int.le_trans k m); omega

end Plf
