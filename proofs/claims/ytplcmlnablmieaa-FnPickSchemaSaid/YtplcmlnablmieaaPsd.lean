/- Intervals of floats: quotients: a float at most (at least) the exact quotient is at most (at least) the rounded one. -/
import Derived.Test.YtplcmlnablmieaaPsi
set_option linter.unusedVariables false
set_option linter.unusedSimpArgs false
namespace Plf
open Ieee

/-- the quotient's digits, with one more where anything is left over -/
def quo (m n : Nat) : Nat := 2 * ((m <<< (54 + n.log2 - m.log2)) / n) + ((m <<< (54 + n.log2 - m.log2)) % n != 0).toNat
theorem quo_big {m n : Nat} (hm : m ≠ 0) (hn : n ≠ 0) (hml : m.log2 ≤ 52) : 9007199254740992 * n ≤ m * 2 ^ (54 + n.log2 - m.log2) := by
  have h1 : 2 ^ m.log2 ≤ m := Nat.log2_self_le hm
  have h2 : n < 2 ^ (n.log2 + 1) := Nat.lt_log2_self
  have e : 2 ^ m.log2 * 2 ^ (54 + n.log2 - m.log2) = 9007199254740992 * 2 ^ (n.log2 + 1) := by
    rw [← Nat.pow_add, show (9007199254740992 : Nat) = 2 ^ 53 by decide, ← Nat.pow_add]
    congr 1
    omega
  have h3 := Nat.mul_le_mul_right (2 ^ (54 + n.log2 - m.log2)) h1
  have h4 := Nat.mul_le_mul_left 9007199254740992 (Nat.le_of_lt h2)
  omega
theorem quo_ge {m n r : Nat} (hm : m ≠ 0) (hn : n ≠ 0) (hml : m.log2 ≤ 52) (hr : r < 9007199254740992) (p q : Nat) (h : r * 2 ^ p * n ≤ m * 2 ^ q) :
    r * 2 ^ (p + (54 + n.log2 - m.log2) + 1) ≤ quo m n * 2 ^ q := by
  have hb := quo_big hm hn hml
  have hs : m <<< (54 + n.log2 - m.log2) = m * 2 ^ (54 + n.log2 - m.log2) := Nat.shiftLeft_eq _ _
  unfold quo
  rw [hs]
  generalize 54 + n.log2 - m.log2 = e at hb ⊢
  have hn0 : 0 < n := Nat.pos_of_ne_zero hn
  have hQ : 9007199254740992 ≤ m * 2 ^ e / n := (Nat.le_div_iff_mul_le hn0).2 hb
  rcases Nat.le_total q (p + e) with hc | hc
  · obtain ⟨k, hk⟩ : ∃ k, p + e = q + k := ⟨p + e - q, by omega⟩
    have h1 : r * 2 ^ k * n * 2 ^ q ≤ m * 2 ^ e * 2 ^ q := by
      have h2 := Nat.mul_le_mul_right (2 ^ e) h
      have e1 : r * 2 ^ p * n * 2 ^ e = r * 2 ^ k * n * 2 ^ q := by
        have : 2 ^ p * 2 ^ e = 2 ^ k * 2 ^ q := by rw [← Nat.pow_add, ← Nat.pow_add]; congr 1; omega
        calc r * 2 ^ p * n * 2 ^ e = r * n * (2 ^ p * 2 ^ e) := by rw [Nat.mul_right_comm r, Nat.mul_assoc]
          _ = r * n * (2 ^ k * 2 ^ q) := by rw [this]
          _ = r * 2 ^ k * n * 2 ^ q := by rw [Nat.mul_right_comm r (2 ^ k), Nat.mul_assoc (r * n)]
      have e2 : m * 2 ^ q * 2 ^ e = m * 2 ^ e * 2 ^ q := by rw [Nat.mul_right_comm]
      rw [e1, e2] at h2
      exact h2
    have h2 : r * 2 ^ k * n ≤ m * 2 ^ e := Nat.le_of_mul_le_mul_right h1 (Nat.two_pow_pos q)
    have h3 : r * 2 ^ k ≤ m * 2 ^ e / n := (Nat.le_div_iff_mul_le hn0).2 h2
    have e3 : r * 2 ^ (p + e + 1) = 2 * (r * 2 ^ k) * 2 ^ q := by
      rw [hk, Nat.pow_succ, Nat.pow_add]
      simp only [Nat.mul_assoc, Nat.mul_comm, Nat.mul_left_comm]
    rw [e3]
    refine Nat.mul_le_mul_right _ ?_
    omega
  · have h1 : r * 2 ^ (p + e + 1) ≤ r * 2 * 2 ^ q := by
      rw [Nat.pow_succ, Nat.mul_assoc r 2, Nat.mul_comm 2]
      exact Nat.mul_le_mul_left _ (Nat.mul_le_mul_right _ (Nat.pow_le_pow_right (by decide) hc))
    refine Nat.le_trans h1 (Nat.mul_le_mul_right _ ?_)
    omega
theorem quo_le {m n r : Nat} (hm : m ≠ 0) (hn : n ≠ 0) (hml : m.log2 ≤ 52) (hr : r < 9007199254740992) (p q : Nat) (h : m * 2 ^ q ≤ r * 2 ^ p * n) :
    quo m n * 2 ^ q ≤ r * 2 ^ (p + (54 + n.log2 - m.log2) + 1) := by
  have hb := quo_big hm hn hml
  have hs : m <<< (54 + n.log2 - m.log2) = m * 2 ^ (54 + n.log2 - m.log2) := Nat.shiftLeft_eq _ _
  unfold quo
  rw [hs]
  generalize 54 + n.log2 - m.log2 = e at hb ⊢
  have hn0 : 0 < n := Nat.pos_of_ne_zero hn
  have h2 := Nat.mul_le_mul_right (2 ^ e) h
  have e2 : m * 2 ^ q * 2 ^ e = m * 2 ^ e * 2 ^ q := by rw [Nat.mul_right_comm]
  have e0 : r * 2 ^ p * n * 2 ^ e = r * n * 2 ^ (p + e) := by
    rw [Nat.pow_add, Nat.mul_right_comm r, Nat.mul_assoc]
  rw [e2, e0] at h2
  rcases Nat.le_total q (p + e) with hc | hc
  · obtain ⟨k, hk⟩ : ∃ k, p + e = q + k := ⟨p + e - q, by omega⟩
    have h3 : m * 2 ^ e ≤ r * 2 ^ k * n := by
      have e1 : r * n * 2 ^ (p + e) = r * 2 ^ k * n * 2 ^ q := by
        rw [hk, Nat.pow_add, Nat.mul_right_comm r (2 ^ k), Nat.mul_comm (2 ^ q), Nat.mul_assoc (r * n)]
      rw [e1] at h2
      exact Nat.le_of_mul_le_mul_right h2 (Nat.two_pow_pos q)
    have e3 : r * 2 ^ (p + e + 1) = 2 * (r * 2 ^ k) * 2 ^ q := by
      rw [hk, Nat.pow_succ, Nat.pow_add]
      simp only [Nat.mul_assoc, Nat.mul_comm, Nat.mul_left_comm]
    rw [e3]
    refine Nat.mul_le_mul_right _ ?_
    have hd := Nat.div_add_mod (m * 2 ^ e) n
    by_cases h0 : m * 2 ^ e % n = 0
    · rw [h0]
      have : m * 2 ^ e / n ≤ r * 2 ^ k := by
        refine Nat.le_of_mul_le_mul_right (c := n) ?_ hn0
        rw [Nat.mul_comm (m * 2 ^ e / n)]
        omega
      have e4 : ((0 : Nat) != 0).toNat = 0 := rfl
      rw [e4]
      omega
    · have hlt : m * 2 ^ e / n < r * 2 ^ k := by
        refine Nat.lt_of_mul_lt_mul_right (a := n) ?_
        rw [Nat.mul_comm (m * 2 ^ e / n)]
        omega
      have e4 : (m * 2 ^ e % n != 0).toNat ≤ 1 := by cases (m * 2 ^ e % n != 0) <;> decide
      omega
  · exfalso
    have h3 : r * n * 2 ^ (p + e) ≤ r * n * 2 ^ q := Nat.mul_le_mul_left _ (Nat.pow_le_pow_right (by decide) hc)
    have h4 : m * 2 ^ e ≤ r * n := Nat.le_of_mul_le_mul_right (Nat.le_trans h2 h3) (Nat.two_pow_pos q)
    have h5 : 9007199254740992 * n ≤ r * n := Nat.le_trans hb h4
    have h6 := Nat.le_of_mul_le_mul_right h5 hn0
    omega
theorem rm_lt {r : Nat} : rm D r < 9007199254740992 := by
  unfold rm
  have h := Nat.mod_lt r (binade_pos D)
  rw [dbl_bin] at h ⊢
  split <;> omega
theorem rm_log {r : Nat} : (rm D r).log2 ≤ 52 := by
  by_cases h : rm D r = 0
  · rw [h]; decide
  · have := (Nat.log2_lt h (k := 53)).2 rm_lt
    omega
theorem rm_zero {r : Nat} : rm D r = 0 ↔ r = 0 := by
  unfold rm
  rw [dbl_bin]
  split <;> omega
theorem rp_nat (r : Nat) : rp D r = (((rp D r - D.leastPlace).toNat : Nat) : Int) - 1074 := by
  have := rp_ge D r
  rw [least] at this ⊢
  omega
/-- the units of 1 -/
def bigOf (n : Nat) : Nat := 2 ^ n
theorem bigOf_pos (n : Nat) : 0 < bigOf n := Nat.two_pow_pos _
theorem bigOf_eq (n m a : Nat) : m * 2 ^ a * bigOf n = m * 2 ^ (a + n) := by
  unfold bigOf
  rw [Nat.mul_assoc, ← Nat.pow_add]
theorem bigOf_add (a b : Nat) : bigOf (a + b) = 2 ^ a * bigOf b := Nat.pow_add _ _ _
def big : Nat := bigOf 1074
theorem big_split : big = 2 ^ 52 * bigOf 1022 := bigOf_add 52 1022
theorem big_pos : 0 < big := bigOf_pos 1074
theorem big_eq (m a : Nat) : m * 2 ^ a * big = m * 2 ^ (a + 1074) := bigOf_eq 1074 m a
theorem mag_quo {x y r : Nat} (hx : x ≠ 0) (hy : y ≠ 0) (hr : r < D.infRung) (e : Int) (he : e = rp D x - rp D y - (54 + (rm D y).log2 - (rm D x).log2 : Nat) - 1) :
    (mg D r * mg D y ≤ mg D x * big → r ≤ rungOf D (quo (rm D x) (rm D y)) e) ∧ (mg D x * big ≤ mg D r * mg D y → rungOf D (quo (rm D x) (rm D y)) e ≤ r) := by
  have hx0 : rm D x ≠ 0 := fun h => hx (rm_zero.1 h)
  have hy0 : rm D y ≠ 0 := fun h => hy (rm_zero.1 h)
  have ea := rp_nat x
  have eb := rp_nat y
  have ec := rp_nat r
  unfold mg
  generalize (rp D x - D.leastPlace).toNat = a at ea ⊢
  generalize (rp D y - D.leastPlace).toNat = b at eb ⊢
  generalize (rp D r - D.leastPlace).toNat = c at ec ⊢
  obtain ⟨k, hk⟩ : ∃ k, k = 54 + (rm D y).log2 - (rm D x).log2 := ⟨_, rfl⟩
  rw [← hk] at he
  have hs := rungOf_self hr
  have g1 : rm D r * 2 ^ c * (rm D y * 2 ^ b) = rm D r * 2 ^ (c + b) * rm D y := by
    rw [Nat.pow_add]; simp only [Nat.mul_assoc, Nat.mul_comm, Nat.mul_left_comm]
  have g2 := big_eq (rm D x) a
  rw [g1, g2]
  have b1 : -((b + k + 1 + 1074 : Nat) : Int) ≤ e := by rw [he, ea, eb]; omega
  have b2 : -((b + k + 1 + 1074 : Nat) : Int) ≤ rp D r := by rw [ec]; omega
  have t1 : (e - -((b + k + 1 + 1074 : Nat) : Int)).toNat = a + 1074 := by rw [he, ea, eb]; omega
  have t2 : (rp D r - -((b + k + 1 + 1074 : Nat) : Int)).toNat = c + b + k + 1 := by rw [ec]; omega
  constructor
  · intro h
    have := quo_ge hx0 hy0 rm_log rm_lt (c + b) (a + 1074) h
    rw [← hk] at this
    have h2 := rungOf_le D _ b2 b1 (by rw [t1, t2]; exact this)
    rw [hs] at h2
    exact h2
  · intro h
    have := quo_le hx0 hy0 rm_log rm_lt (c + b) (a + 1074) h
    rw [← hk] at this
    have h2 := rungOf_le D _ b1 b2 (by rw [t1, t2]; exact this)
    rw [hs] at h2
    exact h2
/-- a quotient by a positive number, between two floats that bound the exact one -/
theorem div_num {x y r t : Nat} (hx : fin x = true) (hy : fin y = true) (hp : 0 < val y) (hr : fin r = true) (ht : fin t = true) (h1 : val r * val y ≤ val x * (big : Int)) (h2 : val x * (big : Int) ≤ val t * val y) :
    ∃ z, D.div x y = some z ∧ sv D r ≤ sv D z ∧ sv D z ≤ sv D t := by
  have hx' := fin_iff.1 hx
  have hy' := fin_iff.1 hy
  have hr' := fin_iff.1 hr
  have ht' := fin_iff.1 ht
  have hny : isNeg D y = false := by
    cases e : isNeg D y
    · rfl
    · unfold val at hp; rw [e] at hp; simp only [if_true] at hp; omega
  have hvy : val y = (mg D (rung D y) : Int) := by unfold val; rw [hny]; rfl
  have hy0 : rung D y ≠ 0 := by
    intro e
    rw [hvy, e, mg_zero] at hp
    exact absurd hp (by decide)
  have hny0 : rm D (rung D y) ≠ 0 := fun h => hy0 (rm_zero.1 h)
  unfold Format.div
  rw [read_num D dbl hx', read_num D dbl hy']
  simp only [Datum.quotient, if_neg hny0, Option.map_some]
  refine ⟨_, rfl, ?_⟩
  have hfb : D.fractionBits + 2 = 54 := rfl
  rw [hny, Bool.xor_false, hfb]
  have hq : 2 * (rm D (rung D x) <<< (54 + (rm D (rung D y)).log2 - (rm D (rung D x)).log2) / rm D (rung D y)) + (rm D (rung D x) <<< (54 + (rm D (rung D y)).log2 - (rm D (rung D x)).log2) % rm D (rung D y) != 0).toNat = quo (rm D (rung D x)) (rm D (rung D y)) := rfl
  rw [hq]
  obtain ⟨e, he⟩ : ∃ e : Int, e = rp D (rung D x) - rp D (rung D y) - (54 + (rm D (rung D y)).log2 - (rm D (rung D x)).log2 : Nat) - 1 := ⟨_, rfl⟩
  rw [← he]
  have hw : D.write (.number (isNeg D x) (quo (rm D (rung D x)) (rm D (rung D y))) e) = D.word (isNeg D x) (rungOf D (quo (rm D (rung D x)) (rm D (rung D y))) e) := by show D.nearest _ _ _ = _; rw [nearest_eq]
  rw [hw, sv_word D _ (rungOf_lt D _ _)]
  rw [hvy] at h1 h2 hp
  have hp' : 0 < mg D (rung D y) := by omega
  by_cases hx0 : rung D x = 0
  · have hz : quo (rm D (rung D x)) (rm D (rung D y)) = 0 := by
      rw [hx0]
      have : rm D 0 = 0 := by decide
      rw [this]
      unfold quo
      simp
    rw [hz, rungOf_zero]
    have hvx : val x = 0 := by unfold val; rw [hx0, mg_zero]; simp
    rw [hvx, Int.zero_mul] at h1 h2
    have k1 : val r ≤ 0 := by
      rcases Int.lt_or_le 0 (val r) with h | h
      · have := Int.mul_pos h hp; omega
      · exact h
    have k2 : 0 ≤ val t := by
      rcases Int.lt_or_le (val t) 0 with h | h
      · have := Int.mul_neg_of_neg_of_pos h hp; omega
      · exact h
    have z0 : val 0 = 0 := by decide
    have s0 : sv D 0 = 0 := by decide
    have j1 := val_le (x := r) (y := 0)
    have j2 := val_le (x := 0) (y := t)
    rw [z0, s0] at j1 j2
    have j3 := j1.1 k1
    have j4 := j2.1 k2
    cases isNeg D x <;> simp only [Bool.false_eq_true, if_false, if_true] <;> omega
  · have M := fun (u : Nat) (hu : u < D.infRung) => mag_quo hx0 hy0 hu e he
    have hg := fun u : Nat => mg_le u 0
    obtain ⟨T, hT⟩ : ∃ T, T = rungOf D (quo (rm D (rung D x)) (rm D (rung D y))) e := ⟨_, rfl⟩
    rw [← hT]
    obtain ⟨Y, hY⟩ : ∃ Y, Y = mg D (rung D y) := ⟨_, rfl⟩
    rw [← hY] at h1 h2 hp hp'
    have M1 : mg D (rung D r) * Y ≤ mg D (rung D x) * big → rung D r ≤ T := by rw [hT, hY]; exact (M _ hr').1
    have M2 : mg D (rung D x) * big ≤ mg D (rung D r) * Y → T ≤ rung D r := by rw [hT, hY]; exact (M _ hr').2
    have M3 : mg D (rung D t) * Y ≤ mg D (rung D x) * big → rung D t ≤ T := by rw [hT, hY]; exact (M _ ht').1
    have M4 : mg D (rung D x) * big ≤ mg D (rung D t) * Y → T ≤ rung D t := by rw [hT, hY]; exact (M _ ht').2
    have hxm : 0 < mg D (rung D x) := by have := hg (rung D x); rw [mg_zero] at this; omega
    clear M hT hg hq hw he hny0 hny hvy
    have nn : ∀ a b : Nat, (0 : Int) ≤ (a : Int) * (b : Int) := fun a b => by exact_mod_cast Nat.zero_le (a * b)
    have P0 : (0 : Int) < (mg D (rung D x) : Int) * (big : Int) := Int.mul_pos (by omega) (by have := big_pos; omega)
    have c1 : ∀ a b c : Nat, ((a : Int) * (b : Int) ≤ (c : Int) * (big : Int) ↔ a * b ≤ c * big) := fun a b c => by
      constructor
      · intro h; exact_mod_cast h
      · intro h; exact_mod_cast h
    have c2 : ∀ a b c : Nat, ((c : Int) * (big : Int) ≤ (a : Int) * (b : Int) ↔ c * big ≤ a * b) := fun a b c => by
      constructor
      · intro h; exact_mod_cast h
      · intro h; exact_mod_cast h
    have n1 := nn (mg D (rung D r)) Y
    have n2 := nn (mg D (rung D t)) Y
    constructor
    · unfold sv
      unfold val at h1
      cases hnx : isNeg D x <;> cases hnr : isNeg D r <;> rw [hnx, hnr] at h1 <;> simp only [Bool.false_eq_true, if_false, if_true, Int.neg_mul] at h1 ⊢
      · have := M1 ((c1 _ _ _).1 h1); omega
      · omega
      · exfalso; omega
      · have := M2 ((c2 _ _ _).1 (by omega)); omega
    · unfold sv
      unfold val at h2
      cases hnx : isNeg D x <;> cases hnr : isNeg D t <;> rw [hnx, hnr] at h2 <;> simp only [Bool.false_eq_true, if_false, if_true, Int.neg_mul] at h2 ⊢
      · have := M4 ((c2 _ _ _).1 h2); omega
      · exfalso; omega
      · omega
      · have := M3 ((c1 _ _ _).1 (by omega)); omega

/-- one rung down (up) -/
def down (x : Nat) : Nat := if isNeg D x then x + 1 else if rung D x = 0 then 9223372036854775809 else x - 1
def up (x : Nat) : Nat := if isNeg D x then (if rung D x = 0 then 1 else x - 1) else x + 1
/-- a quotient of intervals, the divisor positive; the ends are checked -/
def idiv (p q : I) : Option I :=
  match D.div p.1 (if 0 ≤ val p.1 then q.2 else q.1), D.div p.2 (if 0 ≤ val p.2 then q.1 else q.2) with
  | some a, some b =>
    if fin (down a) && fin (up b) && decide (0 < val q.1) && decide (val (down a) * val q.1 ≤ val p.1 * (big : Int)) && decide (val (down a) * val q.2 ≤ val p.1 * (big : Int)) && decide (val p.2 * (big : Int) ≤ val (up b) * val q.1) && decide (val p.2 * (big : Int) ≤ val (up b) * val q.2) then some (down a, up b) else none
  | _, _ => none
theorem idiv_in {p q r : I} {x y : Nat} (h : idiv p q = some r) (hx : In p x) (hy : In q y) : ∃ z, D.div x y = some z ∧ In r z := by
  unfold idiv at h
  split at h
  · rename_i a b _ _
    split at h
    · rename_i hc
      injection h with h
      subst h
      simp only [Bool.and_eq_true, decide_eq_true_eq] at hc
      obtain ⟨⟨⟨⟨⟨⟨f1, f2⟩, hpos⟩, c1⟩, c2⟩, c3⟩, c4⟩ := hc
      have k1 := hy.vlo; have k2 := hy.vhi; have k3 := hx.vlo; have k4 := hx.vhi
      have P : (0 : Int) < (big : Int) := by have := big_pos; omega
      have m1 := mul_end _ _ _ (val (down a)) k1 k2
      have m2 := mul_end _ _ _ (val (up b)) k1 k2
      simp only [Int.mul_comm (val q.1), Int.mul_comm (val q.2), Int.mul_comm (val y)] at m1 m2
      have m3 := Int.mul_le_mul_of_nonneg_right k3 (Int.le_of_lt P)
      have m4 := Int.mul_le_mul_of_nonneg_right k4 (Int.le_of_lt P)
      obtain ⟨z, hz, h1, h2⟩ := div_num hx.fin hy.fin (by omega) f1 f2 (by rcases m1 with ⟨_, m⟩ | ⟨_, m⟩ <;> omega) (by rcases m2 with ⟨m, _⟩ | ⟨m, _⟩ <;> omega)
      exact ⟨z, hz, h1, h2, f1, f2⟩
    · cases h
  · cases h

end Plf
