/- Plain facts on the bits of floats (IEEE 754, double): the order of two words is the order of two integers (signed rungs); rounding to nearest is monotone; sums and products of words. No Go and no memory. -/
import Derived.Laws.FloatBits
namespace Plf
open Ieee

/-- rounding 'n / d' to a whole number, ties to even -/
def rne (n d : Nat) : Nat := n / d + (if d < 2 * (n % d) ∨ (d = 2 * (n % d) ∧ n / d % 2 = 1) then 1 else 0)

theorem rne_mono {n d m e : Nat} (hd : 0 < d) (he : 0 < e) (h : n * e ≤ m * d) : rne n d ≤ rne m e := by
  have e1 := Nat.div_add_mod n d
  have e2 := Nat.div_add_mod m e
  have l1 := Nat.mod_lt n hd
  have l2 := Nat.mod_lt m he
  unfold rne
  generalize hq : n / d = q at *
  generalize hr : n % d = r at *
  generalize hp : m / e = p at *
  generalize hs : m % e = s at *
  have hqp : q ≤ p := by
    rw [← hp, Nat.le_div_iff_mul_le he]
    have : q * d ≤ n := by rw [← hq]; exact Nat.div_mul_le_self n d
    have h2 : q * e * d ≤ m * d := Nat.le_trans (by rw [Nat.mul_right_comm]; exact Nat.mul_le_mul_right e this) h
    exact Nat.le_of_mul_le_mul_right h2 hd
  by_cases hlt : q < p
  · split <;> split <;> omega
  · obtain rfl : q = p := by omega
    -- the rests stand as r/d <= s/e
    have h3 : r * e ≤ s * d := by
      have h4 : (d * q + r) * e ≤ (e * q + s) * d := by rw [e1, e2]; exact h
      have h5 : d * q * e = e * q * d := by rw [Nat.mul_right_comm, Nat.mul_comm d e, Nat.mul_right_comm]
      rw [Nat.add_mul, Nat.add_mul, h5] at h4
      omega
    by_cases c1 : d < 2 * r
    · have c2 : e < 2 * s := by
        have a1 : d * e < 2 * r * e := Nat.mul_lt_mul_of_pos_right c1 he
        have a2 : 2 * r * e ≤ 2 * s * d := by rw [Nat.mul_assoc, Nat.mul_assoc]; omega
        have a3 : e * d < 2 * s * d := by rw [Nat.mul_comm e d]; omega
        exact Nat.lt_of_mul_lt_mul_right a3
      rw [if_pos (Or.inl c1), if_pos (Or.inl c2)]
      omega
    · by_cases c3 : d = 2 * r ∧ q % 2 = 1
      · have c2 : e ≤ 2 * s := by
          have a2 : 2 * r * e ≤ 2 * s * d := by rw [Nat.mul_assoc, Nat.mul_assoc]; omega
          have a3 : e * d ≤ 2 * s * d := by rw [Nat.mul_comm e d]; rw [← c3.1] at a2; omega
          exact Nat.le_of_mul_le_mul_right a3 hd
        by_cases c4 : e < 2 * s
        · rw [if_pos (Or.inr c3), if_pos (Or.inl c4)]; omega
        · rw [if_pos (Or.inr c3), if_pos (Or.inr ⟨by omega, c3.2⟩)]; omega
      · rw [if_neg (by rintro (h | h); exact c1 h; exact c3 h)]
        omega

theorem rne_one (n : Nat) : rne n 1 = n := by
  unfold rne
  simp [Nat.mod_one]

/-- 'cut' to the nearest is 'rne' of 'n / 2 ^ drop' -/
theorem cut_rne (neg : Bool) (n drop : Nat) : Toward.even.cut neg n drop = rne n (2 ^ drop) := by
  have key : ∀ g, (n / g + (decide (g < 2 * (n % g)) || (g == 2 * (n % g) && n / g % 2 == 1)).toNat) = rne n g := by
    intro g
    unfold rne
    congr 1
    by_cases h : g < 2 * (n % g) ∨ (g = 2 * (n % g) ∧ n / g % 2 = 1)
    · rw [if_pos h]
      have : (decide (g < 2 * (n % g)) || (g == 2 * (n % g) && n / g % 2 == 1)) = true := by simpa using h
      rw [this]; rfl
    · rw [if_neg h]
      have : (decide (g < 2 * (n % g)) || (g == 2 * (n % g) && n / g % 2 == 1)) = false := by
        rw [Bool.eq_false_iff]; intro hh; exact h (by simpa using hh)
      rw [this]; rfl
  unfold Toward.cut
  simp only [Nat.one_shiftLeft]
  rw [key]
  by_cases h : drop ≤ n.log2 + 2
  · rw [Nat.min_eq_left h]
  · rw [Nat.min_eq_right (by omega)]
    -- both are nought
    have hn : n < 2 ^ (n.log2 + 1) := Nat.lt_log2_self
    have z : ∀ k, n.log2 + 2 ≤ k → rne n (2 ^ k) = 0 := by
      intro k hk
      have h2 : 2 ^ (n.log2 + 2) ≤ 2 ^ k := Nat.pow_le_pow_right (by omega) hk
      have h3 : 2 ^ (n.log2 + 2) = 2 * 2 ^ (n.log2 + 1) := by rw [Nat.pow_succ]; omega
      unfold rne
      rw [Nat.div_eq_of_lt (by omega), Nat.mod_eq_of_lt (by omega), if_neg (by omega)]
    rw [z _ (Nat.le_refl _), z _ (by omega)]

theorem rne_eq {n d m e : Nat} (hd : 0 < d) (he : 0 < e) (h : n * e = m * d) : rne n d = rne m e :=
  Nat.le_antisymm (rne_mono hd he (Nat.le_of_eq h)) (rne_mono he hd (Nat.le_of_eq h.symm))

section
variable (f : Format)

/-- the place of the last digit that is kept -/
def lastOf (mag : Nat) (place : Int) : Int := max (place + mag.log2 - f.fractionBits) f.leastPlace

def keptOf (mag : Nat) (place : Int) (last : Int) : Nat := rne (mag * 2 ^ (place - last).toNat) (2 ^ (last - place).toNat)

/-- the rung of 'mag * 2 ^ place', rounded -/
def rungOf (mag : Nat) (place : Int) : Nat :=
  if mag = 0 then 0 else min ((lastOf f mag place - f.leastPlace).toNat * f.binade + keptOf mag place (lastOf f mag place)) f.infRung

theorem nearest_eq (neg : Bool) (mag : Nat) (place : Int) : f.nearest neg mag place = f.word neg (rungOf f mag place) := by
  unfold Format.nearest rungOf keptOf lastOf
  by_cases h : mag = 0
  · rw [if_pos h, if_pos h]
  · rw [if_neg h, if_neg h]
    simp only [cut_rne, Nat.shiftLeft_eq]

theorem two_pos (n : Nat) : 0 < 2 ^ n := Nat.two_pow_pos n

theorem log2_shift {m : Nat} (h : m ≠ 0) (a : Nat) : (m * 2 ^ a).log2 = m.log2 + a := by
  have h1 := Nat.log2_self_le h
  have h2 := Nat.lt_log2_self (n := m)
  have h0 : m * 2 ^ a ≠ 0 := Nat.mul_ne_zero h (Nat.ne_of_gt (two_pos a))
  apply (Nat.log2_eq_iff h0).2
  refine ⟨?_, ?_⟩
  · rw [Nat.pow_add]; exact Nat.mul_le_mul_right _ h1
  · rw [show m.log2 + a + 1 = (m.log2 + 1) + a by omega, Nat.pow_add]; exact Nat.mul_lt_mul_of_pos_right h2 (two_pos a)

/-- the same number at a lower place -/
theorem rungOf_shift (m : Nat) (c : Int) (a : Nat) : rungOf f (m * 2 ^ a) c = rungOf f m (c + a) := by
  by_cases h : m = 0
  · subst h; simp [rungOf]
  · have h0 : m * 2 ^ a ≠ 0 := Nat.mul_ne_zero h (Nat.ne_of_gt (two_pos a))
    have hl : lastOf f (m * 2 ^ a) c = lastOf f m (c + a) := by
      unfold lastOf; rw [log2_shift h]; congr 1; omega
    unfold rungOf
    rw [if_neg h, if_neg h0, hl]
    congr 2
    generalize lastOf f m (c + a) = L
    unfold keptOf
    apply rne_eq (two_pos _) (two_pos _)
    rw [Nat.mul_assoc, Nat.mul_assoc, Nat.mul_assoc, ← Nat.pow_add, ← Nat.pow_add, ← Nat.pow_add]
    congr 2
    omega

theorem keptOf_mono {m n : Nat} (c L : Int) (h : m ≤ n) : keptOf m c L ≤ keptOf n c L :=
  rne_mono (two_pos _) (two_pos _) (Nat.mul_le_mul_right _ (Nat.mul_le_mul_right _ h))

theorem log2_mono {m n : Nat} (hm : m ≠ 0) (h : m ≤ n) : m.log2 ≤ n.log2 := by
  have hn : n ≠ 0 := by omega
  rw [Nat.le_log2 hn]
  exact Nat.le_trans (Nat.log2_self_le hm) h

theorem keptOf_le (m : Nat) (c : Int) : keptOf m c (lastOf f m c) ≤ 2 ^ (f.fractionBits + 1) := by
  have hL : c + m.log2 - f.fractionBits ≤ lastOf f m c := by unfold lastOf; omega
  generalize lastOf f m c = L at hL
  unfold keptOf
  rw [← rne_one (2 ^ (f.fractionBits + 1))]
  apply rne_mono (two_pos _) Nat.one_pos
  rw [Nat.mul_one]
  have h2 := Nat.lt_log2_self (n := m)
  rw [← Nat.pow_add]
  by_cases hc : c ≤ L
  · have e1 : (c - L).toNat = 0 := by omega
    rw [e1, Nat.pow_zero, Nat.mul_one]
    exact Nat.le_of_lt (Nat.lt_of_lt_of_le h2 (Nat.pow_le_pow_right (by omega) (by omega)))
  · have e1 : (L - c).toNat = 0 := by omega
    rw [e1, Nat.add_zero]
    have h3 : m * 2 ^ (c - L).toNat < 2 ^ (m.log2 + 1) * 2 ^ (c - L).toNat := Nat.mul_lt_mul_of_pos_right h2 (two_pos _)
    rw [← Nat.pow_add] at h3
    exact Nat.le_of_lt (Nat.lt_of_lt_of_le h3 (Nat.pow_le_pow_right (by omega) (by omega)))

theorem keptOf_ge {m : Nat} (hm : m ≠ 0) (c : Int) (hL : f.leastPlace < lastOf f m c) : 2 ^ f.fractionBits ≤ keptOf m c (lastOf f m c) := by
  have hL : lastOf f m c = c + m.log2 - f.fractionBits := by unfold lastOf at *; omega
  generalize lastOf f m c = L at hL
  unfold keptOf
  rw [← rne_one (2 ^ f.fractionBits)]
  apply rne_mono Nat.one_pos (two_pos _)
  rw [Nat.mul_one]
  have h2 := Nat.log2_self_le hm
  rw [← Nat.pow_add]
  by_cases hc : c ≤ L
  · have e1 : (c - L).toNat = 0 := by omega
    rw [e1, Nat.pow_zero, Nat.mul_one]
    exact Nat.le_trans (Nat.pow_le_pow_right (by omega) (by omega)) h2
  · have e1 : (L - c).toNat = 0 := by omega
    rw [e1, Nat.add_zero]
    have h3 : 2 ^ m.log2 * 2 ^ (c - L).toNat ≤ m * 2 ^ (c - L).toNat := Nat.mul_le_mul_right _ h2
    rw [← Nat.pow_add] at h3
    exact Nat.le_trans (Nat.pow_le_pow_right (by omega) (by omega)) h3

/-- ROUNDING IS MONOTONE (at one place) -/
theorem rungOf_mono {m n : Nat} (c : Int) (h : m ≤ n) : rungOf f m c ≤ rungOf f n c := by
  unfold rungOf
  by_cases hm : m = 0
  · rw [if_pos hm]; exact Nat.zero_le _
  have hn : n ≠ 0 := by omega
  rw [if_neg hm, if_neg hn]
  have hl := log2_mono hm h
  have hL : lastOf f m c ≤ lastOf f n c := by unfold lastOf; omega
  have hle : f.leastPlace ≤ lastOf f m c := by unfold lastOf; omega
  suffices (lastOf f m c - f.leastPlace).toNat * f.binade + keptOf m c (lastOf f m c) ≤ (lastOf f n c - f.leastPlace).toNat * f.binade + keptOf n c (lastOf f n c) by omega
  by_cases e : lastOf f m c = lastOf f n c
  · rw [e]; exact Nat.add_le_add_left (keptOf_mono c _ h) _
  · have k1 := keptOf_le f m c
    have k2 := keptOf_ge f hn c (by omega)
    have hb : f.binade = 2 ^ f.fractionBits := rfl
    rw [Nat.pow_succ, ← hb] at k1
    rw [← hb] at k2
    have h3 : (lastOf f m c - f.leastPlace).toNat + 1 ≤ (lastOf f n c - f.leastPlace).toNat := by omega
    have h4 := Nat.mul_le_mul_right f.binade h3
    rw [Nat.add_mul, Nat.one_mul] at h4
    omega

/-- ROUNDING IS MONOTONE: 'm * 2 ^ i' at most 'n * 2 ^ j' -/
theorem rungOf_le {m n : Nat} {i j : Int} (c : Int) (hi : c ≤ i) (hj : c ≤ j) (h : m * 2 ^ (i - c).toNat ≤ n * 2 ^ (j - c).toNat) : rungOf f m i ≤ rungOf f n j := by
  have e1 := rungOf_shift f m c (i - c).toNat
  have e2 := rungOf_shift f n c (j - c).toNat
  rw [show c + ((i - c).toNat : Int) = i by omega] at e1
  rw [show c + ((j - c).toNat : Int) = j by omega] at e2
  rw [← e1, ← e2]
  exact rungOf_mono f c h
end
end Plf
