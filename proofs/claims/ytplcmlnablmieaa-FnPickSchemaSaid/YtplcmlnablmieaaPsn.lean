/- Floats: the logarithm of the logarithm of a factor between two growth factors, schema by schema. -/
import Derived.Test.YtplcmlnablmieaaPsm
set_option linter.unusedVariables false
set_option linter.unusedSimpArgs false
namespace Plf
open Ieee

theorem hHALF : HALF = 4602678819172646912 := rfl
/-- the schema that the program picks -/
def Sch (x : Nat) (n : Int) : Prop :=
  ∃ y, Lg x y ∧ ((y % 9223372036854775808 = 0 ∧ n = 8) ∨ (Norm y ∧ ∃ z, Lg y z ∧ fin z = true ∧
    ((n = 8 ∧ val z < -7 * (big : Int)) ∨ (n = -4 ∧ 4 * (big : Int) ≤ val z) ∨ (-3 ≤ n ∧ n ≤ 7 ∧ -n * (big : Int) ≤ val z ∧ val z < (-n + 1) * (big : Int)))))
theorem lies_sm {lo hi φ : Nat} (h : (φ ≤ 4604544271217802189 ∧ Lies lo hi φ true) ∨ (4604544271217802189 < φ ∧ Lies lo hi φ false)) (h' : φ < ONE := by exact frac_lt _) : Lies lo hi φ (smB φ) := by
  rcases h with ⟨h1, h2⟩ | ⟨h1, h2⟩
  · rw [smB_le h1]; exact h2
  · rw [smB_gt h1 h']; exact h2
theorem nat_of_sv {y : Nat} (h : y < 18446744073709551616) (hp : 0 < sv D y) : y < 9223372036854775808 ∧ sv D y = y := by
  have hl : y < 9223372036854775808 := by
    rcases Nat.lt_or_ge y 9223372036854775808 with h1 | h1
    · exact h1
    · exfalso
      have e : isNeg D y = true := by
        unfold isNeg
        rw [dbl_sw]
        have : y / 9223372036854775808 = 1 := by omega
        rw [this]; rfl
      unfold sv at hp
      rw [e] at hp
      simp only [if_true] at hp
      omega
  exact ⟨hl, sv_nat hl⟩
theorem big_pos' : (0 : Int) < (big : Int) := by have := big_pos; omega
theorem mul_big {a b : Int} (h : a ≤ b) : a * (big : Int) ≤ b * (big : Int) := Int.mul_le_mul_of_nonneg_right h (Int.le_of_lt big_pos')
abbrev TW : Nat := 13676161994314988987
abbrev CW : Nat := 13696745711140458060
/-- the logarithm of a number in the binade E, away from its upper end -/
theorem second {E y U : Nat} (hE : 1 ≤ E ∧ E ≤ 2000) (h1 : E * 4503599627370496 ≤ y) (h2 : y < (E + 1) * 4503599627370496) (h3 : y % 4503599627370496 + HALF ≤ 4607182418799476976) (fU : fin U = true) (hU1 : val TW + ((E : Int) - 1022) * (big : Int) ≤ val U) (hU2 : val U < ((E : Int) - 1022) * (big : Int)) :
    ∃ z, Lg y z ∧ fin z = true ∧ ((E : Int) - 1023) * (big : Int) ≤ val z ∧ val z < ((E : Int) - 1022) * (big : Int) ∧ Norm y := by
  have hq : y / 4503599627370496 = E := by omega
  have hN : Norm y := ⟨by omega, by omega⟩
  have he : expo y = (E : Int) - 1022 := by unfold expo; rw [hq]
  have P := big_pos'
  obtain ⟨w1, w2⟩ := whole_fin (n := (E : Int) - 1023) (by omega)
  have e1 : ((E : Int) - 1023) * (big : Int) = ((E : Int) - 1022) * (big : Int) - (big : Int) := by rw [Int.sub_mul, Int.sub_mul]; omega
  by_cases h0 : y % 4503599627370496 = 0
  · refine ⟨wI (expo y - 1), Or.inl ⟨h0, rfl⟩, ?_⟩
    rw [he, show (E : Int) - 1022 - 1 = (E : Int) - 1023 by omega]
    exact ⟨w1, by rw [w2]; exact Int.le_refl _, by rw [w2]; omega, hN⟩
  · obtain ⟨z, v, hz, hs, _, b1, b2, _, h64⟩ := lg_lies hN h0 (lies_sm (segT_lies (φ := frac y) (by unfold frac; rw [hHALF]; omega) h3)) (by decide +kernel) (by decide +kernel)
    rw [he] at hs
    have k1 : val 13830554455654793216 = -(big : Int) := by decide +kernel
    have b2 : v ≤ val TW := b2
    have g1 := ge_of (u := wI ((E : Int) - 1023)) hs w1 (by rw [w2]; omega)
    have g2 := le_of (u := U) hs fU (by omega)
    have fz := fin_of_sv w1 fU g1 g2
    have c1 := val_le.2 g1
    have c2 := val_le.2 g2
    rw [w2] at c1
    exact ⟨z, hz, fz, c1, by omega, hN⟩
/-- the logarithm of a factor from 2^m to 2^(2m), away from its upper end -/
theorem first {m W Y x : Nat} (hN : Norm x) (h1 : (m : Int) + 1 ≤ expo x) (h2 : expo x ≤ 2 * (m : Int)) (h3 : expo x = 2 * (m : Int) → frac x ≤ 4607182418791010209) (fW : fin W = true) (fY : fin Y = true) (hW : val W = (m : Int) * (big : Int)) (hY1 : (2 * (m : Int) - 1) * (big : Int) ≤ val Y) (hY2 : val CW + 2 * (m : Int) * (big : Int) ≤ val Y) (hW0 : 0 < W ∧ W < 9223372036854775808) (hY0 : Y < 9223372036854775808) :
    ∃ y, Lg x y ∧ W ≤ y ∧ y ≤ Y := by
  have P := big_pos'
  have e1 : (expo x - 1) * (big : Int) = expo x * (big : Int) - (big : Int) := by rw [Int.sub_mul, Int.one_mul]
  have m1 : (m : Int) * (big : Int) ≤ (expo x - 1) * (big : Int) := mul_big (by omega)
  have fin0 : ∀ y, sv D W ≤ sv D y → sv D y ≤ sv D Y → y < 18446744073709551616 → W ≤ y ∧ y ≤ Y := fun y g1 g2 h64 => by
    rw [sv_nat hW0.2] at g1
    rw [sv_nat hY0] at g2
    obtain ⟨l63, e⟩ := nat_of_sv h64 (by omega)
    rw [e] at g1 g2
    omega
  have hex : (expo x - 1).natAbs ≤ 4294967296 := by
    have := hN.2
    unfold expo
    omega
  by_cases h0 : x % 4503599627370496 = 0
  · obtain ⟨w1, w2⟩ := whole_fin hex
    refine ⟨wI (expo x - 1), Or.inl ⟨h0, rfl⟩, fin0 _ (val_le.1 (by rw [w2, hW]; exact m1)) (val_le.1 (by rw [w2]; exact Int.le_trans (mul_big (by omega)) hY1)) ?_⟩
    exact write_lt _ _ _
  · have hk0 : val 13830554455654793216 = -(big : Int) := by decide +kernel
    by_cases ht : expo x = 2 * (m : Int)
    · obtain ⟨z, v, hz, hs, _, b1, b2, _, h64⟩ := lg_lies hN h0 (lies_sm (segC_lies (φ := frac x) (by unfold frac; rw [hHALF]; omega) (h3 ht))) (by decide +kernel) (by decide +kernel)
      have b2 : v ≤ val CW := b2
      exact ⟨z, hz, fin0 _ (ge_of hs fW (by rw [hW]; omega)) (le_of hs fY (by rw [ht]; omega)) h64⟩
    · obtain ⟨z, v, hz, hs, _, b1, b2, _, h64⟩ := lg_lies hN h0 (lies_sm (segAll_lies (φ := frac x) (by unfold frac; rw [hHALF]; omega) (by have := frac_lt x; have h1 : ONE = 4607182418800017408 := rfl; omega))) (by decide +kernel) (by decide +kernel)
      have m2 : expo x * (big : Int) ≤ (2 * (m : Int) - 1) * (big : Int) := mul_big (by omega)
      have v0 : val 0 = 0 := by decide
      exact ⟨z, hz, fin0 _ (ge_of hs fW (by rw [hW]; omega)) (le_of hs fY (by omega)) h64⟩
theorem pick_7 {x : Nat} (h1 : 4607206872905173739 ≤ x) (h2 : x ≤ 4607231459780069537) : Sch x 7 := by
  have hf : frac x = x - 4503599627370496 := by unfold frac; rw [hHALF]; omega
  have he : expo x = 1 := by unfold expo; omega
  have hN : Norm x := ⟨by omega, by omega⟩
  obtain ⟨y, v, hy, hs, _, b1, b2, _, h64⟩ := lg_lies hN (by omega) (lies_sm (seg7_lies (φ := frac x) (by rw [hf]; omega) (by rw [hf]; omega))) (by decide +kernel) (by decide +kernel)
  rw [he, Int.one_mul] at hs
  have k1 : val 4575657221408423936 ≤ val 13830484086910615552 + (big : Int) := by decide +kernel
  have k2 : val 13830413718166578625 + (big : Int) ≤ val 4580160821026787264 := by decide +kernel
  have g1 := ge_of (u := 4575657221408423936) hs (by decide +kernel) (by omega)
  have g2 := le_of (u := 4580160821026787264) hs (by decide +kernel) (by omega)
  rw [sv_nat (x := 4575657221408423936) (by decide)] at g1
  rw [sv_nat (x := 4580160821026787264) (by decide)] at g2
  obtain ⟨l63, e⟩ := nat_of_sv h64 (by omega)
  rw [e] at g1 g2
  obtain ⟨z, hz, fz, c1, c2, hNy⟩ := second (y := y) (E := 1016) (U := 13841813454723275750) (by decide) (by omega) (by omega) (by rw [hHALF]; omega) (by decide +kernel) (by decide +kernel) (by decide +kernel)
  exact ⟨y, hy, Or.inr ⟨hNy, z, hz, fz, Or.inr (Or.inr ⟨by decide, by decide, c1, c2⟩)⟩⟩
theorem pick_6 {x : Nat} (h1 : 4607231459789174818 ≤ x) (h2 : x ≤ 4607281034785934349) : Sch x 6 := by
  have hf : frac x = x - 4503599627370496 := by unfold frac; rw [hHALF]; omega
  have he : expo x = 1 := by unfold expo; omega
  have hN : Norm x := ⟨by omega, by omega⟩
  obtain ⟨y, v, hy, hs, _, b1, b2, _, h64⟩ := lg_lies hN (by omega) (lies_sm (seg6_lies (φ := frac x) (by rw [hf]; omega) (by rw [hf]; omega))) (by decide +kernel) (by decide +kernel)
  rw [he, Int.one_mul] at hs
  have k1 : val 4580160821035794432 ≤ val 13830413718166437888 + (big : Int) := by decide +kernel
  have k2 : val 13830272980678364035 + (big : Int) ≤ val 4584664420654157728 := by decide +kernel
  have g1 := ge_of (u := 4580160821035794432) hs (by decide +kernel) (by omega)
  have g2 := le_of (u := 4584664420654157728) hs (by decide +kernel) (by omega)
  rw [sv_nat (x := 4580160821035794432) (by decide)] at g1
  rw [sv_nat (x := 4584664420654157728) (by decide)] at g2
  obtain ⟨l63, e⟩ := nat_of_sv h64 (by omega)
  rw [e] at g1 g2
  obtain ⟨z, hz, fz, c1, c2, hNy⟩ := second (y := y) (E := 1017) (U := 13840687554816433126) (by decide) (by omega) (by omega) (by rw [hHALF]; omega) (by decide +kernel) (by decide +kernel) (by decide +kernel)
  exact ⟨y, hy, Or.inr ⟨hNy, z, hz, fz, Or.inr (Or.inr ⟨by decide, by decide, c1, c2⟩)⟩⟩
theorem pick_5 {x : Nat} (h1 : 4607281034795138780 ≤ x) (h2 : x ≤ 4607381810185356800) : Sch x 5 := by
  have hf : frac x = x - 4503599627370496 := by unfold frac; rw [hHALF]; omega
  have he : expo x = 1 := by unfold expo; omega
  have hN : Norm x := ⟨by omega, by omega⟩
  obtain ⟨y, v, hy, hs, _, b1, b2, _, h64⟩ := lg_lies hN (by omega) (lies_sm (seg5_lies (φ := frac x) (by rw [hf]; omega) (by rw [hf]; omega))) (by decide +kernel) (by decide +kernel)
  rw [he, Int.one_mul] at hs
  have k1 : val 4584664420663164928 ≤ val 13830272980678082560 + (big : Int) := by decide +kernel
  have k2 : val 13829991505701934854 + (big : Int) ≤ val 4589168020281528224 := by decide +kernel
  have g1 := ge_of (u := 4584664420663164928) hs (by decide +kernel) (by omega)
  have g2 := le_of (u := 4589168020281528224) hs (by decide +kernel) (by omega)
  rw [sv_nat (x := 4584664420663164928) (by decide)] at g1
  rw [sv_nat (x := 4589168020281528224) (by decide)] at g2
  obtain ⟨l63, e⟩ := nat_of_sv h64 (by omega)
  rw [e] at g1 g2
  obtain ⟨z, hz, fz, c1, c2, hNy⟩ := second (y := y) (E := 1018) (U := 13839561654909590502) (by decide) (by omega) (by omega) (by rw [hHALF]; omega) (by decide +kernel) (by decide +kernel) (by decide +kernel)
  exact ⟨y, hy, Or.inr ⟨hNy, z, hz, fz, Or.inr (Or.inr ⟨by decide, by decide, c1, c2⟩)⟩⟩
theorem pick_4 {x : Nat} (h1 : 4607381810194762782 ≤ x) (h2 : x ≤ 4607590029386211601) : Sch x 4 := by
  have hf : frac x = x - 4503599627370496 := by unfold frac; rw [hHALF]; omega
  have he : expo x = 1 := by unfold expo; omega
  have hN : Norm x := ⟨by omega, by omega⟩
  obtain ⟨y, v, hy, hs, _, b1, b2, _, h64⟩ := lg_lies hN (by omega) (lies_sm (seg4_lies (φ := frac x) (by rw [hf]; omega) (by rw [hf]; omega))) (by decide +kernel) (by decide +kernel)
  rw [he, Int.one_mul] at hs
  have k1 : val 4589168020290535424 ≤ val 13829991505701371904 + (big : Int) := by decide +kernel
  have k2 : val 13829428555749076492 + (big : Int) ≤ val 4593671619908898720 := by decide +kernel
  have g1 := ge_of (u := 4589168020290535424) hs (by decide +kernel) (by omega)
  have g2 := le_of (u := 4593671619908898720) hs (by decide +kernel) (by omega)
  rw [sv_nat (x := 4589168020290535424) (by decide)] at g1
  rw [sv_nat (x := 4593671619908898720) (by decide)] at g2
  obtain ⟨l63, e⟩ := nat_of_sv h64 (by omega)
  rw [e] at g1 g2
  obtain ⟨z, hz, fz, c1, c2, hNy⟩ := second (y := y) (E := 1019) (U := 13837309855095961549) (by decide) (by omega) (by omega) (by rw [hHALF]; omega) (by decide +kernel) (by decide +kernel) (by decide +kernel)
  exact ⟨y, hy, Or.inr ⟨hNy, z, hz, fz, Or.inr (Or.inr ⟨by decide, by decide, c1, c2⟩)⟩⟩
theorem pick_3 {x : Nat} (h1 : 4607590029396034022 ≤ x) (h2 : x ≤ 4608034531887283796) : Sch x 3 := by
  have hf : frac x = x - 4503599627370496 := by unfold frac; rw [hHALF]; omega
  have he : expo x = 1 := by unfold expo; omega
  have hN : Norm x := ⟨by omega, by omega⟩
  obtain ⟨y, v, hy, hs, _, b1, b2, _, h64⟩ := lg_lies hN (by omega) (lies_sm (seg3_lies (φ := frac x) (by rw [hf]; omega) (by rw [hf]; omega))) (by decide +kernel) (by decide +kernel)
  rw [he, Int.one_mul] at hs
  have k1 : val 4593671619917905920 ≤ val 13829428555747950592 + (big : Int) := by decide +kernel
  have k2 : val 13828302655843359768 + (big : Int) ≤ val 4598175219536269216 := by decide +kernel
  have g1 := ge_of (u := 4593671619917905920) hs (by decide +kernel) (by omega)
  have g2 := le_of (u := 4598175219536269216) hs (by decide +kernel) (by omega)
  rw [sv_nat (x := 4593671619917905920) (by decide)] at g1
  rw [sv_nat (x := 4598175219536269216) (by decide)] at g2
  obtain ⟨l63, e⟩ := nat_of_sv h64 (by omega)
  rw [e] at g1 g2
  obtain ⟨z, hz, fz, c1, c2, hNy⟩ := second (y := y) (E := 1020) (U := 13835058055282276301) (by decide) (by omega) (by omega) (by rw [hHALF]; omega) (by decide +kernel) (by decide +kernel) (by decide +kernel)
  exact ⟨y, hy, Or.inr ⟨hNy, z, hz, fz, Or.inr (Or.inr ⟨by decide, by decide, c1, c2⟩)⟩⟩
theorem pick_2 {x : Nat} (h1 : 4608034531897995222 ≤ x) (h2 : x ≤ 4609047870838803634) : Sch x 2 := by
  have hf : frac x = x - 4503599627370496 := by unfold frac; rw [hHALF]; omega
  have he : expo x = 1 := by unfold expo; omega
  have hN : Norm x := ⟨by omega, by omega⟩
  obtain ⟨y, v, hy, hs, _, b1, b2, _, h64⟩ := lg_lies hN (by omega) (lies_sm (seg2_lies (φ := frac x) (by rw [hf]; omega) (by rw [hf]; omega))) (by decide +kernel) (by decide +kernel)
  rw [he, Int.one_mul] at hs
  have k1 : val 4598175219545276416 ≤ val 13828302655841107968 + (big : Int) := by decide +kernel
  have k2 : val 13826050856031926320 + (big : Int) ≤ val 4602678819163639712 := by decide +kernel
  have g1 := ge_of (u := 4598175219545276416) hs (by decide +kernel) (by omega)
  have g2 := le_of (u := 4602678819163639712) hs (by decide +kernel) (by omega)
  rw [sv_nat (x := 4598175219545276416) (by decide)] at g1
  rw [sv_nat (x := 4602678819163639712) (by decide)] at g2
  obtain ⟨l63, e⟩ := nat_of_sv h64 (by omega)
  rw [e] at g1 g2
  obtain ⟨z, hz, fz, c1, c2, hNy⟩ := second (y := y) (E := 1021) (U := 13830554455655018395) (by decide) (by omega) (by omega) (by rw [hHALF]; omega) (by decide +kernel) (by decide +kernel) (by decide +kernel)
  exact ⟨y, hy, Or.inr ⟨hNy, z, hz, fz, Or.inr (Or.inr ⟨by decide, by decide, c1, c2⟩)⟩⟩
theorem pick_1 {x : Nat} (h1 : 4609047870851541737 ≤ x) (h2 : x ≤ 4611686018418380705) : Sch x 1 := by
  have hf : frac x = x - 4503599627370496 := by unfold frac; rw [hHALF]; omega
  have he : expo x = 1 := by unfold expo; omega
  have hN : Norm x := ⟨by omega, by omega⟩
  obtain ⟨y, v, hy, hs, _, b1, b2, _, h64⟩ := lg_lies hN (by omega) (lies_sm (seg1_lies (φ := frac x) (by rw [hf]; omega) (by rw [hf]; omega))) (by decide +kernel) (by decide +kernel)
  rw [he, Int.one_mul] at hs
  have k1 : val 4602678819172646912 ≤ val 13826050856027422720 + (big : Int) := by decide +kernel
  have k2 : val 13696745711140458060 + (big : Int) ≤ val 4607182418789208769 := by decide +kernel
  have g1 := ge_of (u := 4602678819172646912) hs (by decide +kernel) (by omega)
  have g2 := le_of (u := 4607182418789208769) hs (by decide +kernel) (by omega)
  rw [sv_nat (x := 4602678819172646912) (by decide)] at g1
  rw [sv_nat (x := 4607182418789208769) (by decide)] at g2
  obtain ⟨l63, e⟩ := nat_of_sv h64 (by omega)
  rw [e] at g1 g2
  obtain ⟨z, hz, fz, c1, c2, hNy⟩ := second (y := y) (E := 1022) (U := 13676161994314988987) (by decide) (by omega) (by omega) (by rw [hHALF]; omega) (by decide +kernel) (by decide +kernel) (by decide +kernel)
  exact ⟨y, hy, Or.inr ⟨hNy, z, hz, fz, Or.inr (Or.inr ⟨by decide, by decide, c1, c2⟩)⟩⟩
theorem pick_0 {x : Nat} (h1 : 4611686018427387904 ≤ x) (h2 : x ≤ 4616189618045751201) : Sch x 0 := by
  obtain ⟨y, hy, g1, g2⟩ := first (m := 1) (W := 4607182418800017408) (Y := 4611686018421983585) (x := x) ⟨by omega, by omega⟩ (by unfold expo; omega) (by unfold expo; omega) (fun h => by unfold frac expo at *; rw [hHALF]; omega) (by decide +kernel) (by decide +kernel) (by decide +kernel) (by decide +kernel) (by decide +kernel) (by decide) (by decide)
  obtain ⟨z, hz, fz, c1, c2, hNy⟩ := second (y := y) (E := 1023) (U := 4607182418799567049) (by decide) (by omega) (by omega) (by rw [hHALF]; omega) (by decide +kernel) (by decide +kernel) (by decide +kernel)
  exact ⟨y, hy, Or.inr ⟨hNy, z, hz, fz, Or.inr (Or.inr ⟨by decide, by decide, c1, c2⟩)⟩⟩
theorem pick_m1 {x : Nat} (h1 : 4616189618054758400 ≤ x) (h2 : x ≤ 4625196817300492193) : Sch x (-1) := by
  obtain ⟨y, hy, g1, g2⟩ := first (m := 2) (W := 4611686018427387904) (Y := 4616189618052056241) (x := x) ⟨by omega, by omega⟩ (by unfold expo; omega) (by unfold expo; omega) (fun h => by unfold frac expo at *; rw [hHALF]; omega) (by decide +kernel) (by decide +kernel) (by decide +kernel) (by decide +kernel) (by decide +kernel) (by decide) (by decide)
  obtain ⟨z, hz, fz, c1, c2, hNy⟩ := second (y := y) (E := 1024) (U := 4611686018427162725) (by decide) (by omega) (by omega) (by rw [hHALF]; omega) (by decide +kernel) (by decide +kernel) (by decide +kernel)
  exact ⟨y, hy, Or.inr ⟨hNy, z, hz, fz, Or.inr (Or.inr ⟨by decide, by decide, c1, c2⟩)⟩⟩
theorem pick_m2 {x : Nat} (h1 : 4625196817309499392 ≤ x) (h2 : x ≤ 4643211215809974177) : Sch x (-2) := by
  obtain ⟨y, hy, g1, g2⟩ := first (m := 4) (W := 4616189618054758400) (Y := 4620693217680777817) (x := x) ⟨by omega, by omega⟩ (by unfold expo; omega) (by unfold expo; omega) (fun h => by unfold frac expo at *; rw [hHALF]; omega) (by decide +kernel) (by decide +kernel) (by decide +kernel) (by decide +kernel) (by decide +kernel) (by decide) (by decide)
  obtain ⟨z, hz, fz, c1, c2, hNy⟩ := second (y := y) (E := 1025) (U := 4613937818240960563) (by decide) (by omega) (by omega) (by rw [hHALF]; omega) (by decide +kernel) (by decide +kernel) (by decide +kernel)
  exact ⟨y, hy, Or.inr ⟨hNy, z, hz, fz, Or.inr (Or.inr ⟨by decide, by decide, c1, c2⟩)⟩⟩
theorem pick_m3 {x : Nat} (h1 : 4643211215818981376 ≤ x) (h2 : x ≤ 4679240012828938145) : Sch x (-3) := by
  obtain ⟨y, hy, g1, g2⟩ := first (m := 8) (W := 4620693217682128896) (Y := 4625196817308823853) (x := x) ⟨by omega, by omega⟩ (by unfold expo; omega) (by unfold expo; omega) (fun h => by unfold frac expo at *; rw [hHALF]; omega) (by decide +kernel) (by decide +kernel) (by decide +kernel) (by decide +kernel) (by decide +kernel) (by decide) (by decide)
  obtain ⟨z, hz, fz, c1, c2, hNy⟩ := second (y := y) (E := 1026) (U := 4616189618054645811) (by decide) (by omega) (by omega) (by rw [hHALF]; omega) (by decide +kernel) (by decide +kernel) (by decide +kernel)
  exact ⟨y, hy, Or.inr ⟨hNy, z, hz, fz, Or.inr (Or.inr ⟨by decide, by decide, c1, c2⟩)⟩⟩
theorem pick_m4 {x : Nat} (h1 : 4679240012837945344 ≤ x) (h2 : x < 9218868437227405312) : Sch x (-4) := by
  have hN : Norm x := ⟨by omega, h2⟩
  have hE1 : 17 ≤ expo x := by unfold expo; omega
  have hE2 : expo x ≤ 1024 := by unfold expo; omega
  have hk0 : val 13830554455654793216 = -(big : Int) := by decide +kernel
  have v0 : val 0 = 0 := by decide
  have P := big_pos'
  have kW : val 4625196817309499392 = 16 * (big : Int) := by decide +kernel
  have kY : val 4652218415073722368 = 1024 * (big : Int) := by decide +kernel
  have fin0 : ∀ y, sv D 4625196817309499392 ≤ sv D y → sv D y ≤ sv D 4652218415073722368 → y < 18446744073709551616 → 4625196817309499392 ≤ y ∧ y ≤ 4652218415073722368 := fun y g1 g2 h64 => by
    rw [sv_nat (by decide)] at g1
    rw [sv_nat (x := 4652218415073722368) (by decide)] at g2
    obtain ⟨l63, e⟩ := nat_of_sv h64 (by omega)
    rw [e] at g1 g2
    omega
  have e1 : (expo x - 1) * (big : Int) = expo x * (big : Int) - (big : Int) := by rw [Int.sub_mul, Int.one_mul]
  have m1 : 16 * (big : Int) ≤ (expo x - 1) * (big : Int) := mul_big (by omega)
  have m2 : expo x * (big : Int) ≤ 1024 * (big : Int) := mul_big hE2
  have hY : ∃ y, Lg x y ∧ 4625196817309499392 ≤ y ∧ y ≤ 4652218415073722368 := by
    by_cases h0 : x % 4503599627370496 = 0
    · obtain ⟨w1, w2⟩ := whole_fin (n := expo x - 1) (by omega)
      exact ⟨wI (expo x - 1), Or.inl ⟨h0, rfl⟩, fin0 _ (val_le.1 (by rw [w2, kW]; exact m1)) (val_le.1 (by rw [w2, kY]; omega)) (write_lt _ _ _)⟩
    · obtain ⟨z, v, hz, hs, _, b1, b2, _, h64⟩ := lg_lies hN h0 (lies_sm (segAll_lies (φ := frac x) (by unfold frac; rw [hHALF]; omega) (by have := frac_lt x; have h1 : ONE = 4607182418800017408 := rfl; omega))) (by decide +kernel) (by decide +kernel)
      exact ⟨z, hz, fin0 _ (ge_of hs (by decide +kernel) (by rw [kW]; omega)) (le_of hs (by decide +kernel) (by rw [kY]; omega)) h64⟩
  obtain ⟨y, hy, g1, g2⟩ := hY
  have hNy : Norm y := ⟨by omega, by omega⟩
  have hF1 : 5 ≤ expo y := by unfold expo; omega
  have hF2 : expo y ≤ 11 := by unfold expo; omega
  have e2 : (expo y - 1) * (big : Int) = expo y * (big : Int) - (big : Int) := by rw [Int.sub_mul, Int.one_mul]
  have m3 : 4 * (big : Int) ≤ (expo y - 1) * (big : Int) := mul_big (by omega)
  have m4 : expo y * (big : Int) ≤ 11 * (big : Int) := mul_big hF2
  have kV : val 4616189618054758400 = 4 * (big : Int) := by decide +kernel
  have kU : val 4622382067542392832 = 11 * (big : Int) := by decide +kernel
  refine ⟨y, hy, Or.inr ⟨hNy, ?_⟩⟩
  by_cases h0 : y % 4503599627370496 = 0
  · obtain ⟨w1, w2⟩ := whole_fin (n := expo y - 1) (by omega)
    exact ⟨wI (expo y - 1), Or.inl ⟨h0, rfl⟩, w1, Or.inr (Or.inl ⟨rfl, by rw [w2]; exact m3⟩)⟩
  · obtain ⟨z, v, hz, hs, _, b1, b2, _, h64⟩ := lg_lies hNy h0 (lies_sm (segAll_lies (φ := frac y) (by unfold frac; rw [hHALF]; omega) (by have := frac_lt y; have h1 : ONE = 4607182418800017408 := rfl; omega))) (by decide +kernel) (by decide +kernel)
    have g1 := ge_of (u := 4616189618054758400) hs (by decide +kernel) (by rw [kV]; omega)
    have g2 := le_of (u := 4622382067542392832) hs (by decide +kernel) (by rw [kU]; omega)
    have c1 := val_le.2 g1
    rw [kV] at c1
    exact ⟨z, hz, fin_of_sv (by decide +kernel) (by decide +kernel) g1 g2, Or.inr (Or.inl ⟨rfl, c1⟩)⟩
theorem pick_8 {x : Nat} (h1 : 4607182418800017408 < x) (h2 : x ≤ 4607206872896117631) : Sch x 8 := by
  have hf : frac x = x - 4503599627370496 := by unfold frac; rw [hHALF]; omega
  have he : expo x = 1 := by unfold expo; omega
  have hN : Norm x := ⟨by omega, by omega⟩
  have P := big_pos'
  have hk0 : val 13830554455654793216 = -(big : Int) := by decide +kernel
  have v0 : val 0 = 0 := by decide
  obtain ⟨y, v, hy, hs, _, b1, b2, ⟨l, fl, hv⟩, h64⟩ := lg_lies hN (by omega) (lies_sm (seg8_lies (φ := frac x) (by rw [hf]; omega) (by rw [hf]; omega))) (by decide +kernel) (by decide +kernel)
  rw [he, Int.one_mul] at hs
  have k2 : val 13830484086917652426 + (big : Int) ≤ val 4575657220507704064 := by decide +kernel
  have g1 := ge_of (u := 0) hs (by decide +kernel) (by omega)
  have g2 := le_of (u := 4575657220507704064) hs (by decide +kernel) (by omega)
  rw [sv_nat (x := 4575657220507704064) (by decide)] at g2
  have s0 : sv D 0 = 0 := by decide
  rw [s0] at g1
  by_cases hy0 : sv D y = 0
  · refine ⟨y, hy, Or.inl ⟨?_, rfl⟩⟩
    unfold sv at hy0
    rw [rung_eq] at hy0
    split at hy0 <;> omega
  · obtain ⟨l63, e⟩ := nat_of_sv h64 (by omega)
    rw [e] at g2
    -- v + big is no less than the least normal number
    have hbig : val 4503599627370496 ≤ v + (big : Int) := by
      have hv0 : v + (big : Int) ≠ 0 := by
        intro h
        rw [h] at hs
        apply hy0
        rw [hs]
        have : RZ 0 D.leastPlace = 0 := by decide
        exact this
      have hneg : isNeg D l = true := by
        cases en : isNeg D l
        · exfalso
          have hh : val 13830484086917652426 < 0 := by decide +kernel
          have : 0 ≤ val l := by unfold val; rw [en]; simp
          omega
        · rfl
      have hvl : val l = -(mg D (rung D l) : Int) := by unfold val; rw [hneg]; rfl
      have hhi : mg D 4607112050062876618 = (-(val 13830484086917652426)).toNat := by decide +kernel
      have hge : 4607112050062876618 ≤ rung D l := by
        rw [← mg_le, hhi]
        omega
      obtain ⟨q, hq⟩ : ∃ q, mg D (rung D l) = 4503599627370496 * q := by
        refine ⟨rm D (rung D l) * 2 ^ ((rp D (rung D l) - D.leastPlace).toNat - 52), ?_⟩
        have hr : 52 ≤ (rp D (rung D l) - D.leastPlace).toNat := by
          unfold rp
          rw [dbl_bin]
          rw [if_neg (by omega)]
          omega
        unfold mg
        have : (rp D (rung D l) - D.leastPlace).toNat = 52 + ((rp D (rung D l) - D.leastPlace).toNat - 52) := by omega
        generalize (rp D (rung D l) - D.leastPlace).toNat - 52 = j at this ⊢
        rw [this, Nat.pow_add, show (2 : Nat) ^ 52 = 4503599627370496 by decide, Nat.mul_left_comm]
      obtain ⟨r, hr⟩ : ∃ r, big = 4503599627370496 * r := ⟨bigOf 1022, by rw [big_split, show (2 : Nat) ^ 52 = 4503599627370496 by decide]⟩
      have kk : val 4503599627370496 = 4503599627370496 := by decide +kernel
      have hp0 : 0 ≤ v + (big : Int) := by omega
      rw [kk]
      rw [hv, hvl, hq] at hv0 hp0 ⊢
      rw [hr] at hv0 hp0 ⊢
      clear hs g1 g2 hy k2 b1 b2 hhi hge hneg hvl hv fl hq hr h1 h2
      omega
    have g3 := ge_of (u := 4503599627370496) hs (by decide +kernel) hbig
    rw [sv_nat (x := 4503599627370496) (by decide), e] at g3
    have hNy : Norm y := ⟨by omega, by omega⟩
    have hE1 : -1021 ≤ expo y := by unfold expo; omega
    have hE2 : expo y ≤ -7 := by unfold expo; omega
    have e2 : (expo y - 1) * (big : Int) = expo y * (big : Int) - (big : Int) := by rw [Int.sub_mul, Int.one_mul]
    have m1 : expo y * (big : Int) ≤ -7 * (big : Int) := mul_big hE2
    have m2 : -1021 * (big : Int) ≤ expo y * (big : Int) := mul_big hE1
    have kL : val 13875572859742453760 = -1022 * (big : Int) := by decide +kernel
    refine ⟨y, hy, Or.inr ⟨hNy, ?_⟩⟩
    by_cases h0 : y % 4503599627370496 = 0
    · obtain ⟨w1, w2⟩ := whole_fin (n := expo y - 1) (by omega)
      exact ⟨wI (expo y - 1), Or.inl ⟨h0, rfl⟩, w1, Or.inl ⟨rfl, by rw [w2, e2]; omega⟩⟩
    · by_cases ht : expo y = -7
      · obtain ⟨z, v2, hz, hs2, _, b3, b4, _, _⟩ := lg_lies hNy h0 (lies_sm (segT_lies (φ := frac y) (by unfold frac; rw [hHALF]; omega) (by unfold expo at ht; unfold frac; rw [hHALF]; omega))) (by decide +kernel) (by decide +kernel)
        have kU : val 13676161994314988987 + -7 * (big : Int) ≤ val 13842939354630118374 := by decide +kernel
        have kU2 : val 13842939354630118374 < -7 * (big : Int) := by decide +kernel
        rw [ht] at hs2
        have g4 := ge_of (u := 13875572859742453760) hs2 (by decide +kernel) (by rw [kL]; omega)
        have g5 := le_of (u := 13842939354630118374) hs2 (by decide +kernel) (by omega)
        have c2 := val_le.2 g5
        exact ⟨z, hz, fin_of_sv (by decide +kernel) (by decide +kernel) g4 g5, Or.inl ⟨rfl, by omega⟩⟩
      · obtain ⟨z, v2, hz, hs2, _, b3, b4, _, _⟩ := lg_lies hNy h0 (lies_sm (segAll_lies (φ := frac y) (by unfold frac; rw [hHALF]; omega) (by have := frac_lt y; have h1 : ONE = 4607182418800017408 := rfl; omega))) (by decide +kernel) (by decide +kernel)
        have kU : val 13844065254536904704 = -8 * (big : Int) := by decide +kernel
        have m3 : expo y * (big : Int) ≤ -8 * (big : Int) := mul_big (by omega)
        have g4 := ge_of (u := 13875572859742453760) hs2 (by decide +kernel) (by rw [kL]; omega)
        have g5 := le_of (u := 13844065254536904704) hs2 (by decide +kernel) (by rw [kU]; omega)
        have c2 := val_le.2 g5
        rw [kU] at c2
        exact ⟨z, hz, fin_of_sv (by decide +kernel) (by decide +kernel) g4 g5, Or.inl ⟨rfl, by omega⟩⟩

end Plf
