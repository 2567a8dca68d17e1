/- A constant native histogram written out ((*constNativeHistogram).Write), and the small readers of a histogram. Plain facts on the bits of floats (IEEE 754, double): the order of two words is the order of two integers (signed rungs); rounding to nearest is monotone; sums and products of words. No Go and no memory. The order of two words of a float format is the order of their signed rungs. -/
import Derived.Test.YtlolomodcbkblaaGreatDoorCnc
import Derived.Laws.FloatBits
set_option linter.unusedVariables false
set_option linter.unusedSimpArgs false
namespace Go.Proofs.YtlolomodcbkblaaGreatDoor.Cn
open Go.RowKit Go.Maps Go.WideMaps Go.ChangeShapes Go.WideShapes Go.Deep Fp Obs _root_.Go.Proofs.YtlolomodcbkblaaGreatDoor.Sp
open _root_.Go.Proofs.YtlolomodcbkblaaGreatDoor.Nd (Glob Pairs)
open _root_.Go.Proofs.YtlolomodcbkblaaGreatDoor.Mt (ptr nilp zeroM)

/-- the address of the histogram within its block -/
abbrev hp (hb : Nat) : Value := .pointer (some ⟨hb, 1, none⟩)
/-- the histogram's own twelve cells, as they are read -/
structure HC (W : World) (hb : Nat) (count : Int) (z : Nat) (sch : Int) (zt : Nat) (zc : Int) (vsn vdn vsp vdp : Value) : Prop where
  cells : ∃ c0 c1 ct sc zb zz, W.cell? ⟨hb, 1, none⟩ = some (ptr c0) ∧ W.cell? ⟨hb, 2, none⟩ = some (ptr c1) ∧ W.cell? ⟨hb, 3, none⟩ = some (.slice none 0 0) ∧ W.cell? ⟨hb, 4, none⟩ = some (ptr ct) ∧ W.cell? ⟨hb, 5, none⟩ = some (ptr sc) ∧ W.cell? ⟨hb, 6, none⟩ = some (ptr zb) ∧ W.cell? ⟨hb, 7, none⟩ = some (ptr zz) ∧
    W.cell? ⟨c0, 0, none⟩ = some (.int .u64 count) ∧ W.cell? ⟨c1, 0, none⟩ = some (.float .f64 z) ∧ W.cell? ⟨ct, 0, none⟩ = some (.int .i64 0) ∧ W.cell? ⟨sc, 0, none⟩ = some (.int .i32 sch) ∧ W.cell? ⟨zb, 0, none⟩ = some (.float .f64 zt) ∧ W.cell? ⟨zz, 0, none⟩ = some (.int .u64 zc)
  c7 : W.cell? ⟨hb, 8, none⟩ = some vsn
  c8 : W.cell? ⟨hb, 9, none⟩ = some vdn
  c9 : W.cell? ⟨hb, 10, none⟩ = some vsp
  c10 : W.cell? ⟨hb, 11, none⟩ = some vdp
  c11 : W.cell? ⟨hb, 12, none⟩ = some (.slice none 0 0)
theorem cell_lt {W : World} {b j : Nat} {v : Value} (h : W.cell? ⟨b, j, none⟩ = some v) : b < W.heap.size := World.block_lt_of_cell? W (a := ⟨b, j, none⟩) h
theorem HC.below {W W' : World} {hb : Nat} {count : Int} {z : Nat} {sch : Int} {zt : Nat} {zc : Int} {vsn vdn vsp vdp : Value} (h : HC W hb count z sch zt zc vsn vdn vsp vdp) (k : Below W.heap.size W W') : HC W' hb count z sch zt zc vsn vdn vsp vdp := by
  have e : ∀ {b j : Nat} {v : Value}, W.cell? ⟨b, j, none⟩ = some v → W'.cell? ⟨b, j, none⟩ = some v := fun {b j v} g => (k.cell (p := ⟨b, j, none⟩) (cell_lt g)).trans g
  obtain ⟨c0, c1, ct, sc, zb, zz, g0, g1, g2, g3, g4, g5, g6, p0, p1, p2, p3, p4, p5⟩ := h.cells
  exact ⟨⟨c0, c1, ct, sc, zb, zz, e g0, e g1, e g2, e g3, e g4, e g5, e g6, e p0, e p1, e p2, e p3, e p4, e p5⟩, e h.c7, e h.c8, e h.c9, e h.c10, e h.c11⟩
theorem HistAt.seen {W : World} {hb d : Nat} {count : Int} {z : Nat} {sch : Int} {zt : Nat} {zc : Int} {Xn Xp : List Seg} {F : List P2} (h : HistAt W hb d count z sch zt zc Xn Xp F) :
    ∃ vsn vdn vsp vdp lv, HC W hb count z sch zt zc vsn vdn vsp vdp ∧ W.cell? ⟨hb, 13, none⟩ = some lv ∧ hb < W.heap.size ∧ Spans W vsn (runsOf 0 Xn) ∧ Sl.Of (Value.int .i64) W vdn (deltasOf 0 (counts Xn)) ∧ Spans W vsp (runsOf 0 Xp) ∧ Sl.Of (Value.int .i64) W vdp (deltasOf 0 (counts Xp)) ∧ Pairs W lv F := by
  obtain ⟨c0, c1, ct, sc, zb, zz, vsn, vdn, vsp, vdp, lv, hw, p0, p1, p2, p3, p4, p5, s1, s2, s3, s4, s5⟩ := h.blk
  exact ⟨vsn, vdn, vsp, vdp, lv, ⟨⟨c0, c1, ct, sc, zb, zz, hw.cell 1, hw.cell 2, hw.cell 3, hw.cell 4, hw.cell 5, hw.cell 6, hw.cell 7, p0, p1, p2, p3, p4, p5⟩, hw.cell 8, hw.cell 9, hw.cell 10, hw.cell 11, hw.cell 12⟩, hw.cell 13, hw.lt, s1, s2, s3, s4, s5⟩

set_option maxHeartbeats 4000000 in
set_option maxRecDepth 100000 in
theorem getCount_any (hb : Nat) (count : Int) (z : Nat) (sch : Int) (zt : Nat) (zc : Int) (vsn vdn vsp vdp : Value) (w : World) (h : HC w hb count z sch zt zc vsn vdn vsp vdp) :
    Calls Tryz.prog 151 #[hp hb] w fun e w' => e = .returned (.int .u64 count) ∧ w = w' := by
  obtain ⟨c0, c1, ct, sc, zb, zz, g0, g1, g2, g3, g4, g5, g6, p0, p1, p2, p3, p4, p5⟩ := h.cells
  clear h g1 g2 g3 g4 g5 g6 p1 p2 p3 p4 p5
  go_enter Tryz.func151, Tryz.ntmps151
  go_wp2
  go_ret
  exact ⟨rfl, rfl⟩
set_option maxHeartbeats 4000000 in
set_option maxRecDepth 100000 in
theorem getZT_any (hb : Nat) (count : Int) (z : Nat) (sch : Int) (zt : Nat) (zc : Int) (vsn vdn vsp vdp : Value) (w : World) (h : HC w hb count z sch zt zc vsn vdn vsp vdp) :
    Calls Tryz.prog 153 #[hp hb] w fun e w' => e = .returned (.float .f64 zt) ∧ w = w' := by
  obtain ⟨c0, c1, ct, sc, zb, zz, g0, g1, g2, g3, g4, g5, g6, p0, p1, p2, p3, p4, p5⟩ := h.cells
  clear h g0 g1 g2 g3 g4 g6 p0 p1 p2 p3 p5
  go_enter Tryz.func153, Tryz.ntmps153
  go_wp2
  go_ret
  exact ⟨rfl, rfl⟩
set_option maxHeartbeats 4000000 in
set_option maxRecDepth 100000 in
theorem getZC_any (hb : Nat) (count : Int) (z : Nat) (sch : Int) (zt : Nat) (zc : Int) (vsn vdn vsp vdp : Value) (w : World) (h : HC w hb count z sch zt zc vsn vdn vsp vdp) :
    Calls Tryz.prog 154 #[hp hb] w fun e w' => e = .returned (.int .u64 zc) ∧ w = w' := by
  obtain ⟨c0, c1, ct, sc, zb, zz, g0, g1, g2, g3, g4, g5, g6, p0, p1, p2, p3, p4, p5⟩ := h.cells
  clear h g0 g1 g2 g3 g4 g5 p0 p1 p2 p3 p4
  go_enter Tryz.func154, Tryz.ntmps154
  go_wp2
  go_ret
  exact ⟨rfl, rfl⟩

/-- what Write leaves in the metric in block out -/
def WrittenH (out hb : Nat) (lv : Value) (w : World) (e : Ending) (w' : World) : Prop :=
  e = .returned .nilIface ∧ Whole w' out 201 #[lv, nilp, nilp, nilp, nilp, hp hb, nilp] ∧ w.grownBy w' (some out)
set_option maxHeartbeats 4000000 in
set_option maxRecDepth 100000 in
theorem writeNative_any (hb out : Nat) (al : Option Addr) (nl cl : Nat) (w : World) (h : w.cell? ⟨hb, 13, none⟩ = some (.slice al nl cl)) (hne : hb ≠ out) (ho : Whole w out 201 zeroM) :
    Calls Tryz.prog 265 #[ptr hb, ptr out] w (WrittenH out hb (.slice al nl cl) w) := by
  have hlt := ho.lt
  have hlh := cell_lt h
  have o5 := ho.cell 5
  have o0 := ho.cell 0
  have f5 := ho.free 5
  have f0 := ho.free 0
  have HO : Hid (WrittenH out hb (.slice al nl cl) w (.returned .nilIface) ((w.setCell ⟨out, 5, none⟩ (hp hb)).setCell ⟨out, 0, none⟩ (.slice al nl cl))) := by
    refine ⟨rfl, (ho.put 5 (hp hb)).put 0 (.slice al nl cl), ?_⟩
    refine ⟨rfl, rfl, rfl, by simp [World.setCell], fun k hk hne => ?_⟩
    have hkb : k ≠ out := by rintro rfl; exact hne rfl
    rw [Below.heap_setCell _ ⟨out, 0, none⟩ _ k hkb, Below.heap_setCell _ ⟨out, 5, none⟩ _ k hkb]
  have hon : out ≠ hb := fun e => hne e.symm
  clear ho
  go_enter Tryz.func265, Tryz.ntmps265
  go_wp2_with fail
  go_ret
  exact HO.out

end Go.Proofs.YtlolomodcbkblaaGreatDoor.Cn

namespace Plf
open Ieee

/-- rounding 'n / d' to a whole number, ties to even -/
def rne (n d : Nat) : Nat := n / d + (if d < 2 * (n % d) ∨ (d = 2 * (n % d) ∧ n / d % 2 = 1) then 1 else 0)

theorem rne_mono {n d m e : Nat} (hd : 0 < d) (he : 0 < e) (h : n * e ≤ m * d) : rne n d ≤ rne m e := by
  have e1 := Nat.div_add_mod n d
  have e2 := Nat.div_add_mod m e
  have l1 := Nat.mod_lt n hd
  have l2 := Nat.mod_lt m he
  unfold rne
  generalize hq : n / d = q at *
  generalize hr : n % d = r at *
  generalize hp : m / e = p at *
  generalize hs : m % e = s at *
  have hqp : q ≤ p := by
    rw [← hp, Nat.le_div_iff_mul_le he]
    have : q * d ≤ n := by rw [← hq]; exact Nat.div_mul_le_self n d
    have h2 : q * e * d ≤ m * d := Nat.le_trans (by rw [Nat.mul_right_comm]; exact Nat.mul_le_mul_right e this) h
    exact Nat.le_of_mul_le_mul_right h2 hd
  by_cases hlt : q < p
  · split <;> split <;> omega
  · obtain rfl : q = p := by omega
    -- the rests stand as r/d <= s/e
    have h3 : r * e ≤ s * d := by
      have h4 : (d * q + r) * e ≤ (e * q + s) * d := by rw [e1, e2]; exact h
      have h5 : d * q * e = e * q * d := by rw [Nat.mul_right_comm, Nat.mul_comm d e, Nat.mul_right_comm]
      rw [Nat.add_mul, Nat.add_mul, h5] at h4
      omega
    by_cases c1 : d < 2 * r
    · have c2 : e < 2 * s := by
        have a1 : d * e < 2 * r * e := Nat.mul_lt_mul_of_pos_right c1 he
        have a2 : 2 * r * e ≤ 2 * s * d := by rw [Nat.mul_assoc, Nat.mul_assoc]; omega
        have a3 : e * d < 2 * s * d := by rw [Nat.mul_comm e d]; omega
        exact Nat.lt_of_mul_lt_mul_right a3
      rw [if_pos (Or.inl c1), if_pos (Or.inl c2)]
      omega
    · by_cases c3 : d = 2 * r ∧ q % 2 = 1
      · have c2 : e ≤ 2 * s := by
          have a2 : 2 * r * e ≤ 2 * s * d := by rw [Nat.mul_assoc, Nat.mul_assoc]; omega
          have a3 : e * d ≤ 2 * s * d := by rw [Nat.mul_comm e d]; rw [← c3.1] at a2; omega
          exact Nat.le_of_mul_le_mul_right a3 hd
        by_cases c4 : e < 2 * s
        · rw [if_pos (Or.inr c3), if_pos (Or.inl c4)]; omega
        · rw [if_pos (Or.inr c3), if_pos (Or.inr ⟨by omega, c3.2⟩)]; omega
      · rw [if_neg (by rintro (h | h); exact c1 h; exact c3 h)]
        omega

theorem rne_one (n : Nat) : rne n 1 = n := by
  unfold rne
  simp [Nat.mod_one]

/-- 'cut' to the nearest is 'rne' of 'n / 2 ^ drop' -/
theorem cut_rne (neg : Bool) (n drop : Nat) : Toward.even.cut neg n drop = rne n (2 ^ drop) := by
  have key : ∀ g, (n / g + (decide (g < 2 * (n % g)) || (g == 2 * (n % g) && n / g % 2 == 1)).toNat) = rne n g := by
    intro g
    unfold rne
    congr 1
    by_cases h : g < 2 * (n % g) ∨ (g = 2 * (n % g) ∧ n / g % 2 = 1)
    · rw [if_pos h]
      have : (decide (g < 2 * (n % g)) || (g == 2 * (n % g) && n / g % 2 == 1)) = true := by simpa using h
      rw [this]; rfl
    · rw [if_neg h]
      have : (decide (g < 2 * (n % g)) || (g == 2 * (n % g) && n / g % 2 == 1)) = false := by
        rw [Bool.eq_false_iff]; intro hh; exact h (by simpa using hh)
      rw [this]; rfl
  unfold Toward.cut
  simp only [Nat.one_shiftLeft]
  rw [key]
  by_cases h : drop ≤ n.log2 + 2
  · rw [Nat.min_eq_left h]
  · rw [Nat.min_eq_right (by omega)]
    -- both are nought
    have hn : n < 2 ^ (n.log2 + 1) := Nat.lt_log2_self
    have z : ∀ k, n.log2 + 2 ≤ k → rne n (2 ^ k) = 0 := by
      intro k hk
      have h2 : 2 ^ (n.log2 + 2) ≤ 2 ^ k := Nat.pow_le_pow_right (by omega) hk
      have h3 : 2 ^ (n.log2 + 2) = 2 * 2 ^ (n.log2 + 1) := by rw [Nat.pow_succ]; omega
      unfold rne
      rw [Nat.div_eq_of_lt (by omega), Nat.mod_eq_of_lt (by omega), if_neg (by omega)]
    rw [z _ (Nat.le_refl _), z _ (by omega)]

theorem rne_eq {n d m e : Nat} (hd : 0 < d) (he : 0 < e) (h : n * e = m * d) : rne n d = rne m e :=
  Nat.le_antisymm (rne_mono hd he (Nat.le_of_eq h)) (rne_mono he hd (Nat.le_of_eq h.symm))

section
variable (f : Format)

/-- the place of the last digit that is kept -/
def lastOf (mag : Nat) (place : Int) : Int := max (place + mag.log2 - f.fractionBits) f.leastPlace

def keptOf (mag : Nat) (place : Int) (last : Int) : Nat := rne (mag * 2 ^ (place - last).toNat) (2 ^ (last - place).toNat)

/-- the rung of 'mag * 2 ^ place', rounded -/
def rungOf (mag : Nat) (place : Int) : Nat :=
  if mag = 0 then 0 else min ((lastOf f mag place - f.leastPlace).toNat * f.binade + keptOf mag place (lastOf f mag place)) f.infRung

theorem nearest_eq (neg : Bool) (mag : Nat) (place : Int) : f.nearest neg mag place = f.word neg (rungOf f mag place) := by
  unfold Format.nearest rungOf keptOf lastOf
  by_cases h : mag = 0
  · rw [if_pos h, if_pos h]
  · rw [if_neg h, if_neg h]
    simp only [cut_rne, Nat.shiftLeft_eq]

theorem two_pos (n : Nat) : 0 < 2 ^ n := Nat.two_pow_pos n

theorem log2_shift {m : Nat} (h : m ≠ 0) (a : Nat) : (m * 2 ^ a).log2 = m.log2 + a := by
  have h1 := Nat.log2_self_le h
  have h2 := Nat.lt_log2_self (n := m)
  have h0 : m * 2 ^ a ≠ 0 := Nat.mul_ne_zero h (Nat.ne_of_gt (two_pos a))
  apply (Nat.log2_eq_iff h0).2
  refine ⟨?_, ?_⟩
  · rw [Nat.pow_add]; exact Nat.mul_le_mul_right _ h1
  · rw [show m.log2 + a + 1 = (m.log2 + 1) + a by omega, Nat.pow_add]; exact Nat.mul_lt_mul_of_pos_right h2 (two_pos a)

/-- the same number at a lower place -/
theorem rungOf_shift (m : Nat) (c : Int) (a : Nat) : rungOf f (m * 2 ^ a) c = rungOf f m (c + a) := by
  by_cases h : m = 0
  · subst h; simp [rungOf]
  · have h0 : m * 2 ^ a ≠ 0 := Nat.mul_ne_zero h (Nat.ne_of_gt (two_pos a))
    have hl : lastOf f (m * 2 ^ a) c = lastOf f m (c + a) := by
      unfold lastOf; rw [log2_shift h]; congr 1; omega
    unfold rungOf
    rw [if_neg h, if_neg h0, hl]
    congr 2
    generalize lastOf f m (c + a) = L
    unfold keptOf
    apply rne_eq (two_pos _) (two_pos _)
    rw [Nat.mul_assoc, Nat.mul_assoc, Nat.mul_assoc, ← Nat.pow_add, ← Nat.pow_add, ← Nat.pow_add]
    congr 2
    omega

theorem keptOf_mono {m n : Nat} (c L : Int) (h : m ≤ n) : keptOf m c L ≤ keptOf n c L :=
  rne_mono (two_pos _) (two_pos _) (Nat.mul_le_mul_right _ (Nat.mul_le_mul_right _ h))

theorem log2_mono {m n : Nat} (hm : m ≠ 0) (h : m ≤ n) : m.log2 ≤ n.log2 := by
  have hn : n ≠ 0 := by omega
  rw [Nat.le_log2 hn]
  exact Nat.le_trans (Nat.log2_self_le hm) h

theorem keptOf_le (m : Nat) (c : Int) : keptOf m c (lastOf f m c) ≤ 2 ^ (f.fractionBits + 1) := by
  have hL : c + m.log2 - f.fractionBits ≤ lastOf f m c := by unfold lastOf; omega
  generalize lastOf f m c = L at hL
  unfold keptOf
  rw [← rne_one (2 ^ (f.fractionBits + 1))]
  apply rne_mono (two_pos _) Nat.one_pos
  rw [Nat.mul_one]
  have h2 := Nat.lt_log2_self (n := m)
  rw [← Nat.pow_add]
  by_cases hc : c ≤ L
  · have e1 : (c - L).toNat = 0 := by omega
    rw [e1, Nat.pow_zero, Nat.mul_one]
    exact Nat.le_of_lt (Nat.lt_of_lt_of_le h2 (Nat.pow_le_pow_right (by omega) (by omega)))
  · have e1 : (L - c).toNat = 0 := by omega
    rw [e1, Nat.add_zero]
    have h3 : m * 2 ^ (c - L).toNat < 2 ^ (m.log2 + 1) * 2 ^ (c - L).toNat := Nat.mul_lt_mul_of_pos_right h2 (two_pos _)
    rw [← Nat.pow_add] at h3
    exact Nat.le_of_lt (Nat.lt_of_lt_of_le h3 (Nat.pow_le_pow_right (by omega) (by omega)))

theorem keptOf_ge {m : Nat} (hm : m ≠ 0) (c : Int) (hL : f.leastPlace < lastOf f m c) : 2 ^ f.fractionBits ≤ keptOf m c (lastOf f m c) := by
  have hL : lastOf f m c = c + m.log2 - f.fractionBits := by unfold lastOf at *; omega
  generalize lastOf f m c = L at hL
  unfold keptOf
  rw [← rne_one (2 ^ f.fractionBits)]
  apply rne_mono Nat.one_pos (two_pos _)
  rw [Nat.mul_one]
  have h2 := Nat.log2_self_le hm
  rw [← Nat.pow_add]
  by_cases hc : c ≤ L
  · have e1 : (c - L).toNat = 0 := by omega
    rw [e1, Nat.pow_zero, Nat.mul_one]
    exact Nat.le_trans (Nat.pow_le_pow_right (by omega) (by omega)) h2
  · have e1 : (L - c).toNat = 0 := by omega
    rw [e1, Nat.add_zero]
    have h3 : 2 ^ m.log2 * 2 ^ (c - L).toNat ≤ m * 2 ^ (c - L).toNat := Nat.mul_le_mul_right _ h2
    rw [← Nat.pow_add] at h3
    exact Nat.le_trans (Nat.pow_le_pow_right (by omega) (by omega)) h3

/-- ROUNDING IS MONOTONE (at one place) -/
theorem rungOf_mono {m n : Nat} (c : Int) (h : m ≤ n) : rungOf f m c ≤ rungOf f n c := by
  unfold rungOf
  by_cases hm : m = 0
  · rw [if_pos hm]; exact Nat.zero_le _
  have hn : n ≠ 0 := by omega
  rw [if_neg hm, if_neg hn]
  have hl := log2_mono hm h
  have hL : lastOf f m c ≤ lastOf f n c := by unfold lastOf; omega
  have hle : f.leastPlace ≤ lastOf f m c := by unfold lastOf; omega
  suffices (lastOf f m c - f.leastPlace).toNat * f.binade + keptOf m c (lastOf f m c) ≤ (lastOf f n c - f.leastPlace).toNat * f.binade + keptOf n c (lastOf f n c) by omega
  by_cases e : lastOf f m c = lastOf f n c
  · rw [e]; exact Nat.add_le_add_left (keptOf_mono c _ h) _
  · have k1 := keptOf_le f m c
    have k2 := keptOf_ge f hn c (by omega)
    have hb : f.binade = 2 ^ f.fractionBits := rfl
    rw [Nat.pow_succ, ← hb] at k1
    rw [← hb] at k2
    have h3 : (lastOf f m c - f.leastPlace).toNat + 1 ≤ (lastOf f n c - f.leastPlace).toNat := by omega
    have h4 := Nat.mul_le_mul_right f.binade h3
    rw [Nat.add_mul, Nat.one_mul] at h4
    omega

/-- ROUNDING IS MONOTONE: 'm * 2 ^ i' at most 'n * 2 ^ j' -/
theorem rungOf_le {m n : Nat} {i j : Int} (c : Int) (hi : c ≤ i) (hj : c ≤ j) (h : m * 2 ^ (i - c).toNat ≤ n * 2 ^ (j - c).toNat) : rungOf f m i ≤ rungOf f n j := by
  have e1 := rungOf_shift f m c (i - c).toNat
  have e2 := rungOf_shift f n c (j - c).toNat
  rw [show c + ((i - c).toNat : Int) = i by omega] at e1
  rw [show c + ((j - c).toNat : Int) = j by omega] at e2
  rw [← e1, ← e2]
  exact rungOf_mono f c h
end
end Plf

namespace Plf
open Ieee
variable (f : Format)

def rung (w : Nat) : Nat := w % f.signWeight
def isNeg (w : Nat) : Bool := w / f.signWeight % 2 == 1
def isNan (w : Nat) : Bool := decide (f.infRung < rung f w)
/-- the signed rung -/
def sv (w : Nat) : Int := if isNeg f w then -(rung f w : Int) else (rung f w : Int)

def rm (r : Nat) : Nat := if r < f.binade then r else f.binade + r % f.binade
def rp (r : Nat) : Int := if r < f.binade then f.leastPlace else f.leastPlace + (r / f.binade - 1 : Nat)
/-- the magnitude of a rung in units of the least place -/
def mg (r : Nat) : Nat := rm f r * 2 ^ (rp f r - f.leastPlace).toNat

theorem binade_pos : 0 < f.binade := Nat.two_pow_pos _
theorem sw_pos : 0 < f.signWeight := Nat.two_pow_pos _

theorem mg_low {r : Nat} (h : r < f.binade) : mg f r = r := by
  unfold mg rm rp; rw [if_pos h, if_pos h]; simp
theorem mg_high {r : Nat} (h : ¬ r < f.binade) : mg f r = (f.binade + r % f.binade) * 2 ^ (r / f.binade - 1) := by
  unfold mg rm rp; rw [if_neg h, if_neg h]
  congr 2
  omega

theorem mg_lt {r r' : Nat} (h : r < r') : mg f r < mg f r' := by
  have hB := binade_pos f
  by_cases h1 : r < f.binade
  · rw [mg_low f h1]
    by_cases h2 : r' < f.binade
    · rw [mg_low f h2]; exact h
    · rw [mg_high f h2]
      have : (f.binade + r' % f.binade) * 1 ≤ (f.binade + r' % f.binade) * 2 ^ (r' / f.binade - 1) := Nat.mul_le_mul_left _ (Nat.two_pow_pos _)
      omega
  · have h2 : ¬ r' < f.binade := by omega
    rw [mg_high f h1, mg_high f h2]
    have q1 : 1 ≤ r / f.binade := (Nat.one_le_div_iff hB).2 (by omega)
    have hq : r / f.binade ≤ r' / f.binade := Nat.div_le_div_right (by omega)
    have e1 := Nat.div_add_mod r f.binade
    have e2 := Nat.div_add_mod r' f.binade
    have l1 := Nat.mod_lt r hB
    have l2 := Nat.mod_lt r' hB
    by_cases e : r / f.binade = r' / f.binade
    · rw [e] at e1 ⊢
      exact Nat.mul_lt_mul_of_pos_right (by omega) (Nat.two_pow_pos _)
    · have a1 : (f.binade + r % f.binade) * 2 ^ (r / f.binade - 1) < (2 * f.binade) * 2 ^ (r / f.binade - 1) := Nat.mul_lt_mul_of_pos_right (by omega) (Nat.two_pow_pos _)
      have a2 : (2 * f.binade) * 2 ^ (r / f.binade - 1) = f.binade * 2 ^ (r / f.binade) := by
        rw [Nat.mul_comm 2, Nat.mul_assoc, ← Nat.pow_succ']; congr 2; omega
      have a3 : f.binade * 2 ^ (r / f.binade) ≤ (f.binade + r' % f.binade) * 2 ^ (r' / f.binade - 1) := Nat.mul_le_mul (by omega) (Nat.pow_le_pow_right (by omega) (by omega))
      omega

theorem mg_lt_iff (r r' : Nat) : mg f r < mg f r' ↔ r < r' := by
  constructor
  · intro h
    rcases Nat.lt_trichotomy r r' with h1 | h1 | h1
    · exact h1
    · rw [h1] at h; omega
    · have := mg_lt f h1; omega
  · exact mg_lt f

theorem mg_inj {r r' : Nat} (h : mg f r = mg f r') : r = r' := by
  rcases Nat.lt_trichotomy r r' with h1 | h1 | h1
  · have := mg_lt f h1; omega
  · exact h1
  · have := mg_lt f h1; omega

theorem mg_le_iff (r r' : Nat) : mg f r ≤ mg f r' ↔ r ≤ r' := by
  have := mg_lt_iff f r' r
  omega

theorem rp_ge (r : Nat) : f.leastPlace ≤ rp f r := by
  unfold rp; split <;> omega

/-- what a word reads as -/
theorem read_eq (hf : f.binade ≤ f.infRung) (w : Nat) : f.read w = if rung f w < f.infRung then .number (isNeg f w) (rm f (rung f w)) (rp f (rung f w)) else if rung f w = f.infRung then .infinity (isNeg f w) else .nan (isNeg f w) (rung f w - f.infRung) := by
  unfold Format.read rm rp rung isNeg
  simp only []
  by_cases h1 : w % f.signWeight < f.binade
  · rw [if_pos h1, if_pos (by omega), if_pos h1, if_pos h1]
  · rw [if_neg h1]
    by_cases h2 : w % f.signWeight < f.infRung
    · rw [if_pos h2, if_pos h2, if_neg h1, if_neg h1]
    · rw [if_neg h2, if_neg h2]

theorem read_num (hf : f.binade ≤ f.infRung) {w : Nat} (h : rung f w < f.infRung) : f.read w = .number (isNeg f w) (rm f (rung f w)) (rp f (rung f w)) := by rw [read_eq f hf, if_pos h]
theorem read_inf (hf : f.binade ≤ f.infRung) {w : Nat} (h : rung f w = f.infRung) : f.read w = .infinity (isNeg f w) := by rw [read_eq f hf, if_neg (by omega), if_pos h]
theorem read_nan (hf : f.binade ≤ f.infRung) {w : Nat} (h : isNan f w = true) : f.read w = .nan (isNeg f w) (rung f w - f.infRung) := by
  unfold isNan at h
  have := of_decide_eq_true h
  rw [read_eq f hf, if_neg (by omega), if_neg (by omega)]

theorem compare_congr {a b c d : Int} (h1 : a < b ↔ c < d) (h2 : a = b ↔ c = d) : compare a b = compare c d := by
  simp only [compare, compareOfLessAndEq]
  by_cases x : a < b
  · rw [if_pos x, if_pos (h1.1 x)]
  · rw [if_neg x, if_neg (fun y => x (h1.2 y))]
    by_cases z : a = b
    · rw [if_pos z, if_pos (h2.1 z)]
    · rw [if_neg z, if_neg (fun y => z (h2.2 y))]

theorem signed_eq (s : Bool) (m k : Nat) : signed s m k = if s then -((m * 2 ^ k : Nat) : Int) else ((m * 2 ^ k : Nat) : Int) := by
  unfold signed; rw [Nat.shiftLeft_eq]

/-- the exact order of two finite data is that of their signed units -/
theorem compare_signed (s t : Bool) (r r' : Nat) (base : Int) (h1 : base ≤ rp f r) (h2 : base ≤ rp f r') (hb : f.leastPlace ≤ base) :
    compare (signed s (rm f r) (rp f r - base).toNat) (signed t (rm f r') (rp f r' - base).toNat) = compare (if s then -(r : Int) else (r : Int)) (if t then -(r' : Int) else (r' : Int)) := by
  have e : ∀ x, base ≤ rp f x → mg f x = rm f x * 2 ^ (rp f x - base).toNat * 2 ^ (base - f.leastPlace).toNat := by
    intro x hx
    unfold mg
    rw [Nat.mul_assoc, ← Nat.pow_add]
    congr 2; omega
  have p : 0 < 2 ^ (base - f.leastPlace).toNat := Nat.two_pow_pos _
  have i1 := mg_lt_iff f r r'
  have i2 := mg_lt_iff f r' r
  have z1 : mg f 0 = 0 := mg_low f (binade_pos f)
  have n1 := mg_lt_iff f 0 r
  have n2 := mg_lt_iff f 0 r'
  rw [e r h1, e r' h2] at i1 i2
  rw [e r h1, z1] at n1
  rw [e r' h2, z1] at n2
  rw [signed_eq, signed_eq]
  generalize hA : rm f r * 2 ^ (rp f r - base).toNat = X at *
  generalize hC : rm f r' * 2 ^ (rp f r' - base).toNat = Y at *
  rw [Nat.mul_lt_mul_right p] at i1 i2
  have m1 : 0 < X ↔ 0 < r := by rw [← n1]; constructor; (intro h; exact Nat.mul_pos h p); (intro h; exact Nat.pos_of_mul_pos_right h)
  have m2 : 0 < Y ↔ 0 < r' := by rw [← n2]; constructor; (intro h; exact Nat.mul_pos h p); (intro h; exact Nat.pos_of_mul_pos_right h)
  apply compare_congr <;> cases s <;> cases t <;> simp only [if_true, if_false, Bool.false_eq_true] <;> omega

/-- THE ORDER OF TWO WORDS IS THE ORDER OF THEIR SIGNED RUNGS -/
theorem order_eq (hf : f.binade ≤ f.infRung) (x y : Nat) : f.order x y = if isNan f x = true ∨ isNan f y = true then none else some (compare (sv f x) (sv f y)) := by
  unfold Format.order
  by_cases hx : isNan f x = true
  · rw [if_pos (Or.inl hx), read_nan f hf hx]; rfl
  by_cases hy : isNan f y = true
  · rw [if_pos (Or.inr hy), read_nan f hf hy]; unfold Datum.order; split <;> first | rfl | simp_all
  rw [if_neg (by rintro (h | h); exact hx h; exact hy h)]
  have kx : rung f x ≤ f.infRung := by unfold isNan at hx; simpa using hx
  have ky : rung f y ≤ f.infRung := by unfold isNan at hy; simpa using hy
  have ip : 0 < f.infRung := Nat.lt_of_lt_of_le (binade_pos f) hf
  rcases Nat.lt_or_eq_of_le kx with lx | lx <;> rcases Nat.lt_or_eq_of_le ky with ly | ly
  · rw [read_num f hf lx, read_num f hf ly]
    simp only [Datum.order]
    rw [compare_signed f _ _ _ _ _ (by omega) (by omega) (by have := rp_ge f (rung f x); have := rp_ge f (rung f y); omega)]
    rfl
  · rw [read_num f hf lx, read_inf f hf ly]
    simp only [Datum.order, sv]
    congr 1
    symm
    cases isNeg f y <;> cases isNeg f x <;> simp only [if_true, if_false, Bool.false_eq_true, compare, compareOfLessAndEq] <;> (repeat (first | rw [if_pos (by omega)] | rw [if_neg (by omega)]))
  · rw [read_inf f hf lx, read_num f hf ly]
    simp only [Datum.order, sv]
    congr 1
    symm
    cases isNeg f y <;> cases isNeg f x <;> simp only [if_true, if_false, Bool.false_eq_true, compare, compareOfLessAndEq] <;> (repeat (first | rw [if_pos (by omega)] | rw [if_neg (by omega)]))
  · rw [read_inf f hf lx, read_inf f hf ly]
    simp only [Datum.order, sv]
    congr 1
    rw [lx, ly]
    cases isNeg f y <;> cases isNeg f x <;> simp only [if_true, if_false, Bool.false_eq_true, compare, compareOfLessAndEq, Bool.toNat_true, Bool.toNat_false] <;> (repeat (first | rw [if_pos (by omega)] | rw [if_neg (by omega)]))
end Plf
