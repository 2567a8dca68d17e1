/- FnReBucketKeeps: the walk of the law. -/
import Derived.Test.YtaglcklbngoknaaRebE
set_option linter.unusedVariables false
set_option linter.unusedSimpArgs false
namespace Go.Proofs.Ytaglcklbngoknaa.ReBucketKeeps
open Go.RowKit Plf

def facB (z : Nat) : Bool := !isNeg D z && decide (0 < rung D z) && decide (rung D z < D.infRung) && !(D.order z 4607182418800017408 == some .lt || D.order z 4607182418800017408 == some .eq)
theorem fac_of {z : Nat} (h : facB z = true) : Fac z ∧ (D.order z 4607182418800017408 == some .lt || D.order z 4607182418800017408 == some .eq) = false := by
  unfold facB at h
  simp only [Bool.and_eq_true, Bool.not_eq_true', decide_eq_true_eq] at h
  exact ⟨⟨h.1.1.1, h.1.1.2, h.1.2⟩, h.2⟩
theorem fac_all : (List.range 9).all (fun i => facB (floatOfInt .f64 ((i + 2 : Nat) : Int))) = true := by decide +kernel
theorem fac_int (b : Nat) (h1 : 2 ≤ b) (h2 : b ≤ 10) : Fac (floatOfInt .f64 (b : Int)) ∧ (D.order (floatOfInt .f64 (b : Int)) 4607182418800017408 == some .lt || D.order (floatOfInt .f64 (b : Int)) 4607182418800017408 == some .eq) = false := by
  have := List.all_eq_true.1 fac_all (b - 2) (List.mem_range.2 (by omega))
  rw [show b - 2 + 2 = b by omega] at this
  exact fac_of this

theorem one_pos : Pos 4607182418800017408 := ⟨by decide +kernel, by decide +kernel⟩
theorem one_gt : (D.order 4607182418800017408 0 == some .lt || D.order 4607182418800017408 0 == some .eq) = false := by decide +kernel

set_option maxRecDepth 100000 in
theorem read0 {H : Type} {enc : TypeId × Value → H} {W : World} {base b0 : Nat} {held : Bool} {r : Reach} {v : Value} {d : DataW H} {p : List MemPlace}
    (hv : Value.okWide Try.prog W r b0 32 v) (h : DataW.Trod enc Try.prog W base (fun _ => true) held 32 v d p) : ∃ zs : List Int, Sl.Of (Value.int .i64) W v zs ∧ ∀ z ∈ zs, -9223372036854775808 ≤ z ∧ z ≤ 9223372036854775807 :=
  Sl.open_ints Try.underlying32 Try.underlying3 (by kernel_rfl) hv h

theorem tmod_small (x m : Int) (hm : 0 < m) : -m < x.tmod m ∧ x.tmod m < m := by
  rcases Int.lt_or_le x 0 with h | h
  · have := Int.neg_tmod (-x) m
    rw [Int.neg_neg] at this
    rw [this, Int.tmod_eq_emod_of_nonneg (by omega)]
    have := Int.emod_nonneg (-x) (show m ≠ 0 by omega)
    have := Int.emod_lt_of_pos (-x) hm
    omega
  · rw [Int.tmod_eq_emod_of_nonneg h]
    have := Int.emod_nonneg x (show m ≠ 0 by omega)
    have := Int.emod_lt_of_pos x hm
    omega

set_option maxHeartbeats 4000000 in
set_option maxRecDepth 100000 in
theorem law_any (v : Value) (base count : Int) (w : World) (hv : ∃ zs : List Int, Sl.Of (Value.int .i64) w v zs ∧ ∀ z ∈ zs, -9223372036854775808 ≤ z ∧ z ≤ 9223372036854775807) (hb : (Lit.int .i64 base).wf = true) (hc : (Lit.int .i64 count).wf = true) :
    Calls Try.prog 6 #[v, .int .i64 base, .int .i64 count] w fun e w' => e = .returned (.bool true) ∧ Below w.heap.size w w' := by
  obtain ⟨zs, hv, hz⟩ := hv
  have hlen : ∃ a cap, v = .slice a zs.length cap := by
    rcases hv with ⟨rfl, a, cap, rfl, hc⟩ | ⟨b, off, cap, rfl, _⟩
    · exact ⟨a, cap, rfl⟩
    · exact ⟨_, cap, rfl⟩
  have hmax := hv.len
  obtain ⟨a, cap, rfl⟩ := hlen
  have HV := Lib.hid hv
  have HZ := Lib.hid hz
  clear hv hz
  by_cases hbig : (2147483647 : Int) < zs.length
  · clear hb hc
    go_enter Try.func6, Try.ntmps6
    go_wp2
    go_ret
    exact ⟨rfl, Below.refl _ _⟩
  · have hb1 : -9223372036854775808 ≤ base ∧ base ≤ 9223372036854775807 := by
      simp [Lit.wf, IntKind.min, IntKind.max, IntKind.signed, IntKind.bits] at hb; omega
    have hc1 : -9223372036854775808 ≤ count ∧ count ≤ 9223372036854775807 := by
      simp [Lit.wf, IntKind.min, IntKind.max, IntKind.signed, IntKind.bits] at hc; omega
    obtain ⟨t1, t2⟩ := tmod_small base 9 (by omega)
    obtain ⟨t3, t4⟩ := tmod_small count 10 (by omega)
    obtain ⟨t5, t6⟩ := hb1
    obtain ⟨t7, t8⟩ := hc1
    clear hb hc
    go_enter Try.func6, Try.ntmps6
    go_wp2_with fail
    refine (whole_any _ zs w HV.out HZ.out).mono ?_
    rintro e w1 ⟨v1, l, rfl, hv1, hp1, hl1, b1⟩
    have HV1 := Lib.hid hv1
    have HP1 := Lib.hid hp1
    clear hv1 hp1
    go_wp2_with fail
    obtain ⟨bN, hbN, hb2, hb10⟩ : ∃ n : Nat, base.tmod 9 % 9 + 2 = n ∧ 2 ≤ n ∧ n ≤ 10 := ⟨(base.tmod 9 % 9 + 2).toNat, by omega, by omega, by omega⟩
    obtain ⟨nN, hnN, hn2, hn11⟩ : ∃ n : Nat, count.tmod 10 % 10 + 2 = n ∧ 2 ≤ n ∧ n ≤ 11 := ⟨(count.tmod 10 % 10 + 2).toNat, by omega, by omega, by omega⟩
    rw [hbN, hnN]
    clear hbN hnN t1 t2 t3 t4 t5 t6 t7 t8
    obtain ⟨hfac, hgt⟩ := fac_int bN hb2 hb10
    obtain ⟨bf, hbf⟩ : ∃ bf, floatOfInt .f64 (bN : Int) = bf := ⟨_, rfl⟩
    rw [hbf] at hfac hgt ⊢
    have HBF := Lib.hid hbf
    have HF := Lib.hid hfac
    clear hbf hfac
    refine (powers_any 4607182418800017408 bf nN one_pos HF.out one_gt hgt (by omega) (by omega) w1).mono ?_
    rintro e w2 ⟨v2, rfl, hv2, b2⟩
    have HL2 := Lib.hid (pows_len bf nN 4607182418800017408)
    have HPP : Hid (∀ z ∈ pows bf 4607182418800017408 nN, Pos z) := by
      intro z hz
      rw [pows_eq] at hz
      obtain ⟨i, _, rfl⟩ := List.mem_map.1 hz
      exact pow_pos HF.out one_pos i
    have HRP := Lib.hid (rebucket_pows bf HF.out 4607182418800017408 one_pos nN)
    generalize pows bf 4607182418800017408 nN = P at *
    have HV2 := Lib.hid hv2
    clear hv2 hgt
    go_wp2_with fail
    rw [HBF.out]
    refine (impl_any v2 P bf HF.out w2 HV2.out HPP.out (by rw [HL2.out]; omega)).mono ?_
    rintro e w3 ⟨v3, rfl, hv3, b3⟩
    rw [if_neg (by rw [HL2.out]; omega), HRP.out] at hv3
    have HV3 := Lib.hid hv3
    clear hv3
    go_wp2_with fail
    refine (same_any v3 v2 P w3 HV3.out (HV2.out.below b3) (by rw [HL2.out]; omega)).mono ?_
    rintro e w4 ⟨rfl, k4, hk4⟩
    have b4 : Below w3.heap.size w3 w4 := by rw [hk4]; exact below_drewN (Below.refl _ _) k4
    clear hk4
    have b14 : Below w1.heap.size w1 w4 := b2.trans ((b3.trans (b4.mono b3.size)).mono b2.size)
    have b04 : Below w.heap.size w w4 := b1.trans (b14.mono b1.size)
    have HV14 := Lib.hid (HV1.out.below b14)
    clear HV3 HV2 HPP HRP HL2
    have hex1 : ∃ ao c, v1 = .slice ao l.length c := by
      rcases HV1.out with ⟨h0, a, cap, h, _⟩ | ⟨b, off, cap, h, _⟩
      · exact ⟨_, _, by rw [h, h0]; rfl⟩
      · exact ⟨_, _, h⟩
    obtain ⟨ao, c, hu⟩ := hex1
    subst hu
    by_cases h2 : (l.length : Int) < 2
    · go_wp2
      go_ret
      exact ⟨rfl, b04⟩
    · have h2' : ¬ l.length < 2 := by omega
      go_wp2_with fail
      rw [HBF.out]
      refine (impl_any _ l bf HF.out w4 HV14.out HP1.out (by omega)).mono ?_
      rintro e w5 ⟨v5, rfl, hv5, b5⟩
      rw [if_neg h2'] at hv5
      have HV5 := Lib.hid hv5
      have HP5 : Hid (∀ z ∈ rebucket bf l, Pos z) := by
        intro z hz
        cases hl : l with
        | nil => rw [hl] at hz; cases hz
        | cons k r =>
          rw [hl] at hz
          rcases rb_mem bf r k z hz with h | h
          · exact HP1.out z (by rw [hl, h]; exact List.mem_cons_self ..)
          · exact HP1.out z (by rw [hl]; exact List.mem_cons_of_mem _ h)
      have hl5 : (rebucket bf l).length ≤ 2000 := by
        cases hl : l with
        | nil => simp [rebucket]
        | cons k r =>
          have := rb_len bf r k
          rw [hl] at hl1
          show (rb bf k r).length ≤ _
          simp at hl1
          omega
      have HT := Lib.hid (rebucket_twice bf l)
      generalize rebucket bf l = q at *
      clear hv5
      have b05 : Below w.heap.size w w5 := b04.trans (b5.mono b04.size)
      have hex5 : ∃ ao c, v5 = .slice ao q.length c := by
        rcases HV5.out with ⟨h0, a, cap, h, _⟩ | ⟨b, off, cap, h, _⟩
        · exact ⟨_, _, by rw [h, h0]; rfl⟩
        · exact ⟨_, _, h⟩
      obtain ⟨ao5, c5, hu⟩ := hex5
      subst hu
      by_cases h5 : (q.length : Int) < 2
      · go_wp2
        go_ret
        exact ⟨rfl, b05⟩
      · have h5' : ¬ q.length < 2 := by omega
        go_wp2_with fail
        rw [HBF.out]
        refine (impl_any _ q bf HF.out w5 HV5.out HP5.out (by omega)).mono ?_
        rintro e w6 ⟨v6, rfl, hv6, b6⟩
        rw [if_neg h5', HT.out] at hv6
        have HV6 := Lib.hid hv6
        clear hv6
        go_wp2_with fail
        refine (same_any v6 _ q w6 HV6.out (HV5.out.below b6) (by omega)).mono ?_
        rintro e w7 ⟨rfl, k7, hk7⟩
        have b7 : Below w6.heap.size w6 w7 := by rw [hk7]; exact below_drewN (Below.refl _ _) k7
        clear hk7
        go_wp2
        go_ret
        exact ⟨rfl, b05.trans ((b6.trans (b7.mono b6.size)).mono b05.size)⟩

end Go.Proofs.Ytaglcklbngoknaa.ReBucketKeeps
