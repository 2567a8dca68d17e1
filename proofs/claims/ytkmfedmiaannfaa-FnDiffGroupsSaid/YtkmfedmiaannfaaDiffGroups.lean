/- FnDiffGroups: how its arguments are read, and the law. -/
import Derived.Test.YtkmfedmiaannfaaGs
import Derived.Test.YtkmfedmiaannfaaDft
set_option linter.unusedVariables false
set_option linter.unusedSimpArgs false
namespace Go.Proofs.Ytkmfedmiaannfaa.DiffGroups
open Go.RowKit Go.ChangeShapes Go.WideShapes Go.Deep Df

set_option maxRecDepth 100000 in
theorem read0 {H : Type} {enc : TypeId × Value → H} {W : World} {base b0 : Nat} {held : Bool} {r : Reach} {v : Value} {d : DataW H} {p : List MemPlace}
    (hv : Value.okWide Try.prog W r b0 22 v) (h : DataW.Trod enc Try.prog W base (fun _ => true) held 22 v d p) : ∃ zs : List ByteArray, Sl.Of Value.string W v zs ∧ ∀ z ∈ zs, z.size ≤ 9223372036854775807 :=
  Sl.open_strings Try.underlying22 Try.underlying9 (by kernel_rfl) hv h
set_option maxRecDepth 100000 in
theorem read1 {H : Type} {enc : TypeId × Value → H} {W : World} {base b0 : Nat} {held : Bool} {r : Reach} {v : Value} {d : DataW H} {p : List MemPlace}
    (hv : Value.okWide Try.prog W r b0 22 v) (h : DataW.Trod enc Try.prog W base (fun _ => true) held 22 v d p) : ∃ zs : List ByteArray, Sl.Of Value.string W v zs ∧ ∀ z ∈ zs, z.size ≤ 9223372036854775807 := read0 hv h

set_option maxHeartbeats 4000000 in
set_option maxRecDepth 100000 in
theorem law_nat (v v1 : Value) (n : Nat) (w : World) (xs ys : List ByteArray) (hv : Sl.Of Value.string w v xs) (hv1 : Sl.Of Value.string w v1 ys) (hsx : ∀ z ∈ xs, z.size ≤ 9223372036854775807) (hsy : ∀ z ∈ ys, z.size ≤ 9223372036854775807) (hn : n ≤ 255) :
    Calls Try.prog 7 #[v, v1, .int .u8 (n : Int)] w fun e w' => e = .returned (.bool true) ∧ Below w.heap.size w w' := by
  have HF1 := Lib.hid (fits3_any v xs w hv hsx)
  have HF2 := Lib.hid (fits3_any v1 ys w hv1 hsy)
  obtain ⟨aa, ca, rfl, hca, hca2⟩ := Of_slice hv
  obtain ⟨ab, cb, rfl, hcb, hcb2⟩ := Of_slice hv1
  have HV := Lib.hid hv
  have HV1 := Lib.hid hv1
  clear hv hv1 hsx hsy
  go_enter Try.func7, Try.ntmps7
  go_wp2_with fail
  refine HF1.out.mono ?_
  rintro e w1 ⟨rfl, rfl⟩
  cases hf1 : fitsB xs with
  | false =>
    go_wp2_with fail
    go_ret
    exact ⟨rfl, Below.refl _ _⟩
  | true =>
    go_wp2_with fail
    refine HF2.out.mono ?_
    rintro e w1 ⟨rfl, rfl⟩
    cases hf2 : fitsB ys with
    | false =>
      go_wp2_with fail
      go_ret
      exact ⟨rfl, Below.refl _ _⟩
    | true =>
      obtain ⟨hx, hsx⟩ := fitsB_iff.1 hf1
      obtain ⟨hy, hsy⟩ := fitsB_iff.1 hf2
      have HCE := Lib.hid (implEdits_any xs ys _ _ w HV.out HV1.out hx hy hsx hsy)
      have HCG := Lib.hid (fun (w' : World) (hb : Below w.heap.size w w') => diffGroups_any xs ys n _ _ w' (HV.out.below hb) (HV1.out.below hb) hx hy hsx hsy hn)
      have hol := ops_len xs ys
      have hgood := grps_good n (ops xs ys) (ops_run xs ys)
      have hsm := small_grps (n := n) (ops_small (xs := xs) (ys := ys) (M := 2147483647) hx hy) (by omega)
      have hgm := grps_mem n (ops xs ys)
      obtain ⟨L, hL⟩ : ∃ L, ops xs ys = L := ⟨_, rfl⟩
      rw [hL] at HCE HCG hol hgood hsm hgm
      have hol2 : L.length ≤ 4294967296 := by omega
      have HGood := Lib.hid hgood
      have HSm := Lib.hid hsm
      have HGm : Hid (∀ x ∈ grps n L, x.length ≤ 4294967300) := fun x hx => by have := hgm x hx; omega
      clear hL hsx hsy hf1 hf2 hol hgood hsm hgm
      go_wp2_with fail
      refine HCE.out.mono ?_
      rintro e w1 ⟨v2, rfl, ho2, hb2⟩
      have CF := Lib.hid (editsFrom_any L v2 w1 ho2 (by omega))
      have B2 := Lib.hid hb2
      clear ho2 hb2
      go_wp2_with fail
      refine CF.out.mono ?_
      rintro e w2 ⟨v3, rfl, hown3, hb3⟩
      have B3 := Lib.hid (B2.out.trans (hb3.mono B2.out.size))
      have HO3 := Lib.hid (Ss.Of.own ecells_len hown3)
      have CG := Lib.hid (HCG.out w2 B3.out)
      clear hown3 hb3 HCG HCE CF
      go_wp2_with fail
      refine CG.out.mono ?_
      rintro e w3 ⟨v4, rfl, ho4, hb4⟩
      have B4 := Lib.hid (B3.out.trans (hb4.mono B3.out.size))
      have CR := Lib.hid (right_any L (grps n L) n v3 v4 w3 (HO3.out.below hb4) ho4 hn (by omega) HGm.out HSm.out HGood.out.1 HGood.out.2)
      clear ho4 hb4 CG
      go_wp2_with fail
      refine CR.out.mono ?_
      rintro e w4 ⟨rfl, hb5⟩
      have B5 := Lib.hid (B4.out.trans (hb5.mono B4.out.size))
      have CA := Lib.hid (awake_any w4)
      clear hb5 CR
      go_wp2_with fail
      refine CA.out.mono ?_
      rintro e w5 ⟨rfl, hb6⟩
      have hfin := B5.out.trans (hb6.mono B5.out.size)
      clear hb6
      go_wp2_with fail
      go_ret
      exact ⟨rfl, hfin⟩

theorem law_any (v v1 : Value) (n : Int) (w : World) (h0 : ∃ zs : List ByteArray, Sl.Of Value.string w v zs ∧ ∀ z ∈ zs, z.size ≤ 9223372036854775807) (h1 : ∃ zs : List ByteArray, Sl.Of Value.string w v1 zs ∧ ∀ z ∈ zs, z.size ≤ 9223372036854775807) (hn : (Lit.int .u8 n).wf = true) :
    Calls Try.prog 7 #[v, v1, .int .u8 n] w fun e w' => e = .returned (.bool true) ∧ Below w.heap.size w w' := by
  obtain ⟨xs, hx, hsx⟩ := h0
  obtain ⟨ys, hy, hsy⟩ := h1
  have hb := hn
  simp [Lit.wf, IntKind.min, IntKind.max, IntKind.signed, IntKind.bits] at hb
  obtain ⟨k, rfl⟩ := Int.eq_ofNat_of_zero_le hb.1
  exact law_nat v v1 k w xs ys hx hy hsx hsy (by omega)

end Go.Proofs.Ytkmfedmiaannfaa.DiffGroups
