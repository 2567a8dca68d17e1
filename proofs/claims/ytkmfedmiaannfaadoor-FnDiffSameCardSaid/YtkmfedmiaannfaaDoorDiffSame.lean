/- FnDiffSame: how its arguments are read, and the law. -/
import Derived.Test.YtkmfedmiaannfaaDoorUni
set_option linter.unusedVariables false
set_option linter.unusedSimpArgs false
namespace Go.Proofs.YtkmfedmiaannfaaDoor.DiffSame
open Go.RowKit Go.ChangeShapes Go.WideShapes Go.Deep Df

set_option maxRecDepth 100000 in
theorem read0 {H : Type} {enc : TypeId × Value → H} {W : World} {base b0 : Nat} {held : Bool} {r : Reach} {v : Value} {d : DataW H} {p : List MemPlace}
    (hv : Value.okWide Tryd.prog W r b0 22 v) (h : DataW.Trod enc Tryd.prog W base (fun _ => true) held 22 v d p) : ∃ zs : List ByteArray, Sl.Of Value.string W v zs ∧ ∀ z ∈ zs, z.size ≤ 9223372036854775807 :=
  Sl.open_strings Tryd.underlying22 Tryd.underlying9 (by kernel_rfl) hv h

set_option maxHeartbeats 4000000 in
set_option maxRecDepth 100000 in
theorem law_nat (v : Value) (n : Nat) (w : World) (xs : List ByteArray) (hv : Sl.Of Value.string w v xs) (hsx : ∀ z ∈ xs, z.size ≤ 9223372036854775807) (hn : n ≤ 255) :
    Calls Tryd.prog 3 #[v, .int .u8 (n : Int)] w fun e w' => e = .returned (.bool true) ∧ Below w.heap.size w w' := by
  have HF1 := Lib.hid (fits3_any v xs w hv hsx)
  obtain ⟨aa, ca, rfl, hca, hca2⟩ := Of_slice hv
  have HV := Lib.hid hv
  clear hv hsx
  go_enter Tryd.func3, Tryd.ntmps3
  go_wp2_with fail
  refine HF1.out.mono ?_
  rintro e w1 ⟨rfl, rfl⟩
  cases hf1 : fitsB xs with
  | false =>
    go_wp2_with fail
    go_ret
    exact ⟨rfl, Below.refl _ _⟩
  | true =>
    obtain ⟨hx, hsx⟩ := fitsB_iff.1 hf1
    have HCR := Lib.hid (ratios_any xs _ _ w HV.out HV.out hx hsx)
    have HCG := Lib.hid (fun (w' : World) (hb : Below w.heap.size w w') => implGroups_any xs xs n _ _ w' (HV.out.below hb) (HV.out.below hb) hx hx hsx hsx hn)
    have HCU := Lib.hid (fun (w' : World) (hb : Below w.heap.size w w') => unified_any xs _ _ ⟨#[120]⟩ ⟨#[121]⟩ n w' (HV.out.below hb) (HV.out.below hb) hx hsx hn)
    rw [grps_self] at HCG
    clear hsx hf1
    go_wp2_with fail
    refine HCR.out.mono ?_
    rintro e w1 ⟨rfl, hb1⟩
    have B1 := Lib.hid hb1
    have CG := Lib.hid (HCG.out w1 hb1)
    clear hb1 HCG HCR
    go_wp2_with fail
    refine CG.out.mono ?_
    rintro e w2 ⟨v2, rfl, hof, hb2⟩
    obtain ⟨a2, c2, rfl, _, _⟩ := hof.slice
    have b2 := B1.out.trans (hb2.mono B1.out.size)
    have CU := Lib.hid (HCU.out w2 b2)
    have B2 := Lib.hid b2
    clear hof hb2 b2 HCU CG
    go_wp2_with fail
    refine CU.out.mono ?_
    rintro e w3 ⟨rfl, hb3⟩
    have B3 := Lib.hid (B2.out.trans (hb3.mono B2.out.size))
    have CA := Lib.hid (awake_any w3)
    clear hb3 CU
    go_wp2_with fail
    refine CA.out.mono ?_
    rintro e w4 ⟨rfl, hb4⟩
    have hfin := B3.out.trans (hb4.mono B3.out.size)
    clear hb4
    go_wp2_with fail
    go_ret
    exact ⟨rfl, hfin⟩

theorem law_any (v : Value) (n : Int) (w : World) (h0 : ∃ zs : List ByteArray, Sl.Of Value.string w v zs ∧ ∀ z ∈ zs, z.size ≤ 9223372036854775807) (hn : (Lit.int .u8 n).wf = true) :
    Calls Tryd.prog 3 #[v, .int .u8 n] w fun e w' => e = .returned (.bool true) ∧ Below w.heap.size w w' := by
  obtain ⟨xs, hx, hsx⟩ := h0
  have hb := hn
  simp [Lit.wf, IntKind.min, IntKind.max, IntKind.signed, IntKind.bits] at hb
  obtain ⟨k, rfl⟩ := Int.eq_ofNat_of_zero_le hb.1
  exact law_nat v k w xs hx hsx (by omega)

end Go.Proofs.YtkmfedmiaannfaaDoor.DiffSame
