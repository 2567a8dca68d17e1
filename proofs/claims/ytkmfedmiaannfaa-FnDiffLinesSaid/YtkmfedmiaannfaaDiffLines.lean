/- FnDiffLines: the law. -/
import Derived.Test.YtkmfedmiaannfaaDfx
import Derived.Test.YtkmfedmiaannfaaDfl
set_option linter.unusedVariables false
set_option linter.unusedSimpArgs false
namespace Go.Proofs.Ytkmfedmiaannfaa.DiffLines
open Go.RowKit Go.ChangeShapes Go.WideShapes Go.Deep

set_option maxHeartbeats 1000000 in
set_option maxRecDepth 100000 in
theorem law_any (s : ByteArray) (w : World) (hs : s.size ≤ 9223372036854775807) :
    Calls Try.prog 6 #[.string s] w fun e w' => e = .returned (.bool true) ∧ Below w.heap.size w w' := by
  by_cases hz : s.size ≤ 2147483647
  · have h1 : (s.size : Int) ≤ 2147483647 := by omega
    have C1 := Lib.hid (Df.splitLines_any s hz w)
    have C2 := Lib.hid (fun w => Df.lines_any s hz w)
    go_enter Try.func6, Try.ntmps6
    go_wp2_with (first | (go_at_call 21; go_in))
    refine C1.out.mono ?_
    rintro e w1 ⟨v1, rfl, ho1, b1⟩
    have HO1 := Lib.hid ho1
    have B1 := Lib.hid b1
    clear ho1 b1
    go_wp2_with fail
    refine (C2.out w1).mono ?_
    rintro e w2 ⟨v2, rfl, ho2, b2⟩
    have CS := Lib.hid (Df.same_true v1 v2 _ w2 (HO1.out.below b2) ho2)
    have B2 := Lib.hid (B1.out.trans (b2.mono B1.out.size))
    clear ho2 b2
    go_wp2_with fail
    refine CS.out.mono ?_
    rintro e w3 ⟨rfl, m, rfl⟩
    have B3 := Lib.hid (Go.below_drewN B2.out m)
    have CA := Lib.hid (Df.awake_any (w2.drewN m))
    go_wp2_with fail
    refine CA.out.mono ?_
    rintro e w4 ⟨rfl, b4⟩
    have hfin := B3.out.trans (b4.mono B3.out.size)
    clear b4
    go_wp2_with fail
    go_ret
    exact ⟨rfl, hfin⟩
  · have h1 : (2147483647 : Int) < (s.size : Int) := by omega
    go_enter Try.func6, Try.ntmps6
    go_wp2_with fail
    go_ret
    exact ⟨rfl, Below.refl _ _⟩

end Go.Proofs.Ytkmfedmiaannfaa.DiffLines
