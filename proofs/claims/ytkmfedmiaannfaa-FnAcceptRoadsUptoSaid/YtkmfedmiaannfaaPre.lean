/- strings.HasPrefix: walked; at one byte and at a longer constant. -/
import Derived.Test.YtkmfedmiaannfaaOct3
set_option linter.unusedVariables false
set_option linter.unusedSimpArgs false
namespace Go.Proofs.Ytkmfedmiaannfaa.Oct
open Go.RowKit

def hasPre (s p : ByteArray) : Bool := p.data.toList.isPrefixOf s.data.toList
theorem hasPre_yes {s p : ByteArray} (h : hasPre s p = true) : p.size ≤ s.size := by
  rw [Lib.size_eq, Lib.size_eq]; exact (List.isPrefixOf_iff_prefix.1 h).length_le
theorem hasPre_take (s p : ByteArray) : ((s.extract 0 p.size).toList == p.toList) = hasPre s p := by
  rw [Lib.toList_data, Lib.toList_data, extract_take]
  rw [Bool.eq_iff_iff, beq_iff_eq]
  unfold hasPre
  rw [List.isPrefixOf_iff_prefix, List.prefix_iff_eq_take, Lib.size_eq p]
  exact ⟨fun h => h.symm, fun h => h.symm⟩

set_option maxHeartbeats 1000000 in
set_option maxRecDepth 100000 in
theorem lite_any (s p : ByteArray) (r : Bool) (hr : hasPre s p = r) (w : World) :
    Calls Try.prog 88 #[.string s, .string p] w fun e w' => e = .returned (.bool r) ∧ w = w' := by
  have HR := Lib.hid hr
  clear hr
  by_cases h : p.size ≤ s.size
  · have h1 : decide (p.size ≤ s.size) = true := decide_eq_true h
    have h2 : ((s.extract 0 p.size).toList == p.toList) = r := by rw [hasPre_take, HR.out]
    cases r
    · go_enter Try.func88, Try.ntmps88
      go_wp2
      go_ret
      exact ⟨rfl, rfl⟩
    · go_enter Try.func88, Try.ntmps88
      go_wp2
      go_ret
      exact ⟨rfl, rfl⟩
  · have h1 : decide (p.size ≤ s.size) = false := decide_eq_false h
    have h2 : r = false := by
      rw [← HR.out]
      exact Bool.eq_false_iff.2 fun h' => h (hasPre_yes h')
    subst h2
    go_enter Try.func88, Try.ntmps88
    go_wp2
    go_ret
    exact ⟨rfl, rfl⟩

set_option maxHeartbeats 1000000 in
theorem pre_any (s p : ByteArray) (r : Bool) (hr : hasPre s p = r) (w : World) :
    Calls Try.prog 69 #[.string s, .string p] w fun e w' => e = .returned (.bool r) ∧ w = w' := by
  have HL := Lib.hid (lite_any s p r hr)
  clear hr
  go_enter Try.func69, Try.ntmps69
  go_wp2_with fail
  refine (HL.out w).mono ?_
  rintro e w1 ⟨rfl, rfl⟩
  go_wp2
  go_ret
  exact ⟨rfl, rfl⟩

end Go.Proofs.Ytkmfedmiaannfaa.Oct
