/- FnNameParts: the walk of the law. -/
import Derived.Test.YtaglcklbngoknaaFq
set_option linter.unusedVariables false
set_option linter.unusedSimpArgs false
namespace Go.Proofs.Ytaglcklbngoknaa.NameParts
open Go.RowKit

/-- the joining of the part with the namespace is the whole -/
theorem part_any (a b c : ByteArray) (w : World) (ha : a.size ≤ 2147483647) (hb : b.size ≤ 2147483647) (hc : c.size ≤ 2147483647) :
    Calls Try.prog 12 #[.string a, .string ⟨#[]⟩, .string ⟨(Fq.fq [] b.data.toList c.data.toList).toArray⟩] w fun e w' => e = .returned (.string ⟨(Fq.fq a.data.toList b.data.toList c.data.toList).toArray⟩) ∧ Below w.heap.size w w' := by
  have hl := Fq.fq_len [] b.data.toList c.data.toList
  rw [Fq.size_data, Fq.size_data] at hl
  have hs : (ByteArray.mk (Fq.fq [] b.data.toList c.data.toList).toArray).size ≤ 8589934592 := by
    rw [Lib.size_eq]
    show (Fq.fq [] b.data.toList c.data.toList).length ≤ _
    simp only [List.length_nil] at hl
    omega
  refine (Fq.impl_any a ⟨#[]⟩ ⟨(Fq.fq [] b.data.toList c.data.toList).toArray⟩ w (by omega) (by decide) hs).mono ?_
  rintro e w1 ⟨rfl, b1⟩
  refine ⟨?_, b1⟩
  have := Fq.fq_parts a.data.toList b.data.toList c.data.toList
  rw [← this]

theorem bare_any (a : ByteArray) (l : List UInt8) (w : World) (ha : a.size ≤ 2147483647) (hl : l.length ≤ 8589934592) :
    Calls Try.prog 12 #[.string a, .string ⟨l.toArray⟩, .string ⟨#[]⟩] w fun e w' => e = .returned (.string ⟨#[]⟩) ∧ Below w.heap.size w w' := by
  refine (Fq.impl_any a ⟨l.toArray⟩ ⟨#[]⟩ w (by omega) (by rw [Lib.size_eq]; exact hl) (by decide)).mono ?_
  rintro e w1 ⟨rfl, b1⟩
  refine ⟨?_, b1⟩
  have := Fq.fq_bare a.data.toList l
  show Ending.returned (.string ⟨(Fq.fq a.data.toList l []).toArray⟩) = _
  rw [this]

set_option maxHeartbeats 1000000 in
set_option maxRecDepth 100000 in
theorem law_any (a b c : ByteArray) (w : World) (ha : a.size ≤ 9223372036854775807) (hb : b.size ≤ 9223372036854775807) (hc : c.size ≤ 9223372036854775807) :
    Calls Try.prog 4 #[.string a, .string b, .string c] w fun e w' => e = .returned (.bool true) ∧ Below w.heap.size w w' := by
  go_enter Try.func4, Try.ntmps4
  go_wp2_with fail
  · go_ret; exact ⟨rfl, Below.refl _ _⟩
  · have h : ((a.size : Int) ≤ 2147483647 ∧ (b.size : Int) ≤ 2147483647) ∧ (c.size : Int) ≤ 2147483647 := by assumption
    have ha : a.size ≤ 2147483647 := by omega
    have hb : b.size ≤ 2147483647 := by omega
    have hc : c.size ≤ 2147483647 := by omega
    clear h
    refine (Fq.impl_any ⟨#[]⟩ b c w (by decide) (by omega) (by omega)).mono ?_
    rintro e w1 ⟨rfl, b1⟩
    go_wp2_with fail
    refine (part_any a b c w1 ha hb hc).mono ?_
    rintro e w2 ⟨rfl, b2⟩
    go_wp2_with fail
    refine (Fq.impl_any a b c w2 (by omega) (by omega) (by omega)).mono ?_
    rintro e w3 ⟨rfl, b3⟩
    go_wp2_with fail
    refine (bare_any a _ w3 ha (by have := Fq.fq_len [] b.data.toList c.data.toList; rw [Fq.size_data, Fq.size_data] at this; simp only [List.length_nil] at this; omega)).mono ?_
    rintro e w4 ⟨rfl, b4⟩
    go_wp2_with fail
    refine (Fq.lives_any w4).mono ?_
    rintro e w5 ⟨rfl, b5⟩
    go_wp2_with fail
    go_ret
    exact ⟨rfl, b1.trans ((b2.trans ((b3.trans ((b4.trans (b5.mono b4.size)).mono b3.size)).mono b2.size)).mono b1.size)⟩
  · go_ret; exact ⟨rfl, Below.refl _ _⟩
  · go_ret; exact ⟨rfl, Below.refl _ _⟩

end Go.Proofs.Ytaglcklbngoknaa.NameParts
