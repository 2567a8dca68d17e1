/- The package's own search of a text within a text (inner.zzIndex): the first place; walked. -/
import Derived.Test.YtkmfedmiaannfaaProg
import Derived.WalkKit
import Derived.WalkSpells
import Derived.WalkLawsBesides
import Derived.Outline
import Derived.Lib.Hide
import Derived.Lib.Strings
import Derived.Laws.Runes
import Derived.Lib.OthersKept
set_option linter.unusedVariables false
set_option linter.unusedSimpArgs false
namespace Go.Proofs.Ytkmfedmiaannfaa.Zix
open Go.RowKit

def idxFrom (p : List UInt8) : List UInt8 → Nat → Int
  | [], k => if p.isPrefixOf [] then (k : Int) else -1
  | c :: r, k => if p.isPrefixOf (c :: r) then (k : Int) else idxFrom p r (k + 1)
/-- the first place of p in l, or -1 -/
def idx (l p : List UInt8) : Int := idxFrom p l 0

theorem idx_short {p : List UInt8} : ∀ {l : List UInt8} (k : Nat), l.length < p.length → idxFrom p l k = -1
  | [], k, h => by
    unfold idxFrom
    rw [if_neg]
    intro hp
    have := (List.isPrefixOf_iff_prefix.1 hp).length_le
    omega
  | c :: r, k, h => by
    unfold idxFrom
    rw [if_neg]
    · exact idx_short (k + 1) (by simp only [List.length_cons] at h; omega)
    · intro hp
      have := (List.isPrefixOf_iff_prefix.1 hp).length_le
      omega

theorem extract_list (s : ByteArray) (a b : Nat) : (s.extract a b).data.toList = (s.data.toList.drop a).take (b - a) := by rw [Lib.extract_data]
theorem at_iff (s p : ByteArray) (k : Nat) (h : k + p.size ≤ s.size) : ((s.extract k (k + p.size)).toList == p.toList) = p.data.toList.isPrefixOf (s.data.toList.drop k) := by
  rw [Lib.toList_data, Lib.toList_data, extract_list]
  rw [Bool.eq_iff_iff, beq_iff_eq, List.isPrefixOf_iff_prefix, List.prefix_iff_eq_take]
  rw [show k + p.size - k = p.data.toList.length by rw [← Lib.size_eq]; omega]
  exact ⟨fun h => h.symm, fun h => h.symm⟩

set_option maxHeartbeats 2000000 in
set_option maxRecDepth 100000 in
theorem index_any (s p : ByteArray) (hs : s.size ≤ 4611686018427387903) (hp : 0 < p.size) (hp2 : p.size ≤ 1048576) (w : World) :
    Calls Try.prog 89 #[.string s, .string p] w fun e w' => e = .returned (.int .i64 (idx s.data.toList p.data.toList)) ∧ w = w' := by
  obtain ⟨R, hR⟩ : ∃ R, idx s.data.toList p.data.toList = R := ⟨_, rfl⟩
  rw [hR]
  have HR := Lib.hid hR
  clear hR
  go_enter Try.func89, Try.ntmps89
  go_wp2
  go_loopw [5] (fun i wr => ∃ k : Nat, k ≤ s.size ∧ i = .int .i64 k ∧ w = wr ∧ Hid (idxFrom p.data.toList (s.data.toList.drop k) k = R)) (fun i _ => s.size - (intOf i).toNat)
  case atStart => exact ⟨0, Nat.zero_le _, rfl, rfl, HR.out⟩
  case round =>
    obtain ⟨k, hk, rfl, rfl, hrel⟩ := hrel
    by_cases hlt : k + p.size ≤ s.size
    · have hlt1 : k < s.size := by omega
      have hat := at_iff s p k hlt
      have hdrop : s.data.toList.drop k = s[k]'hlt1 :: s.data.toList.drop (k + 1) := by
        rw [List.drop_eq_getElem_cons (by rw [← Lib.size_eq]; exact hlt1)]; rfl
      have hstep := hrel.out
      rw [hdrop] at hstep hat
      have hstep : (if p.data.toList.isPrefixOf (s[k]'hlt1 :: s.data.toList.drop (k + 1)) then (k : Int) else idxFrom p.data.toList (s.data.toList.drop (k + 1)) (k + 1)) = R := hstep
      have hle : (k : Int) + (p.size : Int) ≤ (s.size : Int) := by omega
      clear hrel hdrop
      cases hb : p.data.toList.isPrefixOf (s[k]'hlt1 :: s.data.toList.drop (k + 1)) with
      | true =>
        rw [hb] at hstep hat
        have HStep := Lib.hid (show (k : Int) = R from hstep)
        clear hstep hb
        go_wp2
        go_ret
        exact ⟨by rw [← HStep.out]; rfl, rfl⟩
      | false =>
        rw [hb] at hstep hat
        have HStep : Hid (idxFrom p.data.toList (s.data.toList.drop (k + 1)) (k + 1) = R) := hstep
        clear hstep hb
        go_wp2
        go_roundw
        case rel => exact ⟨k + 1, by omega, by go_num, by first | rfl | trivial, HStep⟩
        case measure => simp [intOf]; omega
    · have hend : R = -1 := by
        rw [← hrel.out]
        refine idx_short k ?_
        rw [List.length_drop, ← Lib.size_eq, ← Lib.size_eq]
        omega
      have hle : (s.size : Int) < (k : Int) + (p.size : Int) := by omega
      clear hrel
      subst hend
      go_wp2
      go_ret
      exact ⟨rfl, rfl⟩

end Go.Proofs.Ytkmfedmiaannfaa.Zix
