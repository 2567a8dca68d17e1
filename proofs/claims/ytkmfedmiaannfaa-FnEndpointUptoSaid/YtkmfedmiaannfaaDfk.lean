/- Lines of a text: the plain law: cut behind each line feed, by search or byte by byte. -/
import Derived.Test.YtkmfedmiaannfaaZrepW
set_option linter.unusedVariables false
set_option linter.unusedSimpArgs false
namespace Go.Proofs.Ytkmfedmiaannfaa.Df
open Zix

def linesOf : List UInt8 → List UInt8 → List (List UInt8)
  | cur, [] => [cur]
  | cur, c :: r => if c = 10 then (cur ++ [c]) :: linesOf [] r else linesOf (cur ++ [c]) r

theorem linesOf_ne : ∀ (r cur : List UInt8), linesOf cur r ≠ []
  | [], cur => by simp [linesOf]
  | c :: r, cur => by
    unfold linesOf
    split
    · simp
    · exact linesOf_ne r _
theorem linesOf_len : ∀ (r cur : List UInt8), (linesOf cur r).length ≤ r.length + 1
  | [], cur => by simp [linesOf]
  | c :: r, cur => by
    unfold linesOf
    split
    · have := linesOf_len r []
      simp only [List.length_cons]; omega
    · have := linesOf_len r (cur ++ [c])
      simp only [List.length_cons]; omega
theorem linesOf_mem : ∀ (r cur : List UInt8) (x : List UInt8), x ∈ linesOf cur r → x.length ≤ cur.length + r.length
  | [], cur, x, h => by
    simp only [linesOf, List.mem_singleton] at h
    rw [h]; simp
  | c :: r, cur, x, h => by
    unfold linesOf at h
    split at h
    · rcases List.mem_cons.1 h with h | h
      · rw [h]; simp
      · have := linesOf_mem r [] x h
        simp only [List.length_nil, List.length_cons] at this ⊢; omega
    · have := linesOf_mem r (cur ++ [c]) x h
      simp only [List.length_append, List.length_cons, List.length_nil] at this ⊢; omega

theorem pre_one (c d : UInt8) (r : List UInt8) : [d].isPrefixOf (c :: r) = (d == c) := by
  simp [List.isPrefixOf]
theorem lines_none : ∀ (r : List UInt8) (k : Nat) (cur : List UInt8), idxFrom [10] r k < 0 → linesOf cur r = [cur ++ r]
  | [], k, cur, h => by simp [linesOf]
  | c :: r, k, cur, h => by
    unfold idxFrom at h
    rw [pre_one] at h
    by_cases hc : c = 10
    · subst hc
      simp at h; omega
    · rw [if_neg (by simpa using fun e => hc e.symm)] at h
      unfold linesOf
      rw [if_neg hc, lines_none r (k + 1) _ h]
      simp
theorem lines_some : ∀ (r : List UInt8) (k : Nat) (cur : List UInt8) (j : Nat), idxFrom [10] r k = (j : Int) → k ≤ j ∧ j - k < r.length ∧ linesOf cur r = (cur ++ r.take (j - k + 1)) :: linesOf [] (r.drop (j - k + 1))
  | [], k, cur, j, h => by
    unfold idxFrom at h
    simp [List.isPrefixOf] at h
  | c :: r, k, cur, j, h => by
    unfold idxFrom at h
    rw [pre_one] at h
    by_cases hc : c = 10
    · subst hc
      simp at h
      have : k = j := by omega
      subst this
      refine ⟨Nat.le_refl _, by simp, ?_⟩
      rw [linesOf, if_pos rfl, Nat.sub_self]
      rfl
    · rw [if_neg (by simpa using fun e => hc e.symm)] at h
      obtain ⟨h1, h2, h3⟩ := lines_some r (k + 1) (cur ++ [c]) j h
      refine ⟨by omega, by simp only [List.length_cons]; omega, ?_⟩
      rw [linesOf, if_neg hc, h3]
      rw [show j - k + 1 = (j - (k + 1) + 1) + 1 by omega, List.take_succ_cons, List.drop_succ_cons, List.append_assoc]
      rfl

def mk (l : List UInt8) : ByteArray := ⟨l.toArray⟩
/-- what both sides answer: the lines, the last with a line feed -/
def fed (L : List (List UInt8)) : List ByteArray := (L.dropLast ++ [(L.getLast?.getD []) ++ [10]]).map mk
theorem fed_snoc (D : List (List UInt8)) (c : List UInt8) : fed (D ++ [c]) = D.map mk ++ [mk (c ++ [10])] := by
  unfold fed; simp
theorem fed_set (L : List (List UInt8)) (h : L ≠ []) (x : ByteArray) (hx : x = mk ((L.getLast?.getD []) ++ [10])) : (L.map mk).set (L.length - 1) x = fed L := by
  obtain ⟨D, c, rfl⟩ : ∃ D c, L = D ++ [c] := ⟨L.dropLast, L.getLast h, (List.dropLast_concat_getLast h).symm⟩
  rw [fed_snoc, hx]
  simp
theorem last_mk (L : List (List UInt8)) (h : L.length - 1 < (L.map mk).length) : (L.map mk)[L.length - 1] = mk (L.getLast?.getD []) := by
  rw [List.getElem_map]
  congr 1
  rw [List.getLast?_eq_getElem?]
  rw [List.getElem?_eq_getElem (by simpa using h)]
  rfl
theorem fed_len (L : List (List UInt8)) (h : L ≠ []) : (fed L).length = L.length := by
  obtain ⟨D, c, rfl⟩ : ∃ D c, L = D ++ [c] := ⟨L.dropLast, L.getLast h, (List.dropLast_concat_getLast h).symm⟩
  rw [fed_snoc]; simp

end Go.Proofs.Ytkmfedmiaannfaa.Df
