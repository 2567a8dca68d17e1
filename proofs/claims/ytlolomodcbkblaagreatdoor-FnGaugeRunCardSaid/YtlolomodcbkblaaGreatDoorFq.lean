/- BuildFQName joins the components that are not empty by an underscore; without a name the result is empty. (The walk, and what it computes as lists of bytes.) -/
import Derived.Test.YtlolomodcbkblaaGreatDoorMg8
import Derived.Lib.Hide
import Derived.WalkSpells
import Derived.WalkLawsBesides
set_option linter.unusedVariables false
set_option linter.unusedSimpArgs false
namespace Go.Proofs.YtlolomodcbkblaaGreatDoor.Fq
open Go.RowKit

def fq (a b c : List UInt8) : List UInt8 :=
  if c = [] then [] else (if a = [] then [] else a ++ [95]) ++ ((if b = [] then [] else b ++ [95]) ++ c)

theorem empty_of {s : ByteArray} (h : s.toList.isEmpty = true) : s.data.toList = [] := by
  rw [← Lib.toList_data]; simpa using h
theorem full_of {s : ByteArray} (h : s.toList.isEmpty = false) : s.data.toList ≠ [] := by
  rw [← Lib.toList_data]; intro e; rw [e] at h; simp at h
theorem empty_of' {s : ByteArray} (h : (!s.toList.isEmpty) = false) : s.data.toList = [] := empty_of (by simpa using h)
theorem full_of' {s : ByteArray} (h : (!s.toList.isEmpty) = true) : s.data.toList ≠ [] := full_of (by simpa using h)

theorem size_data (s : ByteArray) : s.data.toList.length = s.size := (Lib.size_eq s).symm
theorem one_size : (ByteArray.mk #[95]).size = 1 := rfl
theorem one_data : (ByteArray.mk #[95]).data.toList = [95] := rfl

set_option maxHeartbeats 1000000 in
set_option maxRecDepth 100000 in
theorem build_any (a b c : ByteArray) (w : World) (ha : a.size ≤ 8589934592) (hb : b.size ≤ 8589934592) (hc : c.size ≤ 8589934592) :
    Calls Tryz.prog 83 #[.string a, .string b, .string c] w fun e w' => e = .returned (.string ⟨(fq a.data.toList b.data.toList c.data.toList).toArray⟩) ∧ Below w.heap.size w w' := by
  go_enter Tryz.func83, Tryz.ntmps83
  go_wp2_with fail
  · have hce : c.toList.isEmpty = true := by assumption
    go_ret
    refine ⟨?_, Below.refl _ _⟩
    rw [fq, if_pos (empty_of hce)]
    rfl
  · have hce : c.toList.isEmpty = false := by assumption
    rw [show ((a.size : Int) + b.size + c.size + 2) = ((a.size + b.size + c.size + 2 : Nat) : Int) by omega]
    refine (Bld.growPub_fresh w.heap.size w.heap.size _ _ (Nat.le_refl _) (heap_alloc_new w _) (by simp) (by omega)).mono ?_
    rintro e w1 ⟨rfl, h1, b1⟩
    have b0 : Below w.heap.size w w1 := ((Below.refl _ w).alloc (Nat.le_refl _) _).trans b1
    have z1 : w.heap.size ≤ w1.heap.size := b0.size
    have i1 : Bld.IsB w.heap.size w.heap.size [] w1 := Or.inr h1
    clear b1 h1
    go_wp2_with fail
    · have hae : (!a.toList.isEmpty) = true := by assumption
      refine (Bld.write_any w.heap.size w.heap.size [] a w1 i1 (by simp only [List.length_nil]; omega) z1).mono ?_
      rintro e w2 ⟨rfl, i2, b2⟩
      have z2 := b2.size
      go_wp2_with fail
      refine (Bld.write_any w.heap.size w.heap.size _ _ w2 i2 (by simp only [List.length_append, List.length_nil, List.length_cons, size_data, one_size, one_data]; omega) (by omega)).mono ?_
      rintro e w3 ⟨rfl, i3, b3⟩
      have z3 := b3.size
      go_wp2_with fail
      · have hbe : (!b.toList.isEmpty) = true := by assumption
        refine (Bld.write_any w.heap.size w.heap.size _ _ w3 i3 (by simp only [List.length_append, List.length_nil, List.length_cons, size_data, one_size, one_data]; omega) (by omega)).mono ?_
        rintro e w4 ⟨rfl, i4, b4⟩
        have z4 := b4.size
        go_wp2_with fail
        refine (Bld.write_any w.heap.size w.heap.size _ _ w4 i4 (by simp only [List.length_append, List.length_nil, List.length_cons, size_data, one_size, one_data]; omega) (by omega)).mono ?_
        rintro e w5 ⟨rfl, i5, b5⟩
        have z5 := b5.size
        go_wp2_with fail
        refine (Bld.write_any w.heap.size w.heap.size _ _ w5 i5 (by simp only [List.length_append, List.length_nil, List.length_cons, size_data, one_size, one_data]; omega) (by omega)).mono ?_
        rintro e w6 ⟨rfl, i6, b6⟩
        have z6 := b6.size
        go_wp2_with fail
        refine (Bld.string_any w.heap.size w.heap.size _ w6 i6 (by omega)).mono ?_
        rintro e w7 ⟨rfl, b7⟩
        go_wp2_with fail
        go_ret
        refine ⟨?_, b0.trans (b2.trans (b3.trans (b4.trans (b5.trans (b6.trans b7)))))⟩
        rw [fq, if_neg (full_of hce), if_neg (full_of' hae), if_neg (full_of' hbe)]
        simp
      · have hbe : (!b.toList.isEmpty) = false := by assumption
        refine (Bld.write_any w.heap.size w.heap.size _ _ w3 i3 (by simp only [List.length_append, List.length_nil, List.length_cons, size_data, one_size, one_data]; omega) (by omega)).mono ?_
        rintro e w6 ⟨rfl, i6, b6⟩
        have z6 := b6.size
        go_wp2_with fail
        refine (Bld.string_any w.heap.size w.heap.size _ w6 i6 (by omega)).mono ?_
        rintro e w7 ⟨rfl, b7⟩
        go_wp2_with fail
        go_ret
        refine ⟨?_, b0.trans (b2.trans (b3.trans (b6.trans b7)))⟩
        rw [fq, if_neg (full_of hce), if_neg (full_of' hae), if_pos (empty_of' hbe)]
        simp
    · have hae : (!a.toList.isEmpty) = false := by assumption
      have hbe : (!b.toList.isEmpty) = true := by assumption
      refine (Bld.write_any w.heap.size w.heap.size [] b w1 i1 (by simp only [List.length_nil]; omega) z1).mono ?_
      rintro e w4 ⟨rfl, i4, b4⟩
      have z4 := b4.size
      go_wp2_with fail
      refine (Bld.write_any w.heap.size w.heap.size _ _ w4 i4 (by simp only [List.length_append, List.length_nil, List.length_cons, size_data, one_size, one_data]; omega) (by omega)).mono ?_
      rintro e w5 ⟨rfl, i5, b5⟩
      have z5 := b5.size
      go_wp2_with fail
      refine (Bld.write_any w.heap.size w.heap.size _ _ w5 i5 (by simp only [List.length_append, List.length_nil, List.length_cons, size_data, one_size, one_data]; omega) (by omega)).mono ?_
      rintro e w6 ⟨rfl, i6, b6⟩
      have z6 := b6.size
      go_wp2_with fail
      refine (Bld.string_any w.heap.size w.heap.size _ w6 i6 (by omega)).mono ?_
      rintro e w7 ⟨rfl, b7⟩
      go_wp2_with fail
      go_ret
      refine ⟨?_, b0.trans (b4.trans (b5.trans (b6.trans b7)))⟩
      rw [fq, if_neg (full_of hce), if_pos (empty_of' hae), if_neg (full_of' hbe)]
      simp
    · have hae : (!a.toList.isEmpty) = false := by assumption
      have hbe : (!b.toList.isEmpty) = false := by assumption
      refine (Bld.write_any w.heap.size w.heap.size [] c w1 i1 (by simp only [List.length_nil]; omega) z1).mono ?_
      rintro e w6 ⟨rfl, i6, b6⟩
      have z6 := b6.size
      go_wp2_with fail
      refine (Bld.string_any w.heap.size w.heap.size _ w6 i6 (by omega)).mono ?_
      rintro e w7 ⟨rfl, b7⟩
      go_wp2_with fail
      go_ret
      refine ⟨?_, b0.trans (b6.trans b7)⟩
      rw [fq, if_neg (full_of hce), if_pos (empty_of' hae), if_pos (empty_of' hbe)]
      simp

theorem fq_len (a b c : List UInt8) : (fq a b c).length ≤ a.length + b.length + c.length + 2 := by
  unfold fq
  split <;> (try split) <;> (try split) <;> simp <;> omega

theorem fq_parts (a b c : List UInt8) : fq a [] (fq [] b c) = fq a b c := by
  unfold fq
  by_cases hc : c = []
  · simp [hc]
  · by_cases hb : b = []
    · simp [hc, hb]
    · simp [hc, hb]

theorem fq_bare (a b : List UInt8) : fq a b [] = [] := by simp [fq]

end Go.Proofs.YtlolomodcbkblaaGreatDoor.Fq
