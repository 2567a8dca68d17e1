/- Which bytes are spaces, which belong to tokens; a text without its leading spaces; its leading token. The walks of the header's small functions. -/
import Derived.Test.YtkmfedmiaannfaaProg
import Derived.WalkKit
import Derived.WalkSpells
import Derived.WalkLawsBesides
import Derived.Outline
import Derived.Lib.Hide
import Derived.Lib.Strings
import Derived.Laws.Runes
import Derived.Laws.RangeAny
import Derived.Lib.OthersKept
import Derived.Deep.QuietTactic
import Derived.BigQuiet
set_option linter.unusedVariables false
set_option linter.unusedSimpArgs false
namespace Go.Proofs.Ytkmfedmiaannfaa.Oct
open Go.RowKit

theorem ret_int {k : IntKind} {a b : Int} (h : a = b) : Ending.returned (.int k a) = .returned (.int k b) := by rw [h]
theorem ret_str {a b : ByteArray} (h : a = b) : Ending.returned (.string a) = .returned (.string b) := by rw [h]

/-- the place of a byte in a list, -1 if it is not there -/
def at_ (l : List UInt8) (c : Nat) : Int := if l.any (fun x => x.toNat == c) then (l.findIdx (fun x => x.toNat == c) : Int) else -1

set_option maxHeartbeats 1000000 in
set_option maxRecDepth 100000 in
theorem index_any (s : ByteArray) (hs : ∀ i (h : i < s.size), (s[i]'h).toNat < 128) (c : Nat) (hc : c < 256) (r : Int) (hr : at_ s.data.toList c = r) (hl : s.size ≤ 1000) (w : World) :
    Calls Try.prog 117 #[.string s, .int .i32 c] w fun e w' => e = .returned (.int .i64 r) ∧ Below w.heap.size w w' := by
  have n1 : ((c : Int) != 65533) = true := by rw [bne_iff_ne]; omega
  have n2 : ¬ (c : Int) < 0 := by omega
  have n3 : ¬ (1114111 : Int) < c := by omega
  have n4 : ¬ (55296 : Int) ≤ c := by omega
  have hget : ∀ i (h : i < s.size), s.data.toList[i]'(by rw [← Lib.size_eq]; exact h) = s[i]'h := fun i h => rfl
  have hsz := Lib.size_eq s
  have hfind : ∀ k (h : k < s.size), (∀ j (h2 : j < s.size), j < k → (s[j]'h2).toNat ≠ c) → (s[k]'h).toNat = c → r = k := by
    intro k h h1 h2
    rw [← hr]
    have hf : s.data.toList.findIdx (fun x => x.toNat == c) = k := by
      rw [List.findIdx_eq (by omega)]
      refine ⟨by rw [hget k h]; simpa using h2, fun j hj => ?_⟩
      rw [hget j (by omega)]
      simpa using h1 j (by omega) hj
    have ha : s.data.toList.any (fun x => x.toNat == c) = true := List.any_eq_true.2 ⟨_, List.getElem_mem (by omega : k < s.data.toList.length), by rw [hget k h]; simpa using h2⟩
    unfold at_
    rw [if_pos ha, hf]
  have hnone : (∀ j (h2 : j < s.size), (s[j]'h2).toNat ≠ c) → r = -1 := by
    intro h
    rw [← hr]
    unfold at_
    rw [if_neg]
    intro ha
    obtain ⟨x, hx, h2⟩ := List.any_eq_true.1 ha
    obtain ⟨i, hi, rfl⟩ := List.getElem_of_mem hx
    rw [hget i (by omega)] at h2
    exact h i (by omega) (by simpa using h2)
  have HF := Lib.hid hfind
  have HN := Lib.hid hnone
  have HS := Lib.hid hs
  clear hfind hnone hs hget hsz hr
  go_enter Try.func117, Try.ntmps117
  go_wp2_with fail
  go_loopw [] (fun wr => ∃ pos : Nat, pos ≤ s.size ∧ wr.heap[w.heap.size]? = some (.stringIter s pos) ∧ Below w.heap.size w wr ∧ Hid (∀ j (h2 : j < s.size), j < pos → (s[j]'h2).toNat ≠ c)) (fun wr => s.size - wr.iterPos (w.heap.size))
  case atStart =>
    refine ⟨0, Nat.zero_le _, ?_, ((Below.refl _ w).alloc (by omega) _), fun j h h2 => by omega⟩
    have := World.iter_heap w s 0
    simpa using this
  case round =>
    obtain ⟨pos, hpos, hit, hbw, hno⟩ := hrel
    have hsz : w.heap.size < wr.heap.size := (Array.getElem?_eq_some_iff.1 hit).1
    by_cases hp : pos < s.size
    · have hnx : ∀ ty, (Instr.next (.pointer (some ⟨w.heap.size, 0, none⟩)) true ty).run Try.prog wr = _ := fun ty => Lib.run_next_ascii_at wr (w.heap.size) s pos ty hit hp (HS.out pos hp)
      have hit2 := Lib.iterAt_heap wr (w.heap.size) s pos (pos + 1) hit
      have hbw2 := Lib.below_iterAt hbw (k := w.heap.size) (Nat.le_refl _) s (pos + 1)
      have HH := Lib.hid hno
      by_cases he : (((s[pos]'hp).toNat : Int) == c) = true
      · have hrk := HF.out pos hp hno.out (by simp at he; omega)
        have HR := Lib.hid hrk
        clear hrk
        go_wp2
        go_ret
        exact ⟨ret_int HR.out.symm, hbw2⟩
      · have he := Bool.eq_false_iff.2 he
        have hne : (s[pos]'hp).toNat ≠ c := by simp at he; omega
        have HNe := Lib.hid hne
        clear hne
        go_wp2
        go_roundw
        case rel =>
          refine ⟨pos + 1, by omega, hit2, hbw2, fun j h hj => ?_⟩
          by_cases e : j = pos
          · subst e; exact HNe.out
          · exact hno.out j h (by omega)
        case measure =>
          simp only [World.iterPos, hit2, hit]
          omega
    · have hnx : ∀ ty, (Instr.next (.pointer (some ⟨w.heap.size, 0, none⟩)) true ty).run Try.prog wr = _ := fun ty => Lib.run_next_end_at wr (w.heap.size) s pos ty hit hp
      have hrk := Lib.hid (HN.out (fun j h => hno.out j h (by omega)))
      go_wp2
      go_ret
      exact ⟨ret_int hrk.out.symm, hbw⟩

theorem at_neg (l : List UInt8) (c : Nat) : decide (0 ≤ at_ l c) = l.any (fun x => x.toNat == c) := by
  unfold at_
  cases l.any (fun x => x.toNat == c)
  · rfl
  · simp

set_option maxHeartbeats 1000000 in
set_option maxRecDepth 100000 in
theorem contains_any (s : ByteArray) (hs : ∀ i (h : i < s.size), (s[i]'h).toNat < 128) (c : Nat) (hc : c < 256) (r : Bool) (hr : s.data.toList.any (fun x => x.toNat == c) = r) (hl : s.size ≤ 1000) (w : World) :
    Calls Try.prog 107 #[.string s, .int .i32 c] w fun e w' => e = .returned (.bool r) ∧ Below w.heap.size w w' := by
  have hn := at_neg s.data.toList c
  have H := Lib.hid (index_any s hs c hc _ rfl hl w)
  generalize at_ s.data.toList c = k at *
  rw [hr] at hn
  have hr2 : decide (0 ≤ k) = r := hn
  have HR := Lib.hid hr2
  clear hn hr hr2 hs
  go_enter Try.func107, Try.ntmps107
  go_wp2_with fail
  refine H.out.mono ?_
  rintro e w1 ⟨rfl, b1⟩
  go_wp2_with fail
  go_ret
  refine ⟨?_, b1⟩
  rw [← HR.out]
  rfl

end Go.Proofs.Ytkmfedmiaannfaa.Oct
