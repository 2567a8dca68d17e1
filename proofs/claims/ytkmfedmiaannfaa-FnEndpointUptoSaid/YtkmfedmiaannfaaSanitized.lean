/- FnSanitizedRight: the walks of the sanitizer, of the reference and of the law. -/
import Derived.Test.YtkmfedmiaannfaaBldK
import Derived.Test.YtkmfedmiaannfaaSan
import Derived.BigCall
import Derived.Lib.Hide
import Derived.WalkSpells
import Derived.WalkLawsBesides
import Derived.Outline
import Derived.Deep.LoopGhost
set_option linter.unusedVariables false
set_option linter.unusedSimpArgs false
namespace Go.Proofs.Ytkmfedmiaannfaa.SanitizedRight
open Go.RowKit San

theorem ret_int {k : IntKind} {a b : Int} (h : a = b) : Ending.returned (.int k a) = .returned (.int k b) := by rw [h]
theorem ret_bool {a b : Bool} (h : a = b) : Ending.returned (.bool a) = .returned (.bool b) := by rw [h]

set_option maxHeartbeats 1000000 in
set_option maxRecDepth 100000 in
theorem repl_any (c : Nat) (w : World) :
    Calls Try.prog 112 #[.int .i32 c] w fun e w' => e = .returned (.int .i32 (repl c : Nat)) ∧ w = w' := by
  by_cases h32 : c = 32
  · subst h32
    go_enter Try.func112, Try.ntmps112
    go_wp2
    go_ret
    exact ⟨rfl, rfl⟩
  · have hr : repl c = if keep c then c else 95 := by unfold repl; rw [if_neg h32]
    have h0 : ((c : Int) == 32) = false := by simp; omega
    generalize hq : repl c = q at *
    by_cases hk : keep c = true
    · rw [if_pos hk] at hr
      have hr' := Lib.hid hr
      have hk' := (keep_iff c).1 hk
      clear hr hk hq h32
      rcases hk' with ⟨a, b⟩ | ⟨a, b⟩ | ⟨a, b⟩ | a | a | a
      all_goals
        try subst a
        go_enter Try.func112, Try.ntmps112
        go_wp2
        go_ret
        exact ⟨ret_int (by rw [hr'.out]), rfl⟩
    · rw [if_neg hk] at hr
      have hr' := Lib.hid hr
      have hk' : ¬ ((97 ≤ c ∧ c ≤ 122) ∨ (65 ≤ c ∧ c ≤ 90) ∨ (48 ≤ c ∧ c ≤ 57) ∨ c = 95 ∨ c = 58 ∨ c = 45) := fun h => hk ((keep_iff c).2 h)
      have n1 : ((c : Int) != 95) = true := by simp; omega
      have n2 : ((c : Int) != 58) = true := by simp; omega
      have n3 : ((c : Int) != 45) = true := by simp; omega
      have m1 : (c : Int) < 97 ∨ 122 < (c : Int) := by omega
      have m2 : (c : Int) < 65 ∨ 90 < (c : Int) := by omega
      have m3 : (c : Int) < 48 ∨ 57 < (c : Int) := by omega
      clear hr hk hq h32 hk'
      rcases m1 with m1 | m1 <;> rcases m2 with m2 | m2 <;> rcases m3 with m3 | m3 <;> first | (exfalso; omega) | skip
      all_goals
        go_enter Try.func112, Try.ntmps112
        go_wp2
        go_ret
        exact ⟨ret_int (by rw [hr'.out]; rfl), rfl⟩

theorem to_bool (c : Nat) : ((c : Int) == 95) = decide (c = 95) := by
  by_cases h : c = 95
  · subst h; rfl
  · rw [decide_eq_false h]; simp; omega

set_option maxHeartbeats 4000000 in
set_option maxRecDepth 1000000 in
theorem write_any (B b : Nat) (s : ByteArray) (w : World) (hI : Bld.IsK B b [] w) (hB : B ≤ b) (hb : b < w.heap.size) (hs : s.size ≤ 35184372088832) :
    Calls Try.prog 98 #[.pointer (some ⟨b, 0, none⟩), .string s] w fun e w' => e = .returned .nilIface ∧ Bld.IsK B b (san s) w' ∧ Below B w w' := by
  go_enter Try.func98, Try.ntmps98
  go_wp2_with fail
  go_loopw [5] (fun p wr => ∃ (pos fuel : Nat) (prev : Bool) (acc : List UInt8), p = .bool prev ∧ Bld.IsK B b acc wr ∧ wr.heap[w.heap.size]? = some (.stringIter s pos) ∧ Below B w wr ∧ acc ++ sanFrom s fuel pos prev = san s ∧ s.size ≤ pos + fuel ∧ acc.length ≤ pos) (fun _ wr => s.size - wr.iterPos (w.heap.size))
  case atStart =>
    refine ⟨0, s.size, false, [], rfl, Lib.IsBuilderF.alloc hI _, ?_, ((Below.refl _ w).alloc (by omega) _), rfl, by omega, by simp⟩
    have := World.iter_heap w s 0
    simpa using this
  case round =>
    obtain ⟨pos, fuel, prev, acc, rfl, hI, hit, hbw, hacc, hfu, hal⟩ := hrel
    have hsz : w.heap.size < wr.heap.size := (Array.getElem?_eq_some_iff.1 hit).1
    have Hacc := Lib.hid hacc
    clear hacc
    by_cases hp : pos < s.size
    · have hnx : ∀ ty, (Instr.next (.pointer (some ⟨w.heap.size, 0, none⟩)) true ty).run Try.prog wr = _ := fun ty => Lib.run_next_any_at wr (w.heap.size) s pos ty hit hp
      have hwd := width_pos s pos hp
      have hd1 := decode_le s pos
      have hI2 := hI.iterAt hit (pos + (Utf8.decode s pos).2)
      have hit2 := Lib.iterAt_heap wr (w.heap.size) s pos (pos + (Utf8.decode s pos).2) hit
      have hbw2 := Lib.below_iterAt hbw (k := w.heap.size) (by omega) s (pos + (Utf8.decode s pos).2)
      have hsz2 : B ≤ (wr.iterAt (w.heap.size) s (pos + (Utf8.decode s pos).2)).heap.size := by rw [Lib.iterAt_size]; omega
      obtain ⟨f, rfl⟩ : ∃ f, fuel = f + 1 := ⟨fuel - 1, by omega⟩
      have hq := repl_le (Utf8.decode s pos).1
      have hstep : sanFrom s (f + 1) pos prev = if repl (Utf8.decode s pos).1 = 95 ∧ prev = true then sanFrom s f (pos + (Utf8.decode s pos).2) true else (repl (Utf8.decode s pos).1).toUInt8 :: sanFrom s f (pos + (Utf8.decode s pos).2) (decide (repl (Utf8.decode s pos).1 = 95)) := by
        rw [sanFrom, if_pos hp]
      rw [hstep] at Hacc
      clear hstep
      have hcall := fun W => repl_any (Utf8.decode s pos).1 W
      generalize repl (Utf8.decode s pos).1 = q at *
      have Hcall := Lib.hid hcall
      clear hcall
      by_cases h95 : q = 95
      · have hb95 : ((q : Int) == 95) = true := by rw [h95]; rfl
        cases prev
        · have Hacc := Lib.hid (by have := Hacc.out; rw [if_neg (by simp), h95] at this; rw [← h95] at this; exact this)
          have H95 := Lib.hid h95
          clear h95
          go_wp2_with fail
          refine (Hcall.out _).mono ?_
          rintro e w2 ⟨rfl, rfl⟩
          go_wp2_with fail
          refine (Bld.writeRune_ascii B b acc q hq _ hI2 (by omega) hsz2).mono ?_
          rintro e W1 ⟨rfl, h1, b1, k1⟩
          go_wp2
          go_roundw
          case rel =>
            refine ⟨pos + (Utf8.decode s pos).2, f, true, acc ++ [q.toUInt8], rfl, h1, k1.iter hit2 (by omega), hbw2.trans b1, ?_, by omega, by simp; omega⟩
            have := Hacc.out
            simpa [H95.out] using this
          case measure =>
            simp only [World.iterPos, k1.iter hit2 (by omega), hit]
            omega
        · have hx : acc ++ sanFrom s f (pos + (Utf8.decode s pos).2) true = san s := by
            have := Hacc.out
            rw [if_pos ⟨h95, rfl⟩] at this
            exact this
          have Hx := Lib.hid hx
          clear hx
          have H95 := Lib.hid h95
          clear h95
          go_wp2_with fail
          refine (Hcall.out _).mono ?_
          rintro e w2 ⟨rfl, rfl⟩
          go_wp2
          go_roundw
          case rel =>
            exact ⟨pos + (Utf8.decode s pos).2, f, true, acc, rfl, hI2, hit2, hbw2, Hx.out, by omega, by omega⟩
          case measure =>
            simp only [World.iterPos, hit2, hit]
            omega
      · have hb95 : ((q : Int) == 95) = false := by simp; omega
        have Hacc := Lib.hid (by have := Hacc.out; rw [if_neg (fun h => h95 h.1), decide_eq_false h95] at this; exact this)
        clear h95
        · go_wp2_with fail
          refine (Hcall.out _).mono ?_
          rintro e w2 ⟨rfl, rfl⟩
          go_wp2_with fail
          refine (Bld.writeRune_ascii B b acc q hq _ hI2 (by omega) hsz2).mono ?_
          rintro e W1 ⟨rfl, h1, b1, k1⟩
          go_wp2
          go_roundw
          case rel =>
            refine ⟨pos + (Utf8.decode s pos).2, f, false, acc ++ [q.toUInt8], rfl, h1, k1.iter hit2 (by omega), hbw2.trans b1, ?_, by omega, by simp; omega⟩
            have := Hacc.out
            simpa using this
          case measure =>
            simp only [World.iterPos, k1.iter hit2 (by omega), hit]
            omega
    · have hnx : ∀ ty, (Instr.next (.pointer (some ⟨w.heap.size, 0, none⟩)) true ty).run Try.prog wr = _ := fun ty => Lib.run_next_end_at wr (w.heap.size) s pos ty hit hp
      go_wp2
      go_ret
      have hacc := Hacc.out
      rw [sanFrom_end s fuel pos prev hp, List.append_nil] at hacc
      subst hacc
      exact ⟨rfl, hI, hbw⟩

end Go.Proofs.Ytkmfedmiaannfaa.SanitizedRight
