/- The walks of spec's acceptToken, acceptThousandths and acceptQuality. -/
import Derived.Test.YtaglcklbngoknaaAccM
set_option linter.unusedVariables false
set_option linter.unusedSimpArgs false
namespace Go.Proofs.Ytaglcklbngoknaa.Acc
open Go.RowKit Plf Oct

theorem get_list (s : ByteArray) (k : Nat) (h : k < s.size) : s.data.toList[k]'(by rw [← Lib.size_eq]; exact h) = s[k]'h := rfl

set_option maxHeartbeats 4000000 in
set_option maxRecDepth 100000 in
theorem token_any (s : ByteArray) (hs : s.size ≤ 9223372036854775807) (w : World) :
    Calls Try.prog 41 #[.string s] w fun e w' => e = .returned (.bool (tokB s.data.toList)) ∧ w = w' := by
  have hfinal : (∀ j (h : j < s.size), tokC (s[j]'h) = true) → Hid ((!s.toList.isEmpty) = tokB s.data.toList) := by
    intro h
    show _ = _
    unfold tokB
    rw [show s.data.toList.all tokC = true from List.all_eq_true.2 fun c hc => by
      obtain ⟨j, hj, rfl⟩ := List.mem_iff_getElem.1 hc
      exact h j (by rw [Lib.size_eq]; exact hj)]
    rw [Lib.toList_data]; rfl
  have hbad : ∀ j (h : j < s.size), tokC (s[j]'h) = false → tokB s.data.toList = false := by
    intro j h hc
    unfold tokB
    rw [Bool.and_eq_false_iff]
    left
    rw [List.all_eq_false]
    exact ⟨s[j]'h, by rw [← get_list s j h]; exact List.getElem_mem _, by rw [hc]; simp⟩
  have HF := Lib.hid hfinal
  have HB := Lib.hid hbad
  clear hfinal hbad
  go_enter Try.func41, Try.ntmps41
  go_wp2
  go_loopw [3] (fun i wr => ∃ k : Nat, k ≤ s.size ∧ i = .int .i64 k ∧ w = wr ∧ Hid (∀ j (h : j < s.size), j < k → tokC (s[j]'h) = true)) (fun i _ => s.size - (intOf i).toNat)
  case atStart => exact ⟨0, Nat.zero_le _, rfl, rfl, fun j h h2 => by omega⟩
  case round =>
    obtain ⟨k, hk, rfl, rfl, hall⟩ := hrel
    by_cases hlt : k < s.size
    · obtain ⟨c, hc⟩ : ∃ c, s[k]'hlt = c := ⟨_, rfl⟩
      have hc256 := c.toNat_lt
      have hnext : tokC c = true → Hid (∀ j (h : j < s.size), j < k + 1 → tokC (s[j]'h) = true) := by
        intro ht j h hj
        by_cases e : j = k
        · subst e; rw [hc]; exact ht
        · exact hall.out j h (by omega)
      have hfalse : tokC c = false → Hid (tokB s.data.toList = false) := fun h => HB.out k hlt (by rw [hc]; exact h)
      by_cases ht : tokC c = true
      · have hn := hnext ht
        have hcase : (97 ≤ (c.toNat : Int) ∧ (c.toNat : Int) ≤ 122) ∨ (48 ≤ (c.toNat : Int) ∧ (c.toNat : Int) ≤ 57) ∨ (c.toNat : Int) = 45 ∨ (c.toNat : Int) = 42 := by
          unfold tokC at ht
          simp only [Bool.or_eq_true, decide_eq_true_eq] at ht
          omega
        clear hnext hfalse ht
        have HC := Lib.hid hc
        have e0 : ((s[k]'hlt).toNat : Int) = (c.toNat : Int) := by rw [hc]
        clear hc
        rcases hcase with ⟨g1, g2⟩ | ⟨g1, g2⟩ | g1 | g1
        · have h1 : (97 : Int) ≤ ((s[k]'hlt).toNat : Int) := by omega
          have h2 : ((s[k]'hlt).toNat : Int) ≤ 122 := by omega
          clear e0 g1 g2
          go_wp2
          go_roundw
          case rel => exact ⟨k + 1, by omega, by go_num, (by first | rfl | trivial), hn⟩
          case measure => simp [intOf]; omega
        · have h1 : (48 : Int) ≤ ((s[k]'hlt).toNat : Int) := by omega
          have h2 : ((s[k]'hlt).toNat : Int) ≤ 57 := by omega
          clear e0 g1 g2
          go_wp2
          go_roundw
          case rel => exact ⟨k + 1, by omega, by go_num, (by first | rfl | trivial), hn⟩
          case measure => simp [intOf]; omega
        · have h1 : (s[k]'hlt).toNat = 45 := by omega
          have h2 : (((s[k]'hlt).toNat : Int) == 45) = true := by rw [h1]; rfl
          have h3 : ((s[k]'hlt).toNat : Int) < 48 := by omega
          clear e0 g1 h1
          go_wp2
          go_roundw
          case rel => exact ⟨k + 1, by omega, by go_num, (by first | rfl | trivial), hn⟩
          case measure => simp [intOf]; omega
        · have h1 : (s[k]'hlt).toNat = 42 := by omega
          have h2 : (((s[k]'hlt).toNat : Int) == 42) = true := by rw [h1]; rfl
          have h4 : (((s[k]'hlt).toNat : Int) == 45) = false := by rw [h1]; rfl
          have h3 : ((s[k]'hlt).toNat : Int) < 48 := by omega
          clear e0 g1 h1
          go_wp2
          go_roundw
          case rel => exact ⟨k + 1, by omega, by go_num, (by first | rfl | trivial), hn⟩
          case measure => simp [intOf]; omega
      · have ht' := Bool.eq_false_iff.2 ht
        have hf := hfalse ht'
        have hcase : (122 < (c.toNat : Int)) ∨ (57 < (c.toNat : Int) ∧ (c.toNat : Int) < 97) ∨ ((c.toNat : Int) < 48 ∧ (c.toNat : Int) ≠ 45 ∧ (c.toNat : Int) ≠ 42) := by
          unfold tokC at ht'
          simp only [Bool.or_eq_false_iff, decide_eq_false_iff_not] at ht'
          omega
        clear hnext hfalse ht ht'
        have e0 : ((s[k]'hlt).toNat : Int) = (c.toNat : Int) := by rw [hc]
        clear hc
        have h4 : (c.toNat : Int) ≠ 45 → (((s[k]'hlt).toNat : Int) == 45) = false := fun h => beq_eq_false_iff_ne.2 (by omega)
        have h5 : (c.toNat : Int) ≠ 42 → (((s[k]'hlt).toNat : Int) == 42) = false := fun h => beq_eq_false_iff_ne.2 (by omega)
        rcases hcase with g1 | ⟨g1, g2⟩ | ⟨g1, g2, g3⟩
        · have h1 : (decide (((s[k]'hlt).toNat : Int) ≤ 122)) = false := decide_eq_false (by omega)
          have h6 : (decide (((s[k]'hlt).toNat : Int) ≤ 57)) = false := decide_eq_false (by omega)
          have h7 : (97 : Int) ≤ ((s[k]'hlt).toNat : Int) := by omega
          have h8 : (48 : Int) ≤ ((s[k]'hlt).toNat : Int) := by omega
          have h4 := h4 (by omega)
          have h5 := h5 (by omega)
          clear e0 g1
          go_wp2
          go_ret
          exact ⟨by rw [hf.out]; rfl, rfl⟩
        · have h1 : (decide (((s[k]'hlt).toNat : Int) ≤ 57)) = false := decide_eq_false (by omega)
          have h2 : ((s[k]'hlt).toNat : Int) < 97 := by omega
          have h8 : (48 : Int) ≤ ((s[k]'hlt).toNat : Int) := by omega
          have h4 := h4 (by omega)
          have h5 := h5 (by omega)
          clear e0 g1 g2
          go_wp2
          go_ret
          exact ⟨by rw [hf.out]; rfl, rfl⟩
        · have h1 : ((s[k]'hlt).toNat : Int) < 48 := by omega
          have h2 : ((s[k]'hlt).toNat : Int) < 97 := by omega
          have h4 := h4 g2
          have h5 := h5 g3
          clear e0 g1 g2 g3
          go_wp2
          go_ret
          exact ⟨by rw [hf.out]; rfl, rfl⟩
    · have hf := HF.out (fun j h => hall.out j h (by omega))
      go_wp2
      go_ret
      exact ⟨by rw [hf.out]; rfl, rfl⟩

end Go.Proofs.Ytaglcklbngoknaa.Acc
