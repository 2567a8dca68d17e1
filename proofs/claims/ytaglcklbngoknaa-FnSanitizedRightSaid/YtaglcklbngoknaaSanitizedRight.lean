/- FnSanitizedRight: the walks of the thin package, of the reference and of the law. -/
import Derived.Test.YtaglcklbngoknaaSanitized
set_option linter.unusedVariables false
set_option linter.unusedSimpArgs false
namespace Go.Proofs.Ytaglcklbngoknaa.SanitizedRight
open Go.RowKit San

set_option maxHeartbeats 1000000 in
set_option maxRecDepth 100000 in
theorem door_any (s : ByteArray) (w : World) (hs : s.size ≤ 35184372088832) :
    Calls Try.prog 36 #[.string s] w fun e w' => e = .returned (.string ⟨(san s).toArray⟩) ∧ Below w.heap.size w w' := by
  go_enter Try.func36, Try.ntmps36
  go_wp2_with fail
  refine (write_any w.heap.size w.heap.size s _ (Lib.IsBuilderF.of (Lib.fresh_isBuilder 99 5 w)) (Nat.le_refl _) (by simp) hs).mono ?_
  rintro e w1 ⟨rfl, h1, b1⟩
  have b0 : Below w.heap.size w w1 := ((Below.refl _ w).alloc (Nat.le_refl _) _).trans b1
  go_wp2_with fail
  refine (Bld.stringK_any w.heap.size w.heap.size (san s) w1 h1 b0.size).mono ?_
  rintro e w2 ⟨rfl, b2⟩
  go_wp2_with fail
  go_ret
  exact ⟨rfl, b0.trans b2⟩

set_option maxHeartbeats 1000000 in
set_option maxRecDepth 100000 in
theorem impl_any (s : ByteArray) (w : World) (hs : s.size ≤ 35184372088832) :
    Calls Try.prog 19 #[.string s] w fun e w' => e = .returned (.string ⟨(san s).toArray⟩) ∧ Below w.heap.size w w' := by
  go_enter Try.func19, Try.ntmps19
  go_wp2_with fail
  refine (door_any s w hs).mono ?_
  rintro e w1 ⟨rfl, b1⟩
  go_wp2_with fail
  go_ret
  exact ⟨rfl, b1⟩

theorem san_known : san ⟨#[97, 32, 98, 36, 99]⟩ = [97, 46, 98, 95, 99] := by decide +kernel

set_option maxHeartbeats 1000000 in
set_option maxRecDepth 100000 in
theorem awake_any (w : World) :
    Calls Try.prog 21 #[] w fun e w' => e = .returned (.bool true) ∧ Below w.heap.size w w' := by
  go_enter Try.func21, Try.ntmps21
  go_wp2_with fail
  refine (impl_any _ w (by decide)).mono ?_
  rintro e w1 ⟨rfl, b1⟩
  rw [san_known]
  go_wp2_with fail
  go_ret
  exact ⟨rfl, b1⟩

set_option maxHeartbeats 1000000 in
set_option maxRecDepth 100000 in
theorem keeps_any (c : Nat) (r : Bool) (hr : keep c = r) (w : World) :
    Calls Try.prog 37 #[.int .u8 c] w fun e w' => e = .returned (.bool r) ∧ w = w' := by
  cases r
  · have hk' : ¬ ((97 ≤ c ∧ c ≤ 122) ∨ (65 ≤ c ∧ c ≤ 90) ∨ (48 ≤ c ∧ c ≤ 57) ∨ c = 95 ∨ c = 58 ∨ c = 45) := fun h => by rw [(keep_iff c).2 h] at hr; cases hr
    have n1 : ((c : Int) == 95) = false := by simp; omega
    have n2 : ((c : Int) == 58) = false := by simp; omega
    have n3 : ((c : Int) == 45) = false := by simp; omega
    have m1 : (c : Int) < 97 ∨ 122 < (c : Int) := by omega
    have m2 : (c : Int) < 65 ∨ 90 < (c : Int) := by omega
    have m3 : (c : Int) < 48 ∨ 57 < (c : Int) := by omega
    clear hr hk'
    rcases m1 with m1 | m1 <;> rcases m2 with m2 | m2 <;> rcases m3 with m3 | m3 <;> first | (exfalso; omega) | skip
    all_goals
      go_enter Try.func37, Try.ntmps37
      go_wp2
      go_ret
      first | exact ⟨rfl, rfl⟩ | exact ⟨ret_bool (by simp; omega), rfl⟩
  · have hk' := (keep_iff c).1 hr
    clear hr
    rcases hk' with ⟨a, b⟩ | ⟨a, b⟩ | ⟨a, b⟩ | a | a | a
    all_goals
      try subst a
      go_enter Try.func37, Try.ntmps37
      go_wp2
      go_ret
      exact ⟨rfl, rfl⟩

set_option maxHeartbeats 4000000 in
set_option maxRecDepth 100000 in
theorem right_any (l : List UInt8) (hr : Right false l) (hl : l.length ≤ 9223372036854775807) (w : World) :
    Calls Try.prog 20 #[.string ⟨l.toArray⟩] w fun e w' => e = .returned (.bool true) ∧ w = w' := by
  obtain ⟨s, hs⟩ : ∃ s : ByteArray, s = ⟨l.toArray⟩ := ⟨_, rfl⟩
  have hsz : s.size = l.length := by rw [hs, Lib.size_eq]
  have hat : ∀ i (h : i < s.size), (s[i]'h).toNat = (l[i]'(by omega)).toNat := by
    intro i h
    subst hs
    rfl
  rw [← hs]
  have Hat : Hid (∀ i (h : i < s.size), (keep (s[i]'h).toNat = true ∨ (s[i]'h).toNat = 46) ∧ ((s[i]'h).toNat = 95 → 0 < i → ∀ h2 : i - 1 < s.size, (s[i-1]'h2).toNat ≠ 95)) := by
    intro i h
    have := hr.at i (by omega)
    rw [hat i h]
    refine ⟨this.1, fun h1 h2 h3 => ?_⟩
    rw [hat (i - 1) h3]
    exact (this.2 h1).2 h2 (by omega)
  have hl' : s.size ≤ 9223372036854775807 := by omega
  clear hat hs hr hsz
  go_enter Try.func20, Try.ntmps20
  go_wp2
  go_loop [3] (fun i => ∃ k : Nat, k ≤ s.size ∧ i = .int .i64 k) (fun i => s.size - (intOf i).toNat)
  case atStart => exact ⟨0, Nat.zero_le _, rfl⟩
  case round =>
    obtain ⟨k, hk, rfl⟩ := hrel
    by_cases hlt : k < s.size
    · obtain ⟨h1, h2⟩ := Hat.out k hlt
      have Hk := fun r hr W => keeps_any (s[k]'hlt).toNat r hr W
      have H1 := Lib.hid h1
      have H2 := Lib.hid h2
      have HK := Lib.hid Hk
      clear h1 h2 Hk
      -- the test on '_' and what comes before it
      have two : (k = 0) ∨ (0 < k ∧ ((s[k]'hlt).toNat : Int) ≠ 95) ∨ (0 < k ∧ ((s[k]'hlt).toNat : Int) = 95) := by omega
      by_cases hkeep : keep (s[k]'hlt).toNat = true
      · have HKeep := Lib.hid hkeep
        clear hkeep
        rcases two with h0 | ⟨h0, h95⟩ | ⟨h0, h95⟩
        · subst h0
          go_wp2_with fail
          refine (HK.out true HKeep.out w).mono ?_
          rintro e w1 ⟨rfl, rfl⟩
          go_wp2
          go_round
          case rel => exact ⟨1, by omega, rfl⟩
          case measure => simp [intOf]; omega
        · have hn : (((s[k]'hlt).toNat : Int) == 95) = false := by simpa using h95
          have hp : (0 : Int) < k := by omega
          clear h95
          go_wp2_with fail
          refine (HK.out true HKeep.out w).mono ?_
          rintro e w1 ⟨rfl, rfl⟩
          go_wp2
          go_round
          case rel => exact ⟨k + 1, by omega, by go_num⟩
          case measure => simp [intOf]; omega
        · have hn : (((s[k]'hlt).toNat : Int) == 95) = true := by simpa using h95
          have hp : (0 : Int) < k := by omega
          have hm : k - 1 < s.size := by omega
          have h3 := H2.out (by omega) h0 hm
          have hq : (((s[k-1]'hm).toNat : Int) == 95) = false := by simp; omega
          clear h95 h3
          go_wp2_with fail
          refine (HK.out true HKeep.out w).mono ?_
          rintro e w1 ⟨rfl, rfl⟩
          go_wp2
          go_round
          case rel => exact ⟨k + 1, by omega, by go_num⟩
          case measure => simp [intOf]; omega
      · have h46 : ((s[k]'hlt).toNat : Int) = 46 := by
          rcases H1.out with h | h
          · exact absurd h hkeep
          · omega
        have hn : (((s[k]'hlt).toNat : Int) == 95) = false := by simp; omega
        have hd : (((s[k]'hlt).toNat : Int) != 46) = false := by simp; omega
        have HKeep := Lib.hid (Bool.eq_false_iff.2 hkeep)
        clear hkeep h46
        rcases two with h0 | ⟨h0, h95⟩ | ⟨h0, h95⟩
        · subst h0
          go_wp2_with fail
          refine (HK.out false HKeep.out w).mono ?_
          rintro e w1 ⟨rfl, rfl⟩
          go_wp2
          go_round
          case rel => exact ⟨1, by omega, rfl⟩
          case measure => simp [intOf]; omega
        · have hp : (0 : Int) < k := by omega
          clear h95
          go_wp2_with fail
          refine (HK.out false HKeep.out w).mono ?_
          rintro e w1 ⟨rfl, rfl⟩
          go_wp2
          go_round
          case rel => exact ⟨k + 1, by omega, by go_num⟩
          case measure => simp [intOf]; omega
        · exfalso
          rw [h95] at hn
          cases hn
    · go_wp2
      go_ret
      exact ⟨rfl, rfl⟩

set_option maxHeartbeats 4000000 in
set_option maxRecDepth 100000 in
theorem law_any (s : ByteArray) (w : World) (hs : s.size ≤ 9223372036854775807) :
    Calls Try.prog 7 #[.string s] w fun e w' => e = .returned (.bool true) ∧ Below w.heap.size w w' := by
  by_cases hbig : (2147483647 : Int) < s.size
  · go_enter Try.func7, Try.ntmps7
    go_wp2
    go_ret
    exact ⟨rfl, Below.refl _ _⟩
  · have hlen : (san s).length ≤ s.size := san_len s
    have hsl : (ByteArray.mk (san s).toArray).size ≤ 35184372088832 := by
      rw [Lib.size_eq]
      show (san s).length ≤ _
      omega
    have hl2 : (san s).length ≤ 9223372036854775807 := by omega
    have H0 := fun W => impl_any s W (by omega)
    have H1 := fun W => impl_any ⟨(san s).toArray⟩ W hsl
    have H2 := fun W => right_any (san s) (san_right s) hl2 W
    have HSame := Lib.hid (san_same s)
    clear hsl hl2 hlen
    generalize hq : san s = l at *
    have HQ := Lib.hid hq
    have h0 := Lib.hid H0
    have h1 := Lib.hid H1
    have h2 := Lib.hid H2
    clear hq H0 H1 H2
    go_enter Try.func7, Try.ntmps7
    go_wp2_with fail
    refine (h0.out w).mono ?_
    rintro e w1 ⟨rfl, b1⟩
    go_wp2_with fail
    go_loop [4] (fun i => ∃ k : Nat, k ≤ s.size ∧ i = .int .i64 k ∧ Hid (∀ j (h : j < s.size), j < k → (s[j]'h).toNat ≠ 32)) (fun i => s.size - (intOf i).toNat)
    case atStart => exact ⟨0, Nat.zero_le _, rfl, fun j h h2 => by omega⟩
    case round =>
      obtain ⟨k, hk, rfl, hno⟩ := hrel
      by_cases hlt : k < s.size
      · by_cases h32 : (((s[k]'hlt).toNat : Int) == 32) = true
        · go_wp2_with fail
          refine (h2.out w1).mono ?_
          rintro e w2 ⟨rfl, rfl⟩
          go_wp2_with fail
          refine (awake_any w1).mono ?_
          rintro e w2 ⟨rfl, b2⟩
          go_wp2_with fail
          go_ret
          exact ⟨rfl, b1.trans (b2.mono b1.size)⟩
        · have h32 := Bool.eq_false_iff.2 h32
          have hne : (s[k]'hlt).toNat ≠ 32 := by simp at h32; omega
          have HNe := Lib.hid hne
          clear hne
          go_wp2
          go_round
          case rel =>
            refine ⟨k + 1, by omega, by go_num, fun j h hj => ?_⟩
            by_cases e : j = k
            · subst e; exact HNe.out
            · exact hno.out j h (by omega)
          case measure => simp [intOf]; omega
      · have hsame : san ⟨l.toArray⟩ = l := HSame.out (fun i h => hno.out i h (by omega))
        have HS := Lib.hid hsame
        clear hsame
        go_wp2_with fail
        refine (h2.out w1).mono ?_
        rintro e w2 ⟨rfl, rfl⟩
        go_wp2_with fail
        refine (h1.out w1).mono ?_
        rintro e w2 ⟨rfl, b2⟩
        rw [HS.out]
        go_wp2_with fail
        refine (awake_any w2).mono ?_
        rintro e w3 ⟨rfl, b3⟩
        go_wp2_with fail
        go_ret
        have b2 := b1.trans (b2.mono b1.size)
        exact ⟨rfl, b2.trans (b3.mono b2.size)⟩

end Go.Proofs.Ytaglcklbngoknaa.SanitizedRight
