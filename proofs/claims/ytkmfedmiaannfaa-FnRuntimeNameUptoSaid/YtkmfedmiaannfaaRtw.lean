/- Names of runtime metrics: the small walks. -/
import Derived.Test.YtkmfedmiaannfaaRtp
import Derived.Test.YtkmfedmiaannfaaZrepW
set_option linter.unusedVariables false
set_option linter.unusedSimpArgs false
namespace Go.Proofs.Ytkmfedmiaannfaa.Rt
open Go.RowKit Zix

theorem beq_iff (c : UInt8) (n : Nat) (d : UInt8) (hd : d.toNat = n) : (c == d) = true ↔ (c.toNat : Int) = (n : Int) := by
  rw [beq_iff_eq]
  constructor
  · rintro rfl; omega
  · intro h; exact UInt8.toNat_inj.1 (by omega)
theorem pb_iff (c : UInt8) : pb c = true ↔ (97 ≤ (c.toNat : Int) ∧ (c.toNat : Int) ≤ 122) ∨ (48 ≤ (c.toNat : Int) ∧ (c.toNat : Int) ≤ 57) ∨ (c.toNat : Int) = 45 := by
  have e := beq_iff c 45 45 rfl
  unfold pb
  simp only [Bool.or_eq_true, Bool.and_eq_true, decide_eq_true_eq, e]
  omega
theorem lb_iff (c : UInt8) : lb c = true ↔ (97 ≤ (c.toNat : Int) ∧ (c.toNat : Int) ≤ 122) ∨ (48 ≤ (c.toNat : Int) ∧ (c.toNat : Int) ≤ 57) ∨ (c.toNat : Int) = 95 := by
  have e := beq_iff c 95 95 rfl
  unfold lb
  simp only [Bool.or_eq_true, Bool.and_eq_true, decide_eq_true_eq, e]
  omega

set_option maxHeartbeats 1000000 in
set_option maxRecDepth 100000 in
theorem colon_any (s : ByteArray) (hs : s.size ≤ 9223372036854775807) (j : Nat) (hj : j < s.size) (hc : s[j] = 58) (w : World) :
    Calls Try.prog 42 #[.string s] w fun e w' => e = .returned (.bool true) ∧ w = w' := by
  have HC := Lib.hid hc
  clear hc
  go_enter Try.func42, Try.ntmps42
  go_wp2
  go_loop [3] (fun i => ∃ k : Nat, k ≤ j ∧ i = .int .i64 k) (fun i => j - (intOf i).toNat)
  case atStart => exact ⟨0, Nat.zero_le _, rfl⟩
  case round =>
    obtain ⟨k, hk, rfl⟩ := hrel
    have hlt : k < s.size := by omega
    cases hb : ((s[k].toNat : Int) == 58) with
    | true =>
      go_wp2
      go_ret
      exact ⟨rfl, rfl⟩
    | false =>
      have hne : k ≠ j := by
        rintro rfl
        rw [HC.out] at hb
        exact absurd hb (by decide)
      go_wp2
      go_round
      case rel => exact ⟨k + 1, by omega, by go_num⟩
      case measure => simp [intOf]; omega

set_option maxHeartbeats 2000000 in
set_option maxRecDepth 100000 in
theorem legacy_any (s : ByteArray) (hs : s.size ≤ 9223372036854775807) (hv : Valid s.data.toList) (w : World) :
    Calls Try.prog 75 #[.string s] w fun e w' => e = .returned (.bool true) ∧ w = w' := by
  have h0 : 0 < s.size := by
    obtain ⟨r, hr, _⟩ := hv
    rw [Lib.size_eq, hr]; simp
  have hall : ∀ k (h : k < s.size), (97 ≤ (s[k].toNat : Int) ∧ (s[k].toNat : Int) ≤ 122) ∨ (0 < k ∧ (48 ≤ (s[k].toNat : Int) ∧ (s[k].toNat : Int) ≤ 57)) ∨ (s[k].toNat : Int) = 95 := by
    intro k h
    obtain ⟨r, hr, hl⟩ := hv
    have e := Lib.Pa.at_eq s k h
    rw [hr] at e
    match k, h, e with
    | 0, h, e =>
      have e : some (103 : UInt8) = some s[0] := e
      injection e with e
      rw [← e]; left; decide
    | k + 1, h, e =>
      have := (lb_iff _).1 (hl _ (List.mem_of_getElem? e))
      rcases this with h1 | h1 | h1
      · exact Or.inl h1
      · exact Or.inr (Or.inl ⟨by omega, h1⟩)
      · exact Or.inr (Or.inr h1)
  have HA := Lib.hid hall
  clear hall hv
  go_enter Try.func75, Try.ntmps75
  go_wp2
  go_loop [3] (fun i => ∃ k : Nat, k ≤ s.size ∧ i = .int .i64 k) (fun i => s.size - (intOf i).toNat)
  case atStart => exact ⟨0, Nat.zero_le _, rfl⟩
  case round =>
    obtain ⟨k, hk, rfl⟩ := hrel
    by_cases hlt : k < s.size
    · rcases HA.out k hlt with ⟨h1, h2⟩ | ⟨h0, h1, h2⟩ | h1
      · go_wp2
        go_round
        case rel => exact ⟨k + 1, by omega, by go_num⟩
        case measure => simp [intOf]; omega
      · have hk0 : ((k : Int) == 0) = false := beq_eq_false_iff_ne.2 (by omega)
        go_wp2
        go_round
        case rel => exact ⟨k + 1, by omega, by go_num⟩
        case measure => simp [intOf]; omega
      · have h2 : 95 ≤ (s[k].toNat : Int) ∧ (s[k].toNat : Int) ≤ 95 := by omega
        obtain ⟨h2, h3⟩ := h2
        clear h1
        go_wp2
        go_round
        case rel => exact ⟨k + 1, by omega, by go_num⟩
        case measure => simp [intOf]; omega
    · go_wp2
      go_ret
      exact ⟨rfl, rfl⟩

def Known (s : ByteArray) (w : World) (e : Ending) (w' : World) : Prop := ∃ b, e = .returned (.bool b) ∧ (b = true → Good s.data.toList) ∧ w = w'

set_option maxHeartbeats 4000000 in
set_option maxRecDepth 100000 in
theorem plain_any (s : ByteArray) (hs : s.size ≤ 9223372036854775807) (w : World) :
    Calls Try.prog 41 #[.string s] w (Known s w) := by
  go_enter Try.func41, Try.ntmps41
  go_wp2
  go_loop [3] (fun i => ∃ k : Nat, k ≤ s.size ∧ i = .int .i64 k ∧ Hid (∀ j (h : j < s.size), j < k → pb s[j] = true)) (fun i => s.size - (intOf i).toNat)
  case atStart => exact ⟨0, Nat.zero_le _, rfl, fun j h h' => absurd h' (by omega)⟩
  case round =>
    obtain ⟨k, hk, rfl, hall⟩ := hrel
    by_cases hlt : k < s.size
    · have hnext : (pb s[k] = true → Hid (∀ j (h : j < s.size), j < k + 1 → pb s[j] = true)) := by
        intro hp j h h'
        by_cases e : j = k
        · subst e; exact hp
        · exact hall.out j h (by omega)
      have HN := Lib.hid hnext
      clear hnext
      go_wp2
      all_goals first
        | (go_round
           case rel => exact ⟨k + 1, by omega, by go_num, HN.out ((pb_iff _).2 (by omega))⟩
           case measure => simp [intOf]; omega)
        | (go_ret; exact ⟨false, rfl, (fun h => by cases h), rfl⟩)
    · have hg : Hid (0 < s.size → Good s.data.toList) := by
        intro h0
        refine ⟨?_, ?_⟩
        · intro e
          rw [Lib.size_eq, e] at h0
          cases h0
        · intro c hc
          obtain ⟨j, hj, rfl⟩ := List.getElem_of_mem hc
          have hj' : j < s.size := by rw [Lib.size_eq]; exact hj
          have := hall.out j hj' (by omega)
          have e := Lib.Pa.at_eq s j hj'
          rw [List.getElem?_eq_getElem hj] at e
          rw [Option.some.inj e]; exact this
      go_wp2
      go_ret
      refine ⟨_, rfl, fun hb => hg.out ?_, rfl⟩
      rw [Lib.toList_data] at hb
      rw [Lib.size_eq]
      cases hl : s.data.toList with
      | nil => rw [hl] at hb; cases hb
      | cons c r => simp

theorem take_snoc (s : ByteArray) (k : Nat) (h : k < s.size) : s.data.toList.take (k + 1) = s.data.toList.take k ++ [s[k]] := by
  rw [List.take_succ_eq_append_getElem (by simpa using h)]; rfl
theorem line_snoc (l : List UInt8) (c : UInt8) : line (l ++ [c]) = line l ++ sub1 45 [95] c := by
  unfold line; rw [List.flatMap_append]; simp
theorem of_list_eq {s : ByteArray} {l : List UInt8} (h : s.data.toList = l) : s = ⟨l.toArray⟩ := of_list h
theorem one_ext (s : ByteArray) (k : Nat) (h : k < s.size) : s.extract k (k + 1) = ⟨[s[k]].toArray⟩ := by
  apply of_list
  rw [Lib.extract_data, List.drop_eq_getElem_cons (by rw [← Lib.size_eq]; exact h)]
  simp
  rfl
theorem eq45 {c : UInt8} (h : ((c.toNat : Int) == 45) = true) : c = 45 := by
  have e : ((c.toNat : Int) == 45) = (c == 45) := Lib.Pa.beq_lit c 45
  rw [e] at h; exact beq_iff_eq.1 h
theorem ne45 {c : UInt8} (h : ((c.toNat : Int) == 45) = false) : c ≠ 45 := by
  have e : ((c.toNat : Int) == 45) = (c == 45) := Lib.Pa.beq_lit c 45
  rw [e] at h; exact beq_eq_false_iff_ne.1 h

set_option maxHeartbeats 2000000 in
set_option maxRecDepth 100000 in
theorem line_any (s : ByteArray) (hs : s.size ≤ 4611686018427387903) (w : World) :
    Calls Try.prog 44 #[.string s] w fun e w' => e = .returned (.string ⟨(line s.data.toList).toArray⟩) ∧ w = w' := by
  obtain ⟨T, hT⟩ : ∃ T : ByteArray, T = ⟨(line s.data.toList).toArray⟩ := ⟨_, rfl⟩
  rw [← hT]
  have HT := Lib.hid hT
  clear hT
  go_enter Try.func44, Try.ntmps44
  go_wp2
  go_loop [3, 4] (fun t i => ∃ (k : Nat) (z : ByteArray), k ≤ s.size ∧ i = .int .i64 k ∧ t = .string z ∧ z.size ≤ k ∧ Hid (z.data.toList = line (s.data.toList.take k))) (fun _ i => s.size - (intOf i).toNat)
  case atStart => exact ⟨0, ⟨#[]⟩, Nat.zero_le _, rfl, rfl, Nat.le_refl _, rfl⟩
  case round =>
    obtain ⟨k, z, hk, rfl, rfl, hz, hrel⟩ := hrel
    by_cases hlt : k < s.size
    · have hstep := line_snoc (s.data.toList.take k) s[k]
      rw [← take_snoc s k hlt, ← hrel.out] at hstep
      have ho := one_ext s k hlt
      have hk1 : (0 : Int) ≤ (k : Int) + 1 := by omega
      have hone : (s.extract k (k + 1)).size = 1 := by rw [ho]; rfl
      have HO := Lib.hid ho
      have HOne := Lib.hid hone
      cases hb : (s[k].toNat : Int) == 45 with
      | true =>
        rw [eq45 hb] at hstep
        have hnew : Hid ((z ++ (⟨#[95]⟩ : ByteArray)).data.toList = line (s.data.toList.take (k + 1))) := by
          show _ = _
          rw [hstep]; simp; rfl
        have hsz : (z ++ (⟨#[95]⟩ : ByteArray)).size ≤ k + 1 := by rw [ByteArray.size_append]; show z.size + 1 ≤ _; omega
        have HS := Lib.hid hsz
        clear hstep ho hone hsz hrel
        go_wp2
        go_round
        case rel => exact ⟨k + 1, _, by omega, by go_num, rfl, HS.out, hnew⟩
        case measure => simp [intOf]; omega
      | false =>
        rw [sub1_ne (ne45 hb)] at hstep
        have hnew : Hid ((z ++ s.extract k (k + 1)).data.toList = line (s.data.toList.take (k + 1))) := by
          show _ = _
          rw [hstep, HO.out]; simp
        have hsz : (z ++ s.extract k (k + 1)).size ≤ k + 1 := by rw [ByteArray.size_append, hone]; omega
        have HS := Lib.hid hsz
        clear hstep ho hone hsz hrel
        go_wp2
        go_round
        case rel => exact ⟨k + 1, _, by omega, by go_num, rfl, HS.out, hnew⟩
        case measure => simp [intOf]; omega
    · have hl : s.data.toList.take k = s.data.toList := List.take_of_length_le (by rw [← Lib.size_eq]; omega)
      have hzT : z = T := by
        rw [HT.out]
        apply of_list
        rw [hrel.out, hl]
      subst hzT
      clear hl hrel
      go_wp2
      go_ret
      exact ⟨rfl, rfl⟩

end Go.Proofs.Ytkmfedmiaannfaa.Rt
