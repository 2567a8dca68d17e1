/- Descriptors: the reference's small questions walked: Ascii, Plain, In. -/
import Derived.Test.YtlolomodcbkblaaGreatDoorMg4
set_option linter.unusedVariables false
set_option linter.unusedSimpArgs false
namespace Go.Proofs.YtlolomodcbkblaaGreatDoor.Nd
open Go.RowKit Go.ChangeShapes Go.WideShapes Go.Deep Fp

def printable (c : UInt8) : Bool := decide (32 ≤ c.toNat) && decide (c.toNat ≤ 126)
def asciiB (s : ByteArray) : Bool := (dl s).all printable
theorem dl_get (s : ByteArray) (k : Nat) (h : k < s.size) : (dl s)[k]? = some s[k] := by
  unfold dl
  rw [List.getElem?_eq_getElem (by rw [← Lib.size_eq]; exact h)]
  rfl
theorem dl_len (s : ByteArray) : (dl s).length = s.size := (Lib.size_eq s).symm
theorem ascii_no {s : ByteArray} {k : Nat} (h : k < s.size) (hp : printable s[k] = false) : asciiB s = false := by
  unfold asciiB
  rw [List.all_eq_false]
  exact ⟨s[k], List.mem_of_getElem? (dl_get s k h), by rw [hp]; simp⟩
theorem ascii_yes {s : ByteArray} (h : ∀ j (hj : j < s.size), printable s[j] = true) : asciiB s = true := by
  unfold asciiB
  rw [List.all_eq_true]
  intro c hc
  obtain ⟨j, hj, rfl⟩ := List.mem_iff_getElem.1 hc
  have hj2 : j < s.size := by rw [← dl_len]; exact hj
  have h1 := h j hj2
  have h2 := dl_get s j hj2
  rw [List.getElem?_eq_getElem hj] at h2
  have h3 : (dl s)[j] = s[j] := Option.some.inj h2
  exact (congrArg printable h3).trans h1
theorem ascii_asc {s : ByteArray} (h : asciiB s = true) : Asc s := by
  intro b hb
  unfold asciiB at h
  rw [List.all_eq_true] at h
  have := h b hb
  unfold printable at this
  simp at this
  omega

set_option maxHeartbeats 4000000 in
set_option maxRecDepth 100000 in
theorem ascii_any (s : ByteArray) (w : World) (hs : s.size ≤ 9223372036854775807) :
    Calls Tryz.prog 62 #[.string s] w fun e w' => e = .returned (.bool (asciiB s)) ∧ w = w' := by
  go_enter Tryz.func62, Tryz.ntmps62
  go_wp2_with fail
  go_loopw [3] (fun vk wr => ∃ k : Nat, k ≤ s.size ∧ vk = .int .i64 (k : Int) ∧ Hid (∀ j (hj : j < s.size), j < k → printable s[j] = true) ∧ w = wr) (fun vk _ => s.size - (intOf vk).toNat)
  case atStart => exact ⟨0, Nat.zero_le _, rfl, fun j hj h => absurd h (Nat.not_lt_zero _), rfl⟩
  case round =>
    obtain ⟨k, hk, rfl, hall, rfl⟩ := hrel
    by_cases hlt : k < s.size
    · have z1 : (0 : Int) ≤ (k : Int) := by omega
      have z2 : (k : Int) < (s.size : Int) := by omega
      by_cases h1 : s[k].toNat < 32
      · have HF : Hid (asciiB s = false) := ascii_no hlt (by unfold printable; rw [decide_eq_false (by omega)]; rfl)
        have y1 : (s[k].toNat : Int) < 32 := by omega
        clear hall
        go_wp2_with fail
        go_ret
        exact ⟨by rw [HF.out]; rfl, rfl⟩
      · by_cases h2 : 126 < s[k].toNat
        · have HF : Hid (asciiB s = false) := ascii_no hlt (by unfold printable; rw [decide_eq_false (show ¬ s[k].toNat ≤ 126 by omega), Bool.and_false])
          have y1 : (32 : Int) ≤ (s[k].toNat : Int) := by omega
          have y2 : (126 : Int) < (s[k].toNat : Int) := by omega
          clear hall h1
          go_wp2_with fail
          go_ret
          exact ⟨by rw [HF.out]; rfl, rfl⟩
        · have hall2 : Hid (∀ j (hj : j < s.size), j < k + 1 → printable s[j] = true) := fun j hj h => by
            rcases Nat.lt_or_ge j k with h3 | h3
            · exact hall.out j hj h3
            · obtain rfl : j = k := by omega
              unfold printable
              rw [decide_eq_true (show 32 ≤ s[j].toNat by omega), decide_eq_true (show s[j].toNat ≤ 126 by omega)]; rfl
          have y1 : decide ((s[k].toNat : Int) < 32) = false := decide_eq_false (by omega)
          have y2 : decide ((126 : Int) < (s[k].toNat : Int)) = false := decide_eq_false (by omega)
          clear hall h1 h2
          go_wp2_with fail
          all_goals try (exfalso; simp only [decide_eq_false_iff_not] at y1 y2; omega)
          refine ⟨⟨k + 1, by omega, by go_num, hall2, by first | rfl | trivial⟩, ?_⟩
          simp [intOf]; omega
    · obtain rfl : k = s.size := by omega
      have HF : Hid (asciiB s = true) := ascii_yes (fun j hj => hall.out j hj hj)
      clear hall
      go_wp2_with fail
      go_ret
      exact ⟨by rw [HF.out]; rfl, rfl⟩

def plainC (k : Nat) (c : UInt8) : Bool := decide (97 ≤ c.toNat ∧ c.toNat ≤ 122 ∨ 65 ≤ c.toNat ∧ c.toNat ≤ 90 ∨ c.toNat = 95 ∨ 0 < k ∧ 48 ≤ c.toNat ∧ c.toNat ≤ 57)
def PlainP (s : ByteArray) : Prop := (∀ j (hj : j < s.size), plainC j s[j] = true) ∧ 0 < s.size ∧ (s.size < 2 ∨ (s.extract 0 2).toList ≠ [95, 95])
open Classical in
noncomputable def plainB (s : ByteArray) : Bool := decide (PlainP s)
theorem plainB_iff {s : ByteArray} : plainB s = true ↔ PlainP s := by classical exact ⟨fun h => of_decide_eq_true h, fun h => decide_eq_true h⟩
theorem plain_no {s : ByteArray} {k : Nat} (h : k < s.size) (hp : plainC k s[k] = false) : plainB s = false := by
  unfold plainB
  rw [decide_eq_false_iff_not]
  rintro ⟨h1, _⟩
  rw [h1 k h] at hp
  exact Bool.noConfusion hp
set_option maxHeartbeats 16000000 in
set_option maxRecDepth 100000 in
theorem plain_any (s : ByteArray) (w : World) (hs : s.size ≤ 9223372036854775807) :
    Calls Tryz.prog 61 #[.string s] w fun e w' => e = .returned (.bool (plainB s)) ∧ w = w' := by
  go_enter Tryz.func61, Tryz.ntmps61
  go_wp2_with fail
  go_loopw [3] (fun vk wr => ∃ k : Nat, k ≤ s.size ∧ vk = .int .i64 (k : Int) ∧ Hid (∀ j (hj : j < s.size), j < k → plainC j s[j] = true) ∧ w = wr) (fun vk _ => s.size - (intOf vk).toNat)
  case atStart => exact ⟨0, Nat.zero_le _, rfl, fun j hj h => absurd h (Nat.not_lt_zero _), rfl⟩
  case round =>
    obtain ⟨k, hk, rfl, hall, rfl⟩ := hrel
    by_cases hlt : k < s.size
    · have z1 : (0 : Int) ≤ (k : Int) := by omega
      have z2 : (k : Int) < (s.size : Int) := by omega
      have hcase : (s[k].toNat ≥ 97 ∧ s[k].toNat ≤ 122) ∨ (s[k].toNat ≥ 65 ∧ s[k].toNat ≤ 90) ∨ (s[k].toNat = 95) ∨ (0 < k ∧ s[k].toNat ≥ 48 ∧ s[k].toNat ≤ 57) ∨ (s[k].toNat > 122 ∧ k = 0) ∨ (s[k].toNat > 122 ∧ 0 < k) ∨ (s[k].toNat > 90 ∧ s[k].toNat < 97 ∧ s[k].toNat ≠ 95 ∧ k = 0) ∨ (s[k].toNat > 90 ∧ s[k].toNat < 97 ∧ s[k].toNat ≠ 95 ∧ 0 < k) ∨ (s[k].toNat > 57 ∧ s[k].toNat < 65 ∧ k = 0) ∨ (s[k].toNat > 57 ∧ s[k].toNat < 65 ∧ 0 < k) ∨ (s[k].toNat < 48 ∧ k = 0) ∨ (s[k].toNat < 48 ∧ 0 < k) ∨ (s[k].toNat ≥ 48 ∧ s[k].toNat ≤ 57 ∧ k = 0) := by omega
      have HN : Hid (plainC k s[k] = true → ∀ j (hj : j < s.size), j < k + 1 → plainC j s[j] = true) := fun h0 j hj h => by
        rcases Nat.lt_or_ge j k with h3 | h3
        · exact hall.out j hj h3
        · obtain rfl : j = k := by omega
          exact h0
      have HB : Hid (plainC k s[k] = false → plainB s = false) := fun h0 => plain_no hlt h0
      clear hall
      rcases hcase with hc | hc | hc | hc | hc | hc | hc | hc | hc | hc | hc | hc | hc
      · have hp : Hid (plainC k s[k] = true) := decide_eq_true (by omega)
        have y0 : decide ((97 : Int) ≤ (s[k].toNat : Int)) = true := decide_eq_true (by omega)
        have y1 : decide ((s[k].toNat : Int) ≤ 122) = true := decide_eq_true (by omega)
        have HC := Lib.hid hc
        clear hc
        have hn := Lib.hid (HN.out hp.out)
        clear HN HB hp
        go_wp2_with fail
        all_goals first
          | (exfalso; have hcc := HC.out; clear HC hn; omega)
          | (refine ⟨⟨k + 1, by omega, by go_num, hn, by first | rfl | trivial⟩, ?_⟩; simp [intOf]; omega)
      · have hp : Hid (plainC k s[k] = true) := decide_eq_true (by omega)
        have y0 : decide ((97 : Int) ≤ (s[k].toNat : Int)) = false := decide_eq_false (by omega)
        have y1 : decide ((65 : Int) ≤ (s[k].toNat : Int)) = true := decide_eq_true (by omega)
        have y2 : decide ((s[k].toNat : Int) ≤ 90) = true := decide_eq_true (by omega)
        have HC := Lib.hid hc
        clear hc
        have hn := Lib.hid (HN.out hp.out)
        clear HN HB hp
        go_wp2_with fail
        all_goals first
          | (exfalso; have hcc := HC.out; clear HC hn; omega)
          | (refine ⟨⟨k + 1, by omega, by go_num, hn, by first | rfl | trivial⟩, ?_⟩; simp [intOf]; omega)
      · have hp : Hid (plainC k s[k] = true) := decide_eq_true (by omega)
        have y0 : decide ((97 : Int) ≤ (s[k].toNat : Int)) = false := decide_eq_false (by omega)
        have y1 : decide ((65 : Int) ≤ (s[k].toNat : Int)) = true := decide_eq_true (by omega)
        have y2 : decide ((s[k].toNat : Int) ≤ 90) = false := decide_eq_false (by omega)
        have y3 : ((s[k].toNat : Int) == 95) = true := by rw [beq_iff_eq]; omega
        have HC := Lib.hid hc
        clear hc
        have hn := Lib.hid (HN.out hp.out)
        clear HN HB hp
        go_wp2_with fail
        all_goals first
          | (exfalso; have hcc := HC.out; clear HC hn; omega)
          | (refine ⟨⟨k + 1, by omega, by go_num, hn, by first | rfl | trivial⟩, ?_⟩; simp [intOf]; omega)
      · have hp : Hid (plainC k s[k] = true) := decide_eq_true (by omega)
        have y0 : decide ((97 : Int) ≤ (s[k].toNat : Int)) = false := decide_eq_false (by omega)
        have y1 : decide ((65 : Int) ≤ (s[k].toNat : Int)) = false := decide_eq_false (by omega)
        have y2 : ((s[k].toNat : Int) == 95) = false := by rw [beq_eq_false_iff_ne]; omega
        have y3 : decide ((0 : Int) < (k : Int)) = true := decide_eq_true (by omega)
        have y4 : decide ((48 : Int) ≤ (s[k].toNat : Int)) = true := decide_eq_true (by omega)
        have y5 : decide ((s[k].toNat : Int) ≤ 57) = true := decide_eq_true (by omega)
        have HC := Lib.hid hc
        clear hc
        have hn := Lib.hid (HN.out hp.out)
        clear HN HB hp
        go_wp2_with fail
        all_goals first
          | (exfalso; have hcc := HC.out; clear HC hn; omega)
          | (refine ⟨⟨k + 1, by omega, by go_num, hn, by first | rfl | trivial⟩, ?_⟩; simp [intOf]; omega)
      · have hp : Hid (plainC k s[k] = false) := decide_eq_false (by omega)
        have y0 : decide ((97 : Int) ≤ (s[k].toNat : Int)) = true := decide_eq_true (by omega)
        have y1 : decide ((s[k].toNat : Int) ≤ 122) = false := decide_eq_false (by omega)
        have y2 : decide ((65 : Int) ≤ (s[k].toNat : Int)) = true := decide_eq_true (by omega)
        have y3 : decide ((s[k].toNat : Int) ≤ 90) = false := decide_eq_false (by omega)
        have y4 : ((s[k].toNat : Int) == 95) = false := by rw [beq_eq_false_iff_ne]; omega
        have y5 : decide ((0 : Int) < (k : Int)) = false := decide_eq_false (by omega)
        have HC := Lib.hid hc
        clear hc
        have hn := Lib.hid (HB.out hp.out)
        clear HN HB hp
        go_wp2_with fail
        all_goals first
          | (exfalso; have hcc := HC.out; clear HC hn; omega)
          | (go_ret; exact ⟨by rw [hn.out]; rfl, rfl⟩)
      · have hp : Hid (plainC k s[k] = false) := decide_eq_false (by omega)
        have y0 : decide ((97 : Int) ≤ (s[k].toNat : Int)) = true := decide_eq_true (by omega)
        have y1 : decide ((s[k].toNat : Int) ≤ 122) = false := decide_eq_false (by omega)
        have y2 : decide ((65 : Int) ≤ (s[k].toNat : Int)) = true := decide_eq_true (by omega)
        have y3 : decide ((s[k].toNat : Int) ≤ 90) = false := decide_eq_false (by omega)
        have y4 : ((s[k].toNat : Int) == 95) = false := by rw [beq_eq_false_iff_ne]; omega
        have y5 : decide ((0 : Int) < (k : Int)) = true := decide_eq_true (by omega)
        have y6 : decide ((48 : Int) ≤ (s[k].toNat : Int)) = true := decide_eq_true (by omega)
        have y7 : decide ((s[k].toNat : Int) ≤ 57) = false := decide_eq_false (by omega)
        have HC := Lib.hid hc
        clear hc
        have hn := Lib.hid (HB.out hp.out)
        clear HN HB hp
        go_wp2_with fail
        all_goals first
          | (exfalso; have hcc := HC.out; clear HC hn; omega)
          | (go_ret; exact ⟨by rw [hn.out]; rfl, rfl⟩)
      · have hp : Hid (plainC k s[k] = false) := decide_eq_false (by omega)
        have y0 : decide ((97 : Int) ≤ (s[k].toNat : Int)) = false := decide_eq_false (by omega)
        have y1 : decide ((65 : Int) ≤ (s[k].toNat : Int)) = true := decide_eq_true (by omega)
        have y2 : decide ((s[k].toNat : Int) ≤ 90) = false := decide_eq_false (by omega)
        have y3 : ((s[k].toNat : Int) == 95) = false := by rw [beq_eq_false_iff_ne]; omega
        have y4 : decide ((0 : Int) < (k : Int)) = false := decide_eq_false (by omega)
        have HC := Lib.hid hc
        clear hc
        have hn := Lib.hid (HB.out hp.out)
        clear HN HB hp
        go_wp2_with fail
        all_goals first
          | (exfalso; have hcc := HC.out; clear HC hn; omega)
          | (go_ret; exact ⟨by rw [hn.out]; rfl, rfl⟩)
      · have hp : Hid (plainC k s[k] = false) := decide_eq_false (by omega)
        have y0 : decide ((97 : Int) ≤ (s[k].toNat : Int)) = false := decide_eq_false (by omega)
        have y1 : decide ((65 : Int) ≤ (s[k].toNat : Int)) = true := decide_eq_true (by omega)
        have y2 : decide ((s[k].toNat : Int) ≤ 90) = false := decide_eq_false (by omega)
        have y3 : ((s[k].toNat : Int) == 95) = false := by rw [beq_eq_false_iff_ne]; omega
        have y4 : decide ((0 : Int) < (k : Int)) = true := decide_eq_true (by omega)
        have y5 : decide ((48 : Int) ≤ (s[k].toNat : Int)) = true := decide_eq_true (by omega)
        have y6 : decide ((s[k].toNat : Int) ≤ 57) = false := decide_eq_false (by omega)
        have HC := Lib.hid hc
        clear hc
        have hn := Lib.hid (HB.out hp.out)
        clear HN HB hp
        go_wp2_with fail
        all_goals first
          | (exfalso; have hcc := HC.out; clear HC hn; omega)
          | (go_ret; exact ⟨by rw [hn.out]; rfl, rfl⟩)
      · have hp : Hid (plainC k s[k] = false) := decide_eq_false (by omega)
        have y0 : decide ((97 : Int) ≤ (s[k].toNat : Int)) = false := decide_eq_false (by omega)
        have y1 : decide ((65 : Int) ≤ (s[k].toNat : Int)) = false := decide_eq_false (by omega)
        have y2 : ((s[k].toNat : Int) == 95) = false := by rw [beq_eq_false_iff_ne]; omega
        have y3 : decide ((0 : Int) < (k : Int)) = false := decide_eq_false (by omega)
        have HC := Lib.hid hc
        clear hc
        have hn := Lib.hid (HB.out hp.out)
        clear HN HB hp
        go_wp2_with fail
        all_goals first
          | (exfalso; have hcc := HC.out; clear HC hn; omega)
          | (go_ret; exact ⟨by rw [hn.out]; rfl, rfl⟩)
      · have hp : Hid (plainC k s[k] = false) := decide_eq_false (by omega)
        have y0 : decide ((97 : Int) ≤ (s[k].toNat : Int)) = false := decide_eq_false (by omega)
        have y1 : decide ((65 : Int) ≤ (s[k].toNat : Int)) = false := decide_eq_false (by omega)
        have y2 : ((s[k].toNat : Int) == 95) = false := by rw [beq_eq_false_iff_ne]; omega
        have y3 : decide ((0 : Int) < (k : Int)) = true := decide_eq_true (by omega)
        have y4 : decide ((48 : Int) ≤ (s[k].toNat : Int)) = true := decide_eq_true (by omega)
        have y5 : decide ((s[k].toNat : Int) ≤ 57) = false := decide_eq_false (by omega)
        have HC := Lib.hid hc
        clear hc
        have hn := Lib.hid (HB.out hp.out)
        clear HN HB hp
        go_wp2_with fail
        all_goals first
          | (exfalso; have hcc := HC.out; clear HC hn; omega)
          | (go_ret; exact ⟨by rw [hn.out]; rfl, rfl⟩)
      · have hp : Hid (plainC k s[k] = false) := decide_eq_false (by omega)
        have y0 : decide ((97 : Int) ≤ (s[k].toNat : Int)) = false := decide_eq_false (by omega)
        have y1 : decide ((65 : Int) ≤ (s[k].toNat : Int)) = false := decide_eq_false (by omega)
        have y2 : ((s[k].toNat : Int) == 95) = false := by rw [beq_eq_false_iff_ne]; omega
        have y3 : decide ((0 : Int) < (k : Int)) = false := decide_eq_false (by omega)
        have HC := Lib.hid hc
        clear hc
        have hn := Lib.hid (HB.out hp.out)
        clear HN HB hp
        go_wp2_with fail
        all_goals first
          | (exfalso; have hcc := HC.out; clear HC hn; omega)
          | (go_ret; exact ⟨by rw [hn.out]; rfl, rfl⟩)
      · have hp : Hid (plainC k s[k] = false) := decide_eq_false (by omega)
        have y0 : decide ((97 : Int) ≤ (s[k].toNat : Int)) = false := decide_eq_false (by omega)
        have y1 : decide ((65 : Int) ≤ (s[k].toNat : Int)) = false := decide_eq_false (by omega)
        have y2 : ((s[k].toNat : Int) == 95) = false := by rw [beq_eq_false_iff_ne]; omega
        have y3 : decide ((0 : Int) < (k : Int)) = true := decide_eq_true (by omega)
        have y4 : decide ((48 : Int) ≤ (s[k].toNat : Int)) = false := decide_eq_false (by omega)
        have HC := Lib.hid hc
        clear hc
        have hn := Lib.hid (HB.out hp.out)
        clear HN HB hp
        go_wp2_with fail
        all_goals first
          | (exfalso; have hcc := HC.out; clear HC hn; omega)
          | (go_ret; exact ⟨by rw [hn.out]; rfl, rfl⟩)
      · have hp : Hid (plainC k s[k] = false) := decide_eq_false (by omega)
        have y0 : decide ((97 : Int) ≤ (s[k].toNat : Int)) = false := decide_eq_false (by omega)
        have y1 : decide ((65 : Int) ≤ (s[k].toNat : Int)) = false := decide_eq_false (by omega)
        have y2 : ((s[k].toNat : Int) == 95) = false := by rw [beq_eq_false_iff_ne]; omega
        have y3 : decide ((0 : Int) < (k : Int)) = false := decide_eq_false (by omega)
        have HC := Lib.hid hc
        clear hc
        have hn := Lib.hid (HB.out hp.out)
        clear HN HB hp
        go_wp2_with fail
        all_goals first
          | (exfalso; have hcc := HC.out; clear HC hn; omega)
          | (go_ret; exact ⟨by rw [hn.out]; rfl, rfl⟩)
    · obtain rfl : k = s.size := by omega
      have HP : Hid (plainB s = (decide (0 < s.size) && (decide (s.size < 2) || !((s.extract 0 2).toList == [95, 95])))) := by
        show _ = _
        rw [Bool.eq_iff_iff, plainB_iff]
        simp only [Bool.and_eq_true, Bool.or_eq_true, decide_eq_true_eq, Bool.not_eq_true', beq_eq_false_iff_ne]
        exact ⟨fun h => ⟨h.2.1, h.2.2⟩, fun h => ⟨fun j hj => hall.out j hj hj, h.1, h.2⟩⟩
      have hem : s.toList.isEmpty = decide (s.size = 0) := by
        rw [Bool.eq_iff_iff, decide_eq_true_eq, List.isEmpty_iff, ← List.length_eq_zero_iff]
        rw [Lib.toList_data, ← Lib.size_eq]
      clear hall
      rcases Nat.lt_or_ge 0 s.size with h0 | h0
      · rw [decide_eq_false (by omega)] at hem
        have e1 : (!s.toList.isEmpty) = true := by rw [hem]; rfl
        rcases Nat.lt_or_ge s.size 2 with h2 | h2
        · have HQ : Hid (plainB s = true) := by show _ = _; rw [HP.out, decide_eq_true h0, decide_eq_true h2]; rfl
          have y : decide ((s.size : Int) < 2) = true := decide_eq_true (by omega)
          clear HP
          go_wp2_with fail
          go_ret
          exact ⟨by rw [HQ.out]; rfl, rfl⟩
        · have HQ : Hid (plainB s = !((s.extract 0 2).toList == [95, 95])) := by show _ = _; rw [HP.out, decide_eq_true h0, decide_eq_false (by omega)]; rfl
          have y : decide ((s.size : Int) < 2) = false := decide_eq_false (by omega)
          have y2 : (2 : Int) ≤ (s.size : Int) := by omega
          clear HP
          go_wp2_with fail
          go_ret
          exact ⟨by rw [HQ.out]; rfl, rfl⟩
      · rw [decide_eq_true (by omega)] at hem
        have e1 : (!s.toList.isEmpty) = false := by rw [hem]; rfl
        have HQ : Hid (plainB s = false) := by show _ = _; rw [HP.out, decide_eq_false (by omega)]; rfl
        clear HP
        go_wp2_with fail
        go_ret
        exact ⟨by rw [HQ.out]; rfl, rfl⟩

def inB (s : ByteArray) (l : List ByteArray) : Bool := l.any fun x => x.toList == s.toList
theorem inB_no {s : ByteArray} {l : List ByteArray} (h : ∀ j (hj : j < l.length), (l[j].toList == s.toList) = false) : inB s l = false := by
  unfold inB
  rw [List.any_eq_false]
  intro x hx
  obtain ⟨j, hj, rfl⟩ := List.mem_iff_getElem.1 hx
  rw [h j hj]; simp
theorem inB_yes {s : ByteArray} {l : List ByteArray} {k : Nat} (hk : k < l.length) (h : (l[k].toList == s.toList) = true) : inB s l = true := by
  unfold inB
  rw [List.any_eq_true]
  exact ⟨_, List.getElem_mem hk, h⟩
set_option maxHeartbeats 4000000 in
set_option maxRecDepth 100000 in
theorem in_any (s : ByteArray) (l : List ByteArray) (v : Value) (w : World) (hv : Sl.Of Value.string w v l) (hl : l.length ≤ 9223372036854775806) :
    Calls Tryz.prog 63 #[.string s, v] w fun e w' => e = .returned (.bool (inB s l)) ∧ w = w' := by
  obtain ⟨a, cap, rfl⟩ : ∃ a cap, v = .slice a l.length cap := by
    rcases hv with ⟨rfl, a, cap, rfl, _⟩ | ⟨b, off, cap, rfl, _⟩
    · exact ⟨_, _, rfl⟩
    · exact ⟨_, _, rfl⟩
  have HV := Lib.hid hv
  clear hv
  go_enter Tryz.func63, Tryz.ntmps63
  go_wp2_with fail
  go_loopw [5] (fun i wr => ∃ k : Nat, k ≤ l.length ∧ i = .int .i64 (k : Int) ∧ Hid (∀ j (hj : j < l.length), j < k → (l[j].toList == s.toList) = false) ∧ w = wr) (fun i _ => l.length - (intOf i).toNat)
  case atStart => exact ⟨0, Nat.zero_le _, rfl, fun j hj h => absurd h (Nat.not_lt_zero _), rfl⟩
  case round =>
    obtain ⟨k, hk, rfl, hall, rfl⟩ := hrel
    by_cases hlt : k < l.length
    · obtain ⟨b, off, haq, hbb, hc⟩ : ∃ b off, a = some ⟨b, off, none⟩ ∧ b < w.heap.size ∧ w.cell? ⟨b, off + k, none⟩ = some (.string l[k]) := by
        rcases HV.out with ⟨h, _⟩ | ⟨b, off, cap, h, h0, hcap, hm, hbb, hcell⟩
        · rw [h] at hlt; simp at hlt
        · injection h with h1 h2 h3
          exact ⟨b, off, h1, hbb, hcell k hlt⟩
      subst haq
      have z1 : (0 : Int) ≤ (k : Int) := by omega
      have z2 : (k : Int) < (l.length : Int) := by omega
      have HY : Hid ((l[k].toList == s.toList) = true → inB s l = true) := fun h => inB_yes hlt h
      have HN : Hid ((l[k].toList == s.toList) = false → ∀ j (hj : j < l.length), j < k + 1 → (l[j].toList == s.toList) = false) := fun h0 j hj h => by
        rcases Nat.lt_or_ge j k with h3 | h3
        · exact hall.out j hj h3
        · obtain rfl : j = k := by omega
          exact h0
      clear hall
      obtain ⟨x, hx⟩ : ∃ x, l[k] = x := ⟨_, rfl⟩
      rw [hx] at hc HY HN
      clear hx
      cases hq : (x.toList == s.toList) with
      | true =>
        have HQ := Lib.hid (HY.out hq)
        clear HY HN
        go_wp2_with fail
        go_ret
        exact ⟨by rw [HQ.out]; rfl, rfl⟩
      | false =>
        have HQ := Lib.hid (HN.out hq)
        clear HY HN
        go_wp2_with fail
        go_roundw
        case rel => exact ⟨k + 1, by omega, by go_num, HQ.out, by first | rfl | trivial⟩
        case measure => simp [intOf]; omega
    · obtain rfl : k = l.length := by omega
      have HQ : Hid (inB s l = false) := inB_no (fun j hj => hall.out j hj hj)
      clear hall
      go_wp2_with fail
      go_ret
      exact ⟨by rw [HQ.out]; rfl, rfl⟩

end Go.Proofs.YtlolomodcbkblaaGreatDoor.Nd
