/- Leading spaces and tokens. The walks of skipSpace and expectTokenSlash. -/
import Derived.Test.YtkmfedmiaannfaaOct2
set_option linter.unusedVariables false
set_option linter.unusedSimpArgs false
namespace Go.Proofs.Ytkmfedmiaannfaa.Oct
open Go.RowKit

def skipSp (l : List UInt8) : List UInt8 := l.dropWhile (fun c => isSp c.toNat)
def tkc (c : UInt8) : Bool := isTk c.toNat || decide (c.toNat = 47)
def tokOf (l : List UInt8) : List UInt8 := l.takeWhile tkc
def tokRest (l : List UInt8) : List UInt8 := l.dropWhile tkc

theorem of_data {s : ByteArray} {l : List UInt8} (h : s.data.toList = l) : s = ⟨l.toArray⟩ := by
  obtain ⟨⟨x⟩⟩ := s
  simp at h
  rw [h]

theorem takeWhile_at {p : UInt8 → Bool} (l : List UInt8) (k : Nat) (hk : k ≤ l.length) (h1 : ∀ j (h : j < l.length), j < k → p l[j] = true) (h2 : ∀ h : k < l.length, p l[k] = false) :
    l.takeWhile p = l.take k ∧ l.dropWhile p = l.drop k := by
  induction l generalizing k with
  | nil => simp
  | cons a r ih =>
    cases k with
    | zero =>
      have := h2 (by simp)
      simp at this
      simp [this]
    | succ k =>
      have ha := h1 0 (by simp) (by omega)
      simp at ha
      have := ih k (by simpa using hk) (fun j h hj => by have := h1 (j + 1) (by simpa using h) (by omega); simpa using this) (fun h => by have := h2 (by simpa using h); simpa using this)
      simp [ha, this.1, this.2]

theorem extract_drop (s : ByteArray) (k : Nat) : s.extract k s.size = ⟨(s.data.toList.drop k).toArray⟩ := by
  apply of_data
  rw [Lib.extract_data, List.take_of_length_le]
  rw [List.length_drop, ← Lib.size_eq]; exact Nat.le_refl _
theorem extract_take (s : ByteArray) (k : Nat) : s.extract 0 k = ⟨(s.data.toList.take k).toArray⟩ := by
  apply of_data
  rw [Lib.extract_data]; simp

set_option maxHeartbeats 4000000 in
set_option maxRecDepth 100000 in
theorem skip_any (s : ByteArray) (hs : s.size ≤ 9223372036854775807) (w : World) :
    Calls Try.prog 68 #[.string s] w fun e w' => e = .returned (.string ⟨(skipSp s.data.toList).toArray⟩) ∧ Below w.heap.size w w' := by
  have hfin : ∀ k, k ≤ s.size → (∀ j (h : j < s.size), j < k → isSp (s[j]'h).toNat = true) → (∀ h : k < s.size, isSp (s[k]'h).toNat = false) → s.extract k s.size = ⟨(skipSp s.data.toList).toArray⟩ := by
    intro k hk h1 h2
    have hsz := Lib.size_eq s
    have := takeWhile_at (p := fun c => isSp c.toNat) s.data.toList k (by omega) (fun j h hj => h1 j (by omega) hj) (fun h => h2 (by omega))
    unfold skipSp
    rw [extract_drop, this.2]
  have HF := Lib.hid hfin
  clear hfin
  go_enter Try.func68, Try.ntmps68
  go_wp2
  go_loopw [3] (fun i wr => ∃ k : Nat, k ≤ s.size ∧ i = .int .i64 k ∧ Below w.heap.size w wr ∧ Hid (∀ j (h : j < s.size), j < k → isSp (s[j]'h).toNat = true)) (fun i _ => s.size - (intOf i).toNat)
  case atStart => exact ⟨0, Nat.zero_le _, rfl, Below.refl _ _, fun j h h2 => by omega⟩
  case round =>
    obtain ⟨k, hk, rfl, hbw, hall⟩ := hrel
    by_cases hlt : k < s.size
    · have hb256 : (s[k]'hlt).toNat < 256 := (s[k]'hlt).toNat_lt
      by_cases hsp : isSp (s[k]'hlt).toNat = true
      · have H := Lib.hid (fun W => oct_any (s[k]'hlt).toNat hb256 2 (by unfold oct; rw [if_pos hsp]) W)
        have HS := Lib.hid hsp
        clear hsp
        go_wp2_with fail
        refine (H.out _).mono ?_
        rintro e w2 ⟨rfl, b2⟩
        go_wp2
        go_roundw
        case rel =>
          refine ⟨k + 1, by omega, by go_num, hbw.trans (b2.mono hbw.size), fun j h hj => ?_⟩
          by_cases e : j = k
          · subst e; exact HS.out
          · exact hall.out j h (by omega)
        case measure => simp [intOf]; omega
      · have hsp := Bool.eq_false_iff.2 hsp
        have he := Lib.hid (HF.out k hk hall.out (fun _ => hsp))
        have hr : oct (s[k]'hlt).toNat = 1 ∨ oct (s[k]'hlt).toNat = 0 := by
          unfold oct; rw [hsp]; cases isTk (s[k]'hlt).toNat <;> simp
        rcases hr with hr | hr
        all_goals
          have H := Lib.hid (fun W => oct_any (s[k]'hlt).toNat hb256 _ hr W)
          clear hr hsp
          go_wp2_with fail
          refine (H.out _).mono ?_
          rintro e w2 ⟨rfl, b2⟩
          go_wp2
          go_ret
          exact ⟨ret_str he.out, hbw.trans (b2.mono hbw.size)⟩
    · have he := Lib.hid (HF.out k hk hall.out (fun h => absurd h hlt))
      go_wp2
      go_ret
      exact ⟨ret_str he.out, hbw⟩

set_option maxHeartbeats 4000000 in
set_option maxRecDepth 100000 in
theorem tok_any (s : ByteArray) (hs : s.size ≤ 9223372036854775807) (w : World) :
    Calls Try.prog 67 #[.string s] w fun e w' => e = .returned (.tuple #[.string ⟨(tokOf s.data.toList).toArray⟩, .string ⟨(tokRest s.data.toList).toArray⟩]) ∧ Below w.heap.size w w' := by
  have hfin : ∀ k, k ≤ s.size → (∀ j (h : j < s.size), j < k → tkc (s[j]'h) = true) → (∀ h : k < s.size, tkc (s[k]'h) = false) → s.extract 0 k = ⟨(tokOf s.data.toList).toArray⟩ ∧ s.extract k s.size = ⟨(tokRest s.data.toList).toArray⟩ := by
    intro k hk h1 h2
    have hsz := Lib.size_eq s
    have := takeWhile_at (p := tkc) s.data.toList k (by omega) (fun j h hj => h1 j (by omega) hj) (fun h => h2 (by omega))
    unfold tokOf tokRest
    rw [extract_drop, extract_take, this.1, this.2]
    exact ⟨rfl, rfl⟩
  have HF := Lib.hid hfin
  clear hfin
  go_enter Try.func67, Try.ntmps67
  go_wp2
  go_loopw [4] (fun i wr => ∃ k : Nat, k ≤ s.size ∧ i = .int .i64 k ∧ Below w.heap.size w wr ∧ Hid (∀ j (h : j < s.size), j < k → tkc (s[j]'h) = true)) (fun i _ => s.size - (intOf i).toNat)
  case atStart => exact ⟨0, Nat.zero_le _, rfl, Below.refl _ _, fun j h h2 => by omega⟩
  case round =>
    obtain ⟨k, hk, rfl, hbw, hall⟩ := hrel
    by_cases hlt : k < s.size
    · have hb256 : (s[k]'hlt).toNat < 256 := (s[k]'hlt).toNat_lt
      have next : ∀ W : World, tkc (s[k]'hlt) = true → Hid (∀ j (h : j < s.size), j < k + 1 → tkc (s[j]'h) = true) := by
        intro _ ht j h hj
        by_cases e : j = k
        · subst e; exact ht
        · exact hall.out j h (by omega)
      have hr : oct (s[k]'hlt).toNat = 2 ∨ oct (s[k]'hlt).toNat = 1 ∨ oct (s[k]'hlt).toNat = 0 := by
        unfold oct; cases isSp (s[k]'hlt).toNat <;> cases isTk (s[k]'hlt).toNat <;> simp
      have h47 : (((s[k]'hlt).toNat : Int) != 47) = true ∨ (((s[k]'hlt).toNat : Int) != 47) = false := by
        cases (((s[k]'hlt).toNat : Int) != 47) <;> simp
      by_cases htk : isTk (s[k]'hlt).toNat = true
      · have h1 : oct (s[k]'hlt).toNat = 1 := by
          unfold oct
          cases hsp : isSp (s[k]'hlt).toNat
          · rw [htk]; rfl
          · rw [tk_false hb256 hsp] at htk; cases htk
        have H := Lib.hid (fun W => oct_any (s[k]'hlt).toNat hb256 _ h1 W)
        have HN := Lib.hid (next w (by unfold tkc; rw [htk]; rfl))
        clear h1 htk hr next h47
        go_wp2_with fail
        refine (H.out _).mono ?_
        rintro e w2 ⟨rfl, b2⟩
        go_wp2
        go_roundw
        case rel => exact ⟨k + 1, by omega, by go_num, hbw.trans (b2.mono hbw.size), HN.out⟩
        case measure => simp [intOf]; omega
      · have htk := Bool.eq_false_iff.2 htk
        rcases h47 with h47 | h47
        · have hne : ¬ (s[k]'hlt).toNat = 47 := by rw [bne_iff_ne] at h47; omega
          have he := Lib.hid (HF.out k hk hall.out (fun _ => by unfold tkc; rw [htk, decide_eq_false hne]; rfl))
          have hr2 : oct (s[k]'hlt).toNat = 2 ∨ oct (s[k]'hlt).toNat = 0 := by
            unfold oct; rw [htk]; cases isSp (s[k]'hlt).toNat <;> simp
          have z0 : (0 : Int) ≤ k := by omega
          rcases hr2 with hr2 | hr2
          all_goals
            have H := Lib.hid (fun W => oct_any (s[k]'hlt).toNat hb256 _ hr2 W)
            clear hr2 htk hr next hne
            go_wp2_with fail
            refine (H.out _).mono ?_
            rintro e w2 ⟨rfl, b2⟩
            go_wp2
            go_quiet (fail)
            go_wp2
            go_ret2
            refine ⟨?_, below_drewN (hbw.trans (b2.mono hbw.size)) _⟩
            rw [he.out.1, he.out.2] <;> rfl
        · have heq : (s[k]'hlt).toNat = 47 := by
            rw [bne_eq_false_iff_eq] at h47; omega
          have HN := Lib.hid (next w (by unfold tkc; rw [decide_eq_true heq]; simp))
          have hr2 : oct (s[k]'hlt).toNat = 2 ∨ oct (s[k]'hlt).toNat = 0 := by
            unfold oct; rw [htk]; cases isSp (s[k]'hlt).toNat <;> simp
          rcases hr2 with hr2 | hr2
          all_goals
            have H := Lib.hid (fun W => oct_any (s[k]'hlt).toNat hb256 _ hr2 W)
            clear hr2 htk hr next heq
            go_wp2_with fail
            refine (H.out _).mono ?_
            rintro e w2 ⟨rfl, b2⟩
            go_wp2
            go_roundw
            case rel => exact ⟨k + 1, by omega, by go_num, hbw.trans (b2.mono hbw.size), HN.out⟩
            case measure => simp [intOf]; omega
    · have he := Lib.hid (HF.out k hk hall.out (fun h => absurd h hlt))
      have hks : k = s.size := by omega
      have z0 : (0 : Int) ≤ k := by omega
      clear hks
      go_wp2
      go_quiet (fail)
      go_wp2
      go_ret2
      refine ⟨?_, below_drewN hbw _⟩
      rw [he.out.1, he.out.2] <;> rfl

end Go.Proofs.Ytkmfedmiaannfaa.Oct
