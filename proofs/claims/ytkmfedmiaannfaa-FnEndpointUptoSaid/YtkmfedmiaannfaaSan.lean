/- What a string is sanitized to, as bytes: it has only letters, digits, _, :, - and points, no two _ in sequence; without spaces it is the same when it is sanitized again. No Go. -/
import Derived.Laws.Runes
import Derived.Laws.RangeAny
import Derived.Lib.Strings
set_option linter.unusedSimpArgs false
namespace Go.Proofs.Ytkmfedmiaannfaa.San

def keep (c : Nat) : Bool := decide (97 ≤ c ∧ c ≤ 122) || decide (65 ≤ c ∧ c ≤ 90) || decide (48 ≤ c ∧ c ≤ 57) || decide (c = 95) || decide (c = 58) || decide (c = 45)
def repl (c : Nat) : Nat := if c = 32 then 46 else if keep c then c else 95

theorem keep_iff (c : Nat) : keep c = true ↔ (97 ≤ c ∧ c ≤ 122) ∨ (65 ≤ c ∧ c ≤ 90) ∨ (48 ≤ c ∧ c ≤ 57) ∨ c = 95 ∨ c = 58 ∨ c = 45 := by
  unfold keep; simp only [Bool.or_eq_true, decide_eq_true_eq]; omega
theorem repl_le (c : Nat) : repl c ≤ 127 := by
  unfold repl
  split
  · omega
  · split
    · rename_i h; rw [keep_iff] at h; omega
    · omega

/-- from place pos on, by at most 'fuel' runes; prev: whether _ was the last one written -/
def sanFrom (s : ByteArray) : Nat → Nat → Bool → List UInt8
  | 0, _, _ => []
  | fuel + 1, pos, prev =>
    if pos < s.size then
      (if repl (Utf8.decode s pos).1 = 95 ∧ prev = true then sanFrom s fuel (pos + (Utf8.decode s pos).2) true
       else (repl (Utf8.decode s pos).1).toUInt8 :: sanFrom s fuel (pos + (Utf8.decode s pos).2) (decide (repl (Utf8.decode s pos).1 = 95)))
    else []
def san (s : ByteArray) : List UInt8 := sanFrom s s.size 0 false

theorem width_pos (s : ByteArray) (pos : Nat) (h : pos < s.size) : 1 ≤ (Utf8.decode s pos).2 := by
  by_cases ha : (s[pos]'h).toNat < 128
  · rw [decode_ascii s pos h ha]
    exact Nat.le_refl _
  · exact (decode_high s pos h (by omega)).2

theorem sanFrom_end (s : ByteArray) (fuel pos : Nat) (p : Bool) (h : ¬ pos < s.size) : sanFrom s fuel pos p = [] := by
  cases fuel with
  | zero => rfl
  | succ f => simp [sanFrom, h]

/-- bytes that are allowed; prev: whether _ comes before the first -/
def Right : Bool → List UInt8 → Prop
  | _, [] => True
  | p, c :: r => (keep c.toNat = true ∨ c.toNat = 46) ∧ ¬ (c.toNat = 95 ∧ p = true) ∧ Right (decide (c.toNat = 95)) r

theorem toNat_repl (c : Nat) : (repl c).toUInt8.toNat = repl c := by
  have := repl_le c
  simp; omega

theorem repl_ok (c : Nat) : keep (repl c) = true ∨ repl c = 46 := by
  unfold repl
  split
  · exact Or.inr rfl
  · split
    · rename_i h; exact Or.inl h
    · exact Or.inl (by decide)

theorem sanFrom_right (s : ByteArray) (fuel : Nat) : ∀ (pos : Nat) (p : Bool), Right p (sanFrom s fuel pos p) := by
  induction fuel with
  | zero => intro pos p; exact trivial
  | succ f ih =>
    intro pos p
    unfold sanFrom
    by_cases h : pos < s.size
    · rw [if_pos h]
      by_cases h2 : repl (Utf8.decode s pos).1 = 95 ∧ p = true
      · rw [if_pos h2]
        obtain ⟨_, rfl⟩ := h2
        exact ih _ _
      · rw [if_neg h2]
        refine ⟨?_, ?_, ?_⟩
        · rw [toNat_repl]; exact repl_ok _
        · rw [toNat_repl]; exact h2
        · rw [toNat_repl]; exact ih _ _
    · rw [if_neg h]; exact trivial

theorem sanFrom_len (s : ByteArray) (fuel : Nat) : ∀ (pos : Nat) (p : Bool), (sanFrom s fuel pos p).length ≤ fuel := by
  induction fuel with
  | zero => intro pos p; exact Nat.le_refl _
  | succ f ih =>
    intro pos p
    unfold sanFrom
    split
    · split
      · have := ih (pos + (Utf8.decode s pos).2) true; omega
      · have := ih (pos + (Utf8.decode s pos).2) (decide (repl (Utf8.decode s pos).1 = 95)); simp; omega
    · simp
theorem san_len (s : ByteArray) : (san s).length ≤ s.size := sanFrom_len s _ _ _
theorem san_right (s : ByteArray) : Right false (san s) := sanFrom_right s _ _ _

/-- without points: only bytes that are kept -/
def Kept (l : List UInt8) : Prop := ∀ c ∈ l, keep c.toNat = true

theorem sanFrom_kept (s : ByteArray) (hs : ∀ i (h : i < s.size), (s[i]'h).toNat ≠ 32) (fuel : Nat) : ∀ (pos : Nat) (p : Bool), Kept (sanFrom s fuel pos p) := by
  induction fuel with
  | zero => intro pos p c hc; cases hc
  | succ f ih =>
    intro pos p
    unfold sanFrom
    by_cases h : pos < s.size
    · rw [if_pos h]
      by_cases h2 : repl (Utf8.decode s pos).1 = 95 ∧ p = true
      · rw [if_pos h2]; exact ih _ _
      · rw [if_neg h2]
        intro c hc
        rcases List.mem_cons.1 hc with rfl | hc
        · rw [toNat_repl]
          have h32 : (Utf8.decode s pos).1 ≠ 32 := by
            by_cases ha : (s[pos]'h).toNat < 128
            · rw [decode_ascii s pos h ha]; exact hs pos h
            · have := (decode_high s pos h (by omega)).1; omega
          unfold repl
          rw [if_neg h32]
          split
          · assumption
          · decide
        · exact ih _ _ c hc
    · rw [if_neg h]; intro c hc; cases hc
theorem san_kept (s : ByteArray) (hs : ∀ i (h : i < s.size), (s[i]'h).toNat ≠ 32) : Kept (san s) := sanFrom_kept s hs _ _ _

theorem byte_at (l : List UInt8) (pos : Nat) (c : UInt8) (r : List UInt8) (h : l.drop pos = c :: r) : ∃ hp : pos < (ByteArray.mk l.toArray).size, ((ByteArray.mk l.toArray)[pos]'hp) = c := by
  have hp : pos < l.length := by
    rcases Nat.lt_or_ge pos l.length with h' | h'
    · exact h'
    · rw [List.drop_eq_nil_of_le h'] at h; cases h
  refine ⟨by rw [Lib.size_eq]; exact hp, ?_⟩
  have e := List.drop_eq_getElem_cons hp
  rw [h] at e
  have : c = l[pos] := (List.cons.inj e).1
  rw [this]
  rfl

/-- sanitizing what is right and kept changes nothing -/
theorem sanFrom_same (l : List UInt8) (hk : Kept l) (fuel : Nat) : ∀ (pos : Nat) (p : Bool), Right p (l.drop pos) → (l.drop pos).length ≤ fuel → sanFrom ⟨l.toArray⟩ fuel pos p = l.drop pos := by
  induction fuel with
  | zero =>
    intro pos p _ hl
    have h0 : l.drop pos = [] := List.length_eq_zero_iff.1 (by omega)
    rw [h0]
    rfl
  | succ f ih =>
    intro pos p hr hl
    cases hd : l.drop pos with
    | nil =>
      apply sanFrom_end
      rw [Lib.size_eq]
      have := List.drop_eq_nil_iff.1 hd
      simpa using this
    | cons c r =>
      obtain ⟨hp, hc⟩ := byte_at l pos c r hd
      have hck : keep c.toNat = true := hk c (List.mem_of_mem_drop (by rw [hd]; exact List.mem_cons_self ..))
      have hlt : c.toNat < 128 := by rw [keep_iff] at hck; omega
      have hdec : Utf8.decode ⟨l.toArray⟩ pos = (c.toNat, 1) := by
        have := decode_ascii ⟨l.toArray⟩ pos hp (by rw [hc]; exact hlt)
        rw [hc] at this
        exact this
      have hrep : repl c.toNat = c.toNat := by
        unfold repl
        rw [if_neg (by rw [keep_iff] at hck; omega), if_pos hck]
      have hr' := hr
      rw [hd] at hr' hl
      have hdr : l.drop (pos + 1) = r := by rw [← List.drop_drop, hd]; rfl
      unfold sanFrom
      rw [if_pos hp, hdec]
      simp only []
      rw [hrep, if_neg hr'.2.1]
      rw [ih (pos + 1) (decide (c.toNat = 95)) (by rw [hdr]; exact hr'.2.2) (by rw [hdr]; simp at hl; omega), hdr]
      simp

theorem san_same (s : ByteArray) (hs : ∀ i (h : i < s.size), (s[i]'h).toNat ≠ 32) : san ⟨(san s).toArray⟩ = san s := by
  have h := sanFrom_same (san s) (san_kept s hs) (san s).length 0 false (by simpa using san_right s) (by simp)
  simp only [List.drop_zero] at h
  have e : san ⟨(san s).toArray⟩ = sanFrom ⟨(san s).toArray⟩ (san s).length 0 false := by
    show sanFrom _ (ByteArray.size _) 0 false = _
    rw [Lib.size_eq]
  rw [e, h]

/-- what is asked of each place -/
theorem Right.at {l : List UInt8} : ∀ {p : Bool}, Right p l → ∀ i (h : i < l.length), (keep l[i].toNat = true ∨ l[i].toNat = 46) ∧ (l[i].toNat = 95 → (i = 0 → p = false) ∧ (0 < i → ∀ h2 : i - 1 < l.length, l[i-1].toNat ≠ 95)) := by
  induction l with
  | nil => intro p _ i h; cases h
  | cons c r ih =>
    intro p hr i h
    cases i with
    | zero =>
      refine ⟨hr.1, fun hc => ⟨fun _ => ?_, fun h0 => by omega⟩⟩
      cases p
      · rfl
      · exact absurd ⟨hc, rfl⟩ hr.2.1
    | succ i =>
      have hi : i < r.length := by simpa using h
      obtain ⟨a, b⟩ := ih hr.2.2 i hi
      refine ⟨by simpa using a, fun hc => ⟨fun h0 => by omega, fun _ h2 => ?_⟩⟩
      have b := b (by simpa using hc)
      cases i with
      | zero =>
        have := b.1 rfl
        simpa using this
      | succ j =>
        have := b.2 (by omega) (by omega)
        simpa using this

end Go.Proofs.Ytkmfedmiaannfaa.San
