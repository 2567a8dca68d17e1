/- Rebucketing as a function of words: what is kept once is kept again; powers are kept. No Go. -/
import Derived.Test.YtaglcklbngoknaaFl3
set_option linter.unusedSimpArgs false
namespace Plf
open Ieee

/-- a number, not negative (by its sign bit) -/
def Pos (z : Nat) : Prop := isNan D z = false ∧ isNeg D z = false

theorem Pos.word {r : Nat} (h : r ≤ D.infRung) : Pos (D.word false r) := by
  have hl : r < D.signWeight := Nat.lt_of_le_of_lt h D.infRung_lt
  refine ⟨nan_of_le (by rw [rung_word D _ hl]; exact h), neg_word D false hl⟩

theorem Pos.sv {z : Nat} (h : Pos z) : 0 ≤ Plf.sv D z := by
  unfold Plf.sv; rw [h.2]; simp

/-- a factor: finite, above nought -/
def Fac (b : Nat) : Prop := isNeg D b = false ∧ 0 < rung D b ∧ rung D b < D.infRung

theorem Pos.mul {x b : Nat} (h : Pos x) (hb : Fac b) : ∃ p, D.mul x b = some p ∧ Pos p := by
  have kx := rung_le_of h.1
  have rb := read_num D dbl hb.2.2
  rw [hb.1] at rb
  rcases Nat.lt_or_eq_of_le kx with l | l
  · refine ⟨D.word false (rungOf D (rm D (rung D x) * rm D (rung D b)) (rp D (rung D x) + rp D (rung D b))), ?_, Pos.word (rungOf_le_inf D _ _)⟩
    unfold Format.mul
    rw [read_num D dbl l, rb, h.2]
    simp only [Datum.product, Option.map_some]
    show some (D.nearest _ _ _) = _
    rw [nearest_eq]; rfl
  · have hm : rm D (rung D b) ≠ 0 := by
      unfold rm; split
      · have := hb.2.1; omega
      · have := binade_pos D; omega
    refine ⟨D.word false D.infRung, ?_, Pos.word (Nat.le_refl _)⟩
    unfold Format.mul
    rw [read_inf D dbl l, rb, h.2]
    simp only [Datum.product, if_neg hm, Option.map_some]
    rfl

theorem Pos.ofInt (n : Nat) : Pos (D.write (.number ((n : Int) < 0) (n : Int).natAbs 0)) := by
  have : decide ((n : Int) < 0) = false := by simp
  rw [this]
  show Pos (D.nearest _ _ _)
  rw [nearest_eq]
  exact Pos.word (rungOf_le_inf D _ _)

theorem Pos.ge {z : Nat} (h : Pos z) : (D.order z 0 == some .gt || D.order z 0 == some .eq) = true := by
  have h0 : isNan D 0 = false := by decide
  have s0 : Plf.sv D 0 = 0 := by decide
  have := h.sv
  rw [order_num h.1 h0, s0]
  rcases Int.lt_or_eq_of_le this with l | l
  · rw [Int.compare_eq_gt.2 l]; rfl
  · rw [Int.compare_eq_eq.2 l.symm]; rfl
theorem Pos.notlt {z : Nat} (h : Pos z) : (D.order z 0 == some .lt) = false := by
  cases e : D.order z 0 == some .lt
  · rfl
  · have := (ltW_iff z 0).1 e
    have s0 : Plf.sv D 0 = 0 := by decide
    have := h.sv
    omega
/-- the negative infinity -/
theorem Pos.notinf {z : Nat} (h : Pos z) : (D.order z 18442240474082181120 == some .eq) = false := by
  cases e : D.order z 18442240474082181120 == some .eq
  · rfl
  · have := (eqW_iff z 18442240474082181120).1 e
    have s0 : Plf.sv D 18442240474082181120 < 0 := by decide +kernel
    have := h.sv
    omega

/-- what is kept of the rest behind a bound -/
def rb (b : Nat) : Nat → List Nat → List Nat
  | k, [] => [k]
  | k, x :: r => if ltO (some x) (D.mul k b) then rb b k r else k :: rb b x r

/-- each is not below the one before times the base -/
def Chain (b : Nat) : Nat → List Nat → Prop
  | _, [] => True
  | k, x :: r => ltO (some x) (D.mul k b) = false ∧ Chain b x r

theorem rb_chain (b : Nat) (l : List Nat) : ∀ k, ∃ r, rb b k l = k :: r ∧ Chain b k r := by
  induction l with
  | nil => intro k; exact ⟨[], rfl, trivial⟩
  | cons x l ih =>
    intro k
    unfold rb
    by_cases h : ltO (some x) (D.mul k b) = true
    · rw [if_pos h]; exact ih k
    · rw [if_neg h]
      obtain ⟨r, e, hc⟩ := ih x
      exact ⟨rb b x l, rfl, by rw [e]; exact ⟨by simpa using h, hc⟩⟩

theorem rb_same (b : Nat) (l : List Nat) : ∀ k, Chain b k l → rb b k l = k :: l := by
  induction l with
  | nil => intro k _; rfl
  | cons x l ih =>
    intro k h
    unfold rb
    rw [if_neg (by rw [h.1]; decide), ih x h.2]

theorem rb_len (b : Nat) (l : List Nat) : ∀ k, (rb b k l).length ≤ l.length + 1 := by
  induction l with
  | nil => intro k; simp [rb]
  | cons x l ih =>
    intro k
    unfold rb
    split
    · have := ih k; simp; omega
    · have := ih x; simp; omega

theorem rb_mem (b : Nat) (l : List Nat) : ∀ k z, z ∈ rb b k l → z = k ∨ z ∈ l := by
  induction l with
  | nil => intro k z h; simp [rb] at h; exact Or.inl h
  | cons x l ih =>
    intro k z h
    unfold rb at h
    split at h
    · rcases ih k z h with h | h
      · exact Or.inl h
      · exact Or.inr (List.mem_cons_of_mem _ h)
    · rcases List.mem_cons.1 h with h | h
      · exact Or.inl h
      · rcases ih x z h with h | h
        · exact Or.inr (by rw [h]; exact List.mem_cons_self ..)
        · exact Or.inr (List.mem_cons_of_mem _ h)

/-- the whole list -/
def rebucket (b : Nat) (l : List Nat) : List Nat := match l with | [] => [] | k :: r => rb b k r

theorem rebucket_twice (b : Nat) (l : List Nat) : rebucket b (rebucket b l) = rebucket b l := by
  cases l with
  | nil => rfl
  | cons k r =>
    obtain ⟨t, e, hc⟩ := rb_chain b r k
    show rebucket b (rb b k r) = rb b k r
    rw [e]
    exact rb_same b t k hc

/-- powers from k on -/
def pows (b : Nat) : Nat → Nat → List Nat
  | _, 0 => []
  | k, n + 1 => k :: pows b ((D.mul k b).getD 0) n

theorem lt_irrefl (x : Nat) : ltW x x = false := by
  cases e : ltW x x
  · rfl
  · have := (ltW_iff x x).1 e; omega

theorem pows_chain (b : Nat) (hb : Fac b) (n : Nat) : ∀ k, Pos k → Chain b k (pows b ((D.mul k b).getD 0) n) := by
  induction n with
  | zero => intro k _; exact trivial
  | succ n ih =>
    intro k hk
    obtain ⟨p, e, hp⟩ := hk.mul hb
    rw [e]
    refine ⟨?_, ?_⟩
    · rw [e]; exact lt_irrefl p
    · exact ih p hp

theorem rebucket_pows (b : Nat) (hb : Fac b) (k : Nat) (hk : Pos k) (n : Nat) : rebucket b (pows b k n) = pows b k n := by
  cases n with
  | zero => rfl
  | succ n => exact rb_same b _ k (pows_chain b hb n k hk)

theorem pows_len (b : Nat) (n : Nat) : ∀ k, (pows b k n).length = n := by
  induction n with
  | zero => intro k; rfl
  | succ n ih => intro k; simp [pows, ih]

/-- the i-th power -/
def pow (b k : Nat) : Nat → Nat
  | 0 => k
  | i + 1 => (D.mul (pow b k i) b).getD 0
theorem pow_pos {b k : Nat} (hb : Fac b) (hk : Pos k) (i : Nat) : Pos (pow b k i) := by
  induction i with
  | zero => exact hk
  | succ i ih => obtain ⟨p, e, hp⟩ := ih.mul hb; unfold pow; rw [e]; exact hp
theorem pow_next {b k : Nat} (i : Nat) : pow b ((D.mul k b).getD 0) i = pow b k (i + 1) := by
  induction i with
  | zero => rfl
  | succ i ih => show (D.mul (pow b _ i) b).getD 0 = _; rw [ih]; rfl
theorem pows_eq (b : Nat) (n : Nat) : ∀ k, pows b k n = (List.range n).map (pow b k) := by
  induction n with
  | zero => intro k; rfl
  | succ n ih =>
    intro k
    rw [pows, ih, List.range_succ_eq_map, List.map_cons, List.map_map]
    congr 1
    apply List.map_congr_left
    intro i _
    exact pow_next i

end Plf
