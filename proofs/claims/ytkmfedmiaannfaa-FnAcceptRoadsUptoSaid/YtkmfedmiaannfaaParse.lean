/- Accept headers: what a line says, in plain lists. -/
import Derived.Test.YtkmfedmiaannfaaQual
import Derived.Test.YtkmfedmiaannfaaPre
set_option linter.unusedVariables false
set_option linter.unusedSimpArgs false
namespace Go.Proofs.Ytkmfedmiaannfaa.Acc
open Go.RowKit Plf Oct

abbrev E := List UInt8 × Option Nat

def lt0 (o : Option Nat) : Bool := ltO o (some 0)
def more (l : List UInt8) : Option (List UInt8) :=
  match skipSp l with
  | c :: r => if c.toNat = 44 then some (skipSp r) else none
  | [] => none
def qRead (l : List UInt8) : Option (Option Nat × List UInt8) :=
  if [113, 61].isPrefixOf l then (if lt0 (qual (l.drop 2)).1 then none else some (qual (l.drop 2))) else none
def qPart (l : List UInt8) : Option (Option Nat × List UInt8) :=
  match l with
  | c :: r => if c.toNat = 59 then qRead (skipSp r) else some (some oneF, c :: r)
  | [] => some (some oneF, [])
def entry (l : List UInt8) : Option (E × List UInt8) :=
  if tokOf l = [] then none else (qPart (skipSp (tokRest l))).map (fun o => ((tokOf l, o.1), o.2))
def parse : Nat → List UInt8 → List E
  | 0, _ => []
  | n + 1, l => match entry l with
    | none => []
    | some (e, r) => match more r with
      | none => [e]
      | some l' => e :: parse n l'
def parseS (l : List UInt8) : List E := parse (l.length + 1) l

theorem skipSp_len (l : List UInt8) : (skipSp l).length ≤ l.length := (List.dropWhile_sublist _).length_le
theorem tok_len (l : List UInt8) : (tokOf l).length + (tokRest l).length = l.length := by
  unfold tokOf tokRest
  rw [← List.length_append, List.takeWhile_append_dropWhile]
theorem qualTail_len (q : Nat) (l : List UInt8) : (qualTail q l).2.length ≤ l.length := by
  cases l with
  | nil => exact Nat.le_refl _
  | cons c r =>
    show ((if c.toNat = 46 then _ else _ : Option Nat × List UInt8)).2.length ≤ _
    split
    · have := (List.dropWhile_sublist (l := r) isDg).length_le
      simp only [List.length_cons]; omega
    · exact Nat.le_refl _
theorem qual_len (l : List UInt8) : (qual l).2.length ≤ l.length := by
  cases l with
  | nil => exact Nat.le_refl _
  | cons c r =>
    show ((if c.toNat = 48 then qualTail 0 r else if c.toNat = 49 then qualTail oneF r else (some negF, []) : Option Nat × List UInt8)).2.length ≤ _
    split
    · have := qualTail_len 0 r; simp only [List.length_cons]; omega
    · split
      · have := qualTail_len oneF r; simp only [List.length_cons]; omega
      · exact Nat.zero_le _
theorem qPart_len {l : List UInt8} {o : Option Nat × List UInt8} (h : qPart l = some o) : o.2.length ≤ l.length := by
  cases l with
  | nil => injection h with h; rw [← h]; exact Nat.le_refl _
  | cons c r =>
    have h : (if c.toNat = 59 then qRead (skipSp r) else some (some oneF, c :: r)) = some o := h
    split at h
    · unfold qRead at h
      split at h
      · split at h
        · cases h
        · injection h with h
          rw [← h]
          have h1 := qual_len ((skipSp r).drop 2)
          have h2 := skipSp_len r
          rw [List.length_drop] at h1
          simp only [List.length_cons]; omega
      · cases h
    · injection h with h; rw [← h]; exact Nat.le_refl _
theorem entry_len {l r : List UInt8} {e : E} (h : entry l = some (e, r)) : r.length < l.length := by
  unfold entry at h
  split at h
  · cases h
  · rename_i ht
    cases hq : qPart (skipSp (tokRest l)) with
    | none => rw [hq] at h; cases h
    | some o =>
      rw [hq] at h
      injection h with h
      injection h with h1 h2
      have h3 := qPart_len hq
      have h4 := skipSp_len (tokRest l)
      have h5 := tok_len l
      have : 0 < (tokOf l).length := List.length_pos_iff.2 ht
      rw [← h2]; show o.2.length < _; omega
theorem more_len {r l : List UInt8} (h : more r = some l) : l.length < r.length := by
  unfold more at h
  have h1 := skipSp_len r
  cases hs : skipSp r with
  | nil => rw [hs] at h; cases h
  | cons c t =>
    rw [hs] at h h1
    have h : (if c.toNat = 44 then some (skipSp t) else none) = some l := h
    split at h
    · injection h with h
      rw [← h]
      have := skipSp_len t
      simp only [List.length_cons] at h1; omega
    · cases h

theorem parse_more (n : Nat) : ∀ (m : Nat) (l : List UInt8), l.length < n → l.length < m → parse n l = parse m l := by
  induction n with
  | zero => intro m l h; omega
  | succ n ih =>
    intro m l hn hm
    cases m with
    | zero => omega
    | succ m =>
      show (match entry l with | none => [] | some (e, r) => match more r with | none => [e] | some l' => e :: parse n l') = (match entry l with | none => [] | some (e, r) => match more r with | none => [e] | some l' => e :: parse m l')
      cases he : entry l with
      | none => rfl
      | some p =>
        obtain ⟨e, r⟩ := p
        have h1 := entry_len he
        show (match more r with | none => [e] | some l' => e :: parse n l') = (match more r with | none => [e] | some l' => e :: parse m l')
        cases hm' : more r with
        | none => rfl
        | some l' =>
          have h2 := more_len hm'
          show e :: parse n l' = e :: parse m l'
          rw [ih m l' (by omega) (by omega)]

theorem parseS_none {l : List UInt8} (h : entry l = none) : parseS l = [] := by
  unfold parseS
  show (match entry l with | none => [] | some (e, r) => match more r with | none => [e] | some l' => e :: parse l.length l') = _
  rw [h]
theorem parseS_one {l r : List UInt8} {e : E} (h : entry l = some (e, r)) (hm : more r = none) : parseS l = [e] := by
  unfold parseS
  show (match entry l with | none => [] | some (e, r) => match more r with | none => [e] | some l' => e :: parse l.length l') = _
  rw [h]
  show (match more r with | none => [e] | some l' => e :: parse l.length l') = _
  rw [hm]
theorem parseS_more {l r l' : List UInt8} {e : E} (h : entry l = some (e, r)) (hm : more r = some l') : parseS l = e :: parseS l' := by
  unfold parseS
  show (match entry l with | none => [] | some (e, r) => match more r with | none => [e] | some l' => e :: parse l.length l') = _
  rw [h]
  show (match more r with | none => [e] | some l' => e :: parse l.length l') = _
  rw [hm]
  show e :: parse l.length l' = _
  have h1 := entry_len h
  have h2 := more_len hm
  rw [parse_more l.length (l'.length + 1) l' (by omega) (by omega)]

/-- what stands in memory for an entry -/
abbrev M := ByteArray × Nat
def cells (z : M) : List Value := [.string z.1, .float .f64 z.2]
theorem cells_len (z : M) : (cells z).length = 2 := rfl
def canon (q : Nat) : Option Nat := if isNan D q then none else some q
def den (z : M) : E := (z.1.data.toList, canon z.2)
theorem canon_of {o : Option Nat} {q : Nat} (h : Rep o q) (hn : ∀ r, o = some r → isNan D r = false) : canon q = o := by
  unfold canon
  rcases h with rfl | ⟨rfl, h⟩
  · rw [hn q rfl]; rfl
  · rw [h]; rfl
theorem sum_num (a b c : Ieee.Datum) (h : a.sum b = some c) : c.isNaN = false := by
  cases a <;> cases b <;> simp only [Ieee.Datum.sum] at h <;> (try (cases h; done)) <;> (try (injection h with h; rw [← h]; rfl; done))
  split at h
  · injection h with h; rw [← h]; rfl
  · cases h
theorem qualTail_num (q : Nat) (hq : isNan D q = false) (l : List UInt8) (r : Nat) (h : (qualTail q l).1 = some r) : isNan D r = false := by
  cases l with
  | nil => injection h with h; rw [← h]; exact hq
  | cons c t =>
    have h : ((if c.toNat = 46 then (frac q (numFrom 0 (t.takeWhile isDg)) (denFrom 1 (t.takeWhile isDg).length), t.dropWhile isDg) else (some q, c :: t)) : Option Nat × List UInt8).1 = some r := h
    split at h
    · have h : frac q (numFrom 0 (t.takeWhile isDg)) (denFrom 1 (t.takeWhile isDg).length) = some r := h
      unfold frac at h
      cases hd : D.div (floatOfInt .f64 (numFrom 0 (t.takeWhile isDg))) (floatOfInt .f64 (denFrom 1 (t.takeWhile isDg).length)) with
      | none => rw [hd] at h; cases h
      | some x =>
        rw [hd] at h
        have h : D.add q x = some r := h
        unfold Ieee.Format.add at h
        cases e : (D.read q).sum (D.read x) with
        | none => rw [e] at h; cases h
        | some c => rw [e] at h; injection h with h; rw [← h]; exact nan_write c (sum_num _ _ _ e)
    · injection h with h; rw [← h]; exact hq
theorem qual_num (l : List UInt8) (r : Nat) (h : (qual l).1 = some r) : isNan D r = false := by
  cases l with
  | nil => injection h with h; rw [← h]; decide +kernel
  | cons c t =>
    have h : ((if c.toNat = 48 then qualTail 0 t else if c.toNat = 49 then qualTail oneF t else (some negF, []) : Option Nat × List UInt8)).1 = some r := h
    split at h
    · exact qualTail_num 0 (by decide +kernel) t r h
    · split at h
      · exact qualTail_num oneF (by decide +kernel) t r h
      · injection h with h; rw [← h]; decide +kernel

end Go.Proofs.Ytkmfedmiaannfaa.Acc
