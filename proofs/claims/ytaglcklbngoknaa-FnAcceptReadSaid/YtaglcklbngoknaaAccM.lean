/- A line of entries is read as the entries say. No Go. -/
import Derived.Test.YtaglcklbngoknaaAccL
set_option linter.unusedVariables false
set_option linter.unusedSimpArgs false
namespace Go.Proofs.Ytaglcklbngoknaa.Acc
open Go.RowKit Plf Oct

/-- an entry: its value, its digits -/
abbrev Q := List UInt8 × List UInt8
/-- what an entry says -/
structure Says (e : Q) (o : E) : Prop where
  tok : tokB e.1 = true
  val : o.1 = e.1
  no : e.2 = [] → o.2 = some oneF
  yes : e.2 ≠ [] → ∃ whole ds x, Good e.2 whole ds ∧ specQ whole ds = some x ∧ lt0 (some x) = false ∧ o.2 = some x

inductive All2 {α β : Type} (R : α → β → Prop) : List α → List β → Prop
  | nil : All2 R [] []
  | cons {a : α} {b : β} {l : List α} {m : List β} (h : R a b) (t : All2 R l m) : All2 R (a :: l) (b :: m)

def seg (e : Q) : List UInt8 := e.1 ++ (if e.2 = [] then [] else [59, 113, 61] ++ e.2)
def lineTail (gap : List UInt8) (l : List Q) : List UInt8 := l.flatMap (fun e => [44] ++ gap ++ seg e)
def line (gap : List UInt8) (l : List Q) : List UInt8 :=
  match l with
  | [] => []
  | e :: es => seg e ++ lineTail gap es

theorem tokC_tkc : (List.range 256).all (fun n => !tokC (UInt8.ofNat n) || (tkc (UInt8.ofNat n) && !isSp n)) = true := by decide +kernel
theorem tok_facts {c : UInt8} (h : tokC c = true) : tkc c = true ∧ isSp c.toNat = false := by
  have := List.all_eq_true.1 tokC_tkc c.toNat (List.mem_range.2 c.toNat_lt)
  rw [UInt8.ofNat_toNat, h] at this
  simpa using this
theorem tk44 : ∀ c : UInt8, c.toNat = 44 → tkc c = false ∧ isSp c.toNat = false := by
  intro c h
  have : c = 44 := UInt8.toNat_inj.1 h
  subst this
  decide +kernel
theorem tk59 : tkc 59 = false ∧ isSp (59 : UInt8).toNat = false := by decide +kernel
theorem sp113 : isSp (113 : UInt8).toNat = false := by decide +kernel

theorem skip_head {c : UInt8} (r : List UInt8) (h : isSp c.toNat = false) : skipSp (c :: r) = c :: r := by
  unfold skipSp
  rw [List.dropWhile_cons, h]
  rfl
theorem skip_sep {b : List UInt8} (h : Sep b) : skipSp b = b := by
  cases b with
  | nil => rfl
  | cons c r => exact skip_head r (tk44 c (h c r rfl)).2

/-- one entry -/
theorem entry_seg {e : Q} {o : E} (h : Says e o) {b : List UInt8} (hb : Sep b) : entry (seg e ++ b) = some (o, b) := by
  have ht := h.tok
  unfold tokB at ht
  rw [Bool.and_eq_true] at ht
  obtain ⟨ht1, ht2⟩ := ht
  have hall : e.1.all tkc = true := List.all_eq_true.2 fun c hc => (tok_facts (List.all_eq_true.1 ht1 c hc)).1
  have hne : e.1 ≠ [] := by
    intro e0
    rw [e0] at ht2
    cases ht2
  by_cases hd : e.2 = []
  · have hs : seg e = e.1 := by unfold seg; rw [if_pos hd, List.append_nil]
    have hw := takeWhile_app e.1 b hall (fun c r hc => (tk44 c (hb c r hc)).1)
    rw [hs]
    unfold entry
    have h1 : tokOf (e.1 ++ b) = e.1 := hw.1
    have h2 : tokRest (e.1 ++ b) = b := hw.2
    rw [h1, h2, if_neg hne, skip_sep hb]
    have h3 : qPart b = some (some oneF, b) := by
      cases b with
      | nil => rfl
      | cons c r =>
        have := hb c r rfl
        show (if c.toNat = 59 then _ else some (some oneF, c :: r)) = _
        rw [if_neg (by omega)]
    rw [h3]
    show some ((e.1, some oneF), b) = _
    rw [← h.val, ← h.no hd]
  · obtain ⟨whole, ds, x, hg, hx, hl, ho⟩ := h.yes hd
    have hs : seg e ++ b = e.1 ++ (59 :: 113 :: 61 :: (e.2 ++ b)) := by
      unfold seg
      rw [if_neg hd]
      simp
    have hw := takeWhile_app e.1 (59 :: 113 :: 61 :: (e.2 ++ b)) hall (fun c r hc => by injection hc with hc _; rw [← hc]; exact tk59.1)
    rw [hs]
    unfold entry
    have h1 : tokOf (e.1 ++ (59 :: 113 :: 61 :: (e.2 ++ b))) = e.1 := hw.1
    have h2 : tokRest (e.1 ++ (59 :: 113 :: 61 :: (e.2 ++ b))) = 59 :: 113 :: 61 :: (e.2 ++ b) := hw.2
    rw [h1, h2, if_neg hne, skip_head _ tk59.2]
    have h3 : qPart (59 :: 113 :: 61 :: (e.2 ++ b)) = some (some x, b) := by
      show (if (59 : UInt8).toNat = 59 then qRead (skipSp (113 :: 61 :: (e.2 ++ b))) else some (some oneF, 59 :: 113 :: 61 :: (e.2 ++ b))) = _
      rw [if_pos (by decide), skip_head _ sp113]
      show (if [113, 61].isPrefixOf (113 :: 61 :: (e.2 ++ b)) then (if lt0 (qual (e.2 ++ b)).1 then none else some (qual (e.2 ++ b))) else none) = _
      rw [if_pos (by simp [List.isPrefixOf])]
      rw [(qual_good hg hb).1, hx]
      show (if lt0 (some x) = true then none else some (some x, b)) = _
      rw [hl]
      rfl
    rw [h3]
    show some ((e.1, some x), b) = _
    rw [← h.val, ← ho]

theorem tail_sep (gap : List UInt8) (l : List Q) : Sep (lineTail gap l) := by
  intro c r h
  cases l with
  | nil => cases h
  | cons e es =>
    have h : 44 :: (gap ++ seg e ++ lineTail gap es) = c :: r := by
      rw [← h]; unfold lineTail; simp
    injection h with h _
    rw [← h]; rfl

theorem seg_head {e : Q} (h : tokB e.1 = true) : ∃ c r, seg e = c :: r ∧ tokC c = true := by
  unfold tokB at h
  rw [Bool.and_eq_true] at h
  cases he : e.1 with
  | nil => rw [he] at h; exact absurd h.2 (by simp)
  | cons c r =>
    rw [he] at h
    have := h.1
    simp only [List.all_cons, Bool.and_eq_true] at this
    exact ⟨c, r ++ (if e.2 = [] then [] else [59, 113, 61] ++ e.2), by unfold seg; rw [he]; rfl, this.1⟩

theorem more_tail {gap : List UInt8} (hgap : gap = [] ∨ gap = [32]) {e : Q} (h : tokB e.1 = true) (es : List Q) : more (lineTail gap (e :: es)) = some (seg e ++ lineTail gap es) := by
  obtain ⟨c, r, hc, ht⟩ := seg_head h
  have hl : lineTail gap (e :: es) = 44 :: (gap ++ (seg e ++ lineTail gap es)) := by unfold lineTail; simp
  unfold more
  rw [hl, skip_head _ (by decide +kernel)]
  show (if (44 : UInt8).toNat = 44 then some (skipSp (gap ++ (seg e ++ lineTail gap es))) else none) = _
  rw [if_pos (by decide), hc]
  have h1 : skipSp (c :: (r ++ lineTail gap es)) = c :: (r ++ lineTail gap es) := skip_head _ (tok_facts ht).2
  rcases hgap with rfl | rfl
  · show some (skipSp (c :: (r ++ lineTail [] es))) = _
    rw [h1]; rfl
  · show some (skipSp (32 :: c :: (r ++ lineTail [32] es))) = _
    have h2 : skipSp (32 :: c :: (r ++ lineTail [32] es)) = skipSp (c :: (r ++ lineTail [32] es)) := by
      unfold skipSp
      rw [List.dropWhile_cons, if_pos (by decide +kernel)]
    rw [h2, h1]; rfl

theorem parse_segs {gap : List UInt8} (hgap : gap = [] ∨ gap = [32]) : ∀ (l : List Q) (os : List E) (e : Q) (o : E), All2 Says (e :: l) (o :: os) → parseS (seg e ++ lineTail gap l) = o :: os
  | [], os, e, o, h => by
    cases h with
    | cons h1 h2 =>
      cases h2
      have := entry_seg h1 (tail_sep gap [])
      exact parseS_one this rfl
  | e2 :: l, os, e, o, h => by
    cases h with
    | cons h1 h2 =>
      cases os with
      | nil => cases h2
      | cons o2 os =>
        have h3 := entry_seg h1 (tail_sep gap (e2 :: l))
        have h4 : tokB e2.1 = true := by cases h2 with | cons h _ => exact h.tok
        rw [parseS_more h3 (more_tail hgap h4 l), parse_segs hgap l os e2 o2 h2]

theorem parse_line {gap : List UInt8} (hgap : gap = [] ∨ gap = [32]) (l : List Q) (os : List E) (h : All2 Says l os) : parseS (line gap l) = os := by
  cases h with
  | nil => rfl
  | cons h1 h2 => exact parse_segs hgap _ _ _ _ (All2.cons h1 h2)

theorem forall₂_take {α β : Type} {R : α → β → Prop} {l : List α} {m : List β} (h : All2 R l m) : ∀ k, All2 R (l.take k) (m.take k) := by
  induction h with
  | nil => intro k; simp; exact All2.nil
  | cons h1 _ ih =>
    intro k
    cases k with
    | zero => exact All2.nil
    | succ k => exact All2.cons h1 (ih k)
theorem forall₂_drop {α β : Type} {R : α → β → Prop} {l : List α} {m : List β} (h : All2 R l m) : ∀ k, All2 R (l.drop k) (m.drop k) := by
  induction h with
  | nil => intro k; simp; exact All2.nil
  | cons h1 h2 ih =>
    intro k
    cases k with
    | zero => exact All2.cons h1 h2
    | succ k => exact ih k

/-- THE LAW in plain words -/
theorem parse_lines {gap : List UInt8} (hgap : gap = [] ∨ gap = [32]) (l : List Q) (os : List E) (h : All2 Says l os) (k : Nat) :
    parseS (line gap (l.take k)) ++ parseS (line gap (l.drop k)) = os := by
  rw [parse_line hgap _ _ (forall₂_take h k), parse_line hgap _ _ (forall₂_drop h k), List.take_append_drop]

end Go.Proofs.Ytaglcklbngoknaa.Acc
