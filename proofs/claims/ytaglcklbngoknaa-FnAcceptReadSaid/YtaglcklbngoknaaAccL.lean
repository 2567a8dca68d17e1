/- Accept headers written from entries: what is read of them is what the entries say. No Go. -/
import Derived.Test.YtaglcklbngoknaaParse
import Derived.Test.YtaglcklbngoknaaAccP
set_option linter.unusedVariables false
set_option linter.unusedSimpArgs false
namespace Go.Proofs.Ytaglcklbngoknaa.Acc
open Go.RowKit Plf Oct

def tokC (c : UInt8) : Bool := decide (97 ≤ c.toNat ∧ c.toNat ≤ 122) || decide (48 ≤ c.toNat ∧ c.toNat ≤ 57) || decide (c.toNat = 45) || decide (c.toNat = 42)
def tokB (l : List UInt8) : Bool := l.all tokC && !l.isEmpty

/-- digits behind the point, summed up; 'none': no digit -/
def thouF : List UInt8 → Int → Int → Option Int
  | [], n, _ => some n
  | c :: r, n, u => if isDg c then thouF r (n + u * ((c.toNat : Int) - 48)) (u / 10) else none
/-- the test in front -/
def thouBad (l : List UInt8) : Bool :=
  decide (l.length = 0) || decide (5 < l.length) || (match l with | c :: _ => decide (c.toNat ≠ 48) && decide (c.toNat ≠ 49) | [] => false) || decide (l.length = 2) ||
    (match l with | _ :: c :: _ => decide (c.toNat ≠ 46) | _ => false)
def thou (l : List UInt8) : Int × Bool :=
  if thouBad l then (0, false) else
  match l with
  | [] => (0, false)
  | c :: r => match thouF (r.drop 1) (1000 * ((c.toNat : Int) - 48)) 100 with
    | none => (0, false)
    | some n => (n, decide (n ≤ 1000))

/-- the shape of good digits -/
inductive Good : List UInt8 → Int → List UInt8 → Prop
  | bare (c : UInt8) (h : c.toNat = 48 ∨ c.toNat = 49) : Good [c] ((c.toNat : Int) - 48) []
  | point (c p : UInt8) (ds : List UInt8) (h : c.toNat = 48 ∨ c.toNat = 49) (hp : p.toNat = 46) (hd : ds.all isDg = true) (h1 : 1 ≤ ds.length) (h2 : ds.length ≤ 3) : Good (c :: p :: ds) ((c.toNat : Int) - 48) ds

theorem thouF_some {l : List UInt8} : ∀ {n u m : Int}, 0 ≤ u → thouF l n u = some m → l.all isDg = true ∧ n ≤ m := by
  induction l with
  | nil => intro n u m hu h; injection h with h; exact ⟨rfl, by omega⟩
  | cons c r ih =>
    intro n u m hu h
    have h : (if isDg c then thouF r (n + u * ((c.toNat : Int) - 48)) (u / 10) else none) = some m := h
    split at h
    · rename_i hc
      have h3 := ih (by omega) h
      have hc2 := hc
      unfold isDg at hc2
      have hc2 := of_decide_eq_true hc2
      have h4 : 0 ≤ u * ((c.toNat : Int) - 48) := Int.mul_nonneg hu (by omega)
      refine ⟨?_, by omega⟩
      simp only [List.all_cons, hc, h3.1, Bool.and_self]
    · cases h
theorem thouF_lt {l : List UInt8} (h3 : l.length ≤ 3) {n m : Int} (h : thouF l n 100 = some m) : m < n + 1000 := by
  have dg : ∀ {c : UInt8}, isDg c = true → (c.toNat : Int) - 48 ≤ 9 := by
    intro c hc
    unfold isDg at hc
    have := of_decide_eq_true hc
    omega
  match l, h3 with
  | [], _ => injection h with h; omega
  | [a], _ =>
    have h : (if isDg a then some (n + 100 * ((a.toNat : Int) - 48)) else none) = some m := h
    split at h
    · rename_i ha; have := dg ha; injection h with h; omega
    · cases h
  | [a, b], _ =>
    have h : (if isDg a then (if isDg b then some (n + 100 * ((a.toNat : Int) - 48) + 10 * ((b.toNat : Int) - 48)) else none) else none) = some m := h
    split at h
    · rename_i ha
      split at h
      · rename_i hb; have := dg ha; have := dg hb; injection h with h; omega
      · cases h
    · cases h
  | [a, b, c], _ =>
    have h : (if isDg a then (if isDg b then (if isDg c then some (n + 100 * ((a.toNat : Int) - 48) + 10 * ((b.toNat : Int) - 48) + 1 * ((c.toNat : Int) - 48)) else none) else none) else none) = some m := h
    split at h
    · rename_i ha
      split at h
      · rename_i hb
        split at h
        · rename_i hc; have := dg ha; have := dg hb; have := dg hc; injection h with h; omega
        · cases h
      · cases h
    · cases h
  | a :: b :: c :: d :: r, h3 => simp at h3

theorem thou_good {l : List UInt8} (h : (thou l).2 = true) : ∃ ds, Good l ((thou l).1 / 1000) ds := by
  unfold thou at h ⊢
  cases hb : thouBad l with
  | true => rw [hb] at h; cases h
  | false =>
    rw [hb] at h
    simp only [Bool.false_eq_true, if_false] at h ⊢
    match l, hb, h with
    | [], _, h => cases h
    | c :: r, hb, h =>
      simp only at h ⊢
      cases hf : thouF (r.drop 1) (1000 * ((c.toNat : Int) - 48)) 100 with
      | none => rw [hf] at h; cases h
      | some n =>
        rw [hf] at h
        simp only at h ⊢
        have hn := of_decide_eq_true h
        have h1 := thouF_some (by omega) hf
        have hb := hb
        unfold thouBad at hb
        simp only [Bool.or_eq_false_iff, Bool.and_eq_false_iff, decide_eq_false_iff_not, List.length_cons, ne_eq, Decidable.not_not] at hb
        obtain ⟨⟨⟨⟨b1, b2⟩, b3⟩, b4⟩, b5⟩ := hb
        have hc : c.toNat = 48 ∨ c.toNat = 49 := by omega
        have hlt := thouF_lt (by rw [List.length_drop]; omega) hf
        have hdiv : n / 1000 = (c.toNat : Int) - 48 := by omega
        rw [hdiv]
        match r, b2, b4, b5, h1 with
        | [], _, _, _, _ => exact ⟨[], Good.bare c hc⟩
        | p :: ds, b2, b4, b5, h1 =>
          have b5 := of_decide_eq_false b5
          simp only [List.length_cons] at b2 b4
          exact ⟨ds, Good.point c p ds hc (by simpa using b5) (by simpa using h1.1) (by omega) (by omega)⟩

/-- the quality, from the whole part and the digits -/
def specQ (whole : Int) (ds : List UInt8) : Option Nat := frac (floatOfInt .f64 whole) (numFrom 0 ds) (denFrom 1 ds.length)

theorem wrap_small {x : Int} (h1 : -9223372036854775808 ≤ x) (h2 : x ≤ 9223372036854775807) : wrap64 x = x := by unfold wrap64; omega

theorem num_step {n : Int} {c : UInt8} (r : List UInt8) (h : isDg c = true) (h0 : 0 ≤ n) (h1 : n ≤ 1000000) : numFrom n (c :: r) = numFrom (n * 10 + ((c.toNat : Int) - 48)) r := by
  unfold isDg at h
  have h := of_decide_eq_true h
  have e : wrap64 (wrap64 (wrap64 (n * 10) + (c.toNat : Int)) - 48) = n * 10 + ((c.toNat : Int) - 48) := by
    rw [wrap_small (x := n * 10) (by omega) (by omega), wrap_small (x := n * 10 + (c.toNat : Int)) (by omega) (by omega), wrap_small (by omega) (by omega)]
    omega
  show numFrom (wrap64 (wrap64 (wrap64 (n * 10) + (c.toNat : Int)) - 48)) r = _
  rw [e]
theorem num_nil (n : Int) : numFrom n [] = n := rfl
theorem den0 : denFrom 1 0 = 1 := rfl
theorem den1 : denFrom 1 1 = 10 := by decide +kernel
theorem den2 : denFrom 1 2 = 100 := by decide +kernel
theorem den3 : denFrom 1 3 = 1000 := by decide +kernel

theorem small_num {ds : List UInt8} (hd : ds.all isDg = true) (h2 : ds.length ≤ 3) : ∃ p ∈ [(1, 1), (10, 10), (100, 100), (1000, 1000)], ∃ n, n < p.1 ∧ numFrom 0 ds = (n : Nat) ∧ denFrom 1 ds.length = (p.2 : Nat) := by
  have dg : ∀ {c : UInt8}, isDg c = true → 48 ≤ c.toNat ∧ c.toNat ≤ 57 := by
    intro c hc
    unfold isDg at hc
    exact of_decide_eq_true hc
  match ds, h2 with
  | [], _ => exact ⟨(1, 1), by simp, 0, by simp, rfl, den0⟩
  | [a], _ =>
    simp only [List.all_cons, List.all_nil, Bool.and_true] at hd
    have := dg hd
    refine ⟨(10, 10), by simp, a.toNat - 48, by simp; omega, ?_, den1⟩
    rw [num_step _ hd (by omega) (by omega), num_nil]
    omega
  | [a, b], _ =>
    simp only [List.all_cons, List.all_nil, Bool.and_true, Bool.and_eq_true] at hd
    have := dg hd.1
    have := dg hd.2
    refine ⟨(100, 100), by simp, (a.toNat - 48) * 10 + (b.toNat - 48), by simp; omega, ?_, den2⟩
    rw [num_step _ hd.1 (by omega) (by omega), num_step _ hd.2 (by omega) (by omega), num_nil]
    omega
  | [a, b, c], _ =>
    simp only [List.all_cons, List.all_nil, Bool.and_true, Bool.and_eq_true] at hd
    have := dg hd.1
    have := dg hd.2.1
    have := dg hd.2.2
    refine ⟨(1000, 1000), by simp, (a.toNat - 48) * 100 + (b.toNat - 48) * 10 + (c.toNat - 48), by simp; omega, ?_, den3⟩
    rw [num_step _ hd.1 (by omega) (by omega), num_step _ hd.2.1 (by omega) (by omega), num_step _ hd.2.2 (by omega) (by omega), num_nil]
    omega
  | a :: b :: c :: d :: r, h2 => simp at h2

/-- good digits: the quotient and the sum are numbers, not negative -/
theorem good_q {whole : Int} {ds : List UInt8} (hw : whole = 0 ∨ whole = 1) (hd : ds.all isDg = true) (h2 : ds.length ≤ 3) :
    ∃ x y, D.div (floatOfInt .f64 (numFrom 0 ds)) (floatOfInt .f64 (denFrom 1 ds.length)) = some x ∧ D.add (floatOfInt .f64 whole) x = some y ∧ lt0 (some y) = false := by
  obtain ⟨p, hp, n, hn, h3, h4⟩ := small_num hd h2
  have h5 := List.all_eq_true.1 (List.all_eq_true.1 pairs_ok p hp) n (List.mem_range.2 hn)
  rw [h3, h4]
  unfold pairOk at h5
  cases hx : D.div (floatOfInt .f64 (n : Nat)) (floatOfInt .f64 (p.2 : Nat)) with
  | none => rw [hx] at h5; cases h5
  | some x =>
    rw [hx] at h5
    have h6 := List.all_eq_true.1 h5 whole (by rcases hw with rfl | rfl <;> simp)
    cases hy : D.add (floatOfInt .f64 whole) x with
    | none => rw [hy] at h6; cases h6
    | some y =>
      rw [hy] at h6
      exact ⟨x, y, rfl, hy, by show ltW y 0 = false; simpa using h6⟩

theorem whole0 : floatOfInt .f64 0 = 0 := by decide +kernel
theorem whole1 : floatOfInt .f64 1 = oneF := by decide +kernel
theorem bare0 : D.div (floatOfInt .f64 0) (floatOfInt .f64 1) = some 0 := by decide +kernel
theorem bare00 : D.add 0 0 = some 0 := by decide +kernel
theorem bare10 : D.add oneF 0 = some oneF := by decide +kernel

theorem takeWhile_app {p : UInt8 → Bool} : ∀ (a b : List UInt8), a.all p = true → (∀ c r, b = c :: r → p c = false) → (a ++ b).takeWhile p = a ∧ (a ++ b).dropWhile p = b
  | [], b, _, h => by
    cases b with
    | nil => exact ⟨rfl, rfl⟩
    | cons c r => rw [List.nil_append, List.takeWhile_cons, List.dropWhile_cons, h c r rfl]; exact ⟨rfl, rfl⟩
  | a :: l, b, ha, h => by
    simp only [List.all_cons, Bool.and_eq_true] at ha
    have ih := takeWhile_app l b ha.2 h
    rw [List.cons_append, List.takeWhile_cons, List.dropWhile_cons, ha.1]
    exact ⟨by rw [if_pos rfl, ih.1], by rw [if_pos rfl, ih.2]⟩

/-- what follows an entry: nothing, or a comma -/
def Sep (b : List UInt8) : Prop := ∀ c r, b = c :: r → c.toNat = 44

/-- what is read of good digits with something behind -/
theorem qual_good {d : List UInt8} {whole : Int} {ds : List UInt8} (h : Good d whole ds) {b : List UInt8} (hb : Sep b) : qual (d ++ b) = (specQ whole ds, b) ∧ (whole = 0 ∨ whole = 1) ∧ ds.all isDg = true ∧ ds.length ≤ 3 := by
  have tl : ∀ q, qualTail q b = (some q, b) := by
    intro q
    cases b with
    | nil => rfl
    | cons c r =>
      have := hb c r rfl
      show (if c.toNat = 46 then _ else (some q, c :: r)) = _
      rw [if_neg (by omega)]
  have hbd : ∀ c r, b = c :: r → isDg c = false := by
    intro c r e
    have := hb c r e
    unfold isDg
    exact decide_eq_false (by omega)
  cases h with
  | bare c h =>
    refine ⟨?_, by omega, rfl, by simp⟩
    show (if c.toNat = 48 then qualTail 0 b else if c.toNat = 49 then qualTail oneF b else (some negF, [])) = _
    unfold specQ frac
    rcases h with h | h
    · rw [if_pos h, tl, h]
      show _ = ((D.div (floatOfInt .f64 0) (floatOfInt .f64 1)).bind _, b)
      rw [bare0]
      show _ = (D.add (floatOfInt .f64 (((48 : Nat) : Int) - 48)) 0, b)
      rw [show (((48 : Nat) : Int) - 48) = 0 by omega, whole0, bare00]
    · rw [if_neg (by omega), if_pos h, tl, h]
      show _ = ((D.div (floatOfInt .f64 0) (floatOfInt .f64 1)).bind _, b)
      rw [bare0]
      show _ = (D.add (floatOfInt .f64 (((49 : Nat) : Int) - 48)) 0, b)
      rw [show (((49 : Nat) : Int) - 48) = 1 by omega, whole1, bare10]
  | point c p ds h hp hd h1 h2 =>
    refine ⟨?_, by omega, hd, h2⟩
    have ht := takeWhile_app ds b hd hbd
    have hq : ∀ q, qualTail q (p :: (ds ++ b)) = (frac q (numFrom 0 ds) (denFrom 1 ds.length), b) := by
      intro q
      show (if p.toNat = 46 then (frac q (numFrom 0 ((ds ++ b).takeWhile isDg)) (denFrom 1 ((ds ++ b).takeWhile isDg).length), (ds ++ b).dropWhile isDg) else _) = _
      rw [if_pos hp, ht.1, ht.2]
    show (if c.toNat = 48 then qualTail 0 (p :: (ds ++ b)) else if c.toNat = 49 then qualTail oneF (p :: (ds ++ b)) else (some negF, [])) = _
    unfold specQ
    rcases h with h | h
    · rw [if_pos h, hq, h, show (((48 : Nat) : Int) - 48) = 0 by omega, whole0]
    · rw [if_neg (by omega), if_pos h, hq, h, show (((49 : Nat) : Int) - 48) = 1 by omega, whole1]

end Go.Proofs.Ytaglcklbngoknaa.Acc
