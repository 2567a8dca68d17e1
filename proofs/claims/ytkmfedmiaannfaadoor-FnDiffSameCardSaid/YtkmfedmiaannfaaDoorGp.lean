/- Groups of edits: the plain model of GetGroupedOpCodes, and the plain law of what the groups hold. -/
import Derived.Test.YtkmfedmiaannfaaDoorDfo
set_option linter.unusedVariables false
set_option linter.unusedSimpArgs false
namespace Go.Proofs.YtkmfedmiaannfaaDoor.Df

/-- the codes follow one another from (i, j); no two neighbours match, and no two neighbours do not (t: whether the one before matches) -/
def Run : Nat → Nat → Option Bool → List E5 → Prop
  | _, _, _, [] => True
  | i, j, t, c :: r => c.2.1 = i ∧ c.2.2.2.1 = j ∧ t ≠ some (c.1 == 101) ∧ Run c.2.2.1 c.2.2.2.2 (some (c.1 == 101)) r
/-- no block begins where the one before ends -/
def Apart : Option (Nat × Nat) → List M3 → Prop
  | _, [] => True
  | p, b :: r => p ≠ some (b.1, b.2.1) ∧ Apart (some (b.1 + b.2.2, b.2.1 + b.2.2)) r

theorem nadj_apart : ∀ (L : List M3) (s : M3) (p : Option (Nat × Nat)), (∀ b ∈ L, 0 < b.2.2) → (p = none ∨ (0 < s.2.2 ∧ p ≠ some (s.1, s.2.1))) → Apart p (nadj L s)
  | [], s, p, _, h => by
    unfold nadj
    split
    · refine ⟨?_, trivial⟩
      rcases h with h | h
      · rw [h]; simp
      · exact h.2
    · trivial
  | b :: r, s, p, hb, h => by
    have hb0 := hb b (by simp)
    have hr : ∀ x ∈ r, 0 < x.2.2 := fun x hx => hb x (by simp [hx])
    unfold nadj
    split
    · refine nadj_apart r _ p hr ?_
      rcases h with h | h
      · exact Or.inl h
      · exact Or.inr ⟨by show 0 < s.2.2 + b.2.2; omega, h.2⟩
    · rename_i hne
      split
      · rename_i hs
        refine ⟨?_, nadj_apart r b _ hr (Or.inr ⟨hb0, ?_⟩)⟩
        · rcases h with h | h
          · rw [h]; simp
          · exact h.2
        · intro e
          injection e with e
          injection e with e1 e2
          exact hne ⟨e1, e2⟩
      · rename_i hs
        rcases h with h | h
        · exact nadj_apart r b p hr (Or.inl h)
        · exact absurd h.1 hs
theorem chain_pos {xs ys : List ByteArray} {I J : Nat} : ∀ {L : List M3} {i j : Nat}, Chain xs ys i j I J L → ∀ b ∈ L, 0 < b.2.2
  | [], _, _, _, b, hb => absurd hb (by simp)
  | m :: r, i, j, h, b, hb => by
    obtain ⟨_, _, h3, _, h5⟩ := h
    rcases List.mem_cons.1 hb with rfl | hb
    · exact h3
    · exact chain_pos h5 b hb

theorem opc_run {xs ys : List ByteArray} {X Y : Nat} : ∀ (N : List M3) (i j : Nat) (p : Option (Nat × Nat)) (t : Option Bool), Chain xs ys i j X Y N → Apart p N → ((t = none ∧ p = none) ∨ (t = some true ∧ p = some (i, j))) → Run i j t (opc (N ++ [(X, Y, 0)]) i j)
  | [], i, j, p, t, hc, _, ht => by
    have hc1 : i ≤ X ∧ j ≤ Y := hc
    have e : opc ([] ++ [(X, Y, 0)]) i j = chg i j (X, Y, 0) := by
      show chg i j (X, Y, 0) ++ (eqe (X, Y, 0) ++ opc [] _ _) = _
      simp [eqe, opc]
    have ht2 : t ≠ some false := by rcases ht with h | h <;> rw [h.1] <;> simp
    rw [e]
    unfold chg
    split
    · exact ⟨rfl, rfl, ht2, trivial⟩
    · split
      · exact ⟨rfl, rfl, ht2, trivial⟩
      · split
        · exact ⟨rfl, rfl, ht2, trivial⟩
        · trivial
  | m :: N, i, j, p, t, hc, ha, ht => by
    obtain ⟨h1, h2, h3, h4, h5⟩ := hc
    obtain ⟨ha1, ha2⟩ := ha
    have ih := opc_run N (m.1 + m.2.2) (m.2.1 + m.2.2) _ (some true) h5 ha2 (Or.inr ⟨rfl, rfl⟩)
    have e : opc ((m :: N) ++ [(X, Y, 0)]) i j = chg i j m ++ ((101, m.1, m.1 + m.2.2, m.2.1, m.2.1 + m.2.2) :: opc (N ++ [(X, Y, 0)]) (m.1 + m.2.2) (m.2.1 + m.2.2)) := by
      show chg i j m ++ (eqe m ++ _) = _
      unfold eqe
      rw [if_pos h3]
      rfl
    rw [e]
    have ht2 : t ≠ some false := by rcases ht with h | h <;> rw [h.1] <;> simp
    have tail : ∀ t' : Option Bool, t' ≠ some true → Run m.1 m.2.1 t' ((101, m.1, m.1 + m.2.2, m.2.1, m.2.1 + m.2.2) :: opc (N ++ [(X, Y, 0)]) (m.1 + m.2.2) (m.2.1 + m.2.2)) := fun t' h' => ⟨rfl, rfl, h', ih⟩
    unfold chg
    split
    · exact ⟨rfl, rfl, ht2, tail (some false) (by simp)⟩
    · rename_i g1
      split
      · rename_i g2
        exact ⟨rfl, rfl, ht2, tail (some false) (by simp)⟩
      · rename_i g2
        split
        · rename_i g3
          exact ⟨rfl, rfl, ht2, tail (some false) (by simp)⟩
        · rename_i g3
          have e1 : i = m.1 := by omega
          have e2 : j = m.2.1 := by omega
          subst e1 e2
          refine tail t ?_
          rcases ht with h | h
          · rw [h.1]; simp
          · rw [h.2] at ha1
            exact absurd rfl ha1
theorem ops_run (xs ys : List ByteArray) : Run 0 0 none (ops xs ys) := by
  unfold ops blocks
  refine opc_run (xs := xs) (ys := ys) _ 0 0 none none blocks_chain (nadj_apart _ _ _ ?_ (Or.inl rfl)) (Or.inl ⟨rfl, rfl⟩)
  exact chain_pos (mb_chain (xs := xs) (ys := ys) _ 0 xs.length 0 ys.length (Nat.zero_le _) (Nat.zero_le _))

/-! what is asked, and what the code does -/
def cutE (n : Nat) (c : E5) : E5 := (c.1, c.2.1, min c.2.2.1 (c.2.1 + n), c.2.2.2.1, min c.2.2.2.2 (c.2.2.2.1 + n))
def endE (n : Nat) (c : E5) : E5 := (c.1, max c.2.1 (c.2.2.1 - n), c.2.2.1, max c.2.2.2.1 (c.2.2.2.2 - n), c.2.2.2.2)
def tF (n : Nat) (c : E5) : E5 := if c.1 = 101 then endE n c else c
def tB (n : Nat) (c : E5) : E5 := if c.1 = 101 then cutE n c else c
def trimF (n : Nat) : List E5 → List E5
  | [] => []
  | c :: r => tF n c :: r
def trimB (n : Nat) : List E5 → List E5
  | [] => []
  | [c] => [tB n c]
  | c :: d :: r => c :: trimB n (d :: r)
def some1 (L : List E5) : List E5 := if L = [] then [(101, 0, 1, 0, 1)] else L
def cds (n : Nat) (L : List E5) : List E5 := trimB n (trimF n (some1 L))
def lone (g : List E5) : Bool := match g with
  | [] => true
  | [c] => c.1 == 101
  | _ => false
def far (n : Nat) (c : E5) : Bool := decide (c.1 = 101) && decide (c.2.1 + (n + n) < c.2.2.1)
def grp (n : Nat) : List E5 → List (List E5) → List E5 → List (List E5)
  | [], gs, g => if lone g then gs else gs ++ [g]
  | c :: r, gs, g => if far n c then grp n r (gs ++ [g ++ [cutE n c]]) [endE n c] else grp n r gs (g ++ [c])
def grps (n : Nat) (L : List E5) : List (List E5) := grp n (cds n L) [] []

def chs (l : List E5) : List E5 := l.filter fun c => !(c.1 == 101)
theorem chs_app (a b : List E5) : chs (a ++ b) = chs a ++ chs b := List.filter_append ..
/-- of a match at most m elements -/
def Le (m : Nat) (c : E5) : Prop := c.1 = 101 → c.2.2.1 ≤ c.2.1 + m
/-- one after the other -/
def Link : List E5 → Prop
  | [] => True
  | [_] => True
  | c :: d :: r => d.2.1 = c.2.2.1 ∧ d.2.2.2.1 = c.2.2.2.2 ∧ Link (d :: r)
def lastLe (n : Nat) (g : List E5) : Prop := ∀ c, g.getLast? = some c → Le n c
def headLe (n : Nat) (g : List E5) : Prop := ∀ c, g.head? = some c → Le n c
def GoodG (n : Nat) (g : List E5) : Prop := chs g ≠ [] ∧ Link g ∧ headLe n g ∧ lastLe n g ∧ ∀ c ∈ g, Le (n + n) c

theorem Le.more {m m' : Nat} {c : E5} (h : Le m c) (hm : m ≤ m') : Le m' c := fun e => by have := h e; omega
theorem cut_le (n : Nat) (c : E5) : Le n (cutE n c) := fun _ => by show min c.2.2.1 (c.2.1 + n) ≤ c.2.1 + n; omega
theorem end_le (n : Nat) (c : E5) : Le n (endE n c) := fun _ => by show c.2.2.1 ≤ max c.2.1 (c.2.2.1 - n) + n; omega
theorem tF_le (n : Nat) (c : E5) : Le n (tF n c) := by
  unfold tF
  split
  · exact end_le n c
  · rename_i h; intro e; exact absurd e h
theorem tB_le (n : Nat) (c : E5) : Le n (tB n c) := by
  unfold tB
  split
  · exact cut_le n c
  · rename_i h; intro e; exact absurd e h
theorem tB_less {n m : Nat} {c : E5} (h : Le m c) : Le m (tB n c) := by
  unfold tB
  split
  · intro e
    have := h e
    show min c.2.2.1 (c.2.1 + n) ≤ c.2.1 + m
    omega
  · exact h
theorem link_snoc : ∀ {g : List E5} {c : E5}, Link g → (∀ d, g.getLast? = some d → c.2.1 = d.2.2.1 ∧ c.2.2.2.1 = d.2.2.2.2) → Link (g ++ [c])
  | [], c, _, _ => trivial
  | [d], c, _, h => ⟨(h d rfl).1, (h d rfl).2, trivial⟩
  | d :: e :: r, c, hg, h => ⟨hg.1, hg.2.1, link_snoc (g := e :: r) hg.2.2 (fun x hx => h x (by rw [List.getLast?_cons_cons]; exact hx))⟩

/-- what is known of the group that has begun: where it ends and whether its last one matches -/
def Open (n : Nat) (g : List E5) (i j : Nat) (t : Option Bool) (fin : Bool) : Prop :=
  Link g ∧ headLe n g ∧ (∀ c ∈ g, Le (n + n) c) ∧ (2 ≤ g.length → chs g ≠ []) ∧ (∀ c, g.getLast? = some c → c.2.2.1 = i ∧ c.2.2.2.2 = j ∧ t = some (c.1 == 101)) ∧ (fin = true → lastLe n g)

theorem good_open {n i j : Nat} {t : Option Bool} {g : List E5} (h : Open n g i j t true) (hl : lone g = false) : GoodG n g := by
  obtain ⟨h1, h2, h3, h4, h5, h6⟩ := h
  refine ⟨?_, h1, h2, h6 rfl, h3⟩
  match g, hl with
  | [c], hl =>
    have : (c.1 == 101) = false := hl
    unfold chs
    rw [List.filter_cons, this]
    simp
  | c :: d :: r, _ => exact h4 (by simp)
theorem lone_chs {g : List E5} (h : lone g = true) : chs g = [] := by
  match g, h with
  | [], _ => rfl
  | [c], h =>
    have : (c.1 == 101) = true := h
    unfold chs
    rw [List.filter_cons, this]
    simp
theorem chs_cut (n : Nat) (c : E5) (h : c.1 = 101) : chs [cutE n c] = [] ∧ chs [endE n c] = [] ∧ chs [c] = [] := by
  unfold chs cutE endE
  simp [h]

theorem push_open {n i j : Nat} {t : Option Bool} {g : List E5} {c : E5} {fin fin' : Bool} (h : Open n g i j t fin) (hc1 : c.2.1 = i) (hc2 : c.2.2.2.1 = j) (ht : g ≠ [] → t ≠ some (c.1 == 101)) (hle : Le (n + n) c) (hh : g = [] → Le n c) (hf : fin' = true → Le n c) :
    Open n (g ++ [c]) c.2.2.1 c.2.2.2.2 (some (c.1 == 101)) fin' := by
  obtain ⟨h1, h2, h3, h4, h5, h6⟩ := h
  refine ⟨link_snoc h1 (fun d hd => ?_), ?_, ?_, ?_, ?_, ?_⟩
  · have := h5 d hd
    exact ⟨by omega, by omega⟩
  · intro d hd
    cases g with
    | nil => simp at hd; subst hd; exact hh rfl
    | cons a r => exact h2 d hd
  · intro d hd
    rcases List.mem_append.1 hd with hd | hd
    · exact h3 d hd
    · rw [List.mem_singleton.1 hd]; exact hle
  · intro hl
    have hg : g ≠ [] := by intro e; rw [e] at hl; simp at hl
    rw [chs_app]
    intro e
    obtain ⟨e1, e2⟩ := List.append_eq_nil_iff.1 e
    have hc : (c.1 == 101) = true := by
      cases hb : (c.1 == 101) with
      | true => rfl
      | false => unfold chs at e2; rw [List.filter_cons, hb] at e2; simp at e2
    have h9 := (h5 _ (List.getLast?_eq_some_getLast hg)).2.2
    have hnt := ht hg
    rw [h9, hc] at hnt
    have hb : ((g.getLast hg).1 == 101) = false := by
      cases hb : ((g.getLast hg).1 == 101) with
      | true => rw [hb] at hnt; exact absurd rfl hnt
      | false => rfl
    have hm : g.getLast hg ∈ chs g := by
      unfold chs
      rw [List.mem_filter]
      exact ⟨List.getLast_mem hg, by rw [hb]; rfl⟩
    rw [e1] at hm
    simp at hm
  · intro d hd
    simp at hd
    subst hd
    exact ⟨rfl, rfl, rfl⟩
  · intro hf' d hd
    simp at hd
    subst hd
    exact hf hf'

theorem grp_good {n : Nat} : ∀ (C : List E5) (gs : List (List E5)) (g : List E5) (i j : Nat) (t : Option Bool), Run i j t C → (g = [] → ∀ c, C.head? = some c → Le n c) → (∀ c, C.getLast? = some c → Le n c) →
    (∀ x ∈ gs, GoodG n x) → Open n g i j t (C.isEmpty) → (∀ x ∈ grp n C gs g, GoodG n x) ∧ (grp n C gs g).flatMap chs = gs.flatMap chs ++ (chs g ++ chs C)
  | [], gs, g, i, j, t, _, _, _, hgs, ho => by
    unfold grp
    cases hl : lone g with
    | true =>
      rw [if_pos rfl, lone_chs hl]
      exact ⟨hgs, by simp [chs]⟩
    | false =>
      rw [if_neg (by simp)]
      refine ⟨fun x hx => ?_, by simp [chs]⟩
      rcases List.mem_append.1 hx with hx | hx
      · exact hgs x hx
      · rw [List.mem_singleton.1 hx]; exact good_open ho hl
  | c :: r, gs, g, i, j, t, hr, hh, hl, hgs, ho => by
    obtain ⟨r1, r2, r3, r4⟩ := hr
    have hl2 : ∀ d, r.getLast? = some d → Le n d := by
      intro d hd
      cases r with
      | nil => simp at hd
      | cons a b => exact hl d (by rw [List.getLast?_cons_cons]; exact hd)
    have hlc : r.isEmpty = true → Le n c := by
      intro e
      cases r with
      | nil => exact hl c rfl
      | cons a b => simp at e
    have hch : chs (c :: r) = chs [c] ++ chs r := by rw [← chs_app]; rfl
    unfold grp
    cases hf : far n c with
    | true =>
      rw [if_pos rfl]
      unfold far at hf
      simp only [Bool.and_eq_true, decide_eq_true_eq] at hf
      obtain ⟨f1, f2⟩ := hf
      have hg : g ≠ [] := by
        intro e
        have := hh e c rfl f1
        omega
      obtain ⟨k1, k2, k3⟩ := chs_cut n c f1
      have hpush : Open n (g ++ [cutE n c]) (cutE n c).2.2.1 (cutE n c).2.2.2.2 (some ((cutE n c).1 == 101)) true :=
        push_open ho r1 r2 (fun _ => r3) ((cut_le n c).more (by omega)) (fun e => absurd e hg) (fun _ => cut_le n c)
      have hlone : lone (g ++ [cutE n c]) = false := by
        match g, hg with
        | a :: b, _ => cases b <;> rfl
      have hgood := good_open hpush hlone
      have hopen : Open n [endE n c] c.2.2.1 c.2.2.2.2 (some (c.1 == 101)) r.isEmpty := by
        refine ⟨trivial, ?_, ?_, fun h => absurd h (by simp), ?_, ?_⟩
        · intro d hd; simp at hd; subst hd; exact end_le n c
        · intro d hd; rw [List.mem_singleton.1 hd]; exact (end_le n c).more (by omega)
        · intro d hd; simp at hd; subst hd; exact ⟨rfl, rfl, rfl⟩
        · intro _ d hd; simp at hd; subst hd; exact end_le n c
      have ih := grp_good r (gs ++ [g ++ [cutE n c]]) [endE n c] _ _ _ r4 (fun e => absurd e (by simp)) hl2 (fun x hx => by
        rcases List.mem_append.1 hx with hx | hx
        · exact hgs x hx
        · rw [List.mem_singleton.1 hx]; exact hgood) hopen
      refine ⟨ih.1, ?_⟩
      rw [ih.2, hch, k2, k3, List.flatMap_append]
      simp [chs_app, k1]
    | false =>
      rw [if_neg (by simp)]
      have hle : Le (n + n) c := by
        intro e
        unfold far at hf
        simp only [e, decide_true, Bool.true_and, decide_eq_false_iff_not] at hf
        omega
      have ih := grp_good r gs (g ++ [c]) _ _ _ r4 (fun e => absurd e (by simp)) hl2 hgs
        (push_open ho r1 r2 (fun _ => r3) hle (fun e => hh e c rfl) hlc)
      refine ⟨ih.1, ?_⟩
      rw [ih.2, hch, chs_app]
      simp

theorem tF_same (n : Nat) (c : E5) : (tF n c).1 = c.1 ∧ (tF n c).2.2.1 = c.2.2.1 ∧ (tF n c).2.2.2.2 = c.2.2.2.2 := by
  unfold tF; split <;> exact ⟨rfl, rfl, rfl⟩
theorem tB_same (n : Nat) (c : E5) : (tB n c).1 = c.1 ∧ (tB n c).2.1 = c.2.1 ∧ (tB n c).2.2.2.1 = c.2.2.2.1 := by
  unfold tB; split <;> exact ⟨rfl, rfl, rfl⟩
theorem chs_one {c d : E5} (h : c.1 = d.1) (h2 : c.1 ≠ 101 → c = d) : chs [c] = chs [d] := by
  unfold chs
  rw [List.filter_cons, List.filter_cons, ← h]
  by_cases e : c.1 = 101
  · simp [e]
  · rw [h2 e]
theorem trimB_ok (n : Nat) : ∀ (C : List E5) (i j : Nat) (t : Option Bool), Run i j t C → Run i j t (trimB n C) ∧ chs (trimB n C) = chs C ∧ (∀ c, (trimB n C).getLast? = some c → Le n c) ∧ (∀ m, (∀ c, C.head? = some c → Le m c) → ∀ c, (trimB n C).head? = some c → Le m c)
  | [], i, j, t, _ => ⟨trivial, rfl, fun c h => by simp [trimB] at h, fun m _ c h => by simp [trimB] at h⟩
  | [c], i, j, t, h => by
    obtain ⟨h1, h2, h3, _⟩ := h
    obtain ⟨s1, s2, s3⟩ := tB_same n c
    refine ⟨⟨by rw [s2]; exact h1, by rw [s3]; exact h2, by rw [s1]; exact h3, trivial⟩, chs_one s1 (fun e => ?_), ?_, ?_⟩
    · unfold tB; rw [if_neg (by rw [← s1]; exact e)]
    · intro d hd; simp [trimB] at hd; subst hd; exact tB_le n c
    · intro m hm d hd; simp [trimB] at hd; subst hd; exact tB_less (hm c rfl)
  | c :: d :: r, i, j, t, h => by
    obtain ⟨h1, h2, h3, h4⟩ := h
    obtain ⟨g1, g2, g3, _⟩ := trimB_ok n (d :: r) _ _ _ h4
    refine ⟨⟨h1, h2, h3, g1⟩, ?_, ?_, fun m hm x hx => hm x hx⟩
    · show chs ([c] ++ trimB n (d :: r)) = chs ([c] ++ (d :: r))
      rw [chs_app, chs_app, g2]
    · intro x hx
      have hne : trimB n (d :: r) ≠ [] := by cases r <;> simp [trimB]
      have hx' : (c :: trimB n (d :: r)).getLast? = some x := hx
      cases e : trimB n (d :: r) with
      | nil => exact absurd e hne
      | cons a b =>
        rw [e] at hx'
        rw [List.getLast?_cons_cons] at hx'
        exact g3 x (by rw [e]; exact hx')
/-- WHAT THE GROUPS HOLD -/
theorem grps_good (n : Nat) (L : List E5) (h : Run 0 0 none L) : (∀ x ∈ grps n L, GoodG n x) ∧ (grps n L).flatMap chs = chs L := by
  have hF : ∃ i j, Run i j none (trimF n (some1 L)) ∧ chs (trimF n (some1 L)) = chs L ∧ ∀ c, (trimF n (some1 L)).head? = some c → Le n c := by
    cases L with
    | nil => exact ⟨_, _, ⟨rfl, rfl, by simp, trivial⟩, by simp [some1, trimF, chs, tF, endE], fun c hc => by simp [some1, trimF] at hc; subst hc; exact tF_le n _⟩
    | cons c r =>
      obtain ⟨h1, h2, h3, h4⟩ := h
      obtain ⟨s1, s2, s3⟩ := tF_same n c
      refine ⟨_, _, ⟨rfl, rfl, by simp, by rw [s1, s2, s3]; exact h4⟩, ?_, fun x hx => by simp [some1, trimF] at hx; subst hx; exact tF_le n c⟩
      show chs ([tF n c] ++ r) = chs ([c] ++ r)
      rw [chs_app, chs_app, chs_one s1 (fun e => by unfold tF; rw [if_neg (by rw [← s1]; exact e)])]
  obtain ⟨i, j, f1, f2, f3⟩ := hF
  obtain ⟨b1, b2, b3, b4⟩ := trimB_ok n _ i j none f1
  have := grp_good (n := n) (cds n L) [] [] i j none b1 (fun _ => b4 n f3) b3 (fun x hx => absurd hx (by simp))
    ⟨trivial, fun c hc => by simp at hc, fun c hc => absurd hc (by simp), fun h => absurd h (by simp), fun c hc => by simp at hc, fun _ c hc => by simp at hc⟩
  refine ⟨this.1, ?_⟩
  unfold grps
  rw [this.2]
  show [] ++ ([] ++ chs (trimB n (trimF n (some1 L)))) = _
  rw [b2, f2]
  rfl

end Go.Proofs.YtkmfedmiaannfaaDoor.Df
