/- Spans: the plain law: the segments made of sorted buckets denote them; the reference's list is the map's, sorted, without empty ones. Spans: rows of pointers to spans; the thin package's runs walked. -/
import Derived.Test.YtlolomodcbkblaaGreatDoorMg3
import Derived.StillTailTactics
import Derived.Deep.RegionHeld3
set_option linter.unusedVariables false
set_option linter.unusedSimpArgs false
namespace Go.Proofs.YtlolomodcbkblaaGreatDoor.Sp

/-- strictly rising keys -/
def Rise : List N2 → Prop
  | [] => True
  | p :: r => (∀ q ∈ r, p.1 < q.1) ∧ Rise r
theorem rise_insN (p : N2) : ∀ {L : List N2}, Rise L → (∀ q ∈ L, q.1 ≠ p.1) → Rise (insN p L)
  | [], _, _ => ⟨fun q h => by simp at h, trivial⟩
  | x :: L, h, hne => by
    unfold insN
    by_cases hx : x.1 < p.1
    · rw [if_pos hx]
      refine ⟨fun q hq => ?_, rise_insN p h.2 (fun q hq => hne q (by simp [hq]))⟩
      rcases insN_mem hq with rfl | hq
      · exact hx
      · exact h.1 q hq
    · rw [if_neg hx]
      have h1 := hne x (by simp)
      have h2 : p.1 < x.1 := by omega
      refine ⟨fun q hq => ?_, h⟩
      rcases List.mem_cons.1 hq with rfl | hq
      · exact h2
      · have := h.1 q hq; omega
theorem mem_insN (p q : N2) : ∀ (L : List N2), q ∈ insN p L ↔ q = p ∨ q ∈ L
  | [] => by unfold insN; simp
  | x :: L => by
    unfold insN
    split
    · rw [List.mem_cons, mem_insN p q L, List.mem_cons]
      constructor
      · rintro (h | h | h) <;> simp [h]
      · rintro (h | h | h) <;> simp [h]
    · rw [List.mem_cons, List.mem_cons]
theorem lastN_later {r : List N2} {k : Int} : lastN r k = none ↔ later r k = false := by
  have gen : ∀ (n : Nat) (r : List N2), r.length = n → (lastN r k = none ↔ later r k = false) := by
    intro n
    induction n with
    | zero => intro r h; rw [List.length_eq_zero_iff.1 h]; exact ⟨fun _ => rfl, fun _ => rfl⟩
    | succ n ih =>
      intro r h
      have hne : r ≠ [] := by intro e; rw [e] at h; simp at h
      obtain ⟨D, p, rfl⟩ : ∃ D p, r = D ++ [p] := ⟨r.dropLast, r.getLast hne, (List.dropLast_concat_getLast hne).symm⟩
      have ih := ih D (by simp at h; exact h)
      rw [lastN_snoc]
      have e : later (D ++ [p]) k = (later D k || (p.1 == k)) := by unfold later; rw [List.any_append]; simp
      rw [e]
      by_cases hp : p.1 = k
      · rw [if_pos hp]; simp [hp]
      · rw [if_neg hp, ih]; simp [hp]
  exact gen _ r rfl
theorem lastN_cons (p : N2) (r : List N2) (k : Int) : lastN (p :: r) k = match lastN r k with | some v => some v | none => if p.1 = k then some p.2 else none := by
  have gen : ∀ (n : Nat) (r : List N2), r.length = n → lastN (p :: r) k = match lastN r k with | some v => some v | none => if p.1 = k then some p.2 else none := by
    intro n
    induction n with
    | zero => intro r h; rw [List.length_eq_zero_iff.1 h]; rfl
    | succ n ih =>
      intro r h
      have hne : r ≠ [] := by intro e; rw [e] at h; simp at h
      obtain ⟨D, q, rfl⟩ : ∃ D q, r = D ++ [q] := ⟨r.dropLast, r.getLast hne, (List.dropLast_concat_getLast hne).symm⟩
      rw [← List.cons_append, lastN_snoc, lastN_snoc, ih D (by simp at h; exact h)]
      by_cases hq : q.1 = k
      · rw [if_pos hq, if_pos hq]
      · rw [if_neg hq, if_neg hq]
  exact gen _ r rfl
theorem fitR_rise : ∀ (L acc : List N2), Rise acc → Apart acc L → Rise (fitR acc L)
  | [], acc, h, _ => h
  | p :: r, acc, h, ha => by
    have hr : Apart acc r := fun q hq x hx => ha q hq x (by simp [hx])
    unfold fitR
    split
    · rename_i hc
      have hl : later r p.1 = false := by simp at hc; exact hc.1
      refine fitR_rise r _ (rise_insN p h (fun q hq => ha q hq p (by simp))) ?_
      intro q hq x hx
      rcases insN_mem hq with rfl | hq
      · intro e
        unfold later at hl
        rw [List.any_eq_false] at hl
        exact hl x hx (by simp [e])
      · exact hr q hq x hx
    · exact fitR_rise r acc h hr
theorem fitR_mem (q : N2) : ∀ (L acc : List N2), q ∈ fitR acc L ↔ q ∈ acc ∨ (lastN L q.1 = some q.2 ∧ q.2 ≠ 0)
  | [], acc => by
    show q ∈ acc ↔ _
    have : lastN [] q.1 = none := rfl
    rw [this]; simp
  | p :: r, acc => by
    unfold fitR
    have hl := lastN_cons p r q.1
    split
    · rename_i hc
      simp only [Bool.and_eq_true, Bool.not_eq_true', bne_iff_ne, ne_eq] at hc
      obtain ⟨hc1, hc2⟩ := hc
      have hn := lastN_later.2 hc1
      rw [fitR_mem q r, mem_insN, hl]
      constructor
      · rintro ((rfl | h) | ⟨h1, h2⟩)
        · right; rw [hn]; simp [hc2]
        · left; exact h
        · right; rw [h1]; exact ⟨rfl, h2⟩
      · rintro (h | ⟨h1, h2⟩)
        · left; right; exact h
        · cases hlr : lastN r q.1 with
          | some v => rw [hlr] at h1; right; exact ⟨h1, h2⟩
          | none =>
            rw [hlr] at h1
            simp only at h1
            split at h1
            · rename_i e
              injection h1 with h1
              left; left
              exact (Prod.ext e h1).symm
            · cases h1
    · rename_i hc
      rw [fitR_mem q r, hl]
      constructor
      · rintro (h | ⟨h1, h2⟩)
        · left; exact h
        · right; rw [h1]; exact ⟨rfl, h2⟩
      · rintro (h | ⟨h1, h2⟩)
        · left; exact h
        · cases hlr : lastN r q.1 with
          | some v => rw [hlr] at h1; right; exact ⟨h1, h2⟩
          | none =>
            rw [hlr] at h1
            simp only at h1
            split at h1
            · rename_i e
              injection h1 with h1
              exfalso
              apply hc
              have hn := lastN_later.1 hlr
              rw [e, hn, h1]
              simpa using h2
            · cases h1
/-- two rising lists with the same members are equal -/
theorem rise_eq : ∀ {A B : List N2}, Rise A → Rise B → (∀ q, q ∈ A ↔ q ∈ B) → A = B
  | [], [], _, _, _ => rfl
  | [], b :: B, _, _, h => absurd ((h b).2 (by simp)) (by simp)
  | a :: A, [], _, _, h => absurd ((h a).1 (by simp)) (by simp)
  | a :: A, b :: B, ha, hb, h => by
    have hab : a = b := by
      rcases List.mem_cons.1 ((h a).1 (by simp)) with h1 | h1
      · exact h1
      · rcases List.mem_cons.1 ((h b).2 (by simp)) with h2 | h2
        · exact h2.symm
        · have := ha.1 b h2
          have := hb.1 a h1
          omega
    subst hab
    congr 1
    refine rise_eq ha.2 hb.2 fun q => ?_
    constructor
    · intro hq
      rcases List.mem_cons.1 ((h q).1 (by simp [hq])) with h1 | h1
      · have := ha.1 q hq; rw [h1] at this; omega
      · exact h1
    · intro hq
      rcases List.mem_cons.1 ((h q).2 (by simp [hq])) with h1 | h1
      · have := hb.1 q hq; rw [h1] at this; omega
      · exact h1
theorem rise_nz : ∀ {A : List N2}, Rise A → Rise (nz A)
  | [], _ => trivial
  | a :: A, h => by
    have ih := rise_nz h.2
    unfold nz at ih ⊢
    rw [List.filter_cons]
    split
    · exact ⟨fun q hq => h.1 q (List.mem_filter.1 hq).1, ih⟩
    · exact ih
/-- THE REFERENCE'S LIST is the map's -/
theorem fits_eq {L M : List N2} (hM : Rise M) (hm : ∀ q, q ∈ M ↔ lastN L q.1 = some q.2) : fitsN L = nz M := by
  refine rise_eq (fitR_rise L [] trivial (fun q hq => by simp at hq)) (rise_nz hM) fun q => ?_
  unfold fitsN
  rw [fitR_mem, nz, List.mem_filter, hm]
  simp

/-- the segments, made as makeBucketsFromMap makes them -/
def stepX (X : List Seg) (p : N2) : List Seg :=
  match X.getLast? with
  | none => X ++ [(p.1, [p.2])]
  | some s => if 2 < p.1 - nxt 0 X then X ++ [(p.1, [p.2])] else X.dropLast ++ [(s.1, s.2 ++ List.replicate (p.1 - nxt 0 X).toNat 0 ++ [p.2])]
def buildX (M : List N2) : List Seg := M.foldl stepX []
theorem buildX_snoc (M : List N2) (p : N2) : buildX (M ++ [p]) = stepX (buildX M) p := by unfold buildX; rw [List.foldl_append]; rfl
theorem nz_zeros (n : Nat) : ∀ s : Int, nz (exp s (List.replicate n 0)) = [] := by
  induction n with
  | zero => intro s; rfl
  | succ n ih =>
    intro s
    rw [List.replicate_succ]
    show nz ((s, 0) :: exp (s + 1) (List.replicate n 0)) = []
    unfold nz at ih ⊢
    rw [List.filter_cons, if_neg (by simp)]
    exact ih _
theorem cellsOf_snoc (X : List Seg) (s : Seg) : cellsOf (X ++ [s]) = cellsOf X ++ exp s.1 s.2 := by unfold cellsOf; rw [List.flatMap_append]; simp
/-- ONE STEP denotes one bucket more -/
theorem stepX_cells (X : List Seg) (p : N2) (h : X ≠ [] → nxt 0 X ≤ p.1) : nz (cellsOf (stepX X p)) = nz (cellsOf X) ++ nz [p] ∧ nxt 0 (stepX X p) = p.1 + 1 ∧ stepX X p ≠ [] := by
  unfold stepX
  by_cases hX : X = []
  · subst hX
    refine ⟨?_, ?_, by simp⟩
    · show nz (cellsOf ([] ++ [(p.1, [p.2])])) = _
      rw [cellsOf_snoc, nz_app]; rfl
    · show nxt 0 ([] ++ [(p.1, [p.2])]) = _
      rw [nxt_snoc]; rfl
  · obtain ⟨D, s, rfl⟩ : ∃ D s, X = D ++ [s] := ⟨X.dropLast, X.getLast hX, (List.dropLast_concat_getLast hX).symm⟩
    have hh := h hX
    rw [nxt_snoc] at hh
    simp only [List.getLast?_append, List.getLast?_singleton, Option.some_or]
    split
    · refine ⟨?_, ?_, by simp⟩
      · rw [cellsOf_snoc _ (p.1, [p.2]), nz_app]; rfl
      · rw [nxt_snoc]; rfl
    · refine ⟨?_, ?_, by simp⟩
      · rw [List.dropLast_concat, cellsOf_snoc, cellsOf_snoc]
        simp only
        rw [exp_snoc, exp_app, nxt_snoc, nz_app, nz_app, nz_app, nz_app, nz_zeros, List.append_nil, List.append_assoc]
        congr 3
        refine congrArg (fun z => [(z, p.2)]) ?_
        rw [List.length_append, List.length_replicate]
        omega
      · rw [nxt_snoc, nxt_snoc]
        simp only [List.length_append, List.length_replicate, List.length_cons, List.length_nil]
        omega

theorem rise_snoc : ∀ {D : List N2} {p : N2}, Rise (D ++ [p]) → Rise D ∧ ∀ q ∈ D, q.1 < p.1
  | [], p, _ => ⟨trivial, fun q h => by simp at h⟩
  | a :: D, p, h => by
    obtain ⟨h1, h2⟩ := rise_snoc (D := D) (p := p) h.2
    refine ⟨⟨fun q hq => h.1 q (by simp [hq]), h1⟩, fun q hq => ?_⟩
    rcases List.mem_cons.1 hq with rfl | hq
    · exact h.1 p (by simp)
    · exact h2 q hq
/-- all keys of M lie within 2^30 -/
def Near (M : List N2) : Prop := ∀ q ∈ M, -1073741824 < q.1 ∧ q.1 < 1073741824
theorem split_snoc {α : Type} {X D R : List α} {t s : α} (h : X ++ [t] = D ++ s :: R) : (R = [] ∧ D = X ∧ s = t) ∨ ∃ R', R = R' ++ [t] ∧ X = D ++ s :: R' := by
  by_cases hR : R = []
  · subst hR
    left
    have := List.append_inj' h (by simp)
    exact ⟨rfl, this.1.symm, by have := this.2; simp at this; exact this.symm⟩
  · right
    obtain ⟨R', r, rfl⟩ : ∃ R' r, R = R' ++ [r] := ⟨R.dropLast, R.getLast hR, (List.dropLast_concat_getLast hR).symm⟩
    have h2 : X ++ [t] = (D ++ s :: R') ++ [r] := by rw [h]; simp
    have := List.append_inj' h2 (by simp)
    refine ⟨R', ?_, this.1⟩
    have h3 := this.2
    simp at h3
    rw [h3]
/-- what the segments made so far are -/
structure Made (M : List N2) (X : List Seg) : Prop where
  cells : nz (cellsOf X) = nz M
  none : X = [] ↔ M = []
  next : ∀ b, (∀ q ∈ M, q.1 < b) → M ≠ [] → nxt 0 X ≤ b
  wf : WF X
  near : ∀ s ∈ X, -1073741824 < s.1 ∧ s.1 + s.2.length ≤ 1073741824
  few : X.length ≤ M.length
  sum : (counts X).length ≤ 3 * M.length
  vals : ∀ c ∈ counts X, c = 0 ∨ ∃ q ∈ M, q.2 = c
theorem counts_snoc (X : List Seg) (s : Seg) : counts (X ++ [s]) = counts X ++ s.2 := by unfold counts; rw [List.flatMap_append]; simp
theorem nxt_near {M : List N2} {X : List Seg} (h : Made M X) : -1073741824 < nxt 0 X ∧ nxt 0 X ≤ 1073741824 := by
  by_cases hX : X = []
  · rw [hX]; decide
  · obtain ⟨D, s, rfl⟩ : ∃ D s, X = D ++ [s] := ⟨X.dropLast, X.getLast hX, (List.dropLast_concat_getLast hX).symm⟩
    have := h.near s (by simp)
    rw [nxt_snoc]
    omega
theorem Made.step {M : List N2} {X : List Seg} {p : N2} (h : Made M X) (hp : ∀ q ∈ M, q.1 < p.1) (hn : -1073741824 < p.1 ∧ p.1 < 1073741824) : Made (M ++ [p]) (stepX X p) := by
  have hle : X ≠ [] → nxt 0 X ≤ p.1 := fun hX => h.next p.1 hp (fun e => hX (h.none.2 e))
  obtain ⟨h1, h2, h3⟩ := stepX_cells X p hle
  have hnn := nxt_near h
  have base : nz (cellsOf (stepX X p)) = nz (M ++ [p]) := by rw [h1, h.cells, nz_app]
  have hnone : stepX X p = [] ↔ M ++ [p] = [] := ⟨fun e => absurd e h3, fun e => by simp at e⟩
  have hnext : ∀ b, (∀ q ∈ M ++ [p], q.1 < b) → M ++ [p] ≠ [] → nxt 0 (stepX X p) ≤ b := fun b hb _ => by
    rw [h2]
    have := hb p (by simp)
    omega
  -- the two shapes
  have shape : (stepX X p = X ++ [(p.1, [p.2])]) ∨ ∃ (D : List Seg) (s : Seg) (g : Nat), X = D ++ [s] ∧ g ≤ 2 ∧ (g : Int) = p.1 - nxt 0 X ∧ stepX X p = D ++ [(s.1, s.2 ++ List.replicate g 0 ++ [p.2])] := by
    by_cases hX : X = []
    · left; subst hX; rfl
    · obtain ⟨D, s, rfl⟩ : ∃ D s, X = D ++ [s] := ⟨X.dropLast, X.getLast hX, (List.dropLast_concat_getLast hX).symm⟩
      have hh := hle hX
      unfold stepX
      simp only [List.getLast?_append, List.getLast?_singleton, Option.some_or]
      split
      · left; rfl
      · right
        refine ⟨D, s, (p.1 - nxt 0 (D ++ [s])).toNat, rfl, by omega, by omega, ?_⟩
        rw [List.dropLast_concat]
  rcases shape with hs | ⟨D, s, g, rfl, hg, hgv, hs⟩
  · rw [hs] at base hnone hnext ⊢
    refine ⟨base, hnone, hnext, ?_, ?_, by simp; exact h.few, ?_, ?_⟩
    · intro D s R e
      rcases split_snoc e with ⟨_, rfl, rfl⟩ | ⟨R', _, e2⟩
      · refine ⟨fun hD => ?_, ?_, ?_, ?_, ?_⟩
        · have := hle hD
          show 0 ≤ p.1 - nxt 0 D
          omega
        · show _ ≤ p.1 - nxt 0 D ∧ p.1 - nxt 0 D ≤ _
          omega
        · show 1 ≤ _; omega
        · show _ ≤ p.1 ∧ p.1 ≤ _; omega
        · omega
      · have a := h.wf D s R' e2
        exact ⟨a.pos, a.off, a.len, a.key, a.nx⟩
    · intro s hs
      rcases List.mem_append.1 hs with hs | hs
      · exact h.near s hs
      · rw [List.mem_singleton.1 hs]
        show _ < p.1 ∧ p.1 + ((1 : Nat) : Int) ≤ _
        omega
    · rw [counts_snoc]
      have := h.sum
      simp
      omega
    · intro c hc
      rw [counts_snoc] at hc
      rcases List.mem_append.1 hc with hc | hc
      · rcases h.vals c hc with h | ⟨q, hq, e⟩
        · exact Or.inl h
        · exact Or.inr ⟨q, by simp [hq], e⟩
      · exact Or.inr ⟨p, by simp, (List.mem_singleton.1 hc).symm⟩
  · rw [hs] at base hnone hnext ⊢
    have hsn := h.near s (by simp)
    rw [nxt_snoc] at hgv
    have hlen : (s.2 ++ List.replicate g 0 ++ [p.2]).length = s.2.length + g + 1 := by simp; omega
    refine ⟨base, hnone, hnext, ?_, ?_, ?_, ?_, ?_⟩
    · intro D2 s2 R e
      rcases split_snoc e with ⟨_, rfl, rfl⟩ | ⟨R', _, e2⟩
      · have hA := h.wf D2 s [] rfl
        refine ⟨hA.pos, hA.off, ?_, hA.key, hA.nx⟩
        show (s.2 ++ List.replicate g 0 ++ [p.2]).length ≤ _
        rw [hlen]
        omega
      · have a := h.wf D2 s2 (R' ++ [s]) (by rw [e2]; simp)
        exact ⟨a.pos, a.off, a.len, a.key, a.nx⟩
    · intro t ht
      rcases List.mem_append.1 ht with ht | ht
      · exact h.near t (by simp [ht])
      · rw [List.mem_singleton.1 ht]
        show _ < s.1 ∧ s.1 + ((s.2 ++ List.replicate g 0 ++ [p.2]).length : Int) ≤ _
        rw [hlen]
        omega
    · have := h.few
      simp at this ⊢
      omega
    · have := h.sum
      rw [counts_snoc] at this ⊢
      simp only [List.length_append, List.length_replicate, List.length_cons, List.length_nil] at this ⊢
      omega
    · intro c hc
      rw [counts_snoc] at hc
      have old : c ∈ counts (D ++ [s]) → c = 0 ∨ ∃ q ∈ M ++ [p], q.2 = c := fun hc => by
        rcases h.vals c hc with h | ⟨q, hq, e⟩
        · exact Or.inl h
        · exact Or.inr ⟨q, by simp [hq], e⟩
      rcases List.mem_append.1 hc with hc | hc
      · exact old (by rw [counts_snoc]; exact List.mem_append.2 (Or.inl hc))
      · rcases List.mem_append.1 hc with hc | hc
        · rcases List.mem_append.1 hc with hc | hc
          · exact old (by rw [counts_snoc]; exact List.mem_append.2 (Or.inr hc))
          · exact Or.inl (List.eq_of_mem_replicate hc)
        · exact Or.inr ⟨p, by simp, (List.mem_singleton.1 hc).symm⟩
theorem made : ∀ (n : Nat) (M : List N2), M.length = n → Rise M → Near M → Made M (buildX M) := by
  intro n
  induction n with
  | zero =>
    intro M h _ _
    rw [List.length_eq_zero_iff.1 h]
    refine ⟨rfl, ⟨fun _ => rfl, fun _ => rfl⟩, fun b _ h => absurd rfl h, ?_, fun s hs => by simp [buildX] at hs, Nat.le_refl _, by decide, fun c hc => by simp [buildX, counts] at hc⟩
    intro D s R e
    have : buildX [] = [] := rfl
    rw [this] at e
    simp at e
  | succ n ih =>
    intro M h hr hn
    have hne : M ≠ [] := by intro e; rw [e] at h; simp at h
    obtain ⟨D, p, rfl⟩ : ∃ D p, M = D ++ [p] := ⟨M.dropLast, M.getLast hne, (List.dropLast_concat_getLast hne).symm⟩
    obtain ⟨r1, r2⟩ := rise_snoc hr
    rw [buildX_snoc]
    exact (ih D (by simp at h; exact h) r1 (fun q hq => hn q (by simp [hq]))).step r2 (hn p (by simp))

end Go.Proofs.YtlolomodcbkblaaGreatDoor.Sp

set_option linter.unusedVariables false
set_option linter.unusedSimpArgs false
namespace Go.Proofs.YtlolomodcbkblaaGreatDoor.Sp
open Go.RowKit Go.ChangeShapes Go.WideShapes Go.Deep Fp

/-- the blocks of a span: itself, its offset's, its length's -/
abbrev Q3 := Nat × Nat × Nat
def pv (q : Q3) : Value := .pointer (some ⟨q.1, 0, none⟩)
structure SpanAt (w : World) (q : Q3) (r : N2) : Prop where
  off : w.cell? ⟨q.1, 0, none⟩ = some (.pointer (some ⟨q.2.1, 0, none⟩))
  len : w.cell? ⟨q.1, 1, none⟩ = some (.pointer (some ⟨q.2.2, 0, none⟩))
  o : w.cell? ⟨q.2.1, 0, none⟩ = some (.int .i32 r.1)
  l : w.cell? ⟨q.2.2, 0, none⟩ = some (.int .u32 r.2)
  lt : q.1 < w.heap.size ∧ q.2.1 < w.heap.size ∧ q.2.2 < w.heap.size
theorem SpanAt.below {w w' : World} {q : Q3} {r : N2} (h : SpanAt w q r) (k : Below w.heap.size w w') : SpanAt w' q r :=
  ⟨by rw [k.cell (p := ⟨q.1, 0, none⟩) h.lt.1]; exact h.off, by rw [k.cell (p := ⟨q.1, 1, none⟩) h.lt.1]; exact h.len, by rw [k.cell (p := ⟨q.2.1, 0, none⟩) h.lt.2.1]; exact h.o, by rw [k.cell (p := ⟨q.2.2, 0, none⟩) h.lt.2.2]; exact h.l,
    Nat.lt_of_lt_of_le h.lt.1 k.size, Nat.lt_of_lt_of_le h.lt.2.1 k.size, Nat.lt_of_lt_of_le h.lt.2.2 k.size⟩
/-- a slice of pointers to spans -/
def Spans (w : World) (v : Value) (R : List N2) : Prop := ∃ qs : List Q3, qs.length = R.length ∧ Sl.Of pv w v qs ∧ ∀ i (h : i < qs.length) (h2 : i < R.length), SpanAt w qs[i] R[i]
theorem ptr_at {w : World} {a : Option Addr} {n cap : Nat} {L : List Q3} (h : Sl.Of pv w (.slice a n cap) L) {k : Nat} (hk : k < L.length) : ∃ b off, a = some ⟨b, off, none⟩ ∧ b < w.heap.size ∧ w.cell? ⟨b, off + k, none⟩ = some (pv L[k]) := by
  rcases h with ⟨rfl, _⟩ | ⟨b, off, cap, h, h0, hcap, hm, hbb, hcell⟩
  · simp at hk
  · injection h with h1 h2 h3
    exact ⟨b, off, h1, hbb, hcell k hk⟩
theorem ptr_slice {w : World} {v : Value} {zs : List Q3} (h : Sl.Of pv w v zs) : ∃ a cap, v = .slice a zs.length cap := by
  rcases h with ⟨rfl, a, cap, rfl, _⟩ | ⟨b, off, cap, rfl, _⟩
  · exact ⟨_, _, rfl⟩
  · exact ⟨_, _, rfl⟩

/-- runs handed back, a row of the call's own -/
def RunsOwn (R : List N2) (w : World) (e : Ending) (w' : World) : Prop := ∃ v, e = .returned v ∧ w'.ownsRow w.heap.size 320 2 v R.length (R.flatMap rc) ∧ Below w.heap.size w w'
set_option maxHeartbeats 8000000 in
set_option maxRecDepth 100000 in
theorem runs_own (R : List N2) (v : Value) (w : World) (hs : Spans w v R) (hR : R.length ≤ 2147483648) :
    Calls Tryz.prog 155 #[v] w (RunsOwn R w) := by
  obtain ⟨i0, hi, hz0, hz1, hz2⟩ := info_parts infoIR
  obtain ⟨qs, hl, hof, hat⟩ := hs
  obtain ⟨av, cv, rfl⟩ := ptr_slice hof
  rw [hl]
  have HOf := Lib.hid hof
  have HAt := Lib.hid hat
  have HLn := Lib.hid hl
  have HG0 : Hid (GotT rc 320 w.heap.size 0 [] (.slice none 0 0) w w) := ⟨Nat.le_refl _, World.ownsRow_nil _ _ _ _, Below.refl _ _⟩
  clear hof hat hl
  go_enter Tryz.func155, Tryz.ntmps155
  go_wp2_with fail
  go_loopw [3, 8] (fun vu vk wr => ∃ (k : Nat) (u : Value), k ≤ R.length ∧ u = vu ∧ vk = .int .i64 (k : Int) ∧ Hid (GotT rc 320 w.heap.size k (R.take k) u w wr)) (fun _ k _ => R.length - (intOf k).toNat)
  case atStart => exact ⟨0, _, Nat.zero_le _, rfl, rfl, HG0.out⟩
  case round =>
    obtain ⟨k, u, hk, rfl, rfl, hgot⟩ := hrel
    by_cases hlt : k < R.length
    · have hlq : k < qs.length := by rw [HLn.out]; exact hlt
      obtain ⟨b, off, hav, hb, d0⟩ := ptr_at HOf.out hlq
      have hsp := HAt.out k hlq hlt
      have htk : R.take (k + 1) = R.take k ++ [R[k]] := List.take_succ_eq_append_getElem hlt
      subst hav
      obtain ⟨x, y, hxy⟩ : ∃ x y, R[k] = (x, y) := ⟨_, _, rfl⟩
      obtain ⟨p, o, l, hq⟩ : ∃ p o l, qs[k] = (p, o, l) := ⟨_, _, _, rfl⟩
      rw [hxy] at htk hsp
      rw [hq] at d0 hsp
      obtain ⟨acc, hacc⟩ : ∃ acc, R.take k = acc := ⟨_, rfl⟩
      rw [hacc] at hgot htk
      have hal := hgot.out.1
      have hsz : w.heap.size ≤ wr.heap.size := hgot.out.2.2.size
      have HIn : Hid (∀ W, Below w.heap.size w W → W.cell? ⟨p, 0, none⟩ = some (.pointer (some ⟨o, 0, none⟩)) ∧ W.cell? ⟨p, 1, none⟩ = some (.pointer (some ⟨l, 0, none⟩)) ∧ W.cell? ⟨o, 0, none⟩ = some (.int .i32 x) ∧ W.cell? ⟨l, 0, none⟩ = some (.int .u32 y)) := fun W hW => by
        have h := hsp.below hW
        exact ⟨h.off, h.len, h.o, h.l⟩
      have c0 : wr.cell? ⟨b, off + k, none⟩ = some (.pointer (some ⟨p, 0, none⟩)) := by rw [hgot.out.2.2.cell (p := ⟨b, off + k, none⟩) hb]; exact d0
      have hbd : Below w.heap.size w wr.drew := hgot.out.2.2.trans (Below.refl _ _).drew
      obtain ⟨e0, e1, e2, e3⟩ := HIn.out wr.drew hbd
      have HTk := Lib.hid htk
      obtain ⟨au, cu, rfl⟩ := row_slice2 hgot.out.2.1
      have HGd : Hid (GotT rc 320 w.heap.size k acc (.slice au acc.length cu) w wr.drew) := hgot.out.below hsz (Below.refl _ _).drew
      have hszd : w.heap.size ≤ wr.drew.heap.size := hsz
      have HNews := Lib.hid (Ss.news_one wr.drew #[.int .i32 x, .int .u32 y] 320)
      have hSd := HIn.out wr.drew hbd
      have hSa : Hid (∀ ob : Obj, (wr.drew.alloc ob).cell? ⟨p, 0, none⟩ = some (.pointer (some ⟨o, 0, none⟩)) ∧ (wr.drew.alloc ob).cell? ⟨p, 1, none⟩ = some (.pointer (some ⟨l, 0, none⟩)) ∧ (wr.drew.alloc ob).cell? ⟨o, 0, none⟩ = some (.int .i32 x) ∧ (wr.drew.alloc ob).cell? ⟨l, 0, none⟩ = some (.int .u32 y)) := fun ob => HIn.out _ (hbd.alloc hszd ob)
      have HOne : Hid (∀ u ∈ [Value.int .i32 x, .int .u32 y], u.oneCell' = true) := ones_r [(x, y)]
      have H63b : Hid (acc.length + 1 ≤ maxLen) := by show _ ≤ _; unfold maxLen; omega
      have HByb : Hid ((acc.length + 1) * 8 ≤ 140737488355328) := by show _ ≤ _; omega
      have HBase : Hid (w.heap.size ≤ (wr.drew.alloc (.cells #[.int .i32 x, .int .u32 y] 320)).heap.size) := Nat.le_trans hszd (by simp)
      have HNext : Hid (∀ v2 W2, W2.ownsRow w.heap.size 320 2 v2 (acc.length + 1) (acc.flatMap rc ++ [.int .i32 x, .int .u32 y]) → (wr.drew.alloc (.cells #[.int .i32 x, .int .u32 y] 320)).grownBy W2 (Value.slice au acc.length cu).ownBlock → GotT rc 320 w.heap.size (k + 1) (R.take (k + 1)) v2 w W2) := fun v2 W2 ho hg => by
        rw [HTk.out]; exact HGd.out.app hszd ho hg
      have z1 : (0 : Int) ≤ (k : Int) := by omega
      have z2 : (k : Int) < (R.length : Int) := by omega
      clear hsp d0 hxy hq hacc htk hbd hgot e0 e1 e2 e3
      go_wp2_with fail
      go_region_held3 (fun w' => w'.cell? ⟨p, 0, none⟩ = some (.pointer (some ⟨o, 0, none⟩)) ∧ w'.cell? ⟨p, 1, none⟩ = some (.pointer (some ⟨l, 0, none⟩)) ∧ w'.cell? ⟨o, 0, none⟩ = some (.int .i32 x) ∧ w'.cell? ⟨l, 0, none⟩ = some (.int .u32 y)) (first | exact hSd | exact hSa.out _ | exact hS1)
        (first | (refine step_append_lies _ (by rfl) (.tmp 12) (.tmp 26) 33 (by rfl) w.heap.size 320 i0 (.agg #[.int .i32 0, .int .u32 0]) 2 8 Tryz.underlying33 hi hz0 hz1 hz2 rfl (by decide) _ _ _ (by rfl) (HGd.out.2.1.alloc _) ⟨wr.drew.heap.size, 0, none⟩ 1 1 [.int .i32 x, .int .u32 y] (by rfl) rfl HNews.out HOne.out (by decide) H63b.out HByb.out HBase.out _ rfl ?_; intro g2 cp2 W2 hown2 hgrow2 hat2 hlt2; have hfin := Lib.hid (HNext.out _ W2 hown2 hgrow2); have hS1 := HIn.out W2 hfin.out.2.2; clear hown2 hgrow2 hat2 hlt2))
      go_wp2_with fail
      go_roundw
      case rel => exact ⟨k + 1, _, by omega, rfl, by go_num, hfin.out⟩
      case measure => simp [intOf]; omega
    · obtain rfl : k = R.length := by omega
      have hg2 := hgot.out
      rw [List.take_length] at hg2
      have hfin : Hid (RunsOwn R w (.returned u) wr) := ⟨u, rfl, hg2.2.1, hg2.2.2⟩
      clear hg2 hgot
      go_wp2_with fail
      go_ret
      exact hfin.out
theorem runs_any (R : List N2) (v : Value) (w : World) (hs : Spans w v R) (hR : R.length ≤ 2147483648) :
    Calls Tryz.prog 155 #[v] w (ListOut rc R w) := (runs_own R v w hs hR).mono fun e w' ⟨u, he, ho, hb⟩ => ⟨u, he, Ss.Of.own rc_len ho, hb⟩

end Go.Proofs.YtlolomodcbkblaaGreatDoor.Sp
