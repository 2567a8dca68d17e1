/- Spans: the plain law: the segments made of sorted buckets denote them; the reference's list is the map's, sorted, without empty ones. -/
import Derived.Test.YtkmfedmiaannfaaSps
set_option linter.unusedVariables false
set_option linter.unusedSimpArgs false
namespace Go.Proofs.Ytkmfedmiaannfaa.Sp

/-- strictly rising keys -/
def Rise : List N2 → Prop
  | [] => True
  | p :: r => (∀ q ∈ r, p.1 < q.1) ∧ Rise r
theorem rise_insN (p : N2) : ∀ {L : List N2}, Rise L → (∀ q ∈ L, q.1 ≠ p.1) → Rise (insN p L)
  | [], _, _ => ⟨fun q h => by simp at h, trivial⟩
  | x :: L, h, hne => by
    unfold insN
    by_cases hx : x.1 < p.1
    · rw [if_pos hx]
      refine ⟨fun q hq => ?_, rise_insN p h.2 (fun q hq => hne q (by simp [hq]))⟩
      rcases insN_mem hq with rfl | hq
      · exact hx
      · exact h.1 q hq
    · rw [if_neg hx]
      have h1 := hne x (by simp)
      have h2 : p.1 < x.1 := by omega
      refine ⟨fun q hq => ?_, h⟩
      rcases List.mem_cons.1 hq with rfl | hq
      · exact h2
      · have := h.1 q hq; omega
theorem mem_insN (p q : N2) : ∀ (L : List N2), q ∈ insN p L ↔ q = p ∨ q ∈ L
  | [] => by unfold insN; simp
  | x :: L => by
    unfold insN
    split
    · rw [List.mem_cons, mem_insN p q L, List.mem_cons]
      constructor
      · rintro (h | h | h) <;> simp [h]
      · rintro (h | h | h) <;> simp [h]
    · rw [List.mem_cons, List.mem_cons]
theorem lastN_later {r : List N2} {k : Int} : lastN r k = none ↔ later r k = false := by
  have gen : ∀ (n : Nat) (r : List N2), r.length = n → (lastN r k = none ↔ later r k = false) := by
    intro n
    induction n with
    | zero => intro r h; rw [List.length_eq_zero_iff.1 h]; exact ⟨fun _ => rfl, fun _ => rfl⟩
    | succ n ih =>
      intro r h
      have hne : r ≠ [] := by intro e; rw [e] at h; simp at h
      obtain ⟨D, p, rfl⟩ : ∃ D p, r = D ++ [p] := ⟨r.dropLast, r.getLast hne, (List.dropLast_concat_getLast hne).symm⟩
      have ih := ih D (by simp at h; exact h)
      rw [lastN_snoc]
      have e : later (D ++ [p]) k = (later D k || (p.1 == k)) := by unfold later; rw [List.any_append]; simp
      rw [e]
      by_cases hp : p.1 = k
      · rw [if_pos hp]; simp [hp]
      · rw [if_neg hp, ih]; simp [hp]
  exact gen _ r rfl
theorem lastN_cons (p : N2) (r : List N2) (k : Int) : lastN (p :: r) k = match lastN r k with | some v => some v | none => if p.1 = k then some p.2 else none := by
  have gen : ∀ (n : Nat) (r : List N2), r.length = n → lastN (p :: r) k = match lastN r k with | some v => some v | none => if p.1 = k then some p.2 else none := by
    intro n
    induction n with
    | zero => intro r h; rw [List.length_eq_zero_iff.1 h]; rfl
    | succ n ih =>
      intro r h
      have hne : r ≠ [] := by intro e; rw [e] at h; simp at h
      obtain ⟨D, q, rfl⟩ : ∃ D q, r = D ++ [q] := ⟨r.dropLast, r.getLast hne, (List.dropLast_concat_getLast hne).symm⟩
      rw [← List.cons_append, lastN_snoc, lastN_snoc, ih D (by simp at h; exact h)]
      by_cases hq : q.1 = k
      · rw [if_pos hq, if_pos hq]
      · rw [if_neg hq, if_neg hq]
  exact gen _ r rfl
theorem fitR_rise : ∀ (L acc : List N2), Rise acc → Apart acc L → Rise (fitR acc L)
  | [], acc, h, _ => h
  | p :: r, acc, h, ha => by
    have hr : Apart acc r := fun q hq x hx => ha q hq x (by simp [hx])
    unfold fitR
    split
    · rename_i hc
      have hl : later r p.1 = false := by simp at hc; exact hc.1
      refine fitR_rise r _ (rise_insN p h (fun q hq => ha q hq p (by simp))) ?_
      intro q hq x hx
      rcases insN_mem hq with rfl | hq
      · intro e
        unfold later at hl
        rw [List.any_eq_false] at hl
        exact hl x hx (by simp [e])
      · exact hr q hq x hx
    · exact fitR_rise r acc h hr
theorem fitR_mem (q : N2) : ∀ (L acc : List N2), q ∈ fitR acc L ↔ q ∈ acc ∨ (lastN L q.1 = some q.2 ∧ q.2 ≠ 0)
  | [], acc => by
    show q ∈ acc ↔ _
    have : lastN [] q.1 = none := rfl
    rw [this]; simp
  | p :: r, acc => by
    unfold fitR
    have hl := lastN_cons p r q.1
    split
    · rename_i hc
      simp only [Bool.and_eq_true, Bool.not_eq_true', bne_iff_ne, ne_eq] at hc
      obtain ⟨hc1, hc2⟩ := hc
      have hn := lastN_later.2 hc1
      rw [fitR_mem q r, mem_insN, hl]
      constructor
      · rintro ((rfl | h) | ⟨h1, h2⟩)
        · right; rw [hn]; simp [hc2]
        · left; exact h
        · right; rw [h1]; exact ⟨rfl, h2⟩
      · rintro (h | ⟨h1, h2⟩)
        · left; right; exact h
        · cases hlr : lastN r q.1 with
          | some v => rw [hlr] at h1; right; exact ⟨h1, h2⟩
          | none =>
            rw [hlr] at h1
            simp only at h1
            split at h1
            · rename_i e
              injection h1 with h1
              left; left
              exact (Prod.ext e h1).symm
            · cases h1
    · rename_i hc
      rw [fitR_mem q r, hl]
      constructor
      · rintro (h | ⟨h1, h2⟩)
        · left; exact h
        · right; rw [h1]; exact ⟨rfl, h2⟩
      · rintro (h | ⟨h1, h2⟩)
        · left; exact h
        · cases hlr : lastN r q.1 with
          | some v => rw [hlr] at h1; right; exact ⟨h1, h2⟩
          | none =>
            rw [hlr] at h1
            simp only at h1
            split at h1
            · rename_i e
              injection h1 with h1
              exfalso
              apply hc
              have hn := lastN_later.1 hlr
              rw [e, hn, h1]
              simpa using h2
            · cases h1
/-- two rising lists with the same members are equal -/
theorem rise_eq : ∀ {A B : List N2}, Rise A → Rise B → (∀ q, q ∈ A ↔ q ∈ B) → A = B
  | [], [], _, _, _ => rfl
  | [], b :: B, _, _, h => absurd ((h b).2 (by simp)) (by simp)
  | a :: A, [], _, _, h => absurd ((h a).1 (by simp)) (by simp)
  | a :: A, b :: B, ha, hb, h => by
    have hab : a = b := by
      rcases List.mem_cons.1 ((h a).1 (by simp)) with h1 | h1
      · exact h1
      · rcases List.mem_cons.1 ((h b).2 (by simp)) with h2 | h2
        · exact h2.symm
        · have := ha.1 b h2
          have := hb.1 a h1
          omega
    subst hab
    congr 1
    refine rise_eq ha.2 hb.2 fun q => ?_
    constructor
    · intro hq
      rcases List.mem_cons.1 ((h q).1 (by simp [hq])) with h1 | h1
      · have := ha.1 q hq; rw [h1] at this; omega
      · exact h1
    · intro hq
      rcases List.mem_cons.1 ((h q).2 (by simp [hq])) with h1 | h1
      · have := hb.1 q hq; rw [h1] at this; omega
      · exact h1
theorem rise_nz : ∀ {A : List N2}, Rise A → Rise (nz A)
  | [], _ => trivial
  | a :: A, h => by
    have ih := rise_nz h.2
    unfold nz at ih ⊢
    rw [List.filter_cons]
    split
    · exact ⟨fun q hq => h.1 q (List.mem_filter.1 hq).1, ih⟩
    · exact ih
/-- THE REFERENCE'S LIST is the map's -/
theorem fits_eq {L M : List N2} (hM : Rise M) (hm : ∀ q, q ∈ M ↔ lastN L q.1 = some q.2) : fitsN L = nz M := by
  refine rise_eq (fitR_rise L [] trivial (fun q hq => by simp at hq)) (rise_nz hM) fun q => ?_
  unfold fitsN
  rw [fitR_mem, nz, List.mem_filter, hm]
  simp

/-- the segments, made as makeBucketsFromMap makes them -/
def stepX (X : List Seg) (p : N2) : List Seg :=
  match X.getLast? with
  | none => X ++ [(p.1, [p.2])]
  | some s => if 2 < p.1 - nxt 0 X then X ++ [(p.1, [p.2])] else X.dropLast ++ [(s.1, s.2 ++ List.replicate (p.1 - nxt 0 X).toNat 0 ++ [p.2])]
def buildX (M : List N2) : List Seg := M.foldl stepX []
theorem buildX_snoc (M : List N2) (p : N2) : buildX (M ++ [p]) = stepX (buildX M) p := by unfold buildX; rw [List.foldl_append]; rfl
theorem nz_zeros (n : Nat) : ∀ s : Int, nz (exp s (List.replicate n 0)) = [] := by
  induction n with
  | zero => intro s; rfl
  | succ n ih =>
    intro s
    rw [List.replicate_succ]
    show nz ((s, 0) :: exp (s + 1) (List.replicate n 0)) = []
    unfold nz at ih ⊢
    rw [List.filter_cons, if_neg (by simp)]
    exact ih _
theorem cellsOf_snoc (X : List Seg) (s : Seg) : cellsOf (X ++ [s]) = cellsOf X ++ exp s.1 s.2 := by unfold cellsOf; rw [List.flatMap_append]; simp
/-- ONE STEP denotes one bucket more -/
theorem stepX_cells (X : List Seg) (p : N2) (h : X ≠ [] → nxt 0 X ≤ p.1) : nz (cellsOf (stepX X p)) = nz (cellsOf X) ++ nz [p] ∧ nxt 0 (stepX X p) = p.1 + 1 ∧ stepX X p ≠ [] := by
  unfold stepX
  by_cases hX : X = []
  · subst hX
    refine ⟨?_, ?_, by simp⟩
    · show nz (cellsOf ([] ++ [(p.1, [p.2])])) = _
      rw [cellsOf_snoc, nz_app]; rfl
    · show nxt 0 ([] ++ [(p.1, [p.2])]) = _
      rw [nxt_snoc]; rfl
  · obtain ⟨D, s, rfl⟩ : ∃ D s, X = D ++ [s] := ⟨X.dropLast, X.getLast hX, (List.dropLast_concat_getLast hX).symm⟩
    have hh := h hX
    rw [nxt_snoc] at hh
    simp only [List.getLast?_append, List.getLast?_singleton, Option.some_or]
    split
    · refine ⟨?_, ?_, by simp⟩
      · rw [cellsOf_snoc _ (p.1, [p.2]), nz_app]; rfl
      · rw [nxt_snoc]; rfl
    · refine ⟨?_, ?_, by simp⟩
      · rw [List.dropLast_concat, cellsOf_snoc, cellsOf_snoc]
        simp only
        rw [exp_snoc, exp_app, nxt_snoc, nz_app, nz_app, nz_app, nz_app, nz_zeros, List.append_nil, List.append_assoc]
        congr 3
        refine congrArg (fun z => [(z, p.2)]) ?_
        rw [List.length_append, List.length_replicate]
        omega
      · rw [nxt_snoc, nxt_snoc]
        simp only [List.length_append, List.length_replicate, List.length_cons, List.length_nil]
        omega

theorem rise_snoc : ∀ {D : List N2} {p : N2}, Rise (D ++ [p]) → Rise D ∧ ∀ q ∈ D, q.1 < p.1
  | [], p, _ => ⟨trivial, fun q h => by simp at h⟩
  | a :: D, p, h => by
    obtain ⟨h1, h2⟩ := rise_snoc (D := D) (p := p) h.2
    refine ⟨⟨fun q hq => h.1 q (by simp [hq]), h1⟩, fun q hq => ?_⟩
    rcases List.mem_cons.1 hq with rfl | hq
    · exact h.1 p (by simp)
    · exact h2 q hq
/-- all keys of M lie within 2^30 -/
def Near (M : List N2) : Prop := ∀ q ∈ M, -1073741824 < q.1 ∧ q.1 < 1073741824
theorem split_snoc {α : Type} {X D R : List α} {t s : α} (h : X ++ [t] = D ++ s :: R) : (R = [] ∧ D = X ∧ s = t) ∨ ∃ R', R = R' ++ [t] ∧ X = D ++ s :: R' := by
  by_cases hR : R = []
  · subst hR
    left
    have := List.append_inj' h (by simp)
    exact ⟨rfl, this.1.symm, by have := this.2; simp at this; exact this.symm⟩
  · right
    obtain ⟨R', r, rfl⟩ : ∃ R' r, R = R' ++ [r] := ⟨R.dropLast, R.getLast hR, (List.dropLast_concat_getLast hR).symm⟩
    have h2 : X ++ [t] = (D ++ s :: R') ++ [r] := by rw [h]; simp
    have := List.append_inj' h2 (by simp)
    refine ⟨R', ?_, this.1⟩
    have h3 := this.2
    simp at h3
    rw [h3]
/-- what the segments made so far are -/
structure Made (M : List N2) (X : List Seg) : Prop where
  cells : nz (cellsOf X) = nz M
  none : X = [] ↔ M = []
  next : ∀ b, (∀ q ∈ M, q.1 < b) → M ≠ [] → nxt 0 X ≤ b
  wf : WF X
  near : ∀ s ∈ X, -1073741824 < s.1 ∧ s.1 + s.2.length ≤ 1073741824
  few : X.length ≤ M.length
  sum : (counts X).length ≤ 3 * M.length
  vals : ∀ c ∈ counts X, c = 0 ∨ ∃ q ∈ M, q.2 = c
theorem counts_snoc (X : List Seg) (s : Seg) : counts (X ++ [s]) = counts X ++ s.2 := by unfold counts; rw [List.flatMap_append]; simp
theorem nxt_near {M : List N2} {X : List Seg} (h : Made M X) : -1073741824 < nxt 0 X ∧ nxt 0 X ≤ 1073741824 := by
  by_cases hX : X = []
  · rw [hX]; decide
  · obtain ⟨D, s, rfl⟩ : ∃ D s, X = D ++ [s] := ⟨X.dropLast, X.getLast hX, (List.dropLast_concat_getLast hX).symm⟩
    have := h.near s (by simp)
    rw [nxt_snoc]
    omega
theorem Made.step {M : List N2} {X : List Seg} {p : N2} (h : Made M X) (hp : ∀ q ∈ M, q.1 < p.1) (hn : -1073741824 < p.1 ∧ p.1 < 1073741824) : Made (M ++ [p]) (stepX X p) := by
  have hle : X ≠ [] → nxt 0 X ≤ p.1 := fun hX => h.next p.1 hp (fun e => hX (h.none.2 e))
  obtain ⟨h1, h2, h3⟩ := stepX_cells X p hle
  have hnn := nxt_near h
  have base : nz (cellsOf (stepX X p)) = nz (M ++ [p]) := by rw [h1, h.cells, nz_app]
  have hnone : stepX X p = [] ↔ M ++ [p] = [] := ⟨fun e => absurd e h3, fun e => by simp at e⟩
  have hnext : ∀ b, (∀ q ∈ M ++ [p], q.1 < b) → M ++ [p] ≠ [] → nxt 0 (stepX X p) ≤ b := fun b hb _ => by
    rw [h2]
    have := hb p (by simp)
    omega
  -- the two shapes
  have shape : (stepX X p = X ++ [(p.1, [p.2])]) ∨ ∃ (D : List Seg) (s : Seg) (g : Nat), X = D ++ [s] ∧ g ≤ 2 ∧ (g : Int) = p.1 - nxt 0 X ∧ stepX X p = D ++ [(s.1, s.2 ++ List.replicate g 0 ++ [p.2])] := by
    by_cases hX : X = []
    · left; subst hX; rfl
    · obtain ⟨D, s, rfl⟩ : ∃ D s, X = D ++ [s] := ⟨X.dropLast, X.getLast hX, (List.dropLast_concat_getLast hX).symm⟩
      have hh := hle hX
      unfold stepX
      simp only [List.getLast?_append, List.getLast?_singleton, Option.some_or]
      split
      · left; rfl
      · right
        refine ⟨D, s, (p.1 - nxt 0 (D ++ [s])).toNat, rfl, by omega, by omega, ?_⟩
        rw [List.dropLast_concat]
  rcases shape with hs | ⟨D, s, g, rfl, hg, hgv, hs⟩
  · rw [hs] at base hnone hnext ⊢
    refine ⟨base, hnone, hnext, ?_, ?_, by simp; exact h.few, ?_, ?_⟩
    · intro D s R e
      rcases split_snoc e with ⟨_, rfl, rfl⟩ | ⟨R', _, e2⟩
      · refine ⟨fun hD => ?_, ?_, ?_, ?_, ?_⟩
        · have := hle hD
          show 0 ≤ p.1 - nxt 0 D
          omega
        · show _ ≤ p.1 - nxt 0 D ∧ p.1 - nxt 0 D ≤ _
          omega
        · show 1 ≤ _; omega
        · show _ ≤ p.1 ∧ p.1 ≤ _; omega
        · omega
      · have a := h.wf D s R' e2
        exact ⟨a.pos, a.off, a.len, a.key, a.nx⟩
    · intro s hs
      rcases List.mem_append.1 hs with hs | hs
      · exact h.near s hs
      · rw [List.mem_singleton.1 hs]
        show _ < p.1 ∧ p.1 + ((1 : Nat) : Int) ≤ _
        omega
    · rw [counts_snoc]
      have := h.sum
      simp
      omega
    · intro c hc
      rw [counts_snoc] at hc
      rcases List.mem_append.1 hc with hc | hc
      · rcases h.vals c hc with h | ⟨q, hq, e⟩
        · exact Or.inl h
        · exact Or.inr ⟨q, by simp [hq], e⟩
      · exact Or.inr ⟨p, by simp, (List.mem_singleton.1 hc).symm⟩
  · rw [hs] at base hnone hnext ⊢
    have hsn := h.near s (by simp)
    rw [nxt_snoc] at hgv
    have hlen : (s.2 ++ List.replicate g 0 ++ [p.2]).length = s.2.length + g + 1 := by simp; omega
    refine ⟨base, hnone, hnext, ?_, ?_, ?_, ?_, ?_⟩
    · intro D2 s2 R e
      rcases split_snoc e with ⟨_, rfl, rfl⟩ | ⟨R', _, e2⟩
      · have hA := h.wf D2 s [] rfl
        refine ⟨hA.pos, hA.off, ?_, hA.key, hA.nx⟩
        show (s.2 ++ List.replicate g 0 ++ [p.2]).length ≤ _
        rw [hlen]
        omega
      · have a := h.wf D2 s2 (R' ++ [s]) (by rw [e2]; simp)
        exact ⟨a.pos, a.off, a.len, a.key, a.nx⟩
    · intro t ht
      rcases List.mem_append.1 ht with ht | ht
      · exact h.near t (by simp [ht])
      · rw [List.mem_singleton.1 ht]
        show _ < s.1 ∧ s.1 + ((s.2 ++ List.replicate g 0 ++ [p.2]).length : Int) ≤ _
        rw [hlen]
        omega
    · have := h.few
      simp at this ⊢
      omega
    · have := h.sum
      rw [counts_snoc] at this ⊢
      simp only [List.length_append, List.length_replicate, List.length_cons, List.length_nil] at this ⊢
      omega
    · intro c hc
      rw [counts_snoc] at hc
      have old : c ∈ counts (D ++ [s]) → c = 0 ∨ ∃ q ∈ M ++ [p], q.2 = c := fun hc => by
        rcases h.vals c hc with h | ⟨q, hq, e⟩
        · exact Or.inl h
        · exact Or.inr ⟨q, by simp [hq], e⟩
      rcases List.mem_append.1 hc with hc | hc
      · exact old (by rw [counts_snoc]; exact List.mem_append.2 (Or.inl hc))
      · rcases List.mem_append.1 hc with hc | hc
        · rcases List.mem_append.1 hc with hc | hc
          · exact old (by rw [counts_snoc]; exact List.mem_append.2 (Or.inr hc))
          · exact Or.inl (List.eq_of_mem_replicate hc)
        · exact Or.inr ⟨p, by simp, (List.mem_singleton.1 hc).symm⟩
theorem made : ∀ (n : Nat) (M : List N2), M.length = n → Rise M → Near M → Made M (buildX M) := by
  intro n
  induction n with
  | zero =>
    intro M h _ _
    rw [List.length_eq_zero_iff.1 h]
    refine ⟨rfl, ⟨fun _ => rfl, fun _ => rfl⟩, fun b _ h => absurd rfl h, ?_, fun s hs => by simp [buildX] at hs, Nat.le_refl _, by decide, fun c hc => by simp [buildX, counts] at hc⟩
    intro D s R e
    have : buildX [] = [] := rfl
    rw [this] at e
    simp at e
  | succ n ih =>
    intro M h hr hn
    have hne : M ≠ [] := by intro e; rw [e] at h; simp at h
    obtain ⟨D, p, rfl⟩ : ∃ D p, M = D ++ [p] := ⟨M.dropLast, M.getLast hne, (List.dropLast_concat_getLast hne).symm⟩
    obtain ⟨r1, r2⟩ := rise_snoc hr
    rw [buildX_snoc]
    exact (ih D (by simp at h; exact h) r1 (fun q hq => hn q (by simp [hq]))).step r2 (hn p (by simp))

end Go.Proofs.Ytkmfedmiaannfaa.Sp
