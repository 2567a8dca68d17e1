/- Differences of a list and itself: the plain law: one block, one code, no groups. -/
import Derived.Test.YtkmfedmiaannfaaDoorGp
set_option linter.unusedVariables false
set_option linter.unusedSimpArgs false
namespace Go.Proofs.YtkmfedmiaannfaaDoor.Df

section
variable {xs : List ByteArray}
theorem hit_self {n j : Nat} (h : hit xs xs 0 xs.length n j = true) (hn : n < xs.length) : hit xs xs 0 xs.length j j = true ∧ hit xs xs 0 xs.length n n = true := by
  have h1 := hit_iff.1 h
  have h2 := b2j_mem.1 h1.1
  refine ⟨hit_iff.2 ⟨b2j_mem.2 ⟨?_, h2.2.1, rfl⟩, by omega, by omega⟩, hit_iff.2 ⟨b2j_mem.2 ⟨h2.1, hn, rfl⟩, by omega, hn⟩⟩
  rw [h2.2.2]; exact h2.1
theorem cs_col : ∀ (n j : Nat), n < xs.length → cs xs xs 0 0 xs.length n j ≤ cs xs xs 0 0 xs.length j j
  | 0, j, hn => by
    cases h : hit xs xs 0 xs.length 0 j with
    | false => rw [cs_none (n := 0) (by simpa using h)]; exact Nat.zero_le _
    | true =>
      have := (hit_self h hn).1
      unfold cs
      cases j with
      | zero => simp [h]
      | succ j => simp [h, this]
  | n + 1, 0, hn => by
    cases h : hit xs xs 0 xs.length (n + 1) 0 with
    | false => rw [cs_none (n := n + 1) (by simpa using h)]; exact Nat.zero_le _
    | true =>
      have := (hit_self h hn).1
      unfold cs
      simp [h, this]
  | n + 1, j + 1, hn => by
    have ih := cs_col n j (by omega)
    cases h : hit xs xs 0 xs.length (n + 1) (j + 1) with
    | false => rw [cs_none (n := n + 1) (by simpa using h)]; exact Nat.zero_le _
    | true =>
      have := (hit_self h hn).1
      have e1 : cs xs xs 0 0 xs.length (n + 1) (j + 1) = cs xs xs 0 0 xs.length n j + 1 := by
        rw [cs]; simp [h]
      have e2 : cs xs xs 0 0 xs.length (j + 1) (j + 1) = cs xs xs 0 0 xs.length j j + 1 := by
        rw [cs]; simp [this]
      omega
theorem cs_row : ∀ (n j : Nat), n < xs.length → cs xs xs 0 0 xs.length n j ≤ cs xs xs 0 0 xs.length n n
  | 0, j, hn => by
    cases h : hit xs xs 0 xs.length 0 j with
    | false => rw [cs_none (n := 0) (by simpa using h)]; exact Nat.zero_le _
    | true =>
      have := (hit_self h hn).2
      unfold cs
      simp [h, this]
  | n + 1, 0, hn => by
    cases h : hit xs xs 0 xs.length (n + 1) 0 with
    | false => rw [cs_none (n := n + 1) (by simpa using h)]; exact Nat.zero_le _
    | true =>
      have := (hit_self h hn).2
      unfold cs
      simp [h, this]
  | n + 1, j + 1, hn => by
    have ih := cs_row n j (by omega)
    cases h : hit xs xs 0 xs.length (n + 1) (j + 1) with
    | false => rw [cs_none (n := n + 1) (by simpa using h)]; exact Nat.zero_le _
    | true =>
      have := (hit_self h hn).2
      have e1 : cs xs xs 0 0 xs.length (n + 1) (j + 1) = cs xs xs 0 0 xs.length n j + 1 := by
        rw [cs]; simp [h]
      have e2 : cs xs xs 0 0 xs.length (n + 1) (n + 1) = cs xs xs 0 0 xs.length n n + 1 := by
        rw [cs]; simp [this]
      omega

/-- after n rows: on the diagonal, and no shorter than any of the diagonal's matches -/
def Dg (xs : List ByteArray) (n : Nat) (st : M3) : Prop := st.1 = st.2.1 ∧ ∀ r, r < n → cs xs xs 0 0 xs.length r r ≤ st.2.2
theorem upd_skip {n j : Nat} {st : M3} (h : cs xs xs 0 0 xs.length n j ≤ st.2.2) : upd xs xs 0 0 xs.length n st j = st := by
  unfold upd; rw [if_neg (by omega)]
theorem row_skip {n : Nat} : ∀ {js : List Nat} {st : M3}, (∀ j ∈ js, cs xs xs 0 0 xs.length n j ≤ st.2.2) → row xs xs 0 0 xs.length n st js = st
  | [], st, _ => rfl
  | j :: js, st, h => by
    show row xs xs 0 0 xs.length n (upd xs xs 0 0 xs.length n st j) js = st
    rw [upd_skip (h j (by simp))]
    exact row_skip (fun x hx => h x (by simp [hx]))
theorem pair_split : ∀ {l : List Nat} {n : Nat}, l.Pairwise (· < ·) → n ∈ l → ∃ a b, l = a ++ n :: b ∧ (∀ x ∈ a, x < n)
  | [], n, _, h => absurd h (by simp)
  | x :: r, n, hp, h => by
    rw [List.pairwise_cons] at hp
    by_cases e : n = x
    · subst e; exact ⟨[], r, rfl, fun x hx => absurd hx (by simp)⟩
    · have hr : n ∈ r := by rcases List.mem_cons.1 h with h | h; exact absurd h e; exact h
      obtain ⟨a, b, rfl, ha⟩ := pair_split hp.2 hr
      exact ⟨x :: a, b, rfl, fun y hy => by rcases List.mem_cons.1 hy with rfl | hy; exact hp.1 n hr; exact ha y hy⟩
theorem row_dg {n : Nat} (hn : n < xs.length) {st : M3} (h : Dg xs n st) : Dg xs (n + 1) (row xs xs 0 0 xs.length n st (b2j xs (el xs n))) := by
  have hpair := b2j_pair xs (el xs n)
  cases hp : pop xs (el xs n) with
  | true =>
    have e : b2j xs (el xs n) = [] := by unfold b2j; rw [if_pos hp]
    rw [e]
    refine ⟨h.1, fun r hr => ?_⟩
    rcases Nat.lt_or_ge r n with h1 | h1
    · exact h.2 r h1
    · have : r = n := by omega
      subst this
      have hh : hit xs xs 0 xs.length r r = false := by
        cases hh : hit xs xs 0 xs.length r r with
        | false => rfl
        | true =>
          have := (b2j_mem.1 (hit_iff.1 hh).1).1
          rw [hp] at this; cases this
      rw [cs_none (n := r) (by simpa using hh)]
      exact Nat.zero_le _
  | false =>
    have hm : n ∈ b2j xs (el xs n) := b2j_mem.2 ⟨hp, hn, rfl⟩
    obtain ⟨a, b, hab, ha⟩ := pair_split hpair hm
    rw [hab]
    have e1 : row xs xs 0 0 xs.length n st (a ++ n :: b) = row xs xs 0 0 xs.length n (upd xs xs 0 0 xs.length n (row xs xs 0 0 xs.length n st a) n) b := by
      unfold row; rw [List.foldl_append]; rfl
    rw [e1, row_skip (js := a) (fun j hj => Nat.le_trans (cs_col n j hn) (h.2 j (ha j hj)))]
    have hk : cs xs xs 0 0 xs.length n n ≤ (upd xs xs 0 0 xs.length n st n).2.2 ∧ st.2.2 ≤ (upd xs xs 0 0 xs.length n st n).2.2 ∧ (upd xs xs 0 0 xs.length n st n).1 = (upd xs xs 0 0 xs.length n st n).2.1 := by
      unfold upd
      split
      · refine ⟨Nat.le_refl _, by simp only; omega, by simp only; omega⟩
      · exact ⟨by omega, Nat.le_refl _, h.1⟩
    rw [row_skip (js := b) (fun j _ => Nat.le_trans (cs_row n j hn) hk.1)]
    refine ⟨hk.2.2, fun r hr => ?_⟩
    rcases Nat.lt_or_ge r n with h1 | h1
    · exact Nat.le_trans (h.2 r h1) hk.2.1
    · have : r = n := by omega
      subst this
      exact hk.1
theorem best_dg : ∀ (n : Nat), n ≤ xs.length → Dg xs n (best xs xs 0 0 xs.length n)
  | 0, _ => ⟨rfl, fun r h => absurd h (Nat.not_lt_zero _)⟩
  | n + 1, h => by
    have := row_dg (xs := xs) (n := n) (by omega) (best_dg n (by omega))
    unfold best
    simpa using this
theorem back_dg : ∀ (i k : Nat), back xs xs 0 0 i i k = (0, 0, k + i)
  | 0, k => rfl
  | i + 1, k => by
    unfold back
    rw [if_pos (by simp [eqS_refl]), back_dg i (k + 1)]
    congr 2
    omega
theorem fwd_dg : ∀ (f p : Nat), p + f = xs.length → fwd xs xs xs.length xs.length f p p = f
  | 0, _, _ => rfl
  | f + 1, p, h => by
    unfold fwd
    rw [if_pos (by simp [eqS_refl]; omega), fwd_dg f (p + 1) (by omega)]
theorem fl_self : fl xs xs 0 xs.length 0 xs.length = (0, 0, xs.length) := by
  have hf := best_fits (xs := xs) (ys := xs) (alo := 0) (ahi := xs.length) (blo := 0) (bhi := xs.length) (Nat.zero_le _) (Nat.zero_le _) (n := xs.length) (by omega)
  have hd := best_dg (xs := xs) xs.length (Nat.le_refl _)
  have hm : ∃ k, k ≤ xs.length ∧ mid xs xs 0 xs.length 0 xs.length = (0, 0, k) := by
    unfold mid
    rw [Nat.sub_zero]
    generalize best xs xs 0 0 xs.length xs.length = b at *
    obtain ⟨i, j, k⟩ := b
    have h1 : i = j := hd.1
    have h2 : i + k ≤ xs.length := hf.2.1
    subst h1
    exact ⟨k + i, by omega, back_dg i k⟩
  obtain ⟨k, hk, hm⟩ := hm
  unfold fl
  rw [hm]
  simp only [Nat.zero_add]
  rw [fwd_dg (xs.length - k) k (by omega)]
  congr 2
  omega
theorem mb_self : mb xs xs (xs.length + 1) 0 xs.length 0 xs.length = if xs.length = 0 then [] else [(0, 0, xs.length)] := by
  unfold mb
  rw [fl_self]
  simp only [Nat.zero_add]
  split
  · rfl
  · simp
theorem nadj_one (n : Nat) (h : 0 < n) : nadj [(0, 0, n)] (0, 0, 0) ++ [(n, n, 0)] = [(0, 0, n), (n, n, 0)] := by
  have e : nadj [(0, 0, n)] (0, 0, 0) = [(0, 0, n)] := by
    simp [nadj, h]
  rw [e]; rfl
theorem opc_one (n : Nat) (h : 0 < n) : opc [(0, 0, n), (n, n, 0)] 0 0 = [(101, 0, n, 0, n)] := by
  simp [opc, chg, eqe, h]
theorem blocks_self : blocks xs xs = if xs.length = 0 then [(0, 0, 0)] else [(0, 0, xs.length), (xs.length, xs.length, 0)] := by
  unfold blocks
  rw [mb_self]
  by_cases h : xs.length = 0
  · rw [if_pos h, if_pos h, h]; rfl
  · rw [if_neg h, if_neg h]
    exact nadj_one _ (by omega)
theorem ops_self : ops xs xs = if xs.length = 0 then [] else [(101, 0, xs.length, 0, xs.length)] := by
  unfold ops
  rw [blocks_self]
  by_cases h : xs.length = 0
  · rw [if_pos h, if_pos h]; rfl
  · rw [if_neg h, if_neg h]
    exact opc_one _ (by omega)
end
theorem grps_one (n : Nat) (c : E5) (h : c.1 = 101) : grp n (trimB n (trimF n [c])) [] [] = [] := by
  have e1 : (tB n (tF n c)).1 = 101 := by rw [(tB_same n _).1, (tF_same n _).1]; exact h
  have hle := tB_le n (tF n c)
  have hfar : far n (tB n (tF n c)) = false := by
    unfold far
    rw [e1]
    simp only [decide_true, Bool.true_and, decide_eq_false_iff_not]
    have := hle e1
    omega
  show grp n [tB n (tF n c)] [] [] = []
  unfold grp
  rw [hfar, if_neg (by simp)]
  unfold grp
  have : lone ([] ++ [tB n (tF n c)]) = true := by show ((tB n (tF n c)).1 == 101) = true; rw [e1]; rfl
  rw [this, if_pos rfl]
theorem grps_self (n : Nat) (xs : List ByteArray) : grps n (ops xs xs) = [] := by
  unfold grps cds
  rw [ops_self]
  by_cases h : xs.length = 0
  · rw [if_pos h]; exact grps_one n _ rfl
  · rw [if_neg h]; exact grps_one n _ rfl
/-- the sizes of the blocks, added up -/
def sizes (L : List M3) : Nat := (L.map (·.2.2)).sum
theorem sizes_self (xs : List ByteArray) : sizes (blocks xs xs) = xs.length := by
  unfold sizes
  rw [blocks_self]
  by_cases h : xs.length = 0
  · rw [if_pos h, h]; rfl
  · rw [if_neg h]; simp

end Go.Proofs.YtkmfedmiaannfaaDoor.Df
