/- Differences of two lists: the plain model of the matcher, and what it answers. -/
import Derived.Test.YtkmfedmiaannfaaDoorProg
import Derived.Lib.Strings
set_option linter.unusedVariables false
set_option linter.unusedSimpArgs false
namespace Go.Proofs.YtkmfedmiaannfaaDoor.Df

/-- two texts are equal, the walk asks so -/
def eqS (x y : ByteArray) : Bool := x.toList == y.toList
theorem eqS_iff (x y : ByteArray) : eqS x y = true ↔ x = y := by
  unfold eqS
  rw [beq_iff_eq]
  constructor
  · intro h
    have h1 : x.data.toList = y.data.toList := by
      have e : ∀ z : ByteArray, z.toList = z.data.toList := fun z => Lib.toList_data z
      rw [← e, ← e, h]
    obtain ⟨⟨x⟩⟩ := x
    obtain ⟨⟨y⟩⟩ := y
    simp at h1
    rw [h1]
  · rintro rfl; rfl
theorem eqS_refl (x : ByteArray) : eqS x x = true := (eqS_iff x x).2 rfl

def el (xs : List ByteArray) (i : Nat) : ByteArray := xs.getD i ByteArray.empty
theorem el_get {xs : List ByteArray} {i : Nat} (h : i < xs.length) : el xs i = xs[i] := by simp [el, List.getD, h]
def idxs (ys : List ByteArray) (s : ByteArray) : List Nat := (List.range ys.length).filter fun j => eqS (el ys j) s
def pop (ys : List ByteArray) (s : ByteArray) : Bool := decide (200 ≤ ys.length) && decide (ys.length / 100 + 1 < (idxs ys s).length)
def b2j (ys : List ByteArray) (s : ByteArray) : List Nat := if pop ys s then [] else idxs ys s

theorem idxs_mem {ys : List ByteArray} {s : ByteArray} {j : Nat} : j ∈ idxs ys s ↔ j < ys.length ∧ el ys j = s := by
  unfold idxs
  rw [List.mem_filter, List.mem_range, eqS_iff]
theorem b2j_mem {ys : List ByteArray} {s : ByteArray} {j : Nat} : j ∈ b2j ys s ↔ pop ys s = false ∧ j < ys.length ∧ el ys j = s := by
  unfold b2j
  cases h : pop ys s
  · simp [idxs_mem]
  · simp
theorem range_pair (n : Nat) : (List.range n).Pairwise (· < ·) := List.pairwise_lt_range
theorem b2j_pair (ys : List ByteArray) (s : ByteArray) : (b2j ys s).Pairwise (· < ·) := by
  unfold b2j
  split
  · exact List.Pairwise.nil
  · exact List.Pairwise.filter _ (range_pair _)
theorem b2j_len (ys : List ByteArray) (s : ByteArray) : (b2j ys s).length ≤ ys.length := by
  unfold b2j
  split
  · exact Nat.zero_le _
  · have := List.length_filter_le (fun j => eqS (el ys j) s) (List.range ys.length)
    rw [List.length_range] at this
    exact this

section
variable (xs ys : List ByteArray) (alo blo bhi : Nat)
/-- row i, column j is looked at, and the texts are equal -/
def hit (i j : Nat) : Bool := decide (j ∈ b2j ys (el xs i)) && decide (blo ≤ j) && decide (j < bhi)
/-- how long the match is that ends at row alo + n and column j -/
def cs : Nat → Nat → Nat
  | 0, j => if hit xs ys blo bhi alo j then 1 else 0
  | n + 1, 0 => if hit xs ys blo bhi (alo + (n + 1)) 0 then 1 else 0
  | n + 1, j + 1 => if hit xs ys blo bhi (alo + (n + 1)) (j + 1) then cs n j + 1 else 0
end

abbrev M3 := Nat × Nat × Nat

section
variable {xs ys : List ByteArray} {alo blo bhi : Nat}
theorem hit_iff {i j : Nat} : hit xs ys blo bhi i j = true ↔ j ∈ b2j ys (el xs i) ∧ blo ≤ j ∧ j < bhi := by
  unfold hit
  simp only [Bool.and_eq_true, decide_eq_true_eq, and_assoc]
theorem cs_none : ∀ {n j : Nat}, hit xs ys blo bhi (alo + n) j = false → cs xs ys alo blo bhi n j = 0
  | 0, j, h => by unfold cs; rw [show hit xs ys blo bhi alo j = false from h]; rfl
  | n + 1, 0, h => by unfold cs; rw [h]; rfl
  | n + 1, j + 1, h => by unfold cs; rw [h]; rfl
theorem cs_bound : ∀ (n j : Nat), cs xs ys alo blo bhi n j ≤ n + 1 ∧ cs xs ys alo blo bhi n j ≤ j + 1 ∧ (0 < cs xs ys alo blo bhi n j → blo ≤ j ∧ j < bhi ∧ cs xs ys alo blo bhi n j + blo ≤ j + 1)
  | 0, j => by
    unfold cs
    cases h : hit xs ys blo bhi alo j
    · simp
    · have := hit_iff.1 h
      simp; omega
  | n + 1, 0 => by
    unfold cs
    cases h : hit xs ys blo bhi (alo + (n + 1)) 0
    · simp
    · have := hit_iff.1 h
      simp; omega
  | n + 1, j + 1 => by
    have ih := cs_bound n j
    unfold cs
    cases h : hit xs ys blo bhi (alo + (n + 1)) (j + 1)
    · simp
    · have := hit_iff.1 h
      simp only [if_true]
      refine ⟨by omega, by omega, fun _ => ?_⟩
      refine ⟨by omega, by omega, ?_⟩
      rcases Nat.eq_zero_or_pos (cs xs ys alo blo bhi n j) with e | e
      · omega
      · have := ih.2.2 e; omega
/-- the texts of such a match are equal -/
theorem cs_eq : ∀ (n j t : Nat), t < cs xs ys alo blo bhi n j → el xs (alo + n - t) = el ys (j - t) ∧ j - t < ys.length
  | 0, j, t, h => by
    have hb := cs_bound (xs := xs) (ys := ys) (alo := alo) (blo := blo) (bhi := bhi) 0 j
    unfold cs at h
    cases hh : hit xs ys blo bhi alo j
    · rw [hh] at h; simp at h
    · rw [hh] at h; simp at h
      subst h
      have := b2j_mem.1 (hit_iff.1 hh).1
      exact ⟨this.2.2.symm, this.2.1⟩
  | n + 1, 0, t, h => by
    unfold cs at h
    cases hh : hit xs ys blo bhi (alo + (n + 1)) 0
    · rw [hh] at h; simp at h
    · rw [hh] at h; simp at h
      subst h
      have := b2j_mem.1 (hit_iff.1 hh).1
      exact ⟨this.2.2.symm, this.2.1⟩
  | n + 1, j + 1, t, h => by
    unfold cs at h
    cases hh : hit xs ys blo bhi (alo + (n + 1)) (j + 1)
    · rw [hh] at h; simp at h
    · rw [hh] at h
      simp only [if_true] at h
      cases t with
      | zero =>
        have := b2j_mem.1 (hit_iff.1 hh).1
        exact ⟨this.2.2.symm, this.2.1⟩
      | succ t =>
        have ih := cs_eq n j t (by omega)
        rw [show alo + (n + 1) - (t + 1) = alo + n - t by omega, show j + 1 - (t + 1) = j - t by omega]
        exact ih
end

section
variable (xs ys : List ByteArray) (alo ahi blo bhi : Nat)
def upd (n : Nat) (st : M3) (j : Nat) : M3 := if st.2.2 < cs xs ys alo blo bhi n j then (alo + n + 1 - cs xs ys alo blo bhi n j, j + 1 - cs xs ys alo blo bhi n j, cs xs ys alo blo bhi n j) else st
def row (n : Nat) (st : M3) (js : List Nat) : M3 := js.foldl (upd xs ys alo blo bhi n) st
/-- the best match of the first n rows -/
def best : Nat → M3
  | 0 => (alo, blo, 0)
  | n + 1 => row xs ys alo blo bhi n (best n) (b2j ys (el xs (alo + n)))
def back : Nat → Nat → Nat → M3
  | i + 1, j + 1, k => if decide (alo < i + 1) && decide (blo < j + 1) && eqS (el xs i) (el ys j) then back i j (k + 1) else (i + 1, j + 1, k)
  | i, j, k => (i, j, k)
def fwd : Nat → Nat → Nat → Nat
  | 0, _, _ => 0
  | f + 1, p, q => if decide (p < ahi) && decide (q < bhi) && eqS (el xs p) (el ys q) then fwd f (p + 1) (q + 1) + 1 else 0
def mid : M3 := back xs ys alo blo (best xs ys alo blo bhi (ahi - alo)).1 (best xs ys alo blo bhi (ahi - alo)).2.1 (best xs ys alo blo bhi (ahi - alo)).2.2
def fl : M3 := ((mid xs ys alo ahi blo bhi).1, (mid xs ys alo ahi blo bhi).2.1, (mid xs ys alo ahi blo bhi).2.2 + fwd xs ys ahi bhi (ahi - ((mid xs ys alo ahi blo bhi).1 + (mid xs ys alo ahi blo bhi).2.2)) ((mid xs ys alo ahi blo bhi).1 + (mid xs ys alo ahi blo bhi).2.2) ((mid xs ys alo ahi blo bhi).2.1 + (mid xs ys alo ahi blo bhi).2.2))
/-- a match lies within bounds, and its texts are equal -/
def Fits (st : M3) : Prop := alo ≤ st.1 ∧ st.1 + st.2.2 ≤ ahi ∧ blo ≤ st.2.1 ∧ st.2.1 + st.2.2 ≤ bhi ∧ ∀ t, t < st.2.2 → el xs (st.1 + t) = el ys (st.2.1 + t)
end

section
variable {xs ys : List ByteArray} {alo ahi blo bhi : Nat}
theorem upd_fits {n : Nat} {st : M3} {j : Nat} (hn : alo + n < ahi) (h : Fits xs ys alo ahi blo bhi st) : Fits xs ys alo ahi blo bhi (upd xs ys alo blo bhi n st j) := by
  unfold upd
  split
  · rename_i hlt
    have hb := cs_bound (xs := xs) (ys := ys) (alo := alo) (blo := blo) (bhi := bhi) n j
    have h3 := hb.2.2 (by omega)
    have heq := fun t => cs_eq (xs := xs) (ys := ys) (alo := alo) (blo := blo) (bhi := bhi) n j t
    generalize cs xs ys alo blo bhi n j = K at *
    refine ⟨by show alo ≤ alo + n + 1 - K; omega, by show alo + n + 1 - K + K ≤ ahi; omega, by show blo ≤ j + 1 - K; omega, by show j + 1 - K + K ≤ bhi; omega, ?_⟩
    intro t ht
    have ht' : t < K := ht
    have := (heq (K - 1 - t) (by omega)).1
    rw [show alo + n - (K - 1 - t) = alo + n + 1 - K + t by omega, show j - (K - 1 - t) = j + 1 - K + t by omega] at this
    exact this
  · exact h
theorem row_fits {n : Nat} (hn : alo + n < ahi) : ∀ {js : List Nat} {st : M3}, Fits xs ys alo ahi blo bhi st → Fits xs ys alo ahi blo bhi (row xs ys alo blo bhi n st js)
  | [], st, h => h
  | j :: js, st, h => row_fits hn (js := js) (upd_fits hn h)
theorem best_fits (ha : alo ≤ ahi) (hb : blo ≤ bhi) : ∀ {n : Nat}, alo + n ≤ ahi → Fits xs ys alo ahi blo bhi (best xs ys alo blo bhi n)
  | 0, _ => ⟨Nat.le_refl _, ha, Nat.le_refl _, hb, fun t h => absurd h (by simp [best])⟩
  | n + 1, h => row_fits (by omega) (best_fits ha hb (by omega))
theorem back_fits : ∀ {i j k : Nat}, Fits xs ys alo ahi blo bhi (i, j, k) → Fits xs ys alo ahi blo bhi (back xs ys alo blo i j k)
  | 0, j, k, h => by cases j <;> exact h
  | i + 1, 0, k, h => h
  | i + 1, j + 1, k, h => by
    unfold back
    split
    · rename_i hc
      simp only [Bool.and_eq_true, decide_eq_true_eq] at hc
      obtain ⟨⟨h1, h2⟩, h3⟩ := hc
      obtain ⟨f1, f2, f3, f4, f5⟩ := h
      simp only at f1 f2 f3 f4 f5
      apply back_fits
      refine ⟨by show alo ≤ i; omega, by show i + (k + 1) ≤ ahi; omega, by show blo ≤ j; omega, by show j + (k + 1) ≤ bhi; omega, ?_⟩
      intro t ht
      cases t with
      | zero => exact (eqS_iff _ _).1 h3
      | succ t =>
        have := f5 t (by have : t + 1 < k + 1 := ht; omega)
        show el xs (i + (t + 1)) = el ys (j + (t + 1))
        rw [show i + (t + 1) = i + 1 + t by omega, show j + (t + 1) = j + 1 + t by omega]
        exact this
    · exact h
theorem fwd_fits : ∀ {f p q : Nat}, p ≤ ahi → q ≤ bhi → p + fwd xs ys ahi bhi f p q ≤ ahi ∧ q + fwd xs ys ahi bhi f p q ≤ bhi ∧ ∀ t, t < fwd xs ys ahi bhi f p q → el xs (p + t) = el ys (q + t)
  | 0, p, q, h1, h2 => ⟨h1, h2, fun t h => absurd h (by simp [fwd])⟩
  | f + 1, p, q, h1, h2 => by
    unfold fwd
    split
    · rename_i hc
      simp only [Bool.and_eq_true, decide_eq_true_eq] at hc
      obtain ⟨⟨c1, c2⟩, c3⟩ := hc
      have ih := fwd_fits (f := f) (p := p + 1) (q := q + 1) (by omega) (by omega)
      refine ⟨by omega, by omega, ?_⟩
      intro t ht
      cases t with
      | zero => exact (eqS_iff _ _).1 c3
      | succ t =>
        rw [show p + (t + 1) = p + 1 + t by omega, show q + (t + 1) = q + 1 + t by omega]
        exact ih.2.2 t (by omega)
    · exact ⟨h1, h2, fun t h => absurd h (by omega)⟩
theorem mid_fits (ha : alo ≤ ahi) (hb : blo ≤ bhi) : Fits xs ys alo ahi blo bhi (mid xs ys alo ahi blo bhi) := back_fits (best_fits ha hb (by omega))
theorem fl_fits (ha : alo ≤ ahi) (hb : blo ≤ bhi) : Fits xs ys alo ahi blo bhi (fl xs ys alo ahi blo bhi) := by
  have h := mid_fits (xs := xs) (ys := ys) ha hb
  obtain ⟨f1, f2, f3, f4, f5⟩ := h
  unfold fl
  generalize mid xs ys alo ahi blo bhi = m at *
  obtain ⟨i, j, k⟩ := m
  simp only at f1 f2 f3 f4 f5 ⊢
  have hw := fwd_fits (xs := xs) (ys := ys) (f := ahi - (i + k)) f2 f4
  refine ⟨f1, by show i + (k + _) ≤ _; omega, f3, by show j + (k + _) ≤ _; omega, ?_⟩
  intro t ht
  by_cases h : t < k
  · exact f5 t h
  · have := hw.2.2 (t - k) (by have : t < k + _ := ht; omega)
    rw [show i + k + (t - k) = i + t by omega, show j + k + (t - k) = j + t by omega] at this
    exact this
end

section
variable (xs ys : List ByteArray)
/-- the matching blocks within bounds -/
def mb : Nat → Nat → Nat → Nat → Nat → List M3
  | 0, _, _, _, _ => []
  | f + 1, alo, ahi, blo, bhi =>
    if (fl xs ys alo ahi blo bhi).2.2 = 0 then [] else
      (if alo < (fl xs ys alo ahi blo bhi).1 ∧ blo < (fl xs ys alo ahi blo bhi).2.1 then mb f alo (fl xs ys alo ahi blo bhi).1 blo (fl xs ys alo ahi blo bhi).2.1 else []) ++
      (fl xs ys alo ahi blo bhi ::
      (if (fl xs ys alo ahi blo bhi).1 + (fl xs ys alo ahi blo bhi).2.2 < ahi ∧ (fl xs ys alo ahi blo bhi).2.1 + (fl xs ys alo ahi blo bhi).2.2 < bhi then
        mb f ((fl xs ys alo ahi blo bhi).1 + (fl xs ys alo ahi blo bhi).2.2) ahi ((fl xs ys alo ahi blo bhi).2.1 + (fl xs ys alo ahi blo bhi).2.2) bhi else []))
/-- blocks follow one another from (i, j) up to (I, J), none is empty, and their texts are equal -/
def Chain (i j I J : Nat) : List M3 → Prop
  | [] => i ≤ I ∧ j ≤ J
  | b :: r => i ≤ b.1 ∧ j ≤ b.2.1 ∧ 0 < b.2.2 ∧ (∀ t, t < b.2.2 → el xs (b.1 + t) = el ys (b.2.1 + t)) ∧ Chain (b.1 + b.2.2) (b.2.1 + b.2.2) I J r
def nadj : List M3 → M3 → List M3
  | [], s => if 0 < s.2.2 then [s] else []
  | b :: r, s => if s.1 + s.2.2 = b.1 ∧ s.2.1 + s.2.2 = b.2.1 then nadj r (s.1, s.2.1, s.2.2 + b.2.2) else (if 0 < s.2.2 then [s] else []) ++ nadj r b
def blocks : List M3 := nadj (mb xs ys (xs.length + 1) 0 xs.length 0 ys.length) (0, 0, 0) ++ [(xs.length, ys.length, 0)]
end

section
variable {xs ys : List ByteArray}
theorem chain_le {I J : Nat} : ∀ {L : List M3} {i j : Nat}, Chain xs ys i j I J L → i ≤ I ∧ j ≤ J
  | [], _, _, h => h
  | b :: r, i, j, h => by
    obtain ⟨h1, h2, _, _, h5⟩ := h
    have := chain_le h5
    omega
theorem chain_app {I J : Nat} : ∀ {L R : List M3} {i j p q : Nat}, Chain xs ys i j p q L → (∀ i' j', i' ≤ p → j' ≤ q → Chain xs ys i' j' I J R) → Chain xs ys i j I J (L ++ R)
  | [], R, i, j, p, q, h, hR => hR i j h.1 h.2
  | b :: r, R, i, j, p, q, h, hR => ⟨h.1, h.2.1, h.2.2.1, h.2.2.2.1, chain_app h.2.2.2.2 hR⟩
theorem mb_chain : ∀ (f alo ahi blo bhi : Nat), alo ≤ ahi → blo ≤ bhi → Chain xs ys alo blo ahi bhi (mb xs ys f alo ahi blo bhi)
  | 0, _, _, _, _, h1, h2 => ⟨h1, h2⟩
  | f + 1, alo, ahi, blo, bhi, h1, h2 => by
    have hf := fl_fits (xs := xs) (ys := ys) h1 h2
    unfold mb
    generalize fl xs ys alo ahi blo bhi = b at *
    obtain ⟨i, j, k⟩ := b
    obtain ⟨f1, f2, f3, f4, f5⟩ := hf
    simp only at f1 f2 f3 f4 f5 ⊢
    split
    · exact ⟨h1, h2⟩
    · rename_i hk
      have hrest : Chain xs ys (i + k) (j + k) ahi bhi (if i + k < ahi ∧ j + k < bhi then mb xs ys f (i + k) ahi (j + k) bhi else []) := by
        split
        · exact mb_chain f _ _ _ _ f2 f4
        · exact ⟨f2, f4⟩
      refine chain_app (p := i) (q := j) ?_ ?_
      · split
        · exact mb_chain f _ _ _ _ f1 f3
        · exact ⟨f1, f3⟩
      · intro i' j' h3 h4
        exact ⟨h3, h4, by show 0 < k; omega, f5, hrest⟩
theorem nadj_chain {I J : Nat} : ∀ {L : List M3} {s : M3} {i j : Nat}, i ≤ s.1 → j ≤ s.2.1 → (∀ t, t < s.2.2 → el xs (s.1 + t) = el ys (s.2.1 + t)) → Chain xs ys (s.1 + s.2.2) (s.2.1 + s.2.2) I J L → Chain xs ys i j I J (nadj L s)
  | [], s, i, j, h1, h2, h3, h4 => by
    unfold nadj
    have := chain_le h4
    split
    · rename_i hk
      exact ⟨h1, h2, hk, h3, h4⟩
    · exact ⟨by omega, by omega⟩
  | b :: r, s, i, j, h1, h2, h3, h4 => by
    obtain ⟨g1, g2, g3, g4, g5⟩ := h4
    unfold nadj
    split
    · rename_i he
      refine nadj_chain h1 h2 ?_ ?_
      · intro t ht
        by_cases hlt : t < s.2.2
        · exact h3 t hlt
        · have := g4 (t - s.2.2) (by have : t < s.2.2 + b.2.2 := ht; omega)
          rw [show b.1 + (t - s.2.2) = s.1 + t by omega, show b.2.1 + (t - s.2.2) = s.2.1 + t by omega] at this
          exact this
      · show Chain xs ys (s.1 + (s.2.2 + b.2.2)) (s.2.1 + (s.2.2 + b.2.2)) I J r
        rw [show s.1 + (s.2.2 + b.2.2) = b.1 + b.2.2 by omega, show s.2.1 + (s.2.2 + b.2.2) = b.2.1 + b.2.2 by omega]
        exact g5
    · split
      · rename_i hk
        exact ⟨h1, h2, hk, h3, nadj_chain g1 g2 g4 g5⟩
      · exact nadj_chain (by omega) (by omega) g4 g5
theorem blocks_chain : Chain xs ys 0 0 xs.length ys.length (nadj (mb xs ys (xs.length + 1) 0 xs.length 0 ys.length) (0, 0, 0)) :=
  nadj_chain (Nat.le_refl _) (Nat.le_refl _) (fun t h => absurd h (by simp)) (mb_chain _ _ _ _ _ (Nat.zero_le _) (Nat.zero_le _))
theorem mb_fuel : ∀ (f g alo ahi blo bhi : Nat), alo ≤ ahi → blo ≤ bhi → ahi - alo ≤ f → ahi - alo ≤ g → mb xs ys f alo ahi blo bhi = mb xs ys g alo ahi blo bhi := by
  intro f
  induction f with
  | zero =>
    intro g alo ahi blo bhi h1 h2 h3 h4
    have e : alo = ahi := by omega
    subst e
    cases g with
    | zero => rfl
    | succ g =>
      have hf := fl_fits (xs := xs) (ys := ys) h1 h2
      have : (fl xs ys alo alo blo bhi).2.2 = 0 := by have := hf.1; have := hf.2.1; omega
      unfold mb
      rw [if_pos this]
  | succ f ih =>
    intro g alo ahi blo bhi h1 h2 h3 h4
    have hf := fl_fits (xs := xs) (ys := ys) h1 h2
    obtain ⟨f1, f2, f3, f4, _⟩ := hf
    cases g with
    | zero =>
      have : (fl xs ys alo ahi blo bhi).2.2 = 0 := by omega
      unfold mb
      rw [if_pos this]
    | succ g =>
      unfold mb
      generalize fl xs ys alo ahi blo bhi = b at *
      obtain ⟨i, j, k⟩ := b
      simp only at f1 f2 f3 f4 ⊢
      by_cases hk : k = 0
      · rw [if_pos hk, if_pos hk]
      · rw [if_neg hk, if_neg hk, ih g alo i blo j f1 f3 (by omega) (by omega), ih g (i + k) ahi (j + k) bhi f2 f4 (by omega) (by omega)]
end

end Go.Proofs.YtkmfedmiaannfaaDoor.Df
