/- Descriptors, plain: the fitted pairs, sorted names, the identity and the dimension. -/
import Derived.Test.YtlolomodcbkblaaGreatDoorFpp
import Derived.Sort.KeysCollected
set_option linter.unusedVariables false
set_option linter.unusedSimpArgs false
namespace Go.Proofs.YtlolomodcbkblaaGreatDoor.Nd
open Fp

abbrev L8 := List UInt8
def dl (s : ByteArray) : L8 := s.data.toList
def mkB (l : L8) : ByteArray := ⟨l.toArray⟩
theorem mk_dl (s : ByteArray) : mkB (dl s) = s := by unfold mkB dl; simp
theorem dl_mk (l : L8) : dl (mkB l) = l := by unfold mkB dl; simp
theorem dl_inj {s t : ByteArray} (h : dl s = dl t) : s = t := by rw [← mk_dl s, ← mk_dl t, h]
theorem bytesLess_lt : ∀ (x y : List UInt8), Op.bytesLess x y = decide (x < y)
  | [], [] => by simp [Op.bytesLess]
  | _ :: _, [] => by simp [Op.bytesLess]
  | [], _ :: _ => by simp [Op.bytesLess]
  | a :: x, b :: y => by
    rw [Op.bytesLess, bytesLess_lt x y]
    simp only [List.cons_lt_cons_iff]
    by_cases h1 : a < b <;> by_cases h2 : a = b <;> by_cases h3 : x < y <;> simp [h1, h2, h3]
theorem bl_iff (x y : ByteArray) : bl x y = true ↔ dl x < dl y := by
  unfold bl
  rw [bytesLess_lt, Lib.toList_data, Lib.toList_data, decide_eq_true_eq]; rfl
theorem bl_irr (x : ByteArray) : bl x x = false := by
  cases h : bl x x with
  | false => rfl
  | true => exact absurd ((bl_iff x x).1 h) (List.lt_irrefl _)
theorem bl_trans {x y z : ByteArray} (h1 : bl x y = true) (h2 : bl y z = true) : bl x z = true := (bl_iff x z).2 (List.lt_trans ((bl_iff x y).1 h1) ((bl_iff y z).1 h2))
theorem bl_tot {x y : ByteArray} (h1 : bl x y = false) (h2 : x ≠ y) : bl y x = true := by
  rw [bl_iff]
  have h3 : ¬ dl x < dl y := fun h => by rw [(bl_iff x y).2 h] at h1; cases h1
  rcases List.le_total (dl x) (dl y) with h | h
  · by_cases e : dl y < dl x
    · exact e
    · exact absurd (dl_inj (List.le_antisymm h (List.not_lt.1 h3))) h2
  · by_cases e : dl y < dl x
    · exact e
    · exact absurd (dl_inj (List.le_antisymm (List.not_lt.1 e) h)) h2

/-- the last value of a name -/
def lastV (L : List P2) (k : ByteArray) : Option ByteArray := L.foldl (fun o p => if p.1 = k then some p.2 else o) none
theorem lastV_snoc (L : List P2) (p : P2) (k : ByteArray) : lastV (L ++ [p]) k = if p.1 = k then some p.2 else lastV L k := by
  unfold lastV; rw [List.foldl_append]; rfl
abbrev Srt (F : List P2) : Prop := F.Pairwise (fun p q => bl p.1 q.1 = true)
theorem ins_keys (p : P2) : ∀ (F : List P2), (∀ k, k ∈ (ins p F).map (·.1) ↔ k = p.1 ∨ k ∈ F.map (·.1))
  | [] => fun k => by simp [ins]
  | q :: r => fun k => by
    have ih := ins_keys p r
    unfold ins
    by_cases h1 : bl q.1 p.1 = true
    · rw [if_pos h1, List.map_cons, List.mem_cons, ih k, List.map_cons, List.mem_cons]
      constructor
      · rintro (h | h | h) <;> simp [h]
      · rintro (h | h | h) <;> simp [h]
    · rw [if_neg h1]
      by_cases h2 : eqS q.1 p.1 = true
      · rw [if_pos h2]
        have := (eqS_iff _ _).1 h2
        simp only [List.map_cons, List.mem_cons, this]
        constructor
        · rintro (h | h) <;> simp [h]
        · rintro (h | h | h) <;> simp [h]
      · rw [if_neg h2]; simp
theorem ins_srt (p : P2) : ∀ {F : List P2}, Srt F → Srt (ins p F)
  | [], _ => by simp [ins, Srt]
  | q :: r, h => by
    rw [Srt, List.pairwise_cons] at h
    unfold ins
    by_cases h1 : bl q.1 p.1 = true
    · rw [if_pos h1, Srt, List.pairwise_cons]
      refine ⟨fun x hx => ?_, ins_srt p h.2⟩
      have hk := (ins_keys p r x.1).1 (List.mem_map.2 ⟨x, hx, rfl⟩)
      rcases hk with hk | hk
      · rw [hk]; exact h1
      · obtain ⟨y, hy, he⟩ := List.mem_map.1 hk
        rw [← he]; exact h.1 y hy
    · rw [if_neg h1]
      by_cases h2 : eqS q.1 p.1 = true
      · rw [if_pos h2, Srt, List.pairwise_cons]
        exact ⟨fun x hx => h.1 x hx, h.2⟩
      · rw [if_neg h2, Srt, List.pairwise_cons, List.pairwise_cons]
        have hpq : bl p.1 q.1 = true := bl_tot (by simpa using h1) (fun e => h2 ((eqS_iff _ _).2 e))
        refine ⟨fun x hx => ?_, h.1, h.2⟩
        rcases List.mem_cons.1 hx with rfl | hx
        · exact hpq
        · exact bl_trans hpq (h.1 x hx)
theorem ins_mem (p : P2) : ∀ {F : List P2}, Srt F → ∀ q, q ∈ ins p F ↔ q = p ∨ (q ∈ F ∧ q.1 ≠ p.1)
  | [], _, q => by simp [ins]
  | x :: r, h, q => by
    rw [Srt, List.pairwise_cons] at h
    have ih := ins_mem p h.2 q
    unfold ins
    by_cases h1 : bl x.1 p.1 = true
    · have hx : x.1 ≠ p.1 := fun e => by rw [e, bl_irr] at h1; cases h1
      rw [if_pos h1, List.mem_cons, ih, List.mem_cons]
      constructor
      · rintro (h | h | h)
        · exact Or.inr ⟨Or.inl h, by rw [h]; exact hx⟩
        · exact Or.inl h
        · exact Or.inr ⟨Or.inr h.1, h.2⟩
      · rintro (h | ⟨h | h, h'⟩)
        · exact Or.inr (Or.inl h)
        · exact Or.inl h
        · exact Or.inr (Or.inr ⟨h, h'⟩)
    · rw [if_neg h1]
      by_cases h2 : eqS x.1 p.1 = true
      · have e := (eqS_iff _ _).1 h2
        rw [if_pos h2, List.mem_cons, List.mem_cons]
        have hp : (x.1, p.2) = p := by rw [e]
        rw [hp]
        constructor
        · rintro (h3 | h3)
          · exact Or.inl h3
          · refine Or.inr ⟨Or.inr h3, fun e2 => ?_⟩
            have := h.1 q h3
            rw [e2, e, bl_irr] at this
            cases this
        · rintro (h3 | ⟨h3 | h3, h4⟩)
          · exact Or.inl h3
          · exact absurd (by rw [h3]; exact e) h4
          · exact Or.inr h3
      · rw [if_neg h2, List.mem_cons]
        have hpx : bl p.1 x.1 = true := bl_tot (by simpa using h1) (fun e => h2 ((eqS_iff _ _).2 e))
        constructor
        · rintro (h3 | h3)
          · exact Or.inl h3
          · refine Or.inr ⟨h3, fun e2 => ?_⟩
            have h5 : bl p.1 q.1 = true := by
              rcases List.mem_cons.1 h3 with rfl | h3
              · exact hpx
              · exact bl_trans hpx (h.1 q h3)
            rw [e2, bl_irr] at h5
            cases h5
        · rintro (h3 | ⟨h3, _⟩)
          · exact Or.inl h3
          · exact Or.inr h3
theorem snoc_ind {α : Type} {P : List α → Prop} (h0 : P []) (hs : ∀ L p, P L → P (L ++ [p])) (L : List α) : P L := by
  have gen : ∀ (n : Nat) (L : List α), L.length = n → P L := by
    intro n
    induction n with
    | zero => intro L h; rw [List.length_eq_zero_iff.1 h]; exact h0
    | succ n ih =>
      intro L h
      have hne : L ≠ [] := by intro e; rw [e] at h; simp at h
      rw [← List.dropLast_concat_getLast hne]
      exact hs _ _ (ih _ (by simp; omega))
  exact gen _ L rfl
theorem fit_srt (L : List P2) : Srt (fit L) := by
  refine snoc_ind (P := fun L => Srt (fit L)) (by simp [fit, Srt]) (fun L p h => ?_) L
  show Srt (fit (L ++ [p]))
  rw [fit_snoc]; exact ins_srt p h
theorem mem_fit (L : List P2) : ∀ q, q ∈ fit L ↔ lastV L q.1 = some q.2 := by
  refine snoc_ind (P := fun L => ∀ q, q ∈ fit L ↔ lastV L q.1 = some q.2) (by intro q; simp [fit, lastV]) (fun L p h q => ?_) L
  rw [fit_snoc, ins_mem p (fit_srt L), lastV_snoc, h q]
  by_cases e : p.1 = q.1
  · rw [if_pos e]
    constructor
    · rintro (h1 | h1)
      · rw [h1]
      · exact absurd e.symm h1.2
    · intro h1
      injection h1 with h1
      left
      obtain ⟨a, b⟩ := q
      obtain ⟨c, d⟩ := p
      simp only at e h1
      rw [e, h1]
  · rw [if_neg e]
    constructor
    · rintro (h1 | h1)
      · exact absurd (by rw [h1]) e
      · exact h1.1
    · intro h1
      exact Or.inr ⟨h1, fun e2 => e e2.symm⟩
theorem fit_key (L : List P2) (k : ByteArray) : k ∈ (fit L).map (·.1) ↔ (lastV L k).isSome = true := by
  rw [List.mem_map, Option.isSome_iff_exists]
  constructor
  · rintro ⟨q, hq, rfl⟩
    exact ⟨q.2, (mem_fit L q).1 hq⟩
  · rintro ⟨v, hv⟩
    exact ⟨(k, v), (mem_fit L (k, v)).2 hv, rfl⟩
theorem srt_nodup {F : List P2} (h : Srt F) : (F.map (·.1)).Nodup := by
  rw [List.nodup_iff_pairwise_ne, List.pairwise_map]
  refine h.imp fun h e => ?_
  rw [e, bl_irr] at h
  cases h

/-- texts, sorted -/
def sortB (ks : List ByteArray) : List ByteArray := ((ks.map dl).mergeSort leB).map mkB
theorem sortB_len (ks : List ByteArray) : (sortB ks).length = ks.length := by unfold sortB; simp
theorem sortB_perm (ks : List ByteArray) : (sortB ks).Perm ks := by
  unfold sortB
  have h := (List.mergeSort_perm (ks.map dl) leB).map mkB
  have e : (ks.map dl).map mkB = ks := by
    rw [List.map_map]
    conv => rhs; rw [← List.map_id ks]
    exact List.map_congr_left (fun s _ => mk_dl s)
  rw [e] at h
  exact h
theorem sortB_eq {ks ks' : List ByteArray} (h : ks.Perm ks') : sortB ks = sortB ks' := by
  unfold sortB
  rw [mergeSort_of_perm (h.map dl)]
theorem leB_tr (a b c : L8) (h1 : leB a b = true) (h2 : leB b c = true) : leB a c = true := by simp only [leB, decide_eq_true_eq] at *; exact List.le_trans h1 h2
theorem leB_to (a b : L8) : (leB a b || leB b a) = true := by simp only [leB, Bool.or_eq_true, decide_eq_true_eq]; exact List.le_total a b
/-- a strictly rising list is its own sorted list -/
theorem sortB_self {ks : List ByteArray} (h : ks.Pairwise (fun a b => bl a b = true)) : sortB ks = ks := by
  unfold sortB
  have h1 : (ks.map dl).Pairwise (fun a b => leB a b = true) := by
    rw [List.pairwise_map]
    refine h.imp fun h => ?_
    simp only [leB, decide_eq_true_eq]
    exact List.le_of_lt ((bl_iff _ _).1 h)
  rw [List.mergeSort_of_pairwise h1, List.map_map]
  conv => rhs; rw [← List.map_id ks]
  exact List.map_congr_left (fun s _ => mk_dl s)
/-- the map's keys, in any order, sorted: the fitted pairs' names -/
theorem sort_keys {L : List P2} {ks : List ByteArray} (hn : ks.Nodup) (hk : ∀ k, k ∈ ks ↔ (lastV L k).isSome = true) : sortB ks = (fit L).map (·.1) := by
  have hp : ks.Perm ((fit L).map (·.1)) := (List.perm_ext_iff_of_nodup hn (srt_nodup (fit_srt L))).2 fun k => by rw [hk, fit_key]
  rw [sortB_eq hp]
  exact sortB_self (List.pairwise_map.2 (fit_srt L))

/-- texts, each closed by the separator -/
def seps (l : List ByteArray) : L8 := l.flatMap fun x => dl x ++ [255]
def idOf (nm : ByteArray) (F : List P2) : L8 := seps (nm :: F.map (·.2))
def dollar (v : ByteArray) : ByteArray := mkB (36 :: dl v)
def dimOf (hp un : ByteArray) (V : List ByteArray) (F : List P2) : L8 := dl hp ++ [255] ++ (dl un ++ [255]) ++ seps (sortB (F.map (·.1) ++ V.map dollar))
theorem seps_app (a b : List ByteArray) : seps (a ++ b) = seps a ++ seps b := by unfold seps; rw [List.flatMap_append]
theorem seps_cons (x : ByteArray) (l : List ByteArray) : seps (x :: l) = dl x ++ 255 :: seps l := by unfold seps; rw [List.flatMap_cons]; simp
theorem seps_take_le (l : List ByteArray) (k : Nat) : (seps (l.take k)).length ≤ (seps l).length := by
  have h : seps l = seps (l.take k) ++ seps (l.drop k) := by rw [← seps_app, List.take_append_drop]
  rw [h, List.length_append]
  omega
theorem seps_snoc (l : List ByteArray) (x : ByteArray) : seps (l ++ [x]) = seps l ++ dl x ++ [255] := by rw [seps_app]; simp [seps]
def Clean (l : List ByteArray) : Prop := ∀ x ∈ l, (255 : UInt8) ∉ dl x
theorem cut_at : ∀ (a b : L8) (s t : L8), (255 : UInt8) ∉ a → (255 : UInt8) ∉ b → a ++ 255 :: s = b ++ 255 :: t → a = b ∧ s = t
  | [], [], s, t, _, _, h => by simp at h; exact ⟨rfl, h⟩
  | [], y :: b, s, t, _, hb, h => by
    simp at h
    exact absurd (by rw [h.1]; simp) hb
  | x :: a, [], s, t, ha, _, h => by
    simp at h
    exact absurd (by rw [← h.1]; simp) ha
  | x :: a, y :: b, s, t, ha, hb, h => by
    simp only [List.cons_append, List.cons.injEq] at h
    have := cut_at a b s t (fun h => ha (by simp [h])) (fun h => hb (by simp [h])) h.2
    exact ⟨by rw [h.1, this.1], this.2⟩
theorem seps_inj : ∀ {a b : List ByteArray}, Clean a → Clean b → seps a = seps b → a = b
  | [], [], _, _, _ => rfl
  | [], y :: b, _, _, h => by rw [seps_cons] at h; simp [seps] at h
  | x :: a, [], _, _, h => by rw [seps_cons] at h; simp [seps] at h
  | x :: a, y :: b, ha, hb, h => by
    rw [seps_cons, seps_cons] at h
    obtain ⟨h1, h2⟩ := cut_at _ _ _ _ (ha x (by simp)) (hb y (by simp)) h
    rw [dl_inj h1, seps_inj (fun z hz => ha z (by simp [hz])) (fun z hz => hb z (by simp [hz])) h2]
theorem id_iff {n1 n2 : ByteArray} {F1 F2 : List P2} (h1 : Clean (n1 :: F1.map (·.2))) (h2 : Clean (n2 :: F2.map (·.2))) : idOf n1 F1 = idOf n2 F2 ↔ n1 = n2 ∧ F1.map (·.2) = F2.map (·.2) := by
  unfold idOf
  constructor
  · intro h
    have := seps_inj h1 h2 h
    simp only [List.cons.injEq] at this
    exact this
  · rintro ⟨rfl, h⟩
    rw [h]

end Go.Proofs.YtlolomodcbkblaaGreatDoor.Nd
