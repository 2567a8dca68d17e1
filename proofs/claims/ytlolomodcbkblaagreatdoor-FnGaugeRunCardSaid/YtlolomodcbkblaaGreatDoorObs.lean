/- Objects of a call's own, each in its own blocks: what turns one keeps the others. -/
import Derived.Test.YtlolomodcbkblaaGreatDoorSs
import Derived.Maps.Own
import Derived.Maps.AppendAt
import Derived.Below
set_option linter.unusedVariables false
set_option linter.unusedSimpArgs false
namespace Go.Proofs.YtlolomodcbkblaaGreatDoor.Obs
open Go.RowKit Go.ChangeShapes Go.WideShapes

/-- an object: its blocks, what holds of it; what turns none of its blocks keeps it -/
structure Ob where
  bs : List Nat
  P : World → Prop
  stab : ∀ {w w' : World} {row : Option Nat}, P w → (∀ b ∈ bs, b < w.heap.size) → w.grownBy w' row → (∀ b ∈ bs, some b ≠ row) → P w'
abbrev blocks (os : List Ob) : List Nat := os.flatMap (·.bs)
structure Sts (B : Nat) (w0 : World) (os : List Ob) (w : World) : Prop where
  each : ∀ o ∈ os, o.P w
  nd : (blocks os).Nodup
  ge : ∀ b ∈ blocks os, B ≤ b ∧ b < w.heap.size
  bel : Below B w0 w
section
variable {B : Nat} {w0 w w' : World} {os l r : List Ob} {o o' : Ob}
theorem grown_below (k : Below w.heap.size w w') : w.grownBy w' none := ⟨k.os, k.tape, k.output, k.size, fun i hi _ => k.block i hi⟩
theorem in_blocks {b : Nat} (ho : o ∈ os) (hb : b ∈ o.bs) : b ∈ blocks os := List.mem_flatMap.2 ⟨o, ho, hb⟩
theorem Sts.below (h : Sts B w0 os w) (hB : B ≤ w.heap.size) (k : Below w.heap.size w w') : Sts B w0 os w' :=
  ⟨fun o ho => o.stab (h.each o ho) (fun b hb => (h.ge b (in_blocks ho hb)).2) (grown_below k) (fun b _ => by simp), h.nd, fun b hb => ⟨(h.ge b hb).1, Nat.lt_of_lt_of_le (h.ge b hb).2 k.size⟩, h.bel.trans (k.mono hB)⟩
theorem Sts.alloc (h : Sts B w0 os w) (hB : B ≤ w.heap.size) (x : Obj) : Sts B w0 os (w.alloc x) := h.below hB ((Below.refl _ _).alloc (Nat.le_refl _) x)
theorem blocks_mid : blocks (l ++ o :: r) = blocks l ++ (o.bs ++ blocks r) := by simp [blocks]
/-- ONE OBJECT TURNS: its blocks stay, or are new -/
theorem Sts.set {row : Option Nat} (h : Sts B w0 (l ++ o :: r) w) (hB : B ≤ w.heap.size) (k : w.grownBy w' row) (hrow : ∀ b, row = some b → b ∈ o.bs ∨ w.heap.size ≤ b) (hP : o'.P w') (hbs : ∀ b ∈ o'.bs, b ∈ o.bs ∨ (w.heap.size ≤ b ∧ b < w'.heap.size)) (hnd : o'.bs.Nodup) : Sts B w0 (l ++ o' :: r) w' := by
  have nd := h.nd
  rw [blocks_mid, List.nodup_append, List.nodup_append] at nd
  obtain ⟨n1, ⟨n2, n3, n4⟩, n5⟩ := nd
  have lt : ∀ b ∈ blocks (l ++ o :: r), b < w.heap.size := fun b hb => (h.ge b hb).2
  have ml : ∀ b ∈ blocks l, b ∈ blocks (l ++ o :: r) := fun b hb => by rw [blocks_mid]; exact List.mem_append.2 (Or.inl hb)
  have mo : ∀ b ∈ o.bs, b ∈ blocks (l ++ o :: r) := fun b hb => by rw [blocks_mid]; exact List.mem_append.2 (Or.inr (List.mem_append.2 (Or.inl hb)))
  have mr : ∀ b ∈ blocks r, b ∈ blocks (l ++ o :: r) := fun b hb => by rw [blocks_mid]; exact List.mem_append.2 (Or.inr (List.mem_append.2 (Or.inr hb)))
  have far : ∀ b, b ∈ blocks l ∨ b ∈ blocks r → some b ≠ row ∧ b ∉ o'.bs := by
    intro b hb
    have hlt : b < w.heap.size := by rcases hb with hb | hb; exact lt b (ml b hb); exact lt b (mr b hb)
    have hno : b ∉ o.bs := fun hm => by
      rcases hb with hb | hb
      · exact n5 b hb b (List.mem_append.2 (Or.inl hm)) rfl
      · exact n4 b hm b hb rfl
    refine ⟨fun e => ?_, fun hm => ?_⟩
    · rcases hrow b e.symm with h1 | h1
      · exact hno h1
      · omega
    · rcases hbs b hm with h1 | h1
      · exact hno h1
      · omega
  refine ⟨fun x hx => ?_, ?_, fun b hb => ?_, ?_⟩
  · rcases List.mem_append.1 hx with hx | hx
    · exact x.stab (h.each x (List.mem_append.2 (Or.inl hx))) (fun b hb => lt b (ml b (in_blocks hx hb))) k (fun b hb => (far b (Or.inl (in_blocks hx hb))).1)
    · rcases List.mem_cons.1 hx with rfl | hx
      · exact hP
      · exact x.stab (h.each x (List.mem_append.2 (Or.inr (List.mem_cons_of_mem _ hx)))) (fun b hb => lt b (mr b (in_blocks hx hb))) k (fun b hb => (far b (Or.inr (in_blocks hx hb))).1)
  · rw [blocks_mid, List.nodup_append, List.nodup_append]
    refine ⟨n1, ⟨hnd, n3, fun a ha b hb e => ?_⟩, fun a ha b hb e => ?_⟩
    · subst e; exact (far a (Or.inr hb)).2 ha
    · subst e
      rcases List.mem_append.1 hb with hb | hb
      · exact (far a (Or.inl ha)).2 hb
      · exact n5 a ha a (List.mem_append.2 (Or.inr hb)) rfl
  · rw [blocks_mid] at hb
    have old : b ∈ blocks (l ++ o :: r) → B ≤ b ∧ b < w'.heap.size := fun hm => ⟨(h.ge b hm).1, Nat.lt_of_lt_of_le (lt b hm) k.size⟩
    rcases List.mem_append.1 hb with hb | hb
    · exact old (ml b hb)
    · rcases List.mem_append.1 hb with hb | hb
      · rcases hbs b hb with h1 | h1
        · exact old (mo b h1)
        · exact ⟨Nat.le_trans hB h1.1, h1.2⟩
      · exact old (mr b hb)
  · refine h.bel.grown k hB fun j hj => ?_
    rcases hrow j hj with h1 | h1
    · exact (h.ge j (mo j h1)).1
    · exact Nat.le_trans hB h1
/-- a new object -/
theorem Sts.add {row : Option Nat} (h : Sts B w0 os w) (hB : B ≤ w.heap.size) (k : w.grownBy w' row) (hrow : ∀ b, row = some b → w.heap.size ≤ b) (hP : o'.P w') (hbs : ∀ b ∈ o'.bs, w.heap.size ≤ b ∧ b < w'.heap.size) (hnd : o'.bs.Nodup) : Sts B w0 (os ++ [o']) w' := by
  have h0 : Sts B w0 (os ++ [(⟨[], fun _ => True, fun _ _ _ _ => trivial⟩ : Ob)]) w :=
    ⟨fun x hx => by rcases List.mem_append.1 hx with hx | hx; exact h.each x hx; rw [List.mem_singleton.1 hx]; trivial, by simpa [blocks] using h.nd, fun b hb => h.ge b (by simpa [blocks] using hb), h.bel⟩
  exact h0.set hB k (fun b hb => Or.inr (hrow b hb)) hP (fun b hb => Or.inr (hbs b hb)) hnd
theorem Sts.drop (h : Sts B w0 (l ++ o :: r) w) : Sts B w0 (l ++ r) w := by
  have nd := h.nd
  rw [blocks_mid, List.nodup_append, List.nodup_append] at nd
  obtain ⟨n1, ⟨n2, n3, n4⟩, n5⟩ := nd
  refine ⟨fun x hx => h.each x ?_, ?_, fun b hb => h.ge b ?_, h.bel⟩
  · rcases List.mem_append.1 hx with hx | hx
    · exact List.mem_append.2 (Or.inl hx)
    · exact List.mem_append.2 (Or.inr (List.mem_cons_of_mem _ hx))
  · have e : blocks (l ++ r) = blocks l ++ blocks r := by simp [blocks]
    rw [e, List.nodup_append]
    exact ⟨n1, n3, fun a ha b hb => n5 a ha b (List.mem_append.2 (Or.inr hb))⟩
  · rw [blocks_mid]
    have e : blocks (l ++ r) = blocks l ++ blocks r := by simp [blocks]
    rw [e] at hb
    rcases List.mem_append.1 hb with hb | hb
    · exact List.mem_append.2 (Or.inl hb)
    · exact List.mem_append.2 (Or.inr (List.mem_append.2 (Or.inr hb)))
theorem Sts.here (h : Sts B w0 (l ++ o :: r) w) : o.P w := h.each o (by simp)
/-- two objects have no block in common -/
theorem Sts.apart {m : List Ob} (h : Sts B w0 (l ++ o :: (m ++ o' :: r)) w) {b b' : Nat} (hb : b ∈ o.bs) (hb' : b' ∈ o'.bs) : b ≠ b' := by
  have nd := h.nd
  rw [blocks_mid, List.nodup_append, List.nodup_append] at nd
  obtain ⟨n1, ⟨n2, n3, n4⟩, n5⟩ := nd
  exact n4 b hb b' (by rw [blocks_mid]; exact List.mem_append.2 (Or.inr (List.mem_append.2 (Or.inl hb'))))
end

/-- a block known whole -/
def Whole (w : World) (g : Nat) (T : TypeId) (cells : Array Value) : Prop := w.heap[g]? = some (.cells cells T (0, 0))
theorem Whole.lt {w : World} {g : Nat} {T : TypeId} {cells : Array Value} (h : Whole w g T cells) : g < w.heap.size := (Array.getElem?_eq_some_iff.1 h).1
theorem Whole.cell {w : World} {g : Nat} {T : TypeId} {cells : Array Value} (h : Whole w g T cells) (i : Nat) : w.cell? ⟨g, i, none⟩ = cells[i]? := by
  unfold Whole at h
  simp [World.cell?, h]
theorem Whole.free {w : World} {g : Nat} {T : TypeId} {cells : Array Value} (h : Whole w g T cells) (i : Nat) : w.frozen? ⟨g, i, none⟩ = false := by
  unfold Whole at h
  simp [World.frozen?, h]
theorem Whole.made (w : World) (T : TypeId) (cells : Array Value) : Whole (w.alloc (.cells cells T)) w.heap.size T cells := heap_alloc_new w _
theorem Whole.put {w : World} {g : Nat} {T : TypeId} {cells : Array Value} (h : Whole w g T cells) (i : Nat) (u : Value) : Whole (w.setCell ⟨g, i, none⟩ u) g T (cells.setIfInBounds i u) := by
  unfold Whole at h ⊢
  simp [World.setCell, Array.getElem?_modify, h]
def obBlock (g : Nat) (T : TypeId) (cells : Array Value) : Ob := ⟨[g], fun w => Whole w g T cells, fun h hl k hn => (k.block g (hl g (by simp)) (hn g (by simp))).trans h⟩
def obRow (B : Nat) (e : TypeId) (v : Value) (n : Nat) (xs : List Value) : Ob :=
  ⟨v.ownBlock.toList, fun w => w.ownsRow B e 1 v n xs, fun h hl k hn => h.kept k (by cases hv : v.ownBlock with | none => exact Or.inl rfl | some b => exact Or.inr (hn b (by rw [hv]; simp)))⟩
def obMap {H : Type} (P : Program) (k : TypeId) (R : Value → Option (DataW H × List MemPlace)) (b n : Nat) (D : DataW H) : Ob := ⟨[b], fun w => w.ownsMap P k R b n D, fun h hl g hn => h.kept g (hn b (by simp))⟩
/-- a block kept apart -/
def obApart (b : Nat) : Ob := ⟨[b], fun _ => True, fun _ _ _ _ => trivial⟩
theorem row_nodup (v : Value) : v.ownBlock.toList.Nodup := by cases v.ownBlock <;> simp
section
variable {B : Nat} {w0 w w' : World} {l r : List Ob}
theorem put_grown (w : World) (g i : Nat) (u : Value) : w.grownBy (w.setCell ⟨g, i, none⟩ u) (some g) := ⟨rfl, rfl, rfl, by simp [World.setCell], fun j hj hne => Below.heap_setCell w ⟨g, i, none⟩ _ j (by rintro rfl; exact hne rfl)⟩
/-- a store into a block -/
theorem Sts.put {g : Nat} {T : TypeId} {cells : Array Value} (h : Sts B w0 (l ++ obBlock g T cells :: r) w) (hB : B ≤ w.heap.size) (i : Nat) (u : Value) : Sts B w0 (l ++ obBlock g T (cells.setIfInBounds i u) :: r) (w.setCell ⟨g, i, none⟩ u) := by
  have hh : Whole w g T cells := h.here
  exact h.set hB (put_grown w g i u) (fun b e => Or.inl (by injection e with e; subst e; exact List.mem_singleton.2 rfl)) (o' := obBlock g T (cells.setIfInBounds i u)) (hh.put i u) (fun b hb => Or.inl hb) (by simp [obBlock])
/-- a row turned, as 'append' leaves it -/
theorem Sts.row {e n n' : Nat} {v v' : Value} {xs xs' : List Value} (h : Sts B w0 (l ++ obRow B e v n xs :: r) w) (hB : B ≤ w.heap.size) (k : w.grownBy w' v.ownBlock) (ho : w'.ownsRow B e 1 v' n' xs') (hloc : v'.ownBlock = v.ownBlock ∨ ∀ b, v'.ownBlock = some b → w.heap.size ≤ b) : Sts B w0 (l ++ obRow B e v' n' xs' :: r) w' := by
  refine h.set hB k (fun b e => Or.inl (by show b ∈ v.ownBlock.toList; rw [e]; simp)) (o' := obRow B e v' n' xs') ho (fun b hb => ?_) (row_nodup v')
  have hb' : v'.ownBlock = some b := Option.mem_toList.1 hb
  rcases hloc with hl | hl
  · left
    show b ∈ v.ownBlock.toList
    rw [← hl, hb']; simp
  · exact Or.inr ⟨hl b hb', (ho.lt b hb').2⟩
theorem loc_at {w : World} {v v' : Value} (h : v'.ownBlock = v.ownBlock ∨ v'.ownBlock = some w.heap.size) : v'.ownBlock = v.ownBlock ∨ ∀ b, v'.ownBlock = some b → w.heap.size ≤ b := by
  rcases h with h | h
  · exact Or.inl h
  · exact Or.inr (fun b hb => by rw [h] at hb; injection hb with hb; omega)
end

theorem own_set {w : World} {B e g n cap j : Nat} {xs : List Value} (h : w.ownsRow B e 1 (.slice (some ⟨g, 0, none⟩) n cap) n xs) (hj : j < n) (u : Value) : (w.setCell ⟨g, j, none⟩ u).ownsRow B e 1 (.slice (some ⟨g, 0, none⟩) n cap) n (xs.set j u) := by
  refine ⟨by rw [List.length_set]; exact h.1, ?_⟩
  rcases h.2 with ⟨h1, h2⟩ | ⟨g', cap', cur, h1, h2, h3, h4, h5, h6, h7⟩
  · cases h1
  · injection h1 with e1 e2 e3
    injection e1 with e1
    injection e1 with e1 _
    subst e1 e3
    refine Or.inr ⟨g, cap, cur.setIfInBounds j u, rfl, h2, ?_, h4, h5, by simpa using h6, ?_⟩
    · simp [World.setCell, Array.getElem?_modify, h3]
    · rw [← h7, Array.toList_setIfInBounds, List.take_set]
/-- a store into a row -/
theorem Sts.setRow {B : Nat} {w0 w : World} {l r : List Ob} {e g n cap j : Nat} {xs : List Value} (h : Sts B w0 (l ++ obRow B e (.slice (some ⟨g, 0, none⟩) n cap) n xs :: r) w) (hB : B ≤ w.heap.size) (hj : j < n) (u : Value) :
    Sts B w0 (l ++ obRow B e (.slice (some ⟨g, 0, none⟩) n cap) n (xs.set j u) :: r) (w.setCell ⟨g, j, none⟩ u) := by
  have hh : w.ownsRow B e 1 (.slice (some ⟨g, 0, none⟩) n cap) n xs := h.here
  exact h.set hB (put_grown w g j u) (fun b e => Or.inl (by injection e with e; subst e; simp [obRow, Value.ownBlock])) (o' := obRow B e (.slice (some ⟨g, 0, none⟩) n cap) n (xs.set j u)) (own_set hh hj u) (fun b hb => Or.inl hb) (row_nodup (.slice (some ⟨g, 0, none⟩) n cap))

end Go.Proofs.YtlolomodcbkblaaGreatDoor.Obs
