/- Objects of a call's own, each in its own blocks: what turns one keeps the others. Descriptors: what a descriptor is in memory; the objects of NewDesc's call. -/
import Derived.Test.YtlolomodcbkblaaGreatDoorMg1
import Derived.Maps.Own
import Derived.Maps.AppendAt
import Derived.Below
import Derived.Test.YtlolomodcbkblaaGreatDoorNdm
import Derived.Maps.Views
import Derived.Maps.RangeWalk
import Derived.Sort.OwnSorted
set_option linter.unusedVariables false
set_option linter.unusedSimpArgs false
namespace Go.Proofs.YtlolomodcbkblaaGreatDoor.Obs
open Go.RowKit Go.ChangeShapes Go.WideShapes

/-- an object: its blocks, what holds of it; what turns none of its blocks keeps it -/
structure Ob where
  bs : List Nat
  P : World → Prop
  stab : ∀ {w w' : World} {row : Option Nat}, P w → (∀ b ∈ bs, b < w.heap.size) → w.grownBy w' row → (∀ b ∈ bs, some b ≠ row) → P w'
abbrev blocks (os : List Ob) : List Nat := os.flatMap (·.bs)
structure Sts (B : Nat) (w0 : World) (os : List Ob) (w : World) : Prop where
  each : ∀ o ∈ os, o.P w
  nd : (blocks os).Nodup
  ge : ∀ b ∈ blocks os, B ≤ b ∧ b < w.heap.size
  bel : Below B w0 w
section
variable {B : Nat} {w0 w w' : World} {os l r : List Ob} {o o' : Ob}
theorem grown_below (k : Below w.heap.size w w') : w.grownBy w' none := ⟨k.os, k.tape, k.output, k.size, fun i hi _ => k.block i hi⟩
theorem in_blocks {b : Nat} (ho : o ∈ os) (hb : b ∈ o.bs) : b ∈ blocks os := List.mem_flatMap.2 ⟨o, ho, hb⟩
theorem Sts.below (h : Sts B w0 os w) (hB : B ≤ w.heap.size) (k : Below w.heap.size w w') : Sts B w0 os w' :=
  ⟨fun o ho => o.stab (h.each o ho) (fun b hb => (h.ge b (in_blocks ho hb)).2) (grown_below k) (fun b _ => by simp), h.nd, fun b hb => ⟨(h.ge b hb).1, Nat.lt_of_lt_of_le (h.ge b hb).2 k.size⟩, h.bel.trans (k.mono hB)⟩
theorem Sts.alloc (h : Sts B w0 os w) (hB : B ≤ w.heap.size) (x : Obj) : Sts B w0 os (w.alloc x) := h.below hB ((Below.refl _ _).alloc (Nat.le_refl _) x)
theorem blocks_mid : blocks (l ++ o :: r) = blocks l ++ (o.bs ++ blocks r) := by simp [blocks]
/-- ONE OBJECT TURNS: its blocks stay, or are new -/
theorem Sts.set {row : Option Nat} (h : Sts B w0 (l ++ o :: r) w) (hB : B ≤ w.heap.size) (k : w.grownBy w' row) (hrow : ∀ b, row = some b → b ∈ o.bs ∨ w.heap.size ≤ b) (hP : o'.P w') (hbs : ∀ b ∈ o'.bs, b ∈ o.bs ∨ (w.heap.size ≤ b ∧ b < w'.heap.size)) (hnd : o'.bs.Nodup) : Sts B w0 (l ++ o' :: r) w' := by
  have nd := h.nd
  rw [blocks_mid, List.nodup_append, List.nodup_append] at nd
  obtain ⟨n1, ⟨n2, n3, n4⟩, n5⟩ := nd
  have lt : ∀ b ∈ blocks (l ++ o :: r), b < w.heap.size := fun b hb => (h.ge b hb).2
  have ml : ∀ b ∈ blocks l, b ∈ blocks (l ++ o :: r) := fun b hb => by rw [blocks_mid]; exact List.mem_append.2 (Or.inl hb)
  have mo : ∀ b ∈ o.bs, b ∈ blocks (l ++ o :: r) := fun b hb => by rw [blocks_mid]; exact List.mem_append.2 (Or.inr (List.mem_append.2 (Or.inl hb)))
  have mr : ∀ b ∈ blocks r, b ∈ blocks (l ++ o :: r) := fun b hb => by rw [blocks_mid]; exact List.mem_append.2 (Or.inr (List.mem_append.2 (Or.inr hb)))
  have far : ∀ b, b ∈ blocks l ∨ b ∈ blocks r → some b ≠ row ∧ b ∉ o'.bs := by
    intro b hb
    have hlt : b < w.heap.size := by rcases hb with hb | hb; exact lt b (ml b hb); exact lt b (mr b hb)
    have hno : b ∉ o.bs := fun hm => by
      rcases hb with hb | hb
      · exact n5 b hb b (List.mem_append.2 (Or.inl hm)) rfl
      · exact n4 b hm b hb rfl
    refine ⟨fun e => ?_, fun hm => ?_⟩
    · rcases hrow b e.symm with h1 | h1
      · exact hno h1
      · omega
    · rcases hbs b hm with h1 | h1
      · exact hno h1
      · omega
  refine ⟨fun x hx => ?_, ?_, fun b hb => ?_, ?_⟩
  · rcases List.mem_append.1 hx with hx | hx
    · exact x.stab (h.each x (List.mem_append.2 (Or.inl hx))) (fun b hb => lt b (ml b (in_blocks hx hb))) k (fun b hb => (far b (Or.inl (in_blocks hx hb))).1)
    · rcases List.mem_cons.1 hx with rfl | hx
      · exact hP
      · exact x.stab (h.each x (List.mem_append.2 (Or.inr (List.mem_cons_of_mem _ hx)))) (fun b hb => lt b (mr b (in_blocks hx hb))) k (fun b hb => (far b (Or.inr (in_blocks hx hb))).1)
  · rw [blocks_mid, List.nodup_append, List.nodup_append]
    refine ⟨n1, ⟨hnd, n3, fun a ha b hb e => ?_⟩, fun a ha b hb e => ?_⟩
    · subst e; exact (far a (Or.inr hb)).2 ha
    · subst e
      rcases List.mem_append.1 hb with hb | hb
      · exact (far a (Or.inl ha)).2 hb
      · exact n5 a ha a (List.mem_append.2 (Or.inr hb)) rfl
  · rw [blocks_mid] at hb
    have old : b ∈ blocks (l ++ o :: r) → B ≤ b ∧ b < w'.heap.size := fun hm => ⟨(h.ge b hm).1, Nat.lt_of_lt_of_le (lt b hm) k.size⟩
    rcases List.mem_append.1 hb with hb | hb
    · exact old (ml b hb)
    · rcases List.mem_append.1 hb with hb | hb
      · rcases hbs b hb with h1 | h1
        · exact old (mo b h1)
        · exact ⟨Nat.le_trans hB h1.1, h1.2⟩
      · exact old (mr b hb)
  · refine h.bel.grown k hB fun j hj => ?_
    rcases hrow j hj with h1 | h1
    · exact (h.ge j (mo j h1)).1
    · exact Nat.le_trans hB h1
/-- a new object -/
theorem Sts.add {row : Option Nat} (h : Sts B w0 os w) (hB : B ≤ w.heap.size) (k : w.grownBy w' row) (hrow : ∀ b, row = some b → w.heap.size ≤ b) (hP : o'.P w') (hbs : ∀ b ∈ o'.bs, w.heap.size ≤ b ∧ b < w'.heap.size) (hnd : o'.bs.Nodup) : Sts B w0 (os ++ [o']) w' := by
  have h0 : Sts B w0 (os ++ [(⟨[], fun _ => True, fun _ _ _ _ => trivial⟩ : Ob)]) w :=
    ⟨fun x hx => by rcases List.mem_append.1 hx with hx | hx; exact h.each x hx; rw [List.mem_singleton.1 hx]; trivial, by simpa [blocks] using h.nd, fun b hb => h.ge b (by simpa [blocks] using hb), h.bel⟩
  exact h0.set hB k (fun b hb => Or.inr (hrow b hb)) hP (fun b hb => Or.inr (hbs b hb)) hnd
theorem Sts.drop (h : Sts B w0 (l ++ o :: r) w) : Sts B w0 (l ++ r) w := by
  have nd := h.nd
  rw [blocks_mid, List.nodup_append, List.nodup_append] at nd
  obtain ⟨n1, ⟨n2, n3, n4⟩, n5⟩ := nd
  refine ⟨fun x hx => h.each x ?_, ?_, fun b hb => h.ge b ?_, h.bel⟩
  · rcases List.mem_append.1 hx with hx | hx
    · exact List.mem_append.2 (Or.inl hx)
    · exact List.mem_append.2 (Or.inr (List.mem_cons_of_mem _ hx))
  · have e : blocks (l ++ r) = blocks l ++ blocks r := by simp [blocks]
    rw [e, List.nodup_append]
    exact ⟨n1, n3, fun a ha b hb => n5 a ha b (List.mem_append.2 (Or.inr hb))⟩
  · rw [blocks_mid]
    have e : blocks (l ++ r) = blocks l ++ blocks r := by simp [blocks]
    rw [e] at hb
    rcases List.mem_append.1 hb with hb | hb
    · exact List.mem_append.2 (Or.inl hb)
    · exact List.mem_append.2 (Or.inr (List.mem_append.2 (Or.inr hb)))
theorem Sts.here (h : Sts B w0 (l ++ o :: r) w) : o.P w := h.each o (by simp)
/-- two objects have no block in common -/
theorem Sts.apart {m : List Ob} (h : Sts B w0 (l ++ o :: (m ++ o' :: r)) w) {b b' : Nat} (hb : b ∈ o.bs) (hb' : b' ∈ o'.bs) : b ≠ b' := by
  have nd := h.nd
  rw [blocks_mid, List.nodup_append, List.nodup_append] at nd
  obtain ⟨n1, ⟨n2, n3, n4⟩, n5⟩ := nd
  exact n4 b hb b' (by rw [blocks_mid]; exact List.mem_append.2 (Or.inr (List.mem_append.2 (Or.inl hb'))))
end

/-- a block known whole -/
def Whole (w : World) (g : Nat) (T : TypeId) (cells : Array Value) : Prop := w.heap[g]? = some (.cells cells T (0, 0))
theorem Whole.lt {w : World} {g : Nat} {T : TypeId} {cells : Array Value} (h : Whole w g T cells) : g < w.heap.size := (Array.getElem?_eq_some_iff.1 h).1
theorem Whole.cell {w : World} {g : Nat} {T : TypeId} {cells : Array Value} (h : Whole w g T cells) (i : Nat) : w.cell? ⟨g, i, none⟩ = cells[i]? := by
  unfold Whole at h
  simp [World.cell?, h]
theorem Whole.free {w : World} {g : Nat} {T : TypeId} {cells : Array Value} (h : Whole w g T cells) (i : Nat) : w.frozen? ⟨g, i, none⟩ = false := by
  unfold Whole at h
  simp [World.frozen?, h]
theorem Whole.made (w : World) (T : TypeId) (cells : Array Value) : Whole (w.alloc (.cells cells T)) w.heap.size T cells := heap_alloc_new w _
theorem Whole.put {w : World} {g : Nat} {T : TypeId} {cells : Array Value} (h : Whole w g T cells) (i : Nat) (u : Value) : Whole (w.setCell ⟨g, i, none⟩ u) g T (cells.setIfInBounds i u) := by
  unfold Whole at h ⊢
  simp [World.setCell, Array.getElem?_modify, h]
def obBlock (g : Nat) (T : TypeId) (cells : Array Value) : Ob := ⟨[g], fun w => Whole w g T cells, fun h hl k hn => (k.block g (hl g (by simp)) (hn g (by simp))).trans h⟩
def obRow (B : Nat) (e : TypeId) (v : Value) (n : Nat) (xs : List Value) : Ob :=
  ⟨v.ownBlock.toList, fun w => w.ownsRow B e 1 v n xs, fun h hl k hn => h.kept k (by cases hv : v.ownBlock with | none => exact Or.inl rfl | some b => exact Or.inr (hn b (by rw [hv]; simp)))⟩
def obMap {H : Type} (P : Program) (k : TypeId) (R : Value → Option (DataW H × List MemPlace)) (b n : Nat) (D : DataW H) : Ob := ⟨[b], fun w => w.ownsMap P k R b n D, fun h hl g hn => h.kept g (hn b (by simp))⟩
/-- a block kept apart -/
def obApart (b : Nat) : Ob := ⟨[b], fun _ => True, fun _ _ _ _ => trivial⟩
theorem row_nodup (v : Value) : v.ownBlock.toList.Nodup := by cases v.ownBlock <;> simp
section
variable {B : Nat} {w0 w w' : World} {l r : List Ob}
theorem put_grown (w : World) (g i : Nat) (u : Value) : w.grownBy (w.setCell ⟨g, i, none⟩ u) (some g) := ⟨rfl, rfl, rfl, by simp [World.setCell], fun j hj hne => Below.heap_setCell w ⟨g, i, none⟩ _ j (by rintro rfl; exact hne rfl)⟩
/-- a store into a block -/
theorem Sts.put {g : Nat} {T : TypeId} {cells : Array Value} (h : Sts B w0 (l ++ obBlock g T cells :: r) w) (hB : B ≤ w.heap.size) (i : Nat) (u : Value) : Sts B w0 (l ++ obBlock g T (cells.setIfInBounds i u) :: r) (w.setCell ⟨g, i, none⟩ u) := by
  have hh : Whole w g T cells := h.here
  exact h.set hB (put_grown w g i u) (fun b e => Or.inl (by injection e with e; subst e; exact List.mem_singleton.2 rfl)) (o' := obBlock g T (cells.setIfInBounds i u)) (hh.put i u) (fun b hb => Or.inl hb) (by simp [obBlock])
/-- a row turned, as 'append' leaves it -/
theorem Sts.row {e n n' : Nat} {v v' : Value} {xs xs' : List Value} (h : Sts B w0 (l ++ obRow B e v n xs :: r) w) (hB : B ≤ w.heap.size) (k : w.grownBy w' v.ownBlock) (ho : w'.ownsRow B e 1 v' n' xs') (hloc : v'.ownBlock = v.ownBlock ∨ ∀ b, v'.ownBlock = some b → w.heap.size ≤ b) : Sts B w0 (l ++ obRow B e v' n' xs' :: r) w' := by
  refine h.set hB k (fun b e => Or.inl (by show b ∈ v.ownBlock.toList; rw [e]; simp)) (o' := obRow B e v' n' xs') ho (fun b hb => ?_) (row_nodup v')
  have hb' : v'.ownBlock = some b := Option.mem_toList.1 hb
  rcases hloc with hl | hl
  · left
    show b ∈ v.ownBlock.toList
    rw [← hl, hb']; simp
  · exact Or.inr ⟨hl b hb', (ho.lt b hb').2⟩
theorem loc_at {w : World} {v v' : Value} (h : v'.ownBlock = v.ownBlock ∨ v'.ownBlock = some w.heap.size) : v'.ownBlock = v.ownBlock ∨ ∀ b, v'.ownBlock = some b → w.heap.size ≤ b := by
  rcases h with h | h
  · exact Or.inl h
  · exact Or.inr (fun b hb => by rw [h] at hb; injection hb with hb; omega)
end

theorem own_set {w : World} {B e g n cap j : Nat} {xs : List Value} (h : w.ownsRow B e 1 (.slice (some ⟨g, 0, none⟩) n cap) n xs) (hj : j < n) (u : Value) : (w.setCell ⟨g, j, none⟩ u).ownsRow B e 1 (.slice (some ⟨g, 0, none⟩) n cap) n (xs.set j u) := by
  refine ⟨by rw [List.length_set]; exact h.1, ?_⟩
  rcases h.2 with ⟨h1, h2⟩ | ⟨g', cap', cur, h1, h2, h3, h4, h5, h6, h7⟩
  · cases h1
  · injection h1 with e1 e2 e3
    injection e1 with e1
    injection e1 with e1 _
    subst e1 e3
    refine Or.inr ⟨g, cap, cur.setIfInBounds j u, rfl, h2, ?_, h4, h5, by simpa using h6, ?_⟩
    · simp [World.setCell, Array.getElem?_modify, h3]
    · rw [← h7, Array.toList_setIfInBounds, List.take_set]
/-- a store into a row -/
theorem Sts.setRow {B : Nat} {w0 w : World} {l r : List Ob} {e g n cap j : Nat} {xs : List Value} (h : Sts B w0 (l ++ obRow B e (.slice (some ⟨g, 0, none⟩) n cap) n xs :: r) w) (hB : B ≤ w.heap.size) (hj : j < n) (u : Value) :
    Sts B w0 (l ++ obRow B e (.slice (some ⟨g, 0, none⟩) n cap) n (xs.set j u) :: r) (w.setCell ⟨g, j, none⟩ u) := by
  have hh : w.ownsRow B e 1 (.slice (some ⟨g, 0, none⟩) n cap) n xs := h.here
  exact h.set hB (put_grown w g j u) (fun b e => Or.inl (by injection e with e; subst e; simp [obRow, Value.ownBlock])) (o' := obRow B e (.slice (some ⟨g, 0, none⟩) n cap) n (xs.set j u)) (own_set hh hj u) (fun b hb => Or.inl hb) (row_nodup (.slice (some ⟨g, 0, none⟩) n cap))

end Go.Proofs.YtlolomodcbkblaaGreatDoor.Obs

set_option linter.unusedVariables false
set_option linter.unusedSimpArgs false
namespace Go.Proofs.YtlolomodcbkblaaGreatDoor.Nd
open Go.RowKit Go.Maps Go.WideMaps Go.ChangeShapes Go.WideShapes Go.Deep Fp Obs

/-- the blocks of a label pair: itself, its name's, its value's -/
abbrev Q3 := Nat × Nat × Nat
def pv (q : Q3) : Value := .pointer (some ⟨q.1, 0, none⟩)
structure PairAt (w : World) (q : Q3) (p : P2) : Prop where
  nm : w.cell? ⟨q.1, 0, none⟩ = some (.pointer (some ⟨q.2.1, 0, none⟩))
  vl : w.cell? ⟨q.1, 1, none⟩ = some (.pointer (some ⟨q.2.2, 0, none⟩))
  n : w.cell? ⟨q.2.1, 0, none⟩ = some (.string p.1)
  v : w.cell? ⟨q.2.2, 0, none⟩ = some (.string p.2)
  lt : q.1 < w.heap.size ∧ q.2.1 < w.heap.size ∧ q.2.2 < w.heap.size
theorem PairAt.below {w w' : World} {q : Q3} {p : P2} (h : PairAt w q p) (k : Below w.heap.size w w') : PairAt w' q p :=
  ⟨by rw [k.cell (p := ⟨q.1, 0, none⟩) h.lt.1]; exact h.nm, by rw [k.cell (p := ⟨q.1, 1, none⟩) h.lt.1]; exact h.vl, by rw [k.cell (p := ⟨q.2.1, 0, none⟩) h.lt.2.1]; exact h.n, by rw [k.cell (p := ⟨q.2.2, 0, none⟩) h.lt.2.2]; exact h.v,
    Nat.lt_of_lt_of_le h.lt.1 k.size, Nat.lt_of_lt_of_le h.lt.2.1 k.size, Nat.lt_of_lt_of_le h.lt.2.2 k.size⟩
theorem cell_kept {w w' : World} {b : Nat} {row : Option Nat} {j : Nat} (k : w.grownBy w' row) (hb : b < w.heap.size) (hne : some b ≠ row) : w'.cell? ⟨b, j, none⟩ = w.cell? ⟨b, j, none⟩ := World.cell?_of_block (w := w) (k.block b hb hne)
theorem frozen_kept {w w' : World} {b : Nat} {row : Option Nat} {j : Nat} (k : w.grownBy w' row) (hb : b < w.heap.size) (hne : some b ≠ row) : w'.frozen? ⟨b, j, none⟩ = w.frozen? ⟨b, j, none⟩ := World.frozen?_of_block (w := w) (k.block b hb hne)
theorem PairAt.kept {w w' : World} {q : Q3} {p : P2} {row : Option Nat} (h : PairAt w q p) (k : w.grownBy w' row) (h1 : some q.1 ≠ row) (h2 : some q.2.1 ≠ row) (h3 : some q.2.2 ≠ row) : PairAt w' q p :=
  ⟨by rw [cell_kept k h.lt.1 h1]; exact h.nm, by rw [cell_kept k h.lt.1 h1]; exact h.vl, by rw [cell_kept k h.lt.2.1 h2]; exact h.n, by rw [cell_kept k h.lt.2.2 h3]; exact h.v,
    Nat.lt_of_lt_of_le h.lt.1 k.size, Nat.lt_of_lt_of_le h.lt.2.1 k.size, Nat.lt_of_lt_of_le h.lt.2.2 k.size⟩
/-- a slice of pointers to label pairs -/
def Pairs (w : World) (v : Value) (F : List P2) : Prop := ∃ qs : List Q3, qs.length = F.length ∧ Sl.Of pv w v qs ∧ ∀ i (h : i < qs.length) (h2 : i < F.length), PairAt w qs[i] F[i]
theorem Pairs.below {w w' : World} {v : Value} {F : List P2} (h : Pairs w v F) (k : Below w.heap.size w w') : Pairs w' v F := by
  obtain ⟨qs, h1, h2, h3⟩ := h
  exact ⟨qs, h1, h2.below k, fun i hi h4 => (h3 i hi h4).below k⟩
def qblocks (qs : List Q3) : List Nat := qs.flatMap fun q => [q.1, q.2.1, q.2.2]
theorem mem_q {q : Q3} {qs : List Q3} (h : q ∈ qs) : q.1 ∈ qblocks qs ∧ q.2.1 ∈ qblocks qs ∧ q.2.2 ∈ qblocks qs :=
  ⟨List.mem_flatMap.2 ⟨q, h, by simp⟩, List.mem_flatMap.2 ⟨q, h, by simp⟩, List.mem_flatMap.2 ⟨q, h, by simp⟩⟩

/-- the descriptor in block d -/
structure DescAt (w : World) (d : Nat) (nm hp un : ByteArray) (V : List ByteArray) (F : List P2) (v3 : Value) (c : Nat) (vn : Value) : Prop where
  c0 : w.cell? ⟨d, 0, none⟩ = some (.string nm)
  c1 : w.cell? ⟨d, 1, none⟩ = some (.string hp)
  c2 : w.cell? ⟨d, 2, none⟩ = some (.string un)
  c3 : w.cell? ⟨d, 3, none⟩ = some v3
  c4 : w.cell? ⟨d, 4, none⟩ = some (.pointer (some ⟨c, 0, none⟩))
  c5 : w.cell? ⟨d, 5, none⟩ = some (.string (mkB (idOf nm F)))
  c6 : w.cell? ⟨d, 6, none⟩ = some (.string (mkB (dimOf hp un V F)))
  c7 : w.cell? ⟨d, 7, none⟩ = some .nilIface
  n0 : w.cell? ⟨c, 0, none⟩ = some vn
  n1 : w.cell? ⟨c, 1, none⟩ = some (.map none)
  names : Sl.Of Value.string w vn V
  pairs : Pairs w v3 F
  lt : d < w.heap.size ∧ c < w.heap.size
theorem DescAt.below {w w' : World} {d : Nat} {nm hp un : ByteArray} {V : List ByteArray} {F : List P2} {v3 : Value} {c : Nat} {vn : Value} (h : DescAt w d nm hp un V F v3 c vn) (k : Below w.heap.size w w') : DescAt w' d nm hp un V F v3 c vn := by
  have e : ∀ j, w'.cell? ⟨d, j, none⟩ = w.cell? ⟨d, j, none⟩ := fun j => k.cell (p := ⟨d, j, none⟩) h.lt.1
  have e2 : ∀ j, w'.cell? ⟨c, j, none⟩ = w.cell? ⟨c, j, none⟩ := fun j => k.cell (p := ⟨c, j, none⟩) h.lt.2
  exact ⟨by rw [e]; exact h.c0, by rw [e]; exact h.c1, by rw [e]; exact h.c2, by rw [e]; exact h.c3, by rw [e]; exact h.c4, by rw [e]; exact h.c5, by rw [e]; exact h.c6, by rw [e]; exact h.c7, by rw [e2]; exact h.n0, by rw [e2]; exact h.n1,
    h.names.below k, h.pairs.below k, Nat.lt_of_lt_of_le h.lt.1 k.size, Nat.lt_of_lt_of_le h.lt.2 k.size⟩

theorem infoS : (Tryz.prog.info? 9).map (fun i => (i.zero, i.size, i.bytes)) = some (some (.string ByteArray.empty), 1, 16) := by kernel_rfl
theorem infoB : (Tryz.prog.info? 5).map (fun i => (i.zero, i.size, i.bytes)) = some (some (.int .u8 0), 1, 1) := by kernel_rfl
theorem infoLP : (Tryz.prog.info? 300).map (fun i => (i.zero, i.size, i.bytes)) = some (some (.pointer none), 1, 8) := by kernel_rfl
abbrev Row (B : Nat) (v : Value) (xs : List ByteArray) : Ob := obRow B 9 v xs.length (xs.map Value.string)
abbrev bytes (l : L8) : List Value := l.map fun b => Value.int .u8 (b.toNat : Int)
abbrev BRow (B : Nat) (v : Value) (xs : L8) : Ob := obRow B 5 v xs.length (bytes xs)
abbrev setD (acc : List ByteArray) : DataW Unit := setOf (.agg []) (acc.map sl)
abbrev SetOb (b : Nat) (acc : List ByteArray) : Ob := obMap Tryz.prog 9 unitElem b acc.length (setD acc)
def PairsOb (B : Nat) (v : Value) (qs : List Q3) (ps : List P2) : Ob :=
  ⟨v.ownBlock.toList ++ qblocks qs, fun w => w.ownsRow B 300 1 v ps.length (qs.map pv) ∧ qs.length = ps.length ∧ ∀ i (h : i < qs.length) (h2 : i < ps.length), PairAt w qs[i] ps[i], fun h hl k hn => by
    refine ⟨h.1.kept k ?_, h.2.1, fun i hi h2 => ?_⟩
    · cases hv : v.ownBlock with
      | none => exact Or.inl rfl
      | some b => exact Or.inr (hn b (by rw [hv]; simp))
    · have m := mem_q (List.getElem_mem hi)
      exact (h.2.2 i hi h2).kept k (hn _ (List.mem_append.2 (Or.inr m.1))) (hn _ (List.mem_append.2 (Or.inr m.2.1))) (hn _ (List.mem_append.2 (Or.inr m.2.2)))⟩
theorem set_size (acc : List ByteArray) (h : acc.Nodup) : Maps.size (setD acc) = acc.length := by
  unfold setD
  rw [size_setOf _ _ (fun x hx => by obtain ⟨s, _, rfl⟩ := List.mem_map.1 hx; exact key_lit s)]
  have gen : ∀ (xs L : List ByteArray), (L ++ xs).Nodup → ((xs.map sl).foldl addKey (L.map sl)).length = L.length + xs.length := by
    intro xs
    induction xs with
    | nil => intro L _; simp
    | cons x xs ih =>
      intro L hn
      rw [List.map_cons, List.foldl_cons]
      have hno : ((L.map sl).any fun y => y.sameKey (sl x)) = false := by
        rw [List.any_eq_false]
        intro y hy
        obtain ⟨s, hs, rfl⟩ := List.mem_map.1 hy
        have : s ≠ x := fun e => by
          rw [List.nodup_append] at hn
          exact hn.2.2 s hs x (by simp) e
        rw [sameKey_ne (fun e => this (sl_inj e))]
        simp
      have e : addKey (L.map sl) (sl x) = (L ++ [x]).map sl := by unfold addKey; rw [hno]; simp
      rw [e, ih (L ++ [x]) (by simpa using hn)]
      simp
      omega
  simpa using gen acc [] (by simpa using h)

end Go.Proofs.YtlolomodcbkblaaGreatDoor.Nd
