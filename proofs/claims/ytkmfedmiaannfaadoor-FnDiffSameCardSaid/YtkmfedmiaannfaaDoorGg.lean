/- Slices of slices: a row of headers, each of which reads al a list. -/
import Derived.Test.YtkmfedmiaannfaaDoorGp
import Derived.Maps.AppendAt
set_option linter.unusedVariables false
set_option linter.unusedSimpArgs false
namespace Go.Proofs.YtkmfedmiaannfaaDoor.Df
open Go.RowKit Go.Maps Go.WideMaps Go.ChangeShapes

def All2 {α β : Type} (R : α → β → Prop) : List α → List β → Prop
  | [], [] => True
  | a :: al, b :: bl => R a b ∧ All2 R al bl
  | _, _ => False
section
variable {α β : Type} {R R' : α → β → Prop}
theorem All2.imp (h : ∀ a b, R a b → R' a b) : ∀ {al : List α} {bl : List β}, All2 R al bl → All2 R' al bl
  | [], [], _ => trivial
  | a :: al, b :: bl, k => ⟨h a b k.1, All2.imp h k.2⟩
  | [], _ :: _, k => k.elim
  | _ :: _, [], k => k.elim
theorem All2.snoc : ∀ {al : List α} {bl : List β} {a : α} {b : β}, All2 R al bl → R a b → All2 R (al ++ [a]) (bl ++ [b])
  | [], [], _, _, _, h => ⟨h, trivial⟩
  | a :: al, b :: bl, _, _, k, h => ⟨k.1, All2.snoc k.2 h⟩
  | [], _ :: _, _, _, k, _ => k.elim
  | _ :: _, [], _, _, k, _ => k.elim
theorem All2.len : ∀ {al : List α} {bl : List β}, All2 R al bl → al.length = bl.length
  | [], [], _ => rfl
  | a :: al, b :: bl, k => by rw [List.length_cons, List.length_cons, All2.len k.2]
  | [], _ :: _, k => k.elim
  | _ :: _, [], k => k.elim
theorem All2.get : ∀ {al : List α} {bl : List β}, All2 R al bl → ∀ i (h : i < al.length) (h' : i < bl.length), R al[i] bl[i]
  | [], [], _, i, h, _ => absurd h (Nat.not_lt_zero _)
  | a :: al, b :: bl, k, 0, _, _ => k.1
  | a :: al, b :: bl, k, i + 1, h, h' => All2.get k.2 i (by simpa using h) (by simpa using h')
  | [], _ :: _, k, _, _, _ => k.elim
  | _ :: _, [], k, _, _, _ => k.elim
end

/-- a slice of structs is kept where its own block is -/
theorem Ss_grown {α : Type} {k : Nat} {c : α → List Value} {w w' : World} {v : Value} {zs : List α} {r : Option Nat} (h : Ss.Of k c w v zs) (g : w.grownBy w' r) (hb : ∀ b, v.ownBlock = some b → some b ≠ r) : Ss.Of k c w' v zs := by
  rcases h with h | ⟨b, off, cap, h1, h2, h3, h4, h5, h6⟩
  · exact Or.inl h
  · subst h1
    have hne := hb b rfl
    exact Or.inr ⟨b, off, cap, rfl, h2, h3, h4, Nat.lt_of_lt_of_le h5 g.size, fun i h j u hu => by rw [World.cell?_of_block (w := w) (g.block b h5 hne)]; exact h6 i h j u hu⟩

/-- a header, whose block is an X -/
def Hdr {α : Type} (k : Nat) (c : α → List Value) (X : Nat → Prop) (w : World) (v : Value) (zs : List α) : Prop :=
  Ss.Of k c w v zs ∧ v.oneCell' = true ∧ ∀ b, v.ownBlock = some b → b < w.heap.size ∧ X b
/-- the groups so far: a row of headers -/
def Grps {α : Type} (T k : Nat) (c : α → List Value) (B : Nat) (X : Nat → Prop) (gs : List (List α)) (gv : Value) (w : World) : Prop :=
  ∃ vs, w.ownsRow B T 1 gv gs.length vs ∧ All2 (Hdr k c X w) vs gs
section
variable {α : Type} {T k : Nat} {c : α → List Value} {B : Nat} {X : Nat → Prop} {gs : List (List α)} {gv : Value} {w w' : World}
theorem Hdr.kept {v : Value} {zs : List α} {r : Option Nat} {Y : Nat → Prop} (h : Hdr k c X w v zs) (g : w.grownBy w' r) (hX : ∀ b, b < w.heap.size → X b → some b ≠ r) (hY : ∀ b, b < w.heap.size → X b → Y b) : Hdr k c Y w' v zs :=
  ⟨Ss_grown h.1 g (fun b hb => hX b (h.2.2 b hb).1 (h.2.2 b hb).2), h.2.1, fun b hb => ⟨Nat.lt_of_lt_of_le (h.2.2 b hb).1 g.size, hY b (h.2.2 b hb).1 (h.2.2 b hb).2⟩⟩
theorem Grps.kept {r : Option Nat} {Y : Nat → Prop} (h : Grps T k c B X gs gv w) (g : w.grownBy w' r) (hr : gv.ownBlock = none ∨ gv.ownBlock ≠ r) (hX : ∀ b, b < w.heap.size → X b → some b ≠ r) (hY : ∀ b, b < w.heap.size → X b → Y b) : Grps T k c B Y gs gv w' := by
  obtain ⟨vs, h1, h2⟩ := h
  exact ⟨vs, h1.kept g hr, h2.imp (fun _ _ hh => hh.kept g hX hY)⟩
theorem Grps.below (h : Grps T k c B X gs gv w) (hb : Below w.heap.size w w') : Grps T k c B X gs gv w' :=
  h.kept (r := none) (only_below hb none) (by cases gv.ownBlock <;> simp) (fun b _ _ => by simp) (fun b _ hx => hx)
theorem Grps.alloc (h : Grps T k c B X gs gv w) (o : Obj) : Grps T k c B X gs gv (w.alloc o) :=
  h.kept (r := none) (World.grownBy_alloc w o none) (by cases gv.ownBlock <;> simp) (fun b _ _ => by simp) (fun b _ hx => hx)
/-- one more -/
theorem Grps.app {v v' : Value} {g : List α} {o : Obj} {Y : Nat → Prop} {vs : List Value} (h2 : All2 (Hdr k c X w) vs gs) (hv : Hdr k c X w v g) (hgr : (w.alloc o).grownBy w' gv.ownBlock)
    (ho : w'.ownsRow B T 1 v' (gs.length + 1) (vs ++ [v])) (hX : ∀ b, b < w.heap.size → X b → some b ≠ gv.ownBlock) (hY : ∀ b, b < w.heap.size → X b → Y b) : Grps T k c B Y (gs ++ [g]) v' w' := by
  have k1 : ∀ x zs, Hdr k c X w x zs → Hdr k c Y w' x zs := fun x zs hh =>
    (hh.kept (r := none) (w' := w.alloc o) (Y := fun b => b < w.heap.size ∧ X b) (World.grownBy_alloc w o none) (fun b _ _ => by simp) (fun b hb hx => ⟨hb, hx⟩)).kept hgr (fun b _ hx => hX b hx.1 hx.2) (fun b _ hx => hY b hx.1 hx.2)
  refine ⟨vs ++ [v], ?_, (h2.imp k1).snoc (k1 _ _ hv)⟩
  rw [List.length_append]
  exact ho
end

/-- a slice of slices, to be read -/
def Of2 {α : Type} (k : Nat) (c : α → List Value) (w : World) (v : Value) (gs : List (List α)) : Prop :=
  ∃ vs, Sl.Of id w v vs ∧ All2 (fun v zs => Ss.Of k c w v zs) vs gs
section
variable {α : Type} {T k : Nat} {c : α → List Value} {B : Nat} {X : Nat → Prop} {gs : List (List α)} {gv : Value} {w w' : World}
theorem Of2.own (h : Grps T k c B X gs gv w) : Of2 k c w gv gs := by
  obtain ⟨vs, h1, h2⟩ := h
  have hl := h2.len
  refine ⟨vs, Sl.Of.own (B := B) (e := T) ?_, h2.imp (fun _ _ hh => hh.1)⟩
  rw [List.map_id, hl]
  exact h1
theorem Of2.below (h : Of2 k c w gv gs) (hb : Below w.heap.size w w') : Of2 k c w' gv gs := by
  obtain ⟨vs, h1, h2⟩ := h
  exact ⟨vs, h1.below hb, h2.imp (fun _ _ hh => hh.below hb)⟩
theorem Of2.slice (h : Of2 k c w gv gs) : ∃ a cap, gv = .slice a gs.length cap ∧ gs.length ≤ cap ∧ cap ≤ 9223372036854775807 := by
  obtain ⟨vs, h1, h2⟩ := h
  rw [← h2.len]
  rcases h1 with ⟨rfl, a, cap, rfl, hc⟩ | ⟨b, off, cap, rfl, h1, h2, h3, _⟩
  · exact ⟨_, _, rfl, by simp, hc⟩
  · exact ⟨_, _, rfl, h2, h3⟩
theorem Of2.at_ {a : Option Addr} {n cap : Nat} (h : Of2 k c w (.slice a n cap) gs) {i : Nat} (hi : i < gs.length) : ∃ b off v, a = some ⟨b, off, none⟩ ∧ b < w.heap.size ∧ w.cell? ⟨b, off + i, none⟩ = some v ∧ Ss.Of k c w v gs[i] := by
  obtain ⟨vs, h1, h2⟩ := h
  have hi' : i < vs.length := by rw [h2.len]; exact hi
  rcases h1 with ⟨rfl, _⟩ | ⟨b, off, cap, h, h0, hcap, hm, hbb, hcell⟩
  · simp at hi'
  · injection h with h1 _ _
    exact ⟨b, off, vs[i], h1, hbb, hcell i hi', h2.get i hi' hi⟩
end

theorem infoOs : (Tryd.prog.info? 37).map (fun i => (i.zero, i.size, i.bytes)) = some (some (.slice none 0 0), 1, 24) := by kernel_rfl

set_option maxHeartbeats 1000000 in
theorem max_any (a i2 n : Nat) (w : World) (ha : a ≤ 9223372036854775807) (hi : i2 ≤ 9223372036854775807) (hn : n ≤ 9223372036854775807) :
    Calls Tryd.prog 22 #[.int .i64 (a : Int), .int .i64 ((i2 : Int) - (n : Int))] w fun e w' => e = .returned (.int .i64 ((max a (i2 - n) : Nat) : Int)) ∧ w' = w := by
  by_cases h : (i2 : Int) - (n : Int) < (a : Int)
  · have e : max a (i2 - n) = a := by omega
    rw [e]
    go_enter Tryd.func22, Tryd.ntmps22
    go_wp2
    go_ret
    exact ⟨rfl, rfl⟩
  · have e : ((max a (i2 - n) : Nat) : Int) = (i2 : Int) - (n : Int) := by omega
    rw [e]
    have h' : (a : Int) ≤ (i2 : Int) - (n : Int) := by omega
    clear h e
    go_enter Tryd.func22, Tryd.ntmps22
    go_wp2
    go_ret
    exact ⟨rfl, rfl⟩
set_option maxHeartbeats 1000000 in
theorem min_any (a i1 n : Nat) (w : World) (ha : a ≤ 9223372036854775807) (hi : i1 + n ≤ 9223372036854775807) :
    Calls Tryd.prog 20 #[.int .i64 (a : Int), .int .i64 ((i1 : Int) + (n : Int))] w fun e w' => e = .returned (.int .i64 ((min a (i1 + n) : Nat) : Int)) ∧ w' = w := by
  by_cases h : (a : Int) < (i1 : Int) + (n : Int)
  · have e : min a (i1 + n) = a := by omega
    rw [e]
    go_enter Tryd.func20, Tryd.ntmps20
    go_wp2
    go_ret
    exact ⟨rfl, rfl⟩
  · have e : ((min a (i1 + n) : Nat) : Int) = (i1 : Int) + (n : Int) := by omega
    rw [e]
    have h' : (i1 : Int) + (n : Int) ≤ (a : Int) := by omega
    clear h e
    go_enter Tryd.func20, Tryd.ntmps20
    go_wp2
    go_ret
    exact ⟨rfl, rfl⟩

end Go.Proofs.YtkmfedmiaannfaaDoor.Df
