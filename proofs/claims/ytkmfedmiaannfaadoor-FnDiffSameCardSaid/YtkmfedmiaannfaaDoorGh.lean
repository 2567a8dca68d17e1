/- Groups of edits: the state of the loop of GetGroupedOpCodes. -/
import Derived.Test.YtkmfedmiaannfaaDoorGg
set_option linter.unusedVariables false
set_option linter.unusedSimpArgs false
namespace Go.Proofs.YtkmfedmiaannfaaDoor.Df
open Go.RowKit Go.Maps Go.WideMaps Go.ChangeShapes

structure GG (w0 : World) (g b m cap : Nat) (C : List E5) (gs : List (List E5)) (gr : List E5) (gv uv : Value) (wx : World) : Prop where
  frame : w0.grownBy wx (some g)
  codes : wx.ownsRow w0.heap.size 64 5 (.slice (some ⟨b, 0, none⟩) m cap) m (C.flatMap ecells)
  grps : Grps 37 5 ecells w0.heap.size (fun x => some x ≠ gv.ownBlock ∧ some x ≠ uv.ownBlock) gs gv wx
  cur : wx.ownsRow w0.heap.size 64 5 uv gr.length (gr.flatMap ecells)
  ne1 : gv.ownBlock ≠ uv.ownBlock
  ne2 : some b ≠ gv.ownBlock
  ne3 : some b ≠ uv.ownBlock

section
variable {w0 wx wy : World} {g b m cap : Nat} {C : List E5} {gs : List (List E5)} {gr : List E5} {gv uv v : Value}
theorem GG.below (h : GG w0 g b m cap C gs gr gv uv wx) (hb : Below wx.heap.size wx wy) : GG w0 g b m cap C gs gr gv uv wy where
  frame := only_then h.frame hb
  codes := h.codes.kept (only_below hb none) (by right; simp [Value.ownBlock])
  grps := h.grps.below hb
  cur := h.cur.kept (only_below hb none) (by cases uv.ownBlock <;> simp)
  ne1 := h.ne1
  ne2 := h.ne2
  ne3 := h.ne3
theorem GG.alloc (h : GG w0 g b m cap C gs gr gv uv wx) (o : Obj) : GG w0 g b m cap C gs gr gv uv (wx.alloc o) := h.below ((Below.refl _ _).alloc (Nat.le_refl _) o)
theorem GG.drew (h : GG w0 g b m cap C gs gr gv uv wx) : GG w0 g b m cap C gs gr gv uv wx.drew := h.below (Below.refl _ _).drew
theorem GG.drewN (h : GG w0 g b m cap C gs gr gv uv wx) (n : Nat) : GG w0 g b m cap C gs gr gv uv (wx.drewN n) := h.below (below_drewN (Below.refl _ _) n)

/-- one more code in the group that has begun -/
theorem GG.push (h : GG w0 g b m cap C gs gr gv uv wx) {c : E5} (ho : wy.ownsRow w0.heap.size 64 5 v (gr.length + 1) (gr.flatMap ecells ++ ecells c)) (hg : wx.grownBy wy uv.ownBlock)
    (hl : v.ownBlock = uv.ownBlock ∨ v.ownBlock = some wx.heap.size) : GG w0 g b m cap C gs (gr ++ [c]) gv v wy := by
  have hfresh : ∀ x, x < wx.heap.size → some x ≠ uv.ownBlock → some x ≠ v.ownBlock := by
    intro x hx hne
    rcases hl with h | h <;> rw [h]
    · exact hne
    · intro e; injection e with e; omega
  have hbz := h.codes.lt b rfl
  refine ⟨h.frame.andThen hg (fun j hj => Or.inl (h.cur.lt j hj).1), h.codes.kept hg (Or.inr h.ne3), ?_, ?_, ?_, h.ne2, hfresh b hbz.2 h.ne3⟩
  · exact h.grps.kept hg (Or.inr h.ne1) (fun x _ hx => hx.2) (fun x hx hh => ⟨hh.1, hfresh x hx hh.2⟩)
  · rw [List.length_append, List.flatMap_append]
    simpa using ho
  · rcases hl with e | e
    · rw [e]; exact h.ne1
    · rw [e]
      intro e2
      obtain ⟨vs, h1, _⟩ := h.grps
      have := (h1.lt _ e2).2
      omega
theorem own_hdr {X : Nat → Prop} {B e n : Nat} {zs : List E5} (h : wx.ownsRow B e 5 uv zs.length (zs.flatMap ecells)) (hX : ∀ x, uv.ownBlock = some x → X x) : Hdr 5 ecells X wx uv zs := by
  refine ⟨Ss.Of.own ecells_len h, ?_, fun b hb => ⟨(h.lt b hb).2, hX b hb⟩⟩
  obtain ⟨a, c, rfl⟩ := row_slice h
  rfl
/-- the group is done -/
theorem GG.done (h : GG w0 g b m cap C gs gr gv uv wx) {vs : List Value} (hall : All2 (Hdr 5 ecells (fun x => some x ≠ gv.ownBlock ∧ some x ≠ uv.ownBlock) wx) vs gs)
    (ho : wy.ownsRow w0.heap.size 37 1 v (gs.length + 1) (vs ++ [uv])) (hg : wx.grownBy wy gv.ownBlock) (hgv : ∀ j, gv.ownBlock = some j → w0.heap.size ≤ j)
    (hl : v.ownBlock = gv.ownBlock ∨ v.ownBlock = some wx.heap.size) :
    w0.grownBy wy (some g) ∧ wy.ownsRow w0.heap.size 64 5 (.slice (some ⟨b, 0, none⟩) m cap) m (C.flatMap ecells) ∧ Grps 37 5 ecells w0.heap.size (fun x => x < wy.heap.size ∧ some x ≠ v.ownBlock) (gs ++ [gr]) v wy ∧ some b ≠ v.ownBlock := by
  have hfresh : ∀ x, x < wx.heap.size → some x ≠ gv.ownBlock → some x ≠ v.ownBlock := by
    intro x hx hne
    rcases hl with h | h <;> rw [h]
    · exact hne
    · intro e; injection e with e; omega
  have hbz := h.codes.lt b rfl
  refine ⟨h.frame.andThen hg (fun j hj => Or.inl (hgv j hj)), h.codes.kept hg (Or.inr h.ne2), ?_, hfresh b hbz.2 h.ne2⟩
  have hcur : Hdr 5 ecells (fun x => some x ≠ gv.ownBlock) wx uv gr := own_hdr (n := 0) h.cur (fun x hx => by rw [← hx]; exact h.ne1.symm)
  have hall2 : All2 (Hdr 5 ecells (fun x => some x ≠ gv.ownBlock) wx) vs gs := hall.imp (fun _ _ hh => ⟨hh.1, hh.2.1, fun b hb => ⟨(hh.2.2 b hb).1, (hh.2.2 b hb).2.1⟩⟩)
  have k1 : ∀ x zs, Hdr 5 ecells (fun x => some x ≠ gv.ownBlock) wx x zs → Hdr 5 ecells (fun x => x < wy.heap.size ∧ some x ≠ v.ownBlock) wy x zs := fun x zs hh =>
    hh.kept hg (fun b _ hx => hx) (fun b hb hx => ⟨Nat.lt_of_lt_of_le hb hg.size, hfresh b hb hx⟩)
  refine ⟨vs ++ [uv], ?_, (hall2.imp k1).snoc (k1 _ _ hcur)⟩
  rw [List.length_append]
  exact ho
/-- and a new one begins -/
theorem GG.close (h : w0.grownBy wy (some g) ∧ wy.ownsRow w0.heap.size 64 5 (.slice (some ⟨b, 0, none⟩) m cap) m (C.flatMap ecells) ∧ Grps 37 5 ecells w0.heap.size (fun x => x < wy.heap.size ∧ some x ≠ v.ownBlock) gs v wy ∧ some b ≠ v.ownBlock) :
    GG w0 g b m cap C gs [] v (.slice (some ⟨wy.heap.size, 0, none⟩) 0 0) (wy.alloc (.cells #[] 64)) := by
  obtain ⟨h1, h2, h3, h4⟩ := h
  have hs := h1.size
  have hbz := h2.lt b rfl
  refine ⟨only_alloc h1 _, h2.alloc _, ?_, World.ownsRow_made wy #[] 0 hs (by decide) (by simp), ?_, h4, ?_⟩
  · exact h3.kept (r := none) (World.grownBy_alloc wy _ none) (by cases v.ownBlock <;> simp) (fun b _ _ => by simp) (fun x hx hh => ⟨hh.2, by intro e; injection e with e; have := hh.1; simp only at e; omega⟩)
  · intro e
    obtain ⟨vs, h5, _⟩ := h3
    have := (h5.lt _ e).2
    simp only at this
    omega
  · intro e
    injection e with e
    simp only at e
    omega
/-- at the start -/
theorem GG.start {wc : World} (h1 : w0.grownBy wc (some g)) (h2 : wc.ownsRow w0.heap.size 64 5 (.slice (some ⟨b, 0, none⟩) m cap) m (C.flatMap ecells)) :
    GG w0 g b m cap C [] [] (.slice (some ⟨wc.heap.size, 0, none⟩) 0 0) (.slice (some ⟨wc.heap.size + 1, 0, none⟩) 0 0) ((wc.alloc (.cells #[] 37)).alloc (.cells #[] 64)) := by
  have hs := h1.size
  have hbz := h2.lt b rfl
  have := GG.close (w0 := w0) (wy := wc.alloc (.cells #[] 37)) (g := g) (b := b) (m := m) (cap := cap) (C := C) (gs := []) (v := .slice (some ⟨wc.heap.size, 0, none⟩) 0 0)
    ⟨only_alloc h1 _, h2.alloc _, ⟨[], World.ownsRow_made wc #[] 0 hs (by decide) (by simp), trivial⟩, by intro e; injection e with e; simp only at e; omega⟩
  simpa using this
end

end Go.Proofs.YtkmfedmiaannfaaDoor.Df
