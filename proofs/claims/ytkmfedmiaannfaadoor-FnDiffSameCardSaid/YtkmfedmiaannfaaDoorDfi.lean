/- Differences of two lists: the thin package's Blocks. -/
import Derived.Test.YtkmfedmiaannfaaDoorDfb
set_option linter.unusedVariables false
set_option linter.unusedSimpArgs false
namespace Go.Proofs.YtkmfedmiaannfaaDoor.Df
open Go.RowKit Go.Maps Go.WideMaps Go.ChangeShapes

/-- an edit: its tag, and its four bounds -/
abbrev E5 := Nat × Nat × Nat × Nat × Nat
def ecells (e : E5) : List Value := [.int .u8 e.1, .int .i64 e.2.1, .int .i64 e.2.2.1, .int .i64 e.2.2.2.1, .int .i64 e.2.2.2.2]
theorem ecells_len (e : E5) : (ecells e).length = 5 := rfl
def blk (m : M3) : E5 := (0, m.1, m.1 + m.2.2, m.2.1, m.2.1 + m.2.2)
theorem infoE : (Tryd.prog.info? 48).map (fun i => (i.zero, i.size, i.bytes)) = some (some (.agg #[.int .u8 0, .int .i64 0, .int .i64 0, .int .i64 0, .int .i64 0]), 5, 40) := by kernel_rfl

/-- the edits so far: a row of our own -/
def GotE (B n : Nat) (acc : List E5) (u : Value) (w w' : World) : Prop :=
  acc.length ≤ n ∧ w'.ownsRow B 48 5 u acc.length (acc.flatMap ecells) ∧ Below B w w'
theorem GotE.alloc {B n : Nat} {acc : List E5} {u : Value} {w w' : World} (h : GotE B n acc u w w') (hs : B ≤ w'.heap.size) (o : Obj) : GotE B n acc u w (w'.alloc o) :=
  ⟨h.1, h.2.1.alloc _, h.2.2.alloc hs _⟩
theorem GotE.drew {B n : Nat} {acc : List E5} {u : Value} {w w' : World} (h : GotE B n acc u w w') (k : Nat) : GotE B n acc u w (w'.drewN k) :=
  ⟨h.1, h.2.1.kept (only_below (below_drewN (Below.refl _ _) k) none) (by cases u.ownBlock <;> simp), below_drewN h.2.2 k⟩
theorem GotE.app {B n : Nat} {acc : List E5} {u v : Value} {m : E5} {w w' wy : World} {o : Obj} (h : GotE B n acc u w w') (hs : B ≤ w'.heap.size) (ho : wy.ownsRow B 48 5 v (acc.length + 1) (acc.flatMap ecells ++ ecells m)) (hg : (w'.alloc o).grownBy wy u.ownBlock) : GotE B (n + 1) (acc ++ [m]) v w wy := by
  refine ⟨by have := h.1; simp; omega, ?_, (h.2.2.alloc hs o).grown hg (by simp; omega) (fun j hj => (h.2.1.lt j hj).1)⟩
  rw [List.length_append, List.flatMap_append]
  simpa using ho

theorem chain_mem {xs ys : List ByteArray} {I J : Nat} : ∀ {L : List M3} {i j : Nat}, Chain xs ys i j I J L → ∀ m ∈ L, m.1 + m.2.2 ≤ I ∧ m.2.1 + m.2.2 ≤ J
  | [], _, _, _, m, hm => absurd hm (by simp)
  | b :: r, i, j, h, m, hm => by
    obtain ⟨h1, h2, h3, h4, h5⟩ := h
    rcases List.mem_cons.1 hm with rfl | hm
    · exact chain_le h5
    · exact chain_mem h5 m hm
theorem blocks_mem {xs ys : List ByteArray} : ∀ m ∈ blocks xs ys, m.1 + m.2.2 ≤ xs.length ∧ m.2.1 + m.2.2 ≤ ys.length := by
  intro m hm
  unfold blocks at hm
  rcases List.mem_append.1 hm with hm | hm
  · exact chain_mem blocks_chain m hm
  · rw [List.mem_singleton.1 hm]
    exact ⟨Nat.le_refl _, Nat.le_refl _⟩
theorem blocks_len {xs ys : List ByteArray} : (blocks xs ys).length ≤ xs.length + 1 := by
  unfold blocks
  have := chain_len (blocks_chain (xs := xs) (ys := ys))
  rw [List.length_append, List.length_singleton]
  omega

def ImplOut (L : List E5) (w : World) (e : Ending) (w' : World) : Prop :=
  ∃ v, e = .returned v ∧ Ss.Of 5 ecells w' v L ∧ Below w.heap.size w w'

end Go.Proofs.YtkmfedmiaannfaaDoor.Df
