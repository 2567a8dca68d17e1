/- Descriptors: what a descriptor is in memory; the objects of NewDesc's call. -/
import Derived.Test.YtlolomodcbkblaaGreatDoorNdm
import Derived.Test.YtlolomodcbkblaaGreatDoorObs
import Derived.Maps.Views
import Derived.Maps.RangeWalk
import Derived.Sort.OwnSorted
set_option linter.unusedVariables false
set_option linter.unusedSimpArgs false
namespace Go.Proofs.YtlolomodcbkblaaGreatDoor.Nd
open Go.RowKit Go.Maps Go.WideMaps Go.ChangeShapes Go.WideShapes Go.Deep Fp Obs

/-- the blocks of a label pair: itself, its name's, its value's -/
abbrev Q3 := Nat × Nat × Nat
def pv (q : Q3) : Value := .pointer (some ⟨q.1, 0, none⟩)
structure PairAt (w : World) (q : Q3) (p : P2) : Prop where
  nm : w.cell? ⟨q.1, 0, none⟩ = some (.pointer (some ⟨q.2.1, 0, none⟩))
  vl : w.cell? ⟨q.1, 1, none⟩ = some (.pointer (some ⟨q.2.2, 0, none⟩))
  n : w.cell? ⟨q.2.1, 0, none⟩ = some (.string p.1)
  v : w.cell? ⟨q.2.2, 0, none⟩ = some (.string p.2)
  lt : q.1 < w.heap.size ∧ q.2.1 < w.heap.size ∧ q.2.2 < w.heap.size
theorem PairAt.below {w w' : World} {q : Q3} {p : P2} (h : PairAt w q p) (k : Below w.heap.size w w') : PairAt w' q p :=
  ⟨by rw [k.cell (p := ⟨q.1, 0, none⟩) h.lt.1]; exact h.nm, by rw [k.cell (p := ⟨q.1, 1, none⟩) h.lt.1]; exact h.vl, by rw [k.cell (p := ⟨q.2.1, 0, none⟩) h.lt.2.1]; exact h.n, by rw [k.cell (p := ⟨q.2.2, 0, none⟩) h.lt.2.2]; exact h.v,
    Nat.lt_of_lt_of_le h.lt.1 k.size, Nat.lt_of_lt_of_le h.lt.2.1 k.size, Nat.lt_of_lt_of_le h.lt.2.2 k.size⟩
theorem cell_kept {w w' : World} {b : Nat} {row : Option Nat} {j : Nat} (k : w.grownBy w' row) (hb : b < w.heap.size) (hne : some b ≠ row) : w'.cell? ⟨b, j, none⟩ = w.cell? ⟨b, j, none⟩ := World.cell?_of_block (w := w) (k.block b hb hne)
theorem frozen_kept {w w' : World} {b : Nat} {row : Option Nat} {j : Nat} (k : w.grownBy w' row) (hb : b < w.heap.size) (hne : some b ≠ row) : w'.frozen? ⟨b, j, none⟩ = w.frozen? ⟨b, j, none⟩ := World.frozen?_of_block (w := w) (k.block b hb hne)
theorem PairAt.kept {w w' : World} {q : Q3} {p : P2} {row : Option Nat} (h : PairAt w q p) (k : w.grownBy w' row) (h1 : some q.1 ≠ row) (h2 : some q.2.1 ≠ row) (h3 : some q.2.2 ≠ row) : PairAt w' q p :=
  ⟨by rw [cell_kept k h.lt.1 h1]; exact h.nm, by rw [cell_kept k h.lt.1 h1]; exact h.vl, by rw [cell_kept k h.lt.2.1 h2]; exact h.n, by rw [cell_kept k h.lt.2.2 h3]; exact h.v,
    Nat.lt_of_lt_of_le h.lt.1 k.size, Nat.lt_of_lt_of_le h.lt.2.1 k.size, Nat.lt_of_lt_of_le h.lt.2.2 k.size⟩
/-- a slice of pointers to label pairs -/
def Pairs (w : World) (v : Value) (F : List P2) : Prop := ∃ qs : List Q3, qs.length = F.length ∧ Sl.Of pv w v qs ∧ ∀ i (h : i < qs.length) (h2 : i < F.length), PairAt w qs[i] F[i]
theorem Pairs.below {w w' : World} {v : Value} {F : List P2} (h : Pairs w v F) (k : Below w.heap.size w w') : Pairs w' v F := by
  obtain ⟨qs, h1, h2, h3⟩ := h
  exact ⟨qs, h1, h2.below k, fun i hi h4 => (h3 i hi h4).below k⟩
def qblocks (qs : List Q3) : List Nat := qs.flatMap fun q => [q.1, q.2.1, q.2.2]
theorem mem_q {q : Q3} {qs : List Q3} (h : q ∈ qs) : q.1 ∈ qblocks qs ∧ q.2.1 ∈ qblocks qs ∧ q.2.2 ∈ qblocks qs :=
  ⟨List.mem_flatMap.2 ⟨q, h, by simp⟩, List.mem_flatMap.2 ⟨q, h, by simp⟩, List.mem_flatMap.2 ⟨q, h, by simp⟩⟩

/-- the descriptor in block d -/
structure DescAt (w : World) (d : Nat) (nm hp un : ByteArray) (V : List ByteArray) (F : List P2) (v3 : Value) (c : Nat) (vn : Value) : Prop where
  c0 : w.cell? ⟨d, 0, none⟩ = some (.string nm)
  c1 : w.cell? ⟨d, 1, none⟩ = some (.string hp)
  c2 : w.cell? ⟨d, 2, none⟩ = some (.string un)
  c3 : w.cell? ⟨d, 3, none⟩ = some v3
  c4 : w.cell? ⟨d, 4, none⟩ = some (.pointer (some ⟨c, 0, none⟩))
  c5 : w.cell? ⟨d, 5, none⟩ = some (.string (mkB (idOf nm F)))
  c6 : w.cell? ⟨d, 6, none⟩ = some (.string (mkB (dimOf hp un V F)))
  c7 : w.cell? ⟨d, 7, none⟩ = some .nilIface
  n0 : w.cell? ⟨c, 0, none⟩ = some vn
  n1 : w.cell? ⟨c, 1, none⟩ = some (.map none)
  names : Sl.Of Value.string w vn V
  pairs : Pairs w v3 F
  lt : d < w.heap.size ∧ c < w.heap.size
theorem DescAt.below {w w' : World} {d : Nat} {nm hp un : ByteArray} {V : List ByteArray} {F : List P2} {v3 : Value} {c : Nat} {vn : Value} (h : DescAt w d nm hp un V F v3 c vn) (k : Below w.heap.size w w') : DescAt w' d nm hp un V F v3 c vn := by
  have e : ∀ j, w'.cell? ⟨d, j, none⟩ = w.cell? ⟨d, j, none⟩ := fun j => k.cell (p := ⟨d, j, none⟩) h.lt.1
  have e2 : ∀ j, w'.cell? ⟨c, j, none⟩ = w.cell? ⟨c, j, none⟩ := fun j => k.cell (p := ⟨c, j, none⟩) h.lt.2
  exact ⟨by rw [e]; exact h.c0, by rw [e]; exact h.c1, by rw [e]; exact h.c2, by rw [e]; exact h.c3, by rw [e]; exact h.c4, by rw [e]; exact h.c5, by rw [e]; exact h.c6, by rw [e]; exact h.c7, by rw [e2]; exact h.n0, by rw [e2]; exact h.n1,
    h.names.below k, h.pairs.below k, Nat.lt_of_lt_of_le h.lt.1 k.size, Nat.lt_of_lt_of_le h.lt.2 k.size⟩

theorem infoS : (Tryz.prog.info? 9).map (fun i => (i.zero, i.size, i.bytes)) = some (some (.string ByteArray.empty), 1, 16) := by kernel_rfl
theorem infoB : (Tryz.prog.info? 5).map (fun i => (i.zero, i.size, i.bytes)) = some (some (.int .u8 0), 1, 1) := by kernel_rfl
theorem infoLP : (Tryz.prog.info? 300).map (fun i => (i.zero, i.size, i.bytes)) = some (some (.pointer none), 1, 8) := by kernel_rfl
abbrev Row (B : Nat) (v : Value) (xs : List ByteArray) : Ob := obRow B 9 v xs.length (xs.map Value.string)
abbrev bytes (l : L8) : List Value := l.map fun b => Value.int .u8 (b.toNat : Int)
abbrev BRow (B : Nat) (v : Value) (xs : L8) : Ob := obRow B 5 v xs.length (bytes xs)
abbrev setD (acc : List ByteArray) : DataW Unit := setOf (.agg []) (acc.map sl)
abbrev SetOb (b : Nat) (acc : List ByteArray) : Ob := obMap Tryz.prog 9 unitElem b acc.length (setD acc)
def PairsOb (B : Nat) (v : Value) (qs : List Q3) (ps : List P2) : Ob :=
  ⟨v.ownBlock.toList ++ qblocks qs, fun w => w.ownsRow B 300 1 v ps.length (qs.map pv) ∧ qs.length = ps.length ∧ ∀ i (h : i < qs.length) (h2 : i < ps.length), PairAt w qs[i] ps[i], fun h hl k hn => by
    refine ⟨h.1.kept k ?_, h.2.1, fun i hi h2 => ?_⟩
    · cases hv : v.ownBlock with
      | none => exact Or.inl rfl
      | some b => exact Or.inr (hn b (by rw [hv]; simp))
    · have m := mem_q (List.getElem_mem hi)
      exact (h.2.2 i hi h2).kept k (hn _ (List.mem_append.2 (Or.inr m.1))) (hn _ (List.mem_append.2 (Or.inr m.2.1))) (hn _ (List.mem_append.2 (Or.inr m.2.2)))⟩
theorem set_size (acc : List ByteArray) (h : acc.Nodup) : Maps.size (setD acc) = acc.length := by
  unfold setD
  rw [size_setOf _ _ (fun x hx => by obtain ⟨s, _, rfl⟩ := List.mem_map.1 hx; exact key_lit s)]
  have gen : ∀ (xs L : List ByteArray), (L ++ xs).Nodup → ((xs.map sl).foldl addKey (L.map sl)).length = L.length + xs.length := by
    intro xs
    induction xs with
    | nil => intro L _; simp
    | cons x xs ih =>
      intro L hn
      rw [List.map_cons, List.foldl_cons]
      have hno : ((L.map sl).any fun y => y.sameKey (sl x)) = false := by
        rw [List.any_eq_false]
        intro y hy
        obtain ⟨s, hs, rfl⟩ := List.mem_map.1 hy
        have : s ≠ x := fun e => by
          rw [List.nodup_append] at hn
          exact hn.2.2 s hs x (by simp) e
        rw [sameKey_ne (fun e => this (sl_inj e))]
        simp
      have e : addKey (L.map sl) (sl x) = (L ++ [x]).map sl := by unfold addKey; rw [hno]; simp
      rw [e, ih (L ++ [x]) (by simpa using hn)]
      simp
      omega
  simpa using gen acc [] (by simpa using h)

end Go.Proofs.YtlolomodcbkblaaGreatDoor.Nd
