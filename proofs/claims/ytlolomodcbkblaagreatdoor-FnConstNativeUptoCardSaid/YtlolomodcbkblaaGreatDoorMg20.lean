/- A constant classic histogram made (NewConstHistogram). A constant classic histogram: the buckets as they are written: a row of pointers, each bucket in blocks of its own. -/
import Derived.Test.YtlolomodcbkblaaGreatDoorMtd
import Derived.Test.YtlolomodcbkblaaGreatDoorMg19
import Derived.Test.YtlolomodcbkblaaGreatDoorMg7
import Derived.Test.YtlolomodcbkblaaGreatDoorMtv
import Derived.Deep.RegionHeld3
import Derived.Deep.MidRow
import Derived.Test.YtlolomodcbkblaaGreatDoorMtx
import Derived.Test.YtlolomodcbkblaaGreatDoorMg2
import Derived.Test.YtlolomodcbkblaaGreatDoorMg13
import Derived.Test.YtlolomodcbkblaaGreatDoorMg14
import Derived.Test.YtlolomodcbkblaaGreatDoorMg15
import Derived.Test.YtlolomodcbkblaaGreatDoorMg17
set_option linter.unusedVariables false
set_option linter.unusedSimpArgs false
namespace Go.Proofs.YtlolomodcbkblaaGreatDoor.Cz
open Go.RowKit Go.ChangeShapes Go.WideShapes Go.Deep
/-- a row that does not lie in block g -/
def NE (v : Value) (g : Nat) : Prop := v.ownBlock = none ∨ v.ownBlock ≠ some g
section
variable {W W' : World} {B e sz n : Nat} {v : Value} {xs : List Value}
theorem ne_of_base {g : Nat} (h : W.ownsRow B e sz v n xs) (hg : g < B) : NE v g := by
  unfold NE
  cases hv : v.ownBlock with
  | none => exact Or.inl rfl
  | some b => exact Or.inr (by have := (h.lt b hv).1; intro e; injection e with e; omega)
theorem ne_of_lt {g : Nat} (h : W.ownsRow B e sz v n xs) (hg : W.heap.size ≤ g) : NE v g := by
  unfold NE
  cases hv : v.ownBlock with
  | none => exact Or.inl rfl
  | some b => exact Or.inr (by have := (h.lt b hv).2; intro e; injection e with e; omega)
end
theorem Gg1 (w : World) (b i : Nat) (u : Value) : w.grownBy (w.setCell ⟨b, i, none⟩ u) (some b) :=
  ⟨rfl, rfl, rfl, by simp [World.setCell], fun k hk hne => Below.heap_setCell _ ⟨b, i, none⟩ _ k (by rintro rfl; exact hne rfl)⟩
end Go.Proofs.YtlolomodcbkblaaGreatDoor.Cz

namespace Go.Proofs.YtlolomodcbkblaaGreatDoor.Ch
open Go.RowKit Go.Maps Go.WideMaps Go.ChangeShapes Go.WideShapes Go.Deep Fp Obs _root_.Go.Proofs.YtlolomodcbkblaaGreatDoor.Nd _root_.Go.Proofs.YtlolomodcbkblaaGreatDoor.Mt _root_.Go.Proofs.YtlolomodcbkblaaGreatDoor.Fm

/-- a constant histogram in block cm -/
structure HistC (W : World) (cm d mb : Nat) (count : Int) (z : Nat) (E : List FC) (F : List P2) : Prop where
  blk : ∃ lab, Whole W cm 263 #[ptr d, .int .u64 count, .float .f64 z, .map (some mb), lab, nilp] ∧ Pairs W lab F
  map : FMap W mb E
def NewHist (F : List P2) (d mb : Nat) (count : Int) (z : Nat) (E : List FC) (w : World) (e : Ending) (w' : World) : Prop :=
  ∃ cm, e = .returned (.tuple #[.iface 261 (ptr cm), .nilIface]) ∧ HistC w' cm d mb count z E F ∧ Below w.heap.size w w'
set_option maxHeartbeats 8000000 in
set_option maxRecDepth 100000 in
theorem newHist_any (d c mb : Nat) (nm hp un : ByteArray) (V X : List ByteArray) (F : List P2) (v3 vn vx : Value) (count : Int) (z : Nat) (E : List FC) (w : World) (hG : Glob w) (hd : DescAt w d nm hp un V F v3 c vn) (hx : Sl.Of Value.string w vx X) (hl : X.length = V.length) (hn : (F.map (·.1) ++ V).Nodup) (hs : Srt F)
    (hV : V.length ≤ 1048576) (hF : F.length ≤ 1048576) (ha : ∀ s ∈ X, Asc s ∧ s.size ≤ 9223372036854775807) (hm : FMap w mb E) :
    Calls Tryz.prog 73 #[ptr d, .int .u64 count, .float .f64 z, .map (some mb), vx] w (NewHist (labs V X F) d mb count z E w) := by
  obtain ⟨an, cn, rfl, hcn1, hcn2⟩ := sl_slice hd.names
  obtain ⟨ax, cx, rfl, hcx1, hcx2⟩ := sl_slice hx
  have k7 := hd.c7
  have k4 := hd.c4
  have n0 := hd.n0
  have CV : Hid (Calls Tryz.prog 101 #[.slice ax X.length cx, .int .i64 (V.length : Int)] w fun e w' => e = .returned .nilIface ∧ Below w.heap.size w w') := by
    have h := values_any X _ w hx hG (by omega) ha
    rw [hl] at h
    rw [hl]
    exact h
  have CM : Hid (∀ W, Below w.heap.size w W → Calls Tryz.prog 106 #[ptr d, .slice ax X.length cx] W (MakeOut V X F W)) := fun W h => make_any d c nm hp un V X F v3 _ _ W (hd.below h) (hx.below h) hl hn hs hV hF
  have HMp : Hid (∀ W, Below w.heap.size w W → FMap W mb E) := fun W h => hm.below h
  clear hd hx hl hn hs ha hG hm
  go_enter Tryz.func73, Tryz.ntmps73
  go_wp2_with fail
  refine CV.out.mono ?_
  rintro e w1 ⟨rfl, hb1⟩
  have HB1 := Lib.hid hb1
  have hsz1 := hb1.size
  clear hb1 k7 k4 n0
  go_wp2_with fail
  refine (CM.out _ HB1.out).mono ?_
  rintro e w2 ⟨v, rfl, hp2, hb2⟩
  obtain ⟨qs, hql, hlvs, _⟩ := id hp2
  obtain ⟨al, cl, rfl, _, _⟩ := sl_slice hlvs
  have hb02 : Below w.heap.size w w2 := HB1.out.trans (hb2.mono HB1.out.size)
  have HO : Hid (NewHist (labs V X F) d mb count z E w (.returned (.tuple #[.iface 261 (ptr w2.heap.size), .nilIface])) (w2.alloc (.cells #[ptr d, .int .u64 count, .float .f64 z, .map (some mb), .slice al qs.length cl, nilp] 263))) := by
    have hq : Below w2.heap.size w2 (w2.alloc (.cells #[ptr d, .int .u64 count, .float .f64 z, .map (some mb), .slice al qs.length cl, nilp] 263)) := (Below.refl _ _).alloc (Nat.le_refl _) _
    exact ⟨_, rfl, ⟨⟨_, Whole.made w2 _ _, hp2.below hq⟩, HMp.out _ (hb02.alloc hb02.size _)⟩, hb02.alloc hb02.size _⟩
  clear hp2 hlvs hql hb2 hb02
  go_wp2_with fail
  go_ret2
  exact HO.out

end Go.Proofs.YtlolomodcbkblaaGreatDoor.Ch

set_option linter.unusedVariables false
set_option linter.unusedSimpArgs false
namespace Go.Proofs.YtlolomodcbkblaaGreatDoor.Ch
open Go.RowKit Go.Maps Go.WideMaps Go.ChangeShapes Go.WideShapes Go.Deep Fp Obs _root_.Go.Proofs.YtlolomodcbkblaaGreatDoor.Mt _root_.Go.Proofs.YtlolomodcbkblaaGreatDoor.Fm
open _root_.Go.Proofs.YtlolomodcbkblaaGreatDoor.Sp (Q3 pv cell_kept)
open _root_.Go.Proofs.YtlolomodcbkblaaGreatDoor.Cz (NE ne_of_lt ne_of_base)

theorem infoB : (Tryz.prog.info? 334).map (fun i => (i.zero, i.size, i.bytes)) = some (some (.pointer none), 1, 8) := by kernel_rfl
/-- the bucket of a bound and its count -/
structure BktAt (w : World) (q : Q3) (p : FC) : Prop where
  c0 : w.cell? ⟨q.1, 0, none⟩ = some (ptr q.2.1)
  c1 : w.cell? ⟨q.1, 1, none⟩ = some (ptr q.2.2)
  c2 : w.cell? ⟨q.1, 2, none⟩ = some nilp
  d0 : w.cell? ⟨q.2.1, 0, none⟩ = some (.int .u64 p.2)
  d1 : w.cell? ⟨q.2.2, 0, none⟩ = some (.float .f64 p.1)
theorem cellLt {W : World} {b j : Nat} {v : Value} (h : W.cell? ⟨b, j, none⟩ = some v) : b < W.heap.size := World.block_lt_of_cell? W (a := ⟨b, j, none⟩) h
theorem BktAt.lt {w : World} {q : Q3} {p : FC} (h : BktAt w q p) : q.1 < w.heap.size ∧ q.2.1 < w.heap.size ∧ q.2.2 < w.heap.size := ⟨cellLt h.c0, cellLt h.d0, cellLt h.d1⟩
theorem BktAt.kept {w w' : World} {q : Q3} {p : FC} {r : Option Nat} (h : BktAt w q p) (k : w.grownBy w' r) (n1 : some q.1 ≠ r) (n2 : some q.2.1 ≠ r) (n3 : some q.2.2 ≠ r) : BktAt w' q p := by
  obtain ⟨l1, l2, l3⟩ := h.lt
  exact ⟨(cell_kept k l1 n1).trans h.c0, (cell_kept k l1 n1).trans h.c1, (cell_kept k l1 n1).trans h.c2, (cell_kept k l2 n2).trans h.d0, (cell_kept k l3 n3).trans h.d1⟩
theorem below_grown {w w' : World} (h : Below w.heap.size w w') : w.grownBy w' none := ⟨h.os, h.tape, h.output, h.size, fun i hi _ => h.block i hi⟩
theorem BktAt.below {w w' : World} {q : Q3} {p : FC} (h : BktAt w q p) (k : Below w.heap.size w w') : BktAt w' q p := h.kept (below_grown k) (by simp) (by simp) (by simp)
/-- a row of buckets, its cells apart from the buckets' -/
structure BSt (B : Nat) (u : Value) (qs : List Q3) (ps : List FC) (w : World) : Prop where
  row : w.ownsRow B 334 1 u ps.length (qs.map pv)
  len : qs.length = ps.length
  bk : ∀ i (h : i < qs.length) (h2 : i < ps.length), BktAt w qs[i] ps[i]
  ne : ∀ q ∈ qs, NE u q.1 ∧ NE u q.2.1 ∧ NE u q.2.2
theorem ne_some {u : Value} {b : Nat} (h : NE u b) : some b ≠ u.ownBlock := by
  intro e
  rcases h with h | h
  · rw [h] at e; cases e
  · exact h e.symm
theorem BSt.kept {B : Nat} {u : Value} {qs : List Q3} {ps : List FC} {w w' : World} (h : BSt B u qs ps w) (k : Below w.heap.size w w') : BSt B u qs ps w' :=
  ⟨Nd.own_below h.row k, h.len, fun i h1 h2 => (h.bk i h1 h2).below k, h.ne⟩
/-- a bucket appended: W: ahead of its three blocks; W4: ahead of the append -/
theorem BSt.app {B : Nat} {u u' : Value} {qs : List Q3} {ps : List FC} {w W4 w' : World} {q : Q3} {p : FC} (h : BSt B u qs ps w) (k : Below w.heap.size w W4) (hq : BktAt W4 q p) (hq1 : w.heap.size ≤ q.1 ∧ w.heap.size ≤ q.2.1 ∧ w.heap.size ≤ q.2.2)
    (ho : w'.ownsRow B 334 1 u' (ps.length + 1) (qs.map pv ++ [pv q])) (hg : W4.grownBy w' u.ownBlock) (hl : u'.ownBlock = u.ownBlock ∨ u'.ownBlock = some W4.heap.size) : BSt B u' (qs ++ [q]) (ps ++ [p]) w' := by
  have h4 := h.kept k
  have nq : NE u q.1 ∧ NE u q.2.1 ∧ NE u q.2.2 := ⟨ne_of_lt h.row hq1.1, ne_of_lt h.row hq1.2.1, ne_of_lt h.row hq1.2.2⟩
  have bks : ∀ i (h1 : i < (qs ++ [q]).length) (h2 : i < (ps ++ [p]).length), BktAt w' (qs ++ [q])[i] (ps ++ [p])[i] := fun i h1 h2 => by
    have hlen := h.len
    by_cases hi : i < qs.length
    · have h3 : i < ps.length := by omega
      rw [List.getElem_append_left hi, List.getElem_append_left h3]
      have n := h.ne _ (List.getElem_mem hi)
      exact (h4.bk i hi h3).kept hg (ne_some n.1) (ne_some n.2.1) (ne_some n.2.2)
    · have e : i = qs.length := by simp at h1; omega
      have e2 : i = ps.length := by omega
      have g1 : (qs ++ [q])[i] = q := by rw [List.getElem_append_right (by omega)]; simp [e]
      have g2 : (ps ++ [p])[i] = p := by rw [List.getElem_append_right (by omega)]; simp [e2]
      rw [g1, g2]
      exact hq.kept hg (ne_some nq.1) (ne_some nq.2.1) (ne_some nq.2.2)
  refine ⟨by rw [List.map_append, List.length_append]; exact ho, by rw [List.length_append, List.length_append, h.len]; rfl, bks, fun x hx => ?_⟩
  have hxl : NE u x.1 ∧ NE u x.2.1 ∧ NE u x.2.2 := by
    rcases List.mem_append.1 hx with hx | hx
    · exact h.ne x hx
    · rw [List.mem_singleton.1 hx]; exact nq
  have hlt : x.1 < W4.heap.size ∧ x.2.1 < W4.heap.size ∧ x.2.2 < W4.heap.size := by
    rcases List.mem_append.1 hx with hx | hx
    · obtain ⟨i, hi, rfl⟩ := List.getElem_of_mem hx
      exact (h4.bk i hi (by rw [← h.len]; exact hi)).lt
    · rw [List.mem_singleton.1 hx]; exact hq.lt
  rcases hl with hl | hl
  · unfold NE at hxl ⊢
    rw [hl]
    exact hxl
  · unfold NE
    rw [hl]
    exact ⟨Or.inr (fun e => by injection e with e; omega), Or.inr (fun e => by injection e with e; omega), Or.inr (fun e => by injection e with e; omega)⟩
/-- the entries met, by their places -/
def met (E : List FC) (ks : List Nat) : List FC := ks.map fun j => E.getD j (0, 0)
theorem met_snoc (E : List FC) (ks : List Nat) (j : Nat) : met E (ks ++ [j]) = met E ks ++ [E.getD j (0, 0)] := by unfold met; rw [List.map_append]; rfl
theorem met_all {E : List FC} {ks : List Nat} (hn : ks.Nodup) (hl : ∀ j ∈ ks, j < E.length) (ha : ∀ j, j < E.length → j ∈ ks) : (met E ks).Perm E := by
  have h1 : ks.Perm (List.range E.length) := (List.perm_ext_iff_of_nodup hn List.nodup_range).2 fun j => by
    rw [List.mem_range]
    exact ⟨hl j, ha j⟩
  have h2 : (List.range E.length).map (fun j => E.getD j (0, 0)) = E := by
    refine List.ext_getElem (by simp) fun i h3 h4 => ?_
    simp at h3
    simp [h3]
  have := h1.map fun j => E.getD j (0, 0)
  rw [h2] at this
  exact this
theorem met_len (E : List FC) (ks : List Nat) : (met E ks).length = ks.length := by unfold met; simp

end Go.Proofs.YtlolomodcbkblaaGreatDoor.Ch
