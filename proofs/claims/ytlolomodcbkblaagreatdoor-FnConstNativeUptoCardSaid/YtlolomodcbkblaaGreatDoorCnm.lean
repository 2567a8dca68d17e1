/- A constant classic histogram written ((*constHistogram).Write). -/
import Derived.Test.YtlolomodcbkblaaGreatDoorMg20
import Derived.Deep.Cut
set_option linter.unusedVariables false
set_option linter.unusedSimpArgs false
namespace Go.Proofs.YtlolomodcbkblaaGreatDoor.Ch
open Go.RowKit Go.Maps Go.WideMaps Go.ChangeShapes Go.WideShapes Go.Deep Fp Obs _root_.Go.Proofs.YtlolomodcbkblaaGreatDoor.Mt _root_.Go.Proofs.YtlolomodcbkblaaGreatDoor.Fm
open _root_.Go.Proofs.YtlolomodcbkblaaGreatDoor.Sp (Q3 pv cell_kept)
open _root_.Go.Proofs.YtlolomodcbkblaaGreatDoor.Cz (NE ne_of_lt ne_of_base)

/-- a histogram's cells -/
abbrev his (a b c d : Value) : Array Value := #[a, b, c, d, nilp, nilp, nilp, .slice none 0 0, .slice none 0 0, .slice none 0 0, .slice none 0 0, .slice none 0 0]
/-- a classic histogram in block hb -/
structure HisAt (W : World) (B hb : Nat) (count : Int) (z : Nat) (v : Value) (qs : List Q3) (ps : List FC) : Prop where
  blk : ∃ c0 c1, Whole W hb 246 (his (ptr c0) (ptr c1) v nilp) ∧ W.cell? ⟨c0, 0, none⟩ = some (.int .u64 count) ∧ W.cell? ⟨c1, 0, none⟩ = some (.float .f64 z)
  bks : BSt B v qs ps W
def WrittenC (SP : List FC → Prop) (out : Nat) (lab : Value) (count : Int) (z : Nat) (E : List FC) (w : World) (e : Ending) (w' : World) : Prop :=
  e = .returned .nilIface ∧ ∃ hb v qs ps, Whole w' out 201 #[lab, nilp, nilp, nilp, nilp, ptr hb, nilp] ∧ w.heap.size ≤ hb ∧ HisAt w' w.heap.size hb count z v qs ps ∧ SP ps ∧ ps.Perm E ∧ w.grownBy w' (some out)
/-- what is asked of sort.Sort -/
def Sorts (SP : List FC → Prop) (B : Nat) (E : List FC) : Prop := ∀ u qs ps W, BSt B u qs ps W → ps.Perm E → Calls Tryz.prog 122 #[.iface 439 u] W fun e W' => e = .returned (.tuple #[]) ∧ ∃ qs' ps', BSt B u qs' ps' W' ∧ SP ps' ∧ ps'.Perm E ∧ W.grownBy W' u.ownBlock
/-- the loop's state -/
structure WSt (B mb r hb c0 c1 : Nat) (count : Int) (z : Nat) (E : List FC) (A : World) (ks : List Nat) (u : Value) (qs : List Q3) (W : World) : Prop where
  bs : BSt B u qs (met E ks) W
  blk : Whole W hb 246 (his (ptr c0) (ptr c1) (.slice none 0 0) nilp)
  x0 : W.cell? ⟨c0, 0, none⟩ = some (.int .u64 count)
  x1 : W.cell? ⟨c1, 0, none⟩ = some (.float .f64 z)
  un : NE u hb ∧ NE u c0 ∧ NE u c1 ∧ NE u r
  hr : hb < r ∧ c0 < r ∧ c1 < r ∧ B ≤ hb ∧ mb < B ∧ hb < c0 ∧ hb < c1
  qr : ∀ q ∈ qs, r < q.1 ∧ r < q.2.1 ∧ r < q.2.2
  rl : r < W.heap.size
  b : Below B A W
theorem WSt.kept {B mb r hb c0 c1 : Nat} {count : Int} {z : Nat} {E : List FC} {A : World} {ks : List Nat} {u : Value} {qs : List Q3} {W W' : World} (h : WSt B mb r hb c0 c1 count z E A ks u qs W) (k : Below W.heap.size W W') : WSt B mb r hb c0 c1 count z E A ks u qs W' := by
  exact ⟨h.bs.kept k, (k.block _ h.blk.lt).trans h.blk, (k.cell (p := ⟨c0, 0, none⟩) (cellLt h.x0)).trans h.x0, (k.cell (p := ⟨c1, 0, none⟩) (cellLt h.x1)).trans h.x1, h.un, h.hr, h.qr, Nat.lt_of_lt_of_le h.rl k.size, h.b.trans (k.mono (by have := h.rl; have := h.hr; omega))⟩
/-- the iterator has moved -/
theorem WSt.next {B mb r hb c0 c1 : Nat} {count : Int} {z : Nat} {E : List FC} {A : World} {ks : List Nat} {u : Value} {qs : List Q3} {W W' : World} (h : WSt B mb r hb c0 c1 count z E A ks u qs W) (k : W.grownBy W' (some r)) : WSt B mb r hb c0 c1 count z E A ks u qs W' := by
  obtain ⟨g1, g2, g3, g4, g5⟩ := h.hr
  have n : ∀ {b : Nat}, b ≠ r → some b ≠ some r := fun hne e => by injection e with e; exact hne e
  refine ⟨⟨h.bs.row.kept k h.un.2.2.2, h.bs.len, fun i h1 h2 => ?_, h.bs.ne⟩, (k.block _ h.blk.lt (n (by omega))).trans h.blk, (cell_kept k (cellLt h.x0) (n (by omega))).trans h.x0, (cell_kept k (cellLt h.x1) (n (by omega))).trans h.x1, h.un, h.hr, h.qr, Nat.lt_of_lt_of_le h.rl k.size, h.b.grown k (by have := h.rl; omega) (fun b hb => by injection hb with hb; omega)⟩
  have hq := h.qr _ (List.getElem_mem h1)
  exact (h.bs.bk i h1 h2).kept k (n (by omega)) (n (by omega)) (n (by omega))
/-- one bucket more -/
theorem WSt.app {B mb r hb c0 c1 : Nat} {count : Int} {z : Nat} {E : List FC} {A : World} {ks : List Nat} {u u' : Value} {qs : List Q3} {W W4 W' : World} {q : Q3} {j : Nat} (h : WSt B mb r hb c0 c1 count z E A ks u qs W) 
    (k : Below W.heap.size W W4) (hq : BktAt W4 q (E.getD j (0, 0))) (hq1 : W.heap.size ≤ q.1 ∧ W.heap.size ≤ q.2.1 ∧ W.heap.size ≤ q.2.2)
    (ho : W'.ownsRow B 334 1 u' (ks.length + 1) (qs.map pv ++ [pv q])) (hg : W4.grownBy W' u.ownBlock) (hl : u'.ownBlock = u.ownBlock ∨ u'.ownBlock = some W4.heap.size) (hu : ∀ b, u.ownBlock = some b → B ≤ b) : WSt B mb r hb c0 c1 count z E A (ks ++ [j]) u' (qs ++ [q]) W' := by
  have h4 := h.kept k
  have hlt := h4.rl
  obtain ⟨g1, g2, g3, g4, g5⟩ := h.hr
  have hmb : some mb ≠ u.ownBlock := fun e => by have := hu mb e.symm; omega
  have ru : ∀ b, b < r + 1 → NE u b → NE u' b := fun b hb hn => by
    rcases hl with hl | hl
    · unfold NE at hn ⊢; rw [hl]; exact hn
    · unfold NE; rw [hl]; exact Or.inr (fun e => by injection e with e; omega)
  refine ⟨?_, (hg.block _ h4.blk.lt (ne_some h.un.1)).trans h4.blk, (cell_kept hg (cellLt h4.x0) (ne_some h.un.2.1)).trans h4.x0, (cell_kept hg (cellLt h4.x1) (ne_some h.un.2.2.1)).trans h4.x1, ⟨ru _ (by omega) h.un.1, ru _ (by omega) h.un.2.1, ru _ (by omega) h.un.2.2.1, ru _ (by omega) h.un.2.2.2⟩, h.hr, fun x hx => ?_, Nat.lt_of_lt_of_le h4.rl hg.size, h4.b.grown hg (by have := h4.b.size; have := h4.blk.lt; omega) (fun b hb => hu b hb)⟩
  · rw [met_snoc]
    exact h.bs.app k hq hq1 (by rw [met_len]; exact ho) hg hl
  · have := h.rl
    rcases List.mem_append.1 hx with hx | hx
    · exact h.qr x hx
    · rw [List.mem_singleton.1 hx]; omega

/-- a bucket lies in no block that holds a slice where a bucket would hold none -/
theorem bk_far {w : World} {q : Q3} {p : FC} {b : Nat} {v0 : Value} (h : BktAt w q p) (h0 : w.cell? ⟨b, 0, none⟩ = some v0) (hv : (∃ x y t, v0 = .slice x y t) ∨ ((∃ x, v0 = ptr x) ∧ ∃ x y t, w.cell? ⟨b, 2, none⟩ = some (.slice x y t))) : some q.1 ≠ some b ∧ some q.2.1 ≠ some b ∧ some q.2.2 ≠ some b := by
  refine ⟨fun e => ?_, fun e => ?_, fun e => ?_⟩ <;> injection e with e
  · have c0 := h.c0
    have c2 := h.c2
    rw [e] at c0 c2
    rw [h0] at c0
    rcases hv with ⟨x, y, t, rfl⟩ | ⟨_, x, y, t, h2⟩
    · injection c0 with c0; cases c0
    · rw [h2] at c2; injection c2 with c2; cases c2
  · have d0 := h.d0
    rw [e, h0] at d0
    rcases hv with ⟨x, y, t, rfl⟩ | ⟨⟨x, rfl⟩, _⟩ <;> (injection d0 with d0; cases d0)
  · have d1 := h.d1
    rw [e, h0] at d1
    rcases hv with ⟨x, y, t, rfl⟩ | ⟨⟨x, rfl⟩, _⟩ <;> (injection d1 with d1; cases d1)
theorem BSt.grown {B : Nat} {u : Value} {qs : List Q3} {ps : List FC} {w w' : World} {b : Nat} (h : BSt B u qs ps w) (k : w.grownBy w' (some b)) (hu : NE u b) (hq : ∀ i (h1 : i < qs.length) (h2 : i < ps.length), BktAt w qs[i] ps[i] → some (qs[i]).1 ≠ some b ∧ some (qs[i]).2.1 ≠ some b ∧ some (qs[i]).2.2 ≠ some b) : BSt B u qs ps w' :=
  ⟨h.row.kept k hu, h.len, fun i h1 h2 => by
    have hb := h.bk i h1 h2
    obtain ⟨n1, n2, n3⟩ := hq i h1 h2 hb
    exact hb.kept k n1 n2 n3, h.ne⟩
/-- how many entries are still to come -/
def leftF (W : World) (r : Nat) : Nat :=
  match W.heap[r]? with
  | some (.mapIter _ n seen _) => n - seen.size
  | _ => 0
theorem leftF_eq {W : World} {mb r : Nat} {E : List FC} {ks : List Nat} (h : FRange W mb r E ks) : leftF W r = E.length - ks.length := by
  unfold leftF; rw [h.it]; simp
theorem nodup_le : ∀ (n : Nat) (ks : List Nat), ks.Nodup → (∀ j ∈ ks, j < n) → ks.length ≤ n
  | 0, ks, _, hl => by
    cases ks with
    | nil => exact Nat.le_refl _
    | cons a r => exact absurd (hl a (by simp)) (Nat.not_lt_zero _)
  | n + 1, ks, hn, hl => by
    by_cases hm : n ∈ ks
    · have h1 := nodup_le n (ks.erase n) (hn.erase n) fun j hj => by
        have h2 := (List.Nodup.mem_erase_iff hn).1 hj
        have := hl j h2.2
        have := h2.1
        omega
      rw [List.length_erase_of_mem hm] at h1
      omega
    · have h1 := nodup_le n ks hn fun j hj => by
        have := hl j hj
        have : j ≠ n := fun e => hm (by rw [← e]; exact hj)
        omega
      omega
theorem ne_slice {a b n c : Nat} (h : a ≠ b) : NE (.slice (some ⟨a, 0, none⟩) n c) b := Or.inr (fun e => h (by injection e))
theorem some_ne {a b : Nat} (h : a ≠ b) : some a ≠ some b := fun e => h (by injection e)
open _root_.Go.Proofs.YtlolomodcbkblaaGreatDoor.Cz (Gg1) in
/-- the last stores -/
theorem written_fin {SP : List FC → Prop} {out c0 c1 : Nat} {count : Int} {z : Nat} {E ps : List FC} {al : Option Addr} {nl cl : Nat} {u : Value} {qs : List Q3} {w W : World} (ho : Whole w out 201 zeroM) (hs : BSt w.heap.size u qs ps W) (hsp : SP ps) (hp : ps.Perm E)
    (hx : Whole W w.heap.size 246 (his (ptr c0) (ptr c1) (.slice none 0 0) nilp)) (h0 : W.cell? ⟨c0, 0, none⟩ = some (.int .u64 count)) (h1 : W.cell? ⟨c1, 0, none⟩ = some (.float .f64 z)) (hc : w.heap.size < c0 ∧ w.heap.size < c1) (hu : NE u w.heap.size) (hb : Below w.heap.size w W) :
    WrittenC SP out (.slice al nl cl) count z E w (.returned .nilIface) (((W.setCell ⟨w.heap.size, 2, none⟩ u).setCell ⟨out, 5, none⟩ (ptr w.heap.size)).setCell ⟨out, 0, none⟩ (.slice al nl cl)) := by
  have hlo := ho.lt
  have ho1 : Whole W out 201 zeroM := (hb.block _ hlo).trans ho
  have g1 := Gg1 W w.heap.size 2 u
  have x1 : Whole (W.setCell ⟨w.heap.size, 2, none⟩ u) w.heap.size 246 (his (ptr c0) (ptr c1) u nilp) := hx.put 2 u
  have b1 : BSt w.heap.size u qs ps (W.setCell ⟨w.heap.size, 2, none⟩ u) := hs.grown g1 hu fun i h2 h3 hk => bk_far hk (hx.cell 0) (Or.inr ⟨⟨c0, rfl⟩, _, _, _, hx.cell 2⟩)
  have o1 : Whole (W.setCell ⟨w.heap.size, 2, none⟩ u) out 201 zeroM := (g1.block _ ho1.lt (some_ne (by omega))).trans ho1
  have d1 := (cell_kept g1 (cellLt h0) (some_ne (by omega))).trans h0
  have e1 := (cell_kept g1 (cellLt h1) (some_ne (by omega))).trans h1
  generalize W.setCell ⟨w.heap.size, 2, none⟩ u = W1 at g1 x1 b1 o1 d1 e1 ⊢
  have g2 := Gg1 W1 out 5 (ptr w.heap.size)
  have uo : NE u out := ne_of_base b1.row hlo
  have x2 := (g2.block _ x1.lt (some_ne (by omega))).trans x1
  have b2 : BSt w.heap.size u qs ps (W1.setCell ⟨out, 5, none⟩ (ptr w.heap.size)) := b1.grown g2 uo fun i h2 h3 hk => bk_far hk (o1.cell 0) (Or.inl ⟨_, _, _, rfl⟩)
  have o2 : Whole (W1.setCell ⟨out, 5, none⟩ (ptr w.heap.size)) out 201 #[.slice none 0 0, nilp, nilp, nilp, nilp, ptr w.heap.size, nilp] := o1.put 5 (ptr w.heap.size)
  have d2 := (cell_kept g2 (cellLt d1) (some_ne (by omega))).trans d1
  have e2 := (cell_kept g2 (cellLt e1) (some_ne (by omega))).trans e1
  generalize W1.setCell ⟨out, 5, none⟩ (ptr w.heap.size) = W2 at g2 x2 b2 o2 d2 e2 ⊢
  have g3 := Gg1 W2 out 0 (.slice al nl cl)
  have x3 := (g3.block _ (Whole.lt (T := 246) x2) (some_ne (by omega))).trans x2
  have b3 : BSt w.heap.size u qs ps (W2.setCell ⟨out, 0, none⟩ (.slice al nl cl)) := b2.grown g3 uo fun i h2 h3 hk => bk_far hk (o2.cell 0) (Or.inl ⟨_, _, _, rfl⟩)
  have o3 : Whole (W2.setCell ⟨out, 0, none⟩ (.slice al nl cl)) out 201 #[.slice al nl cl, nilp, nilp, nilp, nilp, ptr w.heap.size, nilp] := o2.put 0 (.slice al nl cl)
  have d3 := (cell_kept g3 (cellLt d2) (some_ne (by omega))).trans d2
  have e3 := (cell_kept g3 (cellLt e2) (some_ne (by omega))).trans e2
  refine ⟨rfl, w.heap.size, u, qs, ps, o3, Nat.le_refl _, ⟨⟨c0, c1, x3, d3, e3⟩, b3⟩, hsp, hp, ?_⟩
  refine ⟨?_, ?_, ?_, ?_, fun k hk hne => ?_⟩
  · rw [g3.os, g2.os, g1.os, hb.os]
  · rw [g3.tape, g2.tape, g1.tape, hb.tape]
  · rw [g3.output, g2.output, g1.output, hb.output]
  · exact Nat.le_trans hb.size (Nat.le_trans g1.size (Nat.le_trans g2.size g3.size))
  · have z0 := hb.size
    have z1 := g1.size
    have z2 := g2.size
    rw [g3.block k (by omega) hne, g2.block k (by omega) hne, g1.block k (by omega) (some_ne (by omega)), hb.block k hk]
set_option maxHeartbeats 8000000 in
set_option maxRecDepth 100000 in
theorem writeHist_any (SP : List FC → Prop) (cm d mb out : Nat) (count : Int) (z : Nat) (E : List FC) (al : Option Addr) (nl cl : Nat) (w : World)
    (hc : Whole w cm 263 #[ptr d, .int .u64 count, .float .f64 z, .map (some mb), .slice al nl cl, nilp]) (hm : FMap w mb E) (hE : E.length ≤ 2147483647) (ho : Whole w out 201 zeroM) (n1 : cm ≠ out) (n2 : mb ≠ out)
    (hS : Sorts SP w.heap.size E) (hS0 : E = [] → SP []) :
    Calls Tryz.prog 267 #[ptr cm, ptr out] w (WrittenC SP out (.slice al nl cl) count z E w) := by
  obtain ⟨i0, hi, hz0, hz1, hz2⟩ := info_parts infoB
  have hlm := hm.lt
  have hlc := hc.lt
  have hlo := ho.lt
  obtain ⟨W1, hW1⟩ : ∃ W1, W1 = w.alloc (.cells (his nilp nilp (.slice none 0 0) nilp) 246) := ⟨_, rfl⟩
  have s1 : W1.heap.size = w.heap.size + 1 := by rw [hW1]; simp
  have b1 : Below w.heap.size w W1 := by rw [hW1]; exact (Below.refl _ _).alloc (Nat.le_refl _) _
  have hx1 : Whole W1 w.heap.size 246 (his nilp nilp (.slice none 0 0) nilp) := by rw [hW1]; exact Whole.made w _ _
  have HC : Hid (∀ W, Below w.heap.size w W → W.cell? ⟨cm, 1, none⟩ = some (.int .u64 count) ∧ W.cell? ⟨cm, 2, none⟩ = some (.float .f64 z) ∧ W.cell? ⟨cm, 3, none⟩ = some (.map (some mb)) ∧ W.cell? ⟨cm, 4, none⟩ = some (.slice al nl cl) ∧ W.cell? ⟨cm, 5, none⟩ = some nilp) := fun W k => by
    have g := (k.block _ hlc).trans hc
    have g : Whole W cm 263 #[ptr d, .int .u64 count, .float .f64 z, .map (some mb), .slice al nl cl, nilp] := g
    exact ⟨g.cell 1, g.cell 2, g.cell 3, g.cell 4, g.cell 5⟩
  have HM : Hid (∀ W, Below w.heap.size w W → FMap W mb E) := fun W k => hm.below k
  have k0 := HC.out w (Below.refl _ _)
  have k1 := HC.out W1 b1
  have hb1 := run_flen 3 (P := Tryz.prog) Tryz.underlying161 (HM.out W1 b1)
  have HB1 := Lib.hid b1
  have HX1 := Lib.hid hx1
  have HS1 : Hid (W1.heap.size = w.heap.size + 1) := s1
  clear b1 hx1 s1
  go_enter Tryz.func267, Tryz.ntmps267
  go_upto_region 2 with fail
  rw [← hW1]
  clear hW1 k0
  go_upto_region 3 with (first
    | (at_make; refine wpList_make_own _ rfl _ _ 243 rfl w.heap.size 334 i0 (.pointer none) 1 Tryz.underlying243 hi hz0 hz1 _ _ _ E.length rfl rfl rfl (by rw [hz2]; omega) (by unfold maxLen; omega) (by have := HS1.out; omega) ?_; intro W2 hrow2 hg2))
  have b2 : Below W1.heap.size W1 W2 := ⟨hg2.os, hg2.tape, hg2.output, hg2.size, fun j hj => hg2.block j hj (by simp)⟩
  have HB2 : Hid (Below w.heap.size w W2) := HB1.out.trans (b2.mono HB1.out.size)
  have HX2 : Hid (Whole W2 w.heap.size 246 (his nilp nilp (.slice none 0 0) nilp)) := (b2.block _ HX1.out.lt).trans HX1.out
  have HR2 := Lib.hid hrow2
  have HL2 : Hid (W1.heap.size < W2.heap.size) := by have := (hrow2.lt W1.heap.size rfl).2; exact this
  have k2 := HC.out W2 HB2.out
  clear hb1 k1 b2 hg2 hrow2 HX1
  go_upto_region 4 with (first
    | (go_at_call 105; refine (_root_.Go.Proofs.YtlolomodcbkblaaGreatDoor.Cn.ofU64_any count W2).mono ?_; rintro e W3 ⟨rfl, hw3⟩; have b3 : Below W2.heap.size W2 W3 := (by rw [hw3]; exact (Below.refl _ _).alloc (Nat.le_refl _) _); have HB3 : Hid (Below w.heap.size w W3) := HB2.out.trans (b3.mono HB2.out.size); have HX3 : Hid (Whole W3 w.heap.size 246 (his nilp nilp (.slice none 0 0) nilp)) := (b3.block _ HX2.out.lt).trans HX2.out; have HR3 : Hid (W3.ownsRow w.heap.size 334 1 (.slice (some ⟨W1.heap.size, 0, none⟩) 0 E.length) 0 []) := Nd.own_below HR2.out b3; have HD3 : Hid (W3.cell? ⟨W2.heap.size, 0, none⟩ = some (.int .u64 count)) := (by rw [hw3]; exact Sl.cell_new W2 _ _ 0); have k3 := HC.out W3 HB3.out; have x3 := HX3.out.cell 0; have f3 := HX3.out.free 0; have HZ3 : Hid (W2.heap.size < W3.heap.size) := (by show W2.heap.size < W3.heap.size; rw [hw3]; simp); clear hw3 b3))
  obtain ⟨W4, hW4⟩ : ∃ W4, W4 = W3.setCell ⟨w.heap.size, 0, none⟩ (ptr W2.heap.size) := ⟨_, rfl⟩
  rw [← hW4]
  have HB4 : Hid (Below w.heap.size w W4) := by rw [hW4]; exact HB3.out.setCell (Nat.le_refl _) _
  have HX4 : Hid (Whole W4 w.heap.size 246 (his (ptr W2.heap.size) nilp (.slice none 0 0) nilp)) := by rw [hW4]; exact HX3.out.put 0 (ptr W2.heap.size)
  have hlt1 : Hid (W1.heap.size = w.heap.size + 1) := HS1.out
  have HG4 : Hid (W3.grownBy W4 (some w.heap.size)) := by rw [hW4]; exact _root_.Go.Proofs.YtlolomodcbkblaaGreatDoor.Cz.Gg1 W3 w.heap.size 0 _
  have HR4 : Hid (W4.ownsRow w.heap.size 334 1 (.slice (some ⟨W1.heap.size, 0, none⟩) 0 E.length) 0 []) := HR3.out.kept HG4.out (ne_slice (by have := HS1.out; omega))
  have HD4 : Hid (W4.cell? ⟨W2.heap.size, 0, none⟩ = some (.int .u64 count)) := (cell_kept HG4.out (cellLt HD3.out) (some_ne (by have := HS1.out; have := HL2.out; omega))).trans HD3.out
  have HZ4 : Hid (W2.heap.size < W4.heap.size) := Nat.lt_of_lt_of_le HZ3.out HG4.out.size
  have k4 := HC.out W4 HB4.out
  clear hW4 k2 k3 x3 f3 HX3 HR3 HD3 HB3 HX2 HR2 HZ3 HG4
  go_upto_region 5 with (first
    | (go_at_call 113; refine (ofFloat_any z W4).mono ?_; rintro e W5 ⟨rfl, hw5⟩; have b5 : Below W4.heap.size W4 W5 := (by rw [hw5]; exact (Below.refl _ _).alloc (Nat.le_refl _) _); have HB5 : Hid (Below w.heap.size w W5) := HB4.out.trans (b5.mono HB4.out.size); have HX5 : Hid (Whole W5 w.heap.size 246 (his (ptr W2.heap.size) nilp (.slice none 0 0) nilp)) := (b5.block _ HX4.out.lt).trans HX4.out; have HR5 : Hid (W5.ownsRow w.heap.size 334 1 (.slice (some ⟨W1.heap.size, 0, none⟩) 0 E.length) 0 []) := Nd.own_below HR4.out b5; have HD5 : Hid (W5.cell? ⟨W2.heap.size, 0, none⟩ = some (.int .u64 count)) := (b5.cell (p := ⟨W2.heap.size, 0, none⟩) HZ4.out).trans HD4.out; have HE5 : Hid (W5.cell? ⟨W4.heap.size, 0, none⟩ = some (.float .f64 z)) := (by rw [hw5]; exact Sl.cell_new W4 _ _ 0); have k5 := HC.out W5 HB5.out; have x5 := HX5.out.cell 1; have f5 := HX5.out.free 1; clear hw5 b5))
  obtain ⟨W6, hW6⟩ : ∃ W6, W6 = W5.setCell ⟨w.heap.size, 1, none⟩ (ptr W4.heap.size) := ⟨_, rfl⟩
  rw [← hW6]
  have HB6 : Hid (Below w.heap.size w W6) := by rw [hW6]; exact HB5.out.setCell (Nat.le_refl _) _
  have HX6 : Hid (Whole W6 w.heap.size 246 (his (ptr W2.heap.size) (ptr W4.heap.size) (.slice none 0 0) nilp)) := by rw [hW6]; exact HX5.out.put 1 (ptr W4.heap.size)
  have HG6 : Hid (W5.grownBy W6 (some w.heap.size)) := by rw [hW6]; exact _root_.Go.Proofs.YtlolomodcbkblaaGreatDoor.Cz.Gg1 W5 w.heap.size 1 _
  have HR6 : Hid (W6.ownsRow w.heap.size 334 1 (.slice (some ⟨W1.heap.size, 0, none⟩) 0 E.length) 0 []) := HR5.out.kept HG6.out (ne_slice (by have := HS1.out; omega))
  have HD6 : Hid (W6.cell? ⟨W2.heap.size, 0, none⟩ = some (.int .u64 count)) := (cell_kept HG6.out (cellLt HD5.out) (some_ne (by have := HS1.out; have := HL2.out; omega))).trans HD5.out
  have HE6 : Hid (W6.cell? ⟨W4.heap.size, 0, none⟩ = some (.float .f64 z)) := (cell_kept HG6.out (cellLt HE5.out) (some_ne (by have := HS1.out; have := HL2.out; have := HZ4.out; omega))).trans HE5.out
  have HZ6 : Hid (W4.heap.size < W6.heap.size) := Nat.lt_of_lt_of_le (cellLt HE5.out) HG6.out.size
  have hm6 := HM.out W6 HB6.out
  have HM6 := Lib.hid hm6
  have k6 := HC.out W6 HB6.out
  have HW6 : Hid (∀ W7 : World, W6.grownBy W7 none → W7.heap.size = W6.heap.size + 1 → WSt w.heap.size mb W6.heap.size w.heap.size W2.heap.size W4.heap.size count z E w [] (.slice (some ⟨W1.heap.size, 0, none⟩) 0 E.length) [] W7) := fun W7 hg hs => by
    have z1 := HS1.out
    have z2 := HL2.out
    have z3 := HZ4.out
    have z4 := HZ6.out
    have b7 : Below W6.heap.size W6 W7 := ⟨hg.os, hg.tape, hg.output, hg.size, fun j hj => hg.block j hj (by simp)⟩
    exact ⟨⟨Nd.own_below HR6.out b7, rfl, fun i h1 => by simp at h1, fun q hq => by simp at hq⟩, (b7.block _ HX6.out.lt).trans HX6.out, (b7.cell (p := ⟨W2.heap.size, 0, none⟩) (cellLt HD6.out)).trans HD6.out, (b7.cell (p := ⟨W4.heap.size, 0, none⟩) (cellLt HE6.out)).trans HE6.out,
      ⟨ne_slice (by omega), ne_slice (by omega), ne_slice (by omega), ne_slice (by omega)⟩, ⟨by omega, by omega, by omega, Nat.le_refl _, hlm, by omega, by omega⟩, fun q hq => by simp at hq, by omega, HB6.out.trans (b7.mono (by omega))⟩
  clear hW6 k4 k5 x5 f5 HX5 HR5 HD5 HB5 HX4 HR4 HG6 hm6 HE5 HD4 HB4 HB2
  go_wp2_with (first
    | (at_range; refine wpList_frange _ rfl _ 161 rfl 24 31 Tryz.underlying161 mb E rfl HM6.out ?_; intro W7 hfr hg7 hs7; have HF7 := Lib.hid hfr; have HW7 := Lib.hid (HW6.out W7 hg7 hs7); clear hfr hg7 hs7))
  go_frame
  obtain ⟨r, hr⟩ : ∃ r, W6.heap.size = r := ⟨_, rfl⟩
  rw [hr] at HF7 HW7
  rw [hr]
  obtain ⟨c0, hc0⟩ : ∃ c0, W2.heap.size = c0 := ⟨_, rfl⟩
  rw [hc0] at HW7
  obtain ⟨c1, hc1⟩ : ∃ c1, W4.heap.size = c1 := ⟨_, rfl⟩
  rw [hc1] at HW7
  clear HW6 HM6 k6 HR6 HD6 HE6 HZ6 HX6 HZ4 HL2 hr hc0 hc1
  go_loopw [6] (fun vu wr => ∃ (ks : List Nat) (u : Value) (qs : List Q3), vu = u ∧ Hid (FRange wr mb r E ks) ∧ Hid (WSt w.heap.size mb r w.heap.size c0 c1 count z E w ks u qs wr)) (fun _ wr => leftF wr r)
  case atStart => exact ⟨[], _, [], rfl, HF7.out, HW7.out⟩
  case round =>
    obtain ⟨ks, u, qs, rfl, hfr, hst⟩ := hrel
    clear HF7 HW7
    go_wp2_with (first
      | (at_next; refine wpList_fnext _ rfl _ rfl mb r E ks rfl hfr.out ?_ ?_))
    · intro hall
      have hperm := met_all hfr.out.nd hfr.out.lt hall
      have hlen : (met E ks).length = E.length := hperm.length_eq
      obtain ⟨au, cu, hau⟩ := row_slice2 hst.out.bs.row
      subst hau
      obtain ⟨g1, g2, g3, g4, g5⟩ := hst.out.hr
      have HO := Lib.hid ho
      have hlo' : out < wr.heap.size := Nat.lt_of_lt_of_le hlo hst.out.b.size
      by_cases h0 : E.length = 0
      · have hps0 : met E ks = [] := List.length_eq_zero_iff.1 (by omega)
        have hE0 : E = [] := List.length_eq_zero_iff.1 h0
        have hw : Whole wr out 201 zeroM := (hst.out.b.block _ hlo).trans ho
        have x2 := hst.out.blk.cell 2
        have f2 := hst.out.blk.free 2
        have o5 := hw.cell 5
        have of5 := hw.free 5
        have o0 := hw.cell 0
        have of0 := hw.free 0
        obtain ⟨_, _, _, k4, _⟩ := HC.out wr hst.out.b
        have hne1 : w.heap.size ≠ out := by omega
        have hne2 : out ≠ w.heap.size := by omega
        have hne3 : cm ≠ w.heap.size := by omega
        have hne4 : w.heap.size ≠ cm := by omega
        have hne5 : out ≠ cm := fun e => n1 e.symm
        have HFin : Hid (WrittenC SP out (.slice al nl cl) count z E w (.returned .nilIface) (((wr.setCell ⟨w.heap.size, 2, none⟩ (.slice au (met E ks).length cu)).setCell ⟨out, 5, none⟩ (ptr w.heap.size)).setCell ⟨out, 0, none⟩ (.slice al nl cl))) :=
          written_fin ho hst.out.bs (by rw [hps0]; exact hS0 hE0) hperm hst.out.blk hst.out.x0 hst.out.x1 ⟨g5.2.1, g5.2.2⟩ hst.out.un.1 hst.out.b
        have hl0 : ((met E ks).length : Int) = 0 := by omega
        rw [hlen, h0] at HFin
        rw [hlen, h0]
        clear hfr hst hall hperm hps0 hE0 hw hlen HC hS hS0 ho hm hc HM hl0
        go_wp2_with fail
        go_ret
        exact HFin.out
      · have CS := Lib.hid (hS _ qs _ wr hst.out.bs hperm)
        have HSt := Lib.hid hst.out
        have hl1 : ¬ ((met E ks).length : Int) ≤ 0 := by omega
        have hl2 : (0 : Int) < ((met E ks).length : Int) := by omega
        have HUb : Hid (∀ b, (Value.slice au (met E ks).length cu).ownBlock = some b → w.heap.size ≤ b) := fun b hb => (hst.out.bs.row.lt b hb).1
        have HPost : Hid (∀ Wx : World, wr.grownBy Wx (Value.slice au (met E ks).length cu).ownBlock → Below w.heap.size w Wx ∧ Whole Wx w.heap.size 246 (his (ptr c0) (ptr c1) (.slice none 0 0) nilp) ∧ Wx.cell? ⟨c0, 0, none⟩ = some (.int .u64 count) ∧ Wx.cell? ⟨c1, 0, none⟩ = some (.float .f64 z)) := fun Wx hg => by
          have h := HSt.out
          exact ⟨h.b.grown hg h.b.size (fun b hb => HUb.out b hb), (hg.block _ h.blk.lt (ne_some h.un.1)).trans h.blk, (cell_kept hg (cellLt h.x0) (ne_some h.un.2.1)).trans h.x0, (cell_kept hg (cellLt h.x1) (ne_some h.un.2.2.1)).trans h.x1⟩
        have HNe : Hid (NE (Value.slice au (met E ks).length cu) w.heap.size) := hst.out.un.1
        have HC5 : Hid (w.heap.size < c0 ∧ w.heap.size < c1) := ⟨g5.2.1, g5.2.2⟩
        obtain ⟨n, hn⟩ : ∃ n, (met E ks).length = n := ⟨_, rfl⟩
        rw [hn] at CS HPost HNe hl1 hl2
        rw [hn]
        clear hfr hst hall hperm hlen hS hS0 hm hc HM HSt HUb hn
        go_wp2_with (first
          | (go_at_call 122; refine CS.out.mono ?_; rintro e Wx ⟨rfl, qs', ps', hbs, hsp, hpp, hg⟩; obtain ⟨hbx, hxx, h0x, h1x⟩ := HPost.out Wx hg; have HBx := Lib.hid hbx; have HOx : Hid (Whole Wx out 201 zeroM) := (hbx.block _ hlo).trans HO.out; have HFin : Hid (WrittenC SP out (.slice al nl cl) count z E w (.returned .nilIface) (((Wx.setCell ⟨w.heap.size, 2, none⟩ (.slice au n cu)).setCell ⟨out, 5, none⟩ (ptr w.heap.size)).setCell ⟨out, 0, none⟩ (.slice al nl cl))) := written_fin HO.out hbs hsp hpp hxx h0x h1x HC5.out HNe.out hbx; have x2 := hxx.cell 2; have f2 := hxx.free 2; have o5 := HOx.out.cell 5; have of5 := HOx.out.free 5; have o0 := HOx.out.cell 0; have of0 := HOx.out.free 0; obtain ⟨_, _, _, k4, _⟩ := HC.out Wx hbx; have hne1 : w.heap.size ≠ out := (by omega); have hne2 : out ≠ w.heap.size := (by omega); have hne3 : cm ≠ w.heap.size := (by omega); have hne4 : w.heap.size ≠ cm := (by omega); have hne5 : out ≠ cm := (fun e => n1 e.symm); clear hbs hsp hpp hg hbx hxx h0x h1x))
        go_ret
        exact HFin.out
    · intro j hj w1 hnk hrg1 hg1 hs1 hen1
      have hks : ks.length < E.length := by
        have h1 := nodup_le E.length (ks ++ [j]) hrg1.nd hrg1.lt
        rw [List.length_append] at h1
        exact h1
      have hst1 := hst.out.next hg1
      have hget : E.getD j (0, 0) = E[j] := by simp [hj]
      obtain ⟨f, c, hfc⟩ : ∃ f c, E[j] = (f, c) := ⟨_, _, rfl⟩
      rw [hfc] at hen1 hget
      have HGet := Lib.hid hget
      have HSt1 := Lib.hid hst1
      have HRg1 := Lib.hid hrg1
      have HLf : Hid (leftF wr r = E.length - ks.length) := leftF_eq hfr.out
      obtain ⟨au, cu, hau⟩ := row_slice2 hst1.bs.row
      rw [met_len] at hau
      subst hau
      have HR1 : Hid (w1.ownsRow w.heap.size 334 1 (.slice au ks.length cu) ks.length (qs.map pv)) := by
        have h1 := hst1.bs.row
        rw [met_len] at h1
        exact h1
      have HApp0 : Hid (∀ w8 w9 : World, Below w1.heap.size w1 w8 → Below w1.heap.size w1 w9 → w9.cell? ⟨w1.heap.size, 0, none⟩ = some (.int .u64 c) → w9.cell? ⟨w8.heap.size, 0, none⟩ = some (.float .f64 f) →
          ∀ (v2 : Value) (W12 : World), W12.ownsRow w.heap.size 334 1 v2 (ks.length + 1) (qs.map pv ++ [ptr w9.heap.size]) → ((w9.alloc (.cells #[ptr w1.heap.size, ptr w8.heap.size, nilp] 336)).alloc (.cells #[ptr w9.heap.size] 334)).grownBy W12 (Value.slice au ks.length cu).ownBlock → (v2.ownBlock = (Value.slice au ks.length cu).ownBlock ∨ v2.ownBlock = some ((w9.alloc (.cells #[ptr w1.heap.size, ptr w8.heap.size, nilp] 336)).alloc (.cells #[ptr w9.heap.size] 334)).heap.size) →
          WSt w.heap.size mb r w.heap.size c0 c1 count z E w (ks ++ [j]) v2 (qs ++ [(w9.heap.size, w1.heap.size, w8.heap.size)]) W12 ∧ FRange W12 mb r E (ks ++ [j])) := fun w8 w9 h8 h9 d9 e9 v2 W12 how hgw hlc => by
        have z9 := h9.size
        have z8 := h8.size
        have a1 : Below w9.heap.size w9 (w9.alloc (.cells #[ptr w1.heap.size, ptr w8.heap.size, nilp] 336)) := (Below.refl _ _).alloc (Nat.le_refl _) _
        have a2 : Below w9.heap.size w9 ((w9.alloc (.cells #[ptr w1.heap.size, ptr w8.heap.size, nilp] 336)).alloc (.cells #[ptr w9.heap.size] 334)) := ((Below.refl _ _).alloc (Nat.le_refl _) _).alloc (by simp) _
        have a3 : Below w1.heap.size w1 ((w9.alloc (.cells #[ptr w1.heap.size, ptr w8.heap.size, nilp] 336)).alloc (.cells #[ptr w9.heap.size] 334)) := h9.trans (a2.mono z9)
        have hu : ∀ b, (Value.slice au ks.length cu).ownBlock = some b → w.heap.size ≤ b := fun b hb => (HR1.out.lt b hb).1
        have hc : ∀ i, ((w9.alloc (.cells #[ptr w1.heap.size, ptr w8.heap.size, nilp] 336)).alloc (.cells #[ptr w9.heap.size] 334)).cell? ⟨w9.heap.size, i, none⟩ = (#[ptr w1.heap.size, ptr w8.heap.size, nilp] : Array Value)[i]? := fun i => (Sl.cell_old (w9.alloc (.cells #[ptr w1.heap.size, ptr w8.heap.size, nilp] 336)) _ _ _ (by simp)).trans (Sl.cell_new w9 _ _ i)
        have hq : BktAt ((w9.alloc (.cells #[ptr w1.heap.size, ptr w8.heap.size, nilp] 336)).alloc (.cells #[ptr w9.heap.size] 334)) (w9.heap.size, w1.heap.size, w8.heap.size) (E.getD j (0, 0)) := by
          rw [HGet.out]
          exact ⟨hc 0, hc 1, hc 2, (a2.cell (p := ⟨w1.heap.size, 0, none⟩) (cellLt d9)).trans d9, (a2.cell (p := ⟨w8.heap.size, 0, none⟩) (cellLt e9)).trans e9⟩
        have hmu : some mb ≠ (Value.slice au ks.length cu).ownBlock := fun e => by have := hu mb e.symm; have := hst1.hr; omega
        refine ⟨hst1.app a3 hq ⟨z9, Nat.le_refl _, z8⟩ how hgw hlc hu, (hrg1.kept (below_grown a3) (by simp) (by simp)).kept hgw hmu (ne_some hst1.un.2.2.2)⟩
      clear hst hfr hst1 hrg1 hg1 hs1 hnk hget hfc
      go_wp2_with (first
        | (go_at_call 105; refine (_root_.Go.Proofs.YtlolomodcbkblaaGreatDoor.Cn.ofU64_any c w1).mono ?_; rintro e w8 ⟨rfl, hw8⟩; have b8 : Below w1.heap.size w1 w8 := (by rw [hw8]; exact (Below.refl _ _).alloc (Nat.le_refl _) _); have HB8 := Lib.hid b8; have HD8 : Hid (w8.cell? ⟨w1.heap.size, 0, none⟩ = some (.int .u64 c)) := (by rw [hw8]; exact Sl.cell_new w1 _ _ 0); clear hw8 b8)
        | (go_at_call 113; refine (ofFloat_any f w8).mono ?_; rintro e w9 ⟨rfl, hw9⟩; have b9 : Below w8.heap.size w8 w9 := (by rw [hw9]; exact (Below.refl _ _).alloc (Nat.le_refl _) _); have HB9 : Hid (Below w1.heap.size w1 w9) := HB8.out.trans (b9.mono HB8.out.size); have HD9 : Hid (w9.cell? ⟨w1.heap.size, 0, none⟩ = some (.int .u64 c)) := (b9.cell (p := ⟨w1.heap.size, 0, none⟩) (cellLt HD8.out)).trans HD8.out; have HE9 : Hid (w9.cell? ⟨w8.heap.size, 0, none⟩ = some (.float .f64 f)) := (by rw [hw9]; exact Sl.cell_new w8 _ _ 0); clear hw9 b9; have HR9 : Hid (w9.ownsRow w.heap.size 334 1 (.slice au ks.length cu) ks.length (qs.map pv)) := Nd.own_below HR1.out HB9.out; have HApp := HApp0.out w8 w9 HB8.out HB9.out HD9.out HE9.out; have HNews := Lib.hid (Ss.news_one (w9.alloc (.cells #[ptr w1.heap.size, ptr w8.heap.size, nilp] 336)) #[ptr w9.heap.size] 334); have HOne : Hid (∀ u ∈ [ptr w9.heap.size], u.oneCell' = true) := (fun u hu => by rw [List.mem_singleton.1 hu]; rfl); have hs9 : w.heap.size ≤ w9.heap.size := Nat.le_trans HSt1.out.b.size HB9.out.size)
        | (at_builtin; refine wpList_append_own_at _ rfl _ _ 243 rfl w.heap.size 334 i0 (.pointer none) 1 8 Tryz.underlying243 hi hz0 hz1 hz2 rfl (by decide) (.slice au ks.length cu) ks.length (qs.map pv) rfl ((HR9.out.alloc _).alloc _) ⟨w9.heap.size + 1, 0, none⟩ 1 1 [ptr w9.heap.size] rfl rfl (by simpa using HNews.out) HOne.out (by unfold maxLen; omega) (by omega) (by simp; omega) ?_; intro v2 W12 how hgw hnb hlc; obtain ⟨hst2, hfr2⟩ := HApp v2 W12 how hgw hlc; have HSt2 := Lib.hid hst2; have HFr2 := Lib.hid hfr2; clear how hgw hnb hlc hst2 hfr2))
      go_roundw
      case rel => exact ⟨ks ++ [j], _, _, rfl, HFr2.out, HSt2.out⟩
      case measure => rw [leftF_eq HFr2.out, HLf.out, List.length_append]; simp; omega

end Go.Proofs.YtlolomodcbkblaaGreatDoor.Ch
