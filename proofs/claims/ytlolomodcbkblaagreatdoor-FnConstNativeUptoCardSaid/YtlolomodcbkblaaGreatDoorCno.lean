/- A constant classic histogram read back (impl.histOf), without exemplars. -/
import Derived.Test.YtlolomodcbkblaaGreatDoorCnm
import Derived.Test.YtlolomodcbkblaaGreatDoorCne
set_option linter.unusedVariables false
set_option linter.unusedSimpArgs false
namespace Go.Proofs.YtlolomodcbkblaaGreatDoor.Ch
open Go.RowKit Go.Maps Go.WideMaps Go.ChangeShapes Go.WideShapes Go.Deep Fp Obs _root_.Go.Proofs.YtlolomodcbkblaaGreatDoor.Mt _root_.Go.Proofs.YtlolomodcbkblaaGreatDoor.Fm _root_.Go.Proofs.YtlolomodcbkblaaGreatDoor
open _root_.Go.Proofs.YtlolomodcbkblaaGreatDoor.Sp (Q3 pv cell_kept ptr_at)
open _root_.Go.Proofs.YtlolomodcbkblaaGreatDoor.Cz (NE ne_of_lt ne_of_base)

/-- a classic histogram's own cells, as they are read -/
structure HCl (W : World) (hb : Nat) (count : Int) (z : Nat) (v : Value) : Prop where
  cells : ∃ c0 c1, W.cell? ⟨hb, 0, none⟩ = some (ptr c0) ∧ W.cell? ⟨hb, 1, none⟩ = some (ptr c1) ∧ W.cell? ⟨c0, 0, none⟩ = some (.int .u64 count) ∧ W.cell? ⟨c1, 0, none⟩ = some (.float .f64 z)
  c2 : W.cell? ⟨hb, 2, none⟩ = some v
  c3 : W.cell? ⟨hb, 3, none⟩ = some nilp
  c4 : W.cell? ⟨hb, 4, none⟩ = some nilp
theorem HCl.below {W W' : World} {hb : Nat} {count : Int} {z : Nat} {v : Value} (h : HCl W hb count z v) (k : Below W.heap.size W W') : HCl W' hb count z v := by
  have e : ∀ {b j : Nat} {v : Value}, W.cell? ⟨b, j, none⟩ = some v → W'.cell? ⟨b, j, none⟩ = some v := fun {b j v} g => (k.cell (p := ⟨b, j, none⟩) (cellLt g)).trans g
  obtain ⟨c0, c1, g0, g1, p0, p1⟩ := h.cells
  exact ⟨⟨c0, c1, e g0, e g1, e p0, e p1⟩, e h.c2, e h.c3, e h.c4⟩
/-- buckets as they are read -/
def Bkts (w : World) (v : Value) (ps : List FC) : Prop := ∃ qs : List Q3, qs.length = ps.length ∧ Sl.Of pv w v qs ∧ ∀ i (h : i < qs.length) (h2 : i < ps.length), BktAt w qs[i] ps[i]
theorem Bkts.below {W W' : World} {v : Value} {ps : List FC} (h : Bkts W v ps) (k : Below W.heap.size W W') : Bkts W' v ps := by
  obtain ⟨qs, h1, h2, h3⟩ := h
  exact ⟨qs, h1, h2.below k, fun i hi h4 => (h3 i hi h4).below k⟩
theorem BSt.bkts {B : Nat} {u : Value} {qs : List Q3} {ps : List FC} {w : World} (h : BSt B u qs ps w) : Bkts w u ps :=
  ⟨qs, h.len, Sl.Of.own (by have := h.row; rw [← h.len] at this; exact this), h.bk⟩
set_option maxHeartbeats 4000000 in
set_option maxRecDepth 100000 in
theorem getCountC (hb : Nat) (count : Int) (z : Nat) (v : Value) (w : World) (h : HCl w hb count z v) :
    Calls Tryz.prog 151 #[ptr hb] w fun e w' => e = .returned (.int .u64 count) ∧ w = w' := by
  obtain ⟨c0, c1, g0, g1, p0, p1⟩ := h.cells
  clear h g1 p1
  go_enter Tryz.func151, Tryz.ntmps151
  go_wp2
  go_ret
  exact ⟨rfl, rfl⟩
set_option maxHeartbeats 4000000 in
set_option maxRecDepth 100000 in
theorem getUpper_any (q r1 r2 f : Nat) (c : Int) (w : World) (h : BktAt w (q, r1, r2) (f, c)) :
    Calls Tryz.prog 152 #[ptr q] w fun e w' => e = .returned (.float .f64 f) ∧ w = w' := by
  have k1 : w.cell? ⟨q, 1, none⟩ = some (ptr r2) := h.c1
  have k2 : w.cell? ⟨r2, 0, none⟩ = some (.float .f64 f) := h.d1
  clear h
  go_enter Tryz.func152, Tryz.ntmps152
  go_wp2
  go_ret
  exact ⟨rfl, rfl⟩

/-- the cells of a bucket of the thin package -/
def bkc (p : FC) : List Value := [.int .u64 p.2, .float .f64 p.1, .bool false, .float .f64 0, .slice none 0 0, .int .i64 0]
theorem bkc_len (p : FC) : (bkc p).length = 6 := rfl
theorem infoIB : (Tryz.prog.info? 141).map (fun i => (i.zero, i.size, i.bytes)) = some (some (.agg #[.int .u64 0, .float .f64 0, .bool false, .float .f64 0, .slice none 0 0, .int .i64 0]), 6, 64) := by kernel_rfl
/-- a histogram as the thin package hands it back -/
def HistCl (count : Int) (z : Nat) (ps : List FC) (w : World) (e : Ending) (w' : World) : Prop :=
  ∃ a k, e = .returned (.agg #[.int .u64 count, .float .f64 z, .slice a ps.length k, .int .i64 0, .bool false, .int .i32 0, .float .f64 0, .int .u64 0, .slice none 0 0, .slice none 0 0, .slice none 0 0, .slice none 0 0, .slice none 0 0]) ∧ w'.ownsRow w.heap.size 141 6 (.slice a ps.length k) ps.length (ps.flatMap bkc) ∧ Below w.heap.size w w'

set_option maxHeartbeats 8000000 in
set_option maxRecDepth 100000 in
theorem histOf_c (hb : Nat) (count : Int) (z : Nat) (v : Value) (ps : List FC) (w : World) (h : HCl w hb count z v) (hbk : Bkts w v ps) (hl : ps.length ≤ 2147483647) :
    Calls Tryz.prog 130 #[ptr hb] w (HistCl count z ps w) := by
  obtain ⟨i0, hi, hz0, hz1, hz2⟩ := info_parts infoIB
  obtain ⟨qs0, hq0, hsl0, _⟩ := id hbk
  obtain ⟨av, cv, rfl⟩ := _root_.Go.Proofs.YtlolomodcbkblaaGreatDoor.Sp.ptr_slice hsl0
  rw [hq0] at h hbk
  rw [hq0] at hsl0
  clear hsl0
  obtain ⟨A, hA⟩ : ∃ A, A = w.alloc (.cells #[.int .u64 0, .float .f64 0, .slice none 0 0, .int .i64 0, .bool false, .int .i32 0, .float .f64 0, .int .u64 0, .slice none 0 0, .slice none 0 0, .slice none 0 0, .slice none 0 0, .slice none 0 0] 37) := ⟨_, rfl⟩
  have s1 : A.heap.size = w.heap.size + 1 := by rw [hA]; simp
  have hb0 : Below w.heap.size w A := by rw [hA]; exact (Below.refl _ _).alloc (Nat.le_refl _) _
  have hx0 : Whole A w.heap.size 37 #[.int .u64 0, .float .f64 0, .slice none 0 0, .int .i64 0, .bool false, .int .i32 0, .float .f64 0, .int .u64 0, .slice none 0 0, .slice none 0 0, .slice none 0 0, .slice none 0 0, .slice none 0 0] := by rw [hA]; exact Whole.made w _ _
  obtain ⟨v, hv⟩ : ∃ v : Value, v = .slice av ps.length cv := ⟨_, rfl⟩
  rw [← hv] at h hbk
  have HH : Hid (∀ W, Below A.heap.size A W → HCl W hb count z v) := fun W k => (h.below hb0).below k
  obtain ⟨c0, c1, g0, g1, p0, p1⟩ := (h.below hb0).cells
  have key : Hid (∀ W, Below A.heap.size A W → ∀ {b j : Nat} {v : Value}, A.cell? ⟨b, j, none⟩ = some v → W.cell? ⟨b, j, none⟩ = some v) := fun W k {b j v} g => (k.cell (p := ⟨b, j, none⟩) (cellLt g)).trans g
  have HQ1 : Hid (∀ W, Below A.heap.size A W → HCl W hb count z v ∧ W.cell? ⟨hb, 1, none⟩ = some (ptr c1) ∧ W.cell? ⟨c1, 0, none⟩ = some (.float .f64 z)) := fun W k => ⟨HH.out W k, key.out W k g1, key.out W k p1⟩
  have hsz : (Tryz.prog.info? 37).map (·.size) = some 13 := by kernel_rfl
  have hszB : (Tryz.prog.info? 141).map (·.size) = some 6 := by kernel_rfl
  have q0 := HQ1.out A.drew (Cn.bdr1 (Below.refl _ _))
  have HBk : Hid (∀ W, Below A.heap.size A W → Bkts W (.slice av ps.length cv) ps) := fun W k => by rw [← hv]; exact (hbk.below hb0).below k
  have HZ0 : Hid (∀ W, Below A.heap.size A W → Whole W w.heap.size 37 #[.int .u64 0, .float .f64 0, .slice none 0 0, .int .i64 0, .bool false, .int .i32 0, .float .f64 0, .int .u64 0, .slice none 0 0, .slice none 0 0, .slice none 0 0, .slice none 0 0, .slice none 0 0]) := fun W k => (k.block _ hx0.lt).trans hx0
  have HU : Hid (∀ W, Below A.heap.size A W → Below w.heap.size w W) := fun W k => hb0.trans (k.mono (by omega))
  have HS1 : Hid (A.heap.size = w.heap.size + 1) := s1
  have HV := Lib.hid hv
  clear s1 h hb0 hbk hv
  go_enter Tryz.func130, Tryz.ntmps130
  go_upto_region 1 with fail
  rw [← hA]
  clear hA
  refine wp_region_noPanic ?_
  refine wp_region_held_drew (S := fun W => HCl W hb count z v ∧ W.cell? ⟨hb, 1, none⟩ = some (ptr c1) ∧ W.cell? ⟨c1, 0, none⟩ = some (.float .f64 z)) (by kernel_rfl) (by (with_reducible exact q0)) (fun hHeld => ?_)
  refine wpAnyH_take (i := 0) (v := ?_) rfl (by kernel_rfl) (by kernel_rfl) (by kernel_rfl) (fun _ _ _ h => h) (Or.inl ⟨by rfl, ?_⟩) hHeld ?_
  rotate_left
  · intro w hSw; (try dsimp only at hSw); go_simp; (try with_reducible rfl)
  try simp only [Act.put, List.setIfInBounds_toArray, List.set_cons_zero, List.set_cons_succ, List.getElem_toArray, List.getElem_cons_zero, List.getElem_cons_succ]
  refine Calm.take (i := 1) (v := .int .u64 count) rfl (by kernel_rfl) (by kernel_rfl) (by kernel_rfl) (fun _ _ _ h => h) ⟨by rfl, fun W hSw => ⟨151, #[ptr hb], ?_, getCountC hb count z v W hSw.1⟩⟩ hHeld ?_
  · go_simp; (try with_reducible rfl)
  try simp only [Act.put, List.setIfInBounds_toArray, List.set_cons_zero, List.set_cons_succ, List.getElem_toArray, List.getElem_cons_zero, List.getElem_cons_succ]
  refine wpAnyH_take (i := 2) (v := ?_) rfl (by kernel_rfl) (by kernel_rfl) (by kernel_rfl) (fun _ _ _ h => h) (Or.inl ⟨by rfl, ?_⟩) hHeld ?_
  rotate_left
  · intro w hSw; (try dsimp only at hSw); go_simp; (try with_reducible rfl)
  try simp only [Act.put, List.setIfInBounds_toArray, List.set_cons_zero, List.set_cons_succ, List.getElem_toArray, List.getElem_cons_zero, List.getElem_cons_succ]
  refine wpAnyH_take (i := 3) (v := ?_) rfl (by kernel_rfl) (by kernel_rfl) (by kernel_rfl) (fun _ _ _ h => h) (Or.inl ⟨by rfl, ?_⟩) hHeld ?_
  rotate_left
  · intro w hSw; (try dsimp only at hSw); go_simp; (try with_reducible rfl)
  try simp only [Act.put, List.setIfInBounds_toArray, List.set_cons_zero, List.set_cons_succ, List.getElem_toArray, List.getElem_cons_zero, List.getElem_cons_succ]
  refine wpAnyH_take (i := 4) (v := ?_) rfl (by kernel_rfl) (by kernel_rfl) (by kernel_rfl) (fun _ _ _ h => h) (Or.inl ⟨by rfl, ?_⟩) hHeld ?_
  rotate_left
  · intro w hSw; (try dsimp only at hSw); go_simp; (try with_reducible rfl)
  try simp only [Act.put, List.setIfInBounds_toArray, List.set_cons_zero, List.set_cons_succ, List.getElem_toArray, List.getElem_cons_zero, List.getElem_cons_succ]
  refine wpAnyH_take (i := 5) (v := ?_) rfl (by kernel_rfl) (by kernel_rfl) (by kernel_rfl) (fun _ _ _ h => h) (Or.inl ⟨by rfl, ?_⟩) hHeld ?_
  rotate_left
  · intro w hSw; (try dsimp only at hSw); go_simp; (try with_reducible rfl)
  try simp only [Act.put, List.setIfInBounds_toArray, List.set_cons_zero, List.set_cons_succ, List.getElem_toArray, List.getElem_cons_zero, List.getElem_cons_succ]
  refine wpAnyH_take (i := 6) (v := ?_) rfl (by kernel_rfl) (by kernel_rfl) (by kernel_rfl) (fun _ _ _ h => h) (Or.inl ⟨by rfl, ?_⟩) hHeld ?_
  rotate_left
  · intro w hSw; (try dsimp only at hSw); go_simp; (try with_reducible rfl)
  try simp only [Act.put, List.setIfInBounds_toArray, List.set_cons_zero, List.set_cons_succ, List.getElem_toArray, List.getElem_cons_zero, List.getElem_cons_succ]
  refine wpAnyH_take (i := 7) (v := ?_) rfl (by kernel_rfl) (by kernel_rfl) (by kernel_rfl) (fun _ _ _ h => h) (Or.inl ⟨by rfl, ?_⟩) hHeld ?_
  rotate_left
  · intro w hSw; (try dsimp only at hSw); go_simp; (try with_reducible rfl)
  try simp only [Act.put, List.setIfInBounds_toArray, List.set_cons_zero, List.set_cons_succ, List.getElem_toArray, List.getElem_cons_zero, List.getElem_cons_succ]
  refine wpAnyH_take (i := 8) (v := ?_) rfl (by kernel_rfl) (by kernel_rfl) (by kernel_rfl) (fun _ _ _ h => h) (Or.inl ⟨by rfl, ?_⟩) hHeld ?_
  rotate_left
  · intro w hSw; (try dsimp only at hSw); go_simp; (try with_reducible rfl)
  try simp only [Act.put, List.setIfInBounds_toArray, List.set_cons_zero, List.set_cons_succ, List.getElem_toArray, List.getElem_cons_zero, List.getElem_cons_succ]
  refine wpAnyH_ready (rs := [9]) (by kernel_rfl) (by simp) (AllReadyH.cons rfl (fun K hK => ?_) AllReadyH.nil)
  go_simp
  obtain ⟨y1, hy⟩ : ∃ y, y = (A.alloc (.cells #[.int .u64 0, .float .f64 0, .slice none 0 0, .int .i64 0, .bool false, .int .i32 0, .float .f64 0, .int .u64 0, .slice none 0 0, .slice none 0 0, .slice none 0 0, .slice none 0 0, .slice none 0 0] 37)).drew := ⟨_, rfl⟩; rw [← hy]; have HX1 : Hid (Whole y1 A.heap.size 37 #[.int .u64 0, .float .f64 0, .slice none 0 0, .int .i64 0, .bool false, .int .i32 0, .float .f64 0, .int .u64 0, .slice none 0 0, .slice none 0 0, .slice none 0 0, .slice none 0 0, .slice none 0 0]) := (by rw [hy]; exact Whole.made A _ _); have HE1 : Hid (Below A.heap.size A y1) := (by rw [hy]; exact Cn.bdr1 ((Below.refl _ _).alloc (Nat.le_refl _) _)); have q1 := HQ1.out _ HE1.out; clear hy
  refine hK.out _ _ ?_ (fun hHeld2 => ?_)
  · first | (with_reducible exact q1) | (with_reducible exact q2)
  clear hK K hHeld; have hHeld := hHeld2; clear hHeld2
  try simp only [Act.put, List.setIfInBounds_toArray, List.set_cons_zero, List.set_cons_succ, List.getElem_toArray, List.getElem_cons_zero, List.getElem_cons_succ]
  refine wpAnyH_ready (rs := [10]) (by kernel_rfl) (by simp) (AllReadyH.cons rfl (fun K hK => ?_) AllReadyH.nil)
  rw [if_pos (by rfl)]
  refine Big.wp_store_whole _ _ _ rfl A.heap.size 37 _ #[.int .u64 count, .float .f64 z, .slice none 0 0, .int .i64 0, .bool false, .int .i32 0, .float .f64 0, .int .u64 0, .slice none 0 0, .slice none 0 0, .slice none 0 0, .slice none 0 0, .slice none 0 0] rfl rfl HX1.out rfl hsz (by simp [Value.oneCell']) ?_; intro y2 hx2 hg2 hs2; have HX2 := Lib.hid hx2; have HE2 : Hid (Below A.heap.size A y2) := HE1.out.grown hg2 HE1.out.size (fun j hj => by injection hj with hj; omega); have q2 := HQ1.out _ HE2.out; clear hx2 hg2 hs2
  refine hK.out _ _ ?_ (fun hHeld2 => ?_)
  · first | (with_reducible exact q1) | (with_reducible exact q2)
  clear hK K hHeld; have hHeld := hHeld2; clear hHeld2
  try simp only [Act.put, List.setIfInBounds_toArray, List.set_cons_zero, List.set_cons_succ, List.getElem_toArray, List.getElem_cons_zero, List.getElem_cons_succ]
  refine wpAnyH_done (by kernel_rfl) ?_ _
  refine NoPanic.normal ?_
  have hh2 := HH.out _ HE2.out
  have kg2 := hh2.c2
  rw [HV.out] at kg2
  clear hh2 q0 q1 q2 HX1 HE1 HQ1
  go_wp2_with fail
  go_loopw [23] (fun vk wr => ∃ (k : Nat) (a : Option Addr) (cc : Nat), k ≤ ps.length ∧ vk = .int .i64 (k : Int) ∧ Hid (Whole wr A.heap.size 37 #[.int .u64 count, .float .f64 z, .slice a k cc, .int .i64 0, .bool false, .int .i32 0, .float .f64 0, .int .u64 0, .slice none 0 0, .slice none 0 0, .slice none 0 0, .slice none 0 0, .slice none 0 0]) ∧ Hid (wr.ownsRow (A.heap.size + 1) 141 6 (.slice a k cc) k ((ps.take k).flatMap bkc)) ∧ Hid (Below A.heap.size A wr)) (fun vk _ => ps.length - (intOf vk).toNat)
  case atStart => exact ⟨0, none, 0, Nat.zero_le _, rfl, HX2.out, World.ownsRow_nil _ _ _ _, HE2.out⟩
  case round =>
    obtain ⟨k, a, cc, hk, rfl, hx, hrow, hbe⟩ := hrel
    clear HX2 HE2 kg2
    by_cases hlt : k < ps.length
    · obtain ⟨qs, hql, hsl, hat⟩ := HBk.out wr hbe.out
      have hlq : k < qs.length := by rw [hql]; exact hlt
      obtain ⟨b, off, hav, hbb, d0⟩ := ptr_at (by rw [← hql] at hsl; exact hsl) hlq
      have hsp := hat k hlq hlt
      obtain ⟨f, c, hfc⟩ : ∃ f c, ps[k] = (f, c) := ⟨_, _, rfl⟩
      obtain ⟨q, r1, r2, hq⟩ : ∃ q r1 r2, qs[k] = (q, r1, r2) := ⟨_, _, _, rfl⟩
      rw [hfc, hq] at hsp
      rw [hq] at d0
      subst hav
      have HSp := Lib.hid hsp
      have HQ5 : Hid (∀ W, Below wr.heap.size wr W → W.cell? ⟨q, 0, none⟩ = some (ptr r1) ∧ W.cell? ⟨r1, 0, none⟩ = some (.int .u64 c) ∧ BktAt W (q, r1, r2) (f, c)) := fun W k => by
        have h := HSp.out.below k
        exact ⟨h.c0, h.d0, h⟩
      have htk : (ps.take (k + 1)).flatMap bkc = (ps.take k).flatMap bkc ++ bkc (f, c) := by rw [List.take_succ_eq_append_getElem hlt, List.flatMap_append, hfc]; simp
      have HTk := Lib.hid htk
      have z1 : (0 : Int) ≤ (k : Int) := by omega
      have z2 : (k : Int) < (ps.length : Int) := by omega
      have d0' : wr.cell? ⟨b, off + k, none⟩ = some (ptr q) := d0
      clear hsl hat hsp d0 hq htk hfc hql
      go_upto_region 5 with fail
      have q0 := HQ5.out wr.drew (Cn.bdr1 (Below.refl _ _))
      refine wp_region_noPanic ?_
      refine wp_region_held_drew (S := fun W => W.cell? ⟨q, 0, none⟩ = some (ptr r1) ∧ W.cell? ⟨r1, 0, none⟩ = some (.int .u64 c) ∧ BktAt W (q, r1, r2) (f, c)) (by kernel_rfl) (by (with_reducible exact q0)) (fun hHeld => ?_)
      refine wpAnyH_take (i := 0) (v := ?_) rfl (by kernel_rfl) (by kernel_rfl) (by kernel_rfl) (fun _ _ _ h => h) (Or.inl ⟨by rfl, ?_⟩) hHeld ?_
      rotate_left
      · intro w hSw; (try dsimp only at hSw); go_simp; (try with_reducible rfl)
      try simp only [Act.put, List.setIfInBounds_toArray, List.set_cons_zero, List.set_cons_succ, List.getElem_toArray, List.getElem_cons_zero, List.getElem_cons_succ]
      refine wpAnyH_take (i := 1) (v := ?_) rfl (by kernel_rfl) (by kernel_rfl) (by kernel_rfl) (fun _ _ _ h => h) (Or.inl ⟨by rfl, ?_⟩) hHeld ?_
      rotate_left
      · intro w hSw; (try dsimp only at hSw); go_simp; (try with_reducible rfl)
      try simp only [Act.put, List.setIfInBounds_toArray, List.set_cons_zero, List.set_cons_succ, List.getElem_toArray, List.getElem_cons_zero, List.getElem_cons_succ]
      refine wpAnyH_take (i := 2) (v := ?_) rfl (by kernel_rfl) (by kernel_rfl) (by kernel_rfl) (fun _ _ _ h => h) (Or.inl ⟨by rfl, ?_⟩) hHeld ?_
      rotate_left
      · intro w hSw; (try dsimp only at hSw); go_simp; (try with_reducible rfl)
      try simp only [Act.put, List.setIfInBounds_toArray, List.set_cons_zero, List.set_cons_succ, List.getElem_toArray, List.getElem_cons_zero, List.getElem_cons_succ]
      refine wpAnyH_take (i := 3) (v := ?_) rfl (by kernel_rfl) (by kernel_rfl) (by kernel_rfl) (fun _ _ _ h => h) (Or.inl ⟨by rfl, ?_⟩) hHeld ?_
      rotate_left
      · intro w hSw; (try dsimp only at hSw); go_simp; (try with_reducible rfl)
      try simp only [Act.put, List.setIfInBounds_toArray, List.set_cons_zero, List.set_cons_succ, List.getElem_toArray, List.getElem_cons_zero, List.getElem_cons_succ]
      refine wpAnyH_take (i := 4) (v := ?_) rfl (by kernel_rfl) (by kernel_rfl) (by kernel_rfl) (fun _ _ _ h => h) (Or.inl ⟨by rfl, ?_⟩) hHeld ?_
      rotate_left
      · intro w hSw; (try dsimp only at hSw); go_simp; (try with_reducible rfl)
      try simp only [Act.put, List.setIfInBounds_toArray, List.set_cons_zero, List.set_cons_succ, List.getElem_toArray, List.getElem_cons_zero, List.getElem_cons_succ]
      refine wpAnyH_take (i := 5) (v := ?_) rfl (by kernel_rfl) (by kernel_rfl) (by kernel_rfl) (fun _ _ _ h => h) (Or.inl ⟨by rfl, ?_⟩) hHeld ?_
      rotate_left
      · intro w hSw; (try dsimp only at hSw); go_simp; (try with_reducible rfl)
      try simp only [Act.put, List.setIfInBounds_toArray, List.set_cons_zero, List.set_cons_succ, List.getElem_toArray, List.getElem_cons_zero, List.getElem_cons_succ]
      refine wpAnyH_take (i := 6) (v := ?_) rfl (by kernel_rfl) (by kernel_rfl) (by kernel_rfl) (fun _ _ _ h => h) (Or.inl ⟨by rfl, ?_⟩) hHeld ?_
      rotate_left
      · intro w hSw; (try dsimp only at hSw); go_simp; (try with_reducible rfl)
      try simp only [Act.put, List.setIfInBounds_toArray, List.set_cons_zero, List.set_cons_succ, List.getElem_toArray, List.getElem_cons_zero, List.getElem_cons_succ]
      refine Calm.take (i := 7) (v := .float .f64 f) rfl (by kernel_rfl) (by kernel_rfl) (by kernel_rfl) (fun _ _ _ h => h) ⟨by rfl, fun W hSw => ⟨152, #[ptr q], ?_, getUpper_any q r1 r2 f c W hSw.2.2⟩⟩ hHeld ?_
      · go_simp; (try with_reducible rfl)
      try simp only [Act.put, List.setIfInBounds_toArray, List.set_cons_zero, List.set_cons_succ, List.getElem_toArray, List.getElem_cons_zero, List.getElem_cons_succ]
      refine wpAnyH_take (i := 8) (v := ?_) rfl (by kernel_rfl) (by kernel_rfl) (by kernel_rfl) (fun _ _ _ h => h) (Or.inl ⟨by rfl, ?_⟩) hHeld ?_
      rotate_left
      · intro w hSw; (try dsimp only at hSw); go_simp; (try with_reducible rfl)
      try simp only [Act.put, List.setIfInBounds_toArray, List.set_cons_zero, List.set_cons_succ, List.getElem_toArray, List.getElem_cons_zero, List.getElem_cons_succ]
      refine wpAnyH_ready (rs := [9]) (by kernel_rfl) (by simp) (AllReadyH.cons rfl (fun K hK => ?_) AllReadyH.nil)
      go_simp
      obtain ⟨y3, hy⟩ : ∃ y, y = (wr.alloc (.cells #[.int .u64 0, .float .f64 0, .bool false, .float .f64 0, .slice none 0 0, .int .i64 0] 141)).drew := ⟨_, rfl⟩; rw [← hy]; have HX3 : Hid (Whole y3 wr.heap.size 141 #[.int .u64 0, .float .f64 0, .bool false, .float .f64 0, .slice none 0 0, .int .i64 0]) := (by rw [hy]; exact Whole.made wr _ _); have HE3 : Hid (Below wr.heap.size wr y3) := (by rw [hy]; exact Cn.bdr1 ((Below.refl _ _).alloc (Nat.le_refl _) _)); have q3 := HQ5.out _ HE3.out; clear hy
      refine hK.out _ _ ?_ (fun hHeld2 => ?_)
      · first | (with_reducible exact q3) | (with_reducible exact q4)
      clear hK K hHeld; have hHeld := hHeld2; clear hHeld2
      try simp only [Act.put, List.setIfInBounds_toArray, List.set_cons_zero, List.set_cons_succ, List.getElem_toArray, List.getElem_cons_zero, List.getElem_cons_succ]
      refine wpAnyH_ready (rs := [10]) (by kernel_rfl) (by simp) (AllReadyH.cons rfl (fun K hK => ?_) AllReadyH.nil)
      rw [if_pos (by rfl)]
      refine Big.wp_store_whole _ _ _ rfl wr.heap.size 141 _ #[.int .u64 c, .float .f64 f, .bool false, .float .f64 0, .slice none 0 0, .int .i64 0] rfl rfl HX3.out rfl hszB (by simp [Value.oneCell']) ?_; intro y4 hx4 hg4 hs4; have HX4 := Lib.hid hx4; have HE4 : Hid (Below wr.heap.size wr y4) := HE3.out.grown hg4 HE3.out.size (fun j hj => by injection hj with hj; omega); have q4 := HQ5.out _ HE4.out; clear hx4 hg4 hs4
      refine hK.out _ _ ?_ (fun hHeld2 => ?_)
      · first | (with_reducible exact q3) | (with_reducible exact q4)
      clear hK K hHeld; have hHeld := hHeld2; clear hHeld2
      try simp only [Act.put, List.setIfInBounds_toArray, List.set_cons_zero, List.set_cons_succ, List.getElem_toArray, List.getElem_cons_zero, List.getElem_cons_succ]
      refine wpAnyH_done (by kernel_rfl) ?_ _
      refine NoPanic.normal ?_
      have hxy : Whole y4 A.heap.size 37 #[.int .u64 count, .float .f64 z, .slice a k cc, .int .i64 0, .bool false, .int .i32 0, .float .f64 0, .int .u64 0, .slice none 0 0, .slice none 0 0, .slice none 0 0, .slice none 0 0, .slice none 0 0] := (HE4.out.block _ hx.out.lt).trans hx.out
      have HXy := Lib.hid hxy
      have HRy : Hid (y4.ownsRow (A.heap.size + 1) 141 6 (.slice a k cc) k ((ps.take k).flatMap bkc)) := Nd.own_below hrow.out HE4.out
      have HBy : Hid (Below A.heap.size A y4) := hbe.out.trans (HE4.out.mono hbe.out.size)
      have x2 := hxy.cell 2
      have hq2 : y4.cell? ⟨q, 2, none⟩ = some nilp := (HSp.out.below HE4.out).c2
      have hsy : A.heap.size + 1 ≤ y4.heap.size := by have := hxy.lt; omega
      have HNews := Lib.hid (Ss.news_one y4 #[.int .u64 c, .float .f64 f, .bool false, .float .f64 0, .slice none 0 0, .int .i64 0] 141)
      have HOne : Hid (∀ u ∈ ([.int .u64 c, .float .f64 f, .bool false, .float .f64 0, .slice none 0 0, .int .i64 0] : List Value), u.oneCell' = true) := fun u hu => by simp at hu; rcases hu with rfl | rfl | rfl | rfl | rfl | rfl <;> rfl
      have HApp : Hid (∀ (v2 : Value) (W9 : World), W9.ownsRow (A.heap.size + 1) 141 6 v2 (k + 1) ((ps.take k).flatMap bkc ++ [.int .u64 c, .float .f64 f, .bool false, .float .f64 0, .slice none 0 0, .int .i64 0]) → (y4.alloc (.cells #[.int .u64 c, .float .f64 f, .bool false, .float .f64 0, .slice none 0 0, .int .i64 0] 141)).grownBy W9 (Value.slice a k cc).ownBlock →
          W9.ownsRow (A.heap.size + 1) 141 6 v2 (k + 1) ((ps.take (k + 1)).flatMap bkc) ∧ Whole W9 A.heap.size 37 #[.int .u64 count, .float .f64 z, .slice a k cc, .int .i64 0, .bool false, .int .i32 0, .float .f64 0, .int .u64 0, .slice none 0 0, .slice none 0 0, .slice none 0 0, .slice none 0 0, .slice none 0 0] ∧ Below A.heap.size A W9) := fun v2 W9 how hgw => by
        have a1 : Below y4.heap.size y4 (y4.alloc (.cells #[.int .u64 c, .float .f64 f, .bool false, .float .f64 0, .slice none 0 0, .int .i64 0] 141)) := (Below.refl _ _).alloc (Nat.le_refl _) _
        have hx9 := (a1.block _ HXy.out.lt).trans HXy.out
        have hz := HBy.out.size
        refine ⟨by rw [HTk.out]; exact how, (hgw.block _ (Whole.lt (T := 37) hx9) (ne_some (ne_of_base HRy.out (Nat.lt_succ_self _)))).trans hx9, (HBy.out.trans (a1.mono hz)).grown hgw (Nat.le_trans hz a1.size) (fun b hb => by have := (HRy.out.lt b hb).1; omega)⟩
      clear hx hrow hbe q0 q3 q4 HX3 HE3 hxy HQ5 HSp
      go_wp2_with (first
        | (at_builtin; refine wpList_append_own_at _ rfl _ _ 32 rfl (A.heap.size + 1) 141 i0 (.agg #[.int .u64 0, .float .f64 0, .bool false, .float .f64 0, .slice none 0 0, .int .i64 0]) 6 64 Tryz.underlying32 hi hz0 hz1 hz2 rfl (by decide) (.slice a k cc) k ((ps.take k).flatMap bkc) rfl (HRy.out.alloc _) ⟨y4.heap.size, 0, none⟩ 1 1 [.int .u64 c, .float .f64 f, .bool false, .float .f64 0, .slice none 0 0, .int .i64 0] rfl rfl (by simpa using HNews.out) HOne.out (by unfold maxLen; omega) (by omega) (by simp; omega) ?_; intro v2 W9 how hgw hnb hlc; obtain ⟨h1, h2, h3⟩ := HApp.out v2 W9 how hgw; obtain ⟨a2, cc2, rfl⟩ := row_slice2 h1; have HR9 := Lib.hid h1; have HX9 := Lib.hid h2; have HB9 := Lib.hid h3; have x9 := h2.cell 2; have f9 := h2.free 2; clear how hgw hnb hlc h1 h2 h3)
        | (refine Big.wpList_load_whole rfl 141 _ rfl wr.heap.size 141 #[.int .u64 c, .float .f64 f, .bool false, .float .f64 0, .slice none 0 0, .int .i64 0] rfl HX4.out _ Tryz.underlying141 rfl hszB ?_))
      go_roundw
      case rel => exact ⟨k + 1, a2, cc2, by omega, by go_num, HX9.out.put 2 (.slice a2 (k + 1) cc2), Nd.own_set HR9.out (Nat.lt_succ_self _), HB9.out.setCell (Nat.le_refl _) _⟩
      case measure => simp [intOf]; omega
    · obtain rfl : k = ps.length := by omega
      have hh := HH.out wr hbe.out
      have k3 := hh.c3
      have k4 := hh.c4
      have hrow2 := hrow.out
      rw [List.take_length] at hrow2
      have hxr : Whole wr w.heap.size 37 #[.int .u64 0, .float .f64 0, .slice none 0 0, .int .i64 0, .bool false, .int .i32 0, .float .f64 0, .int .u64 0, .slice none 0 0, .slice none 0 0, .slice none 0 0, .slice none 0 0, .slice none 0 0] := HZ0.out wr hbe.out
      have hz := hbe.out.size
      have h1 := HS1.out
      have HOut : Hid (∀ Wf, wr.grownBy Wf (some w.heap.size) → Wf.heap.size = wr.heap.size → HistCl count z ps w (.returned (.agg #[.int .u64 count, .float .f64 z, .slice a ps.length cc, .int .i64 0, .bool false, .int .i32 0, .float .f64 0, .int .u64 0, .slice none 0 0, .slice none 0 0, .slice none 0 0, .slice none 0 0, .slice none 0 0])) Wf) := fun Wf hg hs =>
        ⟨a, cc, rfl, Nd.own_base (hrow2.kept hg (ne_of_base hrow2 (by omega))) (by omega), (HU.out _ hbe.out).grown hg (by omega) (fun j hj => by injection hj with hj; omega)⟩
      have HXw := Lib.hid hx.out
      clear hh hrow hrow2 hbe hx hz h1
      go_upto_region 21 with fail
      refine wp_region_lit ?_
      refine Big.wpList_load_whole rfl _ _ rfl A.heap.size 37 #[.int .u64 count, .float .f64 z, .slice a ps.length cc, .int .i64 0, .bool false, .int .i32 0, .float .f64 0, .int .u64 0, .slice none 0 0, .slice none 0 0, .slice none 0 0, .slice none 0 0, .slice none 0 0] rfl HXw.out _ Tryz.underlying37 rfl hsz ?_
      simp only [Act.put]
      refine Big.wpList_store_whole rfl _ _ _ rfl w.heap.size 37 _ #[.int .u64 count, .float .f64 z, .slice a ps.length cc, .int .i64 0, .bool false, .int .i32 0, .float .f64 0, .int .u64 0, .slice none 0 0, .slice none 0 0, .slice none 0 0, .slice none 0 0, .slice none 0 0] rfl rfl hxr rfl hsz (by simp [Value.oneCell']) ?_
      intro W21 hx21 hg21 hs21
      simp only [Act.put]
      have HF := Lib.hid (HOut.out W21 hg21 hs21)
      have HX21 := Lib.hid hx21
      clear hx21 hg21 hs21 HOut
      go_wp2_with fail
      exact bodyPost_ret (v := .agg #[.int .u64 count, .float .f64 z, .slice a ps.length cc, .int .i64 0, .bool false, .int .i32 0, .float .f64 0, .int .u64 0, .slice none 0 0, .slice none 0 0, .slice none 0 0, .slice none 0 0, .slice none 0 0]) (Mt.res1 Tryz.results130 _ _ _ _ _ rfl (Big.loaded_whole 37 w.heap.size 37 _ HX21.out _ Tryz.underlying37 rfl hsz)) rfl HF.out

end Go.Proofs.YtlolomodcbkblaaGreatDoor.Ch
