/- Metrics: a metric with a single value read back (impl.metricOf). -/
import Derived.Test.YtlolomodcbkblaaGreatDoorMg13
import Derived.Test.YtlolomodcbkblaaGreatDoorMtx
import Derived.Test.YtlolomodcbkblaaGreatDoorMg12
import Derived.Test.YtlolomodcbkblaaGreatDoorMtv
import Derived.Deep.RegionHeld3
import Derived.Deep.DeepCutAuto
set_option linter.unusedVariables false
set_option linter.unusedSimpArgs false
namespace Go.Proofs.YtlolomodcbkblaaGreatDoor.Mt
open Go.RowKit Go.Maps Go.WideMaps Go.ChangeShapes Go.WideShapes Go.Deep Fp Obs _root_.Go.Proofs.YtlolomodcbkblaaGreatDoor.Nd
attribute [local go_sem] run_store_float

/-- the cells of a metric as the thin package hands it back -/
def xcs (lab : Value) (kind : Int) (val : Nat) (b6 : Bool) (t5 : Int) (b11 : Bool) (t12 : Int) : Array Value := #[lab, .int .i64 kind, .float .f64 val, .bool false, .float .f64 0, .slice none 0 0, .int .i64 0, .int .i64 t5, .bool b6, .int .u64 0, .float .f64 0, .slice none 0 0, .int .i64 0, .bool false, .int .i32 0, .float .f64 0, .int .u64 0, .slice none 0 0, .slice none 0 0, .slice none 0 0, .slice none 0 0, .slice none 0 0, .int .u64 0, .float .f64 0, .slice none 0 0, .bool b11, .int .i64 t12]
theorem xcs_ones (a : Option Addr) (n c : Nat) (kind : Int) (val : Nat) (b6 : Bool) (t5 : Int) (b11 : Bool) (t12 : Int) : (xcs (.slice a n c) kind val b6 t5 b11 t12).all (·.oneCell') = true := by simp [xcs, Value.oneCell']
/-- a date that may be there -/
def DateAt (W : World) (v : Value) (d : Option Int) : Prop :=
  match d with
  | none => v = nilp
  | some t => ∃ tb, v = ptr tb ∧ tb < W.heap.size ∧ W.cell? ⟨tb, 0, none⟩ = some (.int .i64 t)
theorem DateAt.below {W W' : World} {v : Value} {d : Option Int} (h : DateAt W v d) (k : Below W.heap.size W W') : DateAt W' v d := by
  cases d with
  | none => exact h
  | some t =>
    obtain ⟨tb, h1, h2, h3⟩ := h
    exact ⟨tb, h1, Nat.lt_of_lt_of_le h2 k.size, (k.cell (p := ⟨tb, 0, none⟩) h2).trans h3⟩
/-- the metric in the making: its block is the first one behind W1 -/
structure Mk (W1 : World) (cs : Array Value) (wx : World) : Prop where
  x : Whole wx W1.heap.size 40 cs
  b : Below W1.heap.size W1 wx
theorem Mk.put {W1 wx : World} {cs : Array Value} (h : Mk W1 cs wx) (i : Nat) (u : Value) : Mk W1 (cs.setIfInBounds i u) (wx.setCell ⟨W1.heap.size, i, none⟩ u) := ⟨h.x.put i u, h.b.setCell (Nat.le_refl _) u⟩
theorem Mk.drew {W1 wx : World} {cs : Array Value} (h : Mk W1 cs wx) : Mk W1 cs wx.drew := ⟨h.x, bdr h.b 1⟩
/-- a metric with a single value in block b -/
structure MetAt (W : World) (b : Nat) (F : List P2) (kind : Int) (val : Nat) (dt st : Option Int) : Prop where
  got : ∃ lv vb f ct ts, (∀ j, W.cell? ⟨b, j, none⟩ = (mcs lv kind vb ts)[j]?) ∧ Pairs W lv F ∧ ValAt W kind vb f val ct ∧ (kind = 0 → DateAt W ct dt) ∧ DateAt W ts st
  lt : b < W.heap.size
theorem MetAt.below {W W' : World} {b : Nat} {F : List P2} {kind : Int} {val : Nat} {dt st : Option Int} (h : MetAt W b F kind val dt st) (k : Below W.heap.size W W') : MetAt W' b F kind val dt st := by
  obtain ⟨lv, vb, f, ct, ts, h1, h2, h3, h4, h5⟩ := h.got
  exact ⟨⟨lv, vb, f, ct, ts, fun j => (k.cell (p := ⟨b, j, none⟩) h.lt).trans (h1 j), h2.below k, h3.below k, fun e => (h4 e).below k, h5.below k⟩, Nat.lt_of_lt_of_le h.lt k.size⟩
def isD (kind : Int) (dt : Option Int) : Bool := if kind = 0 then dt.isSome else false
def toD (kind : Int) (dt : Option Int) : Int := if kind = 0 then dt.getD 0 else 0
def MetOut (F : List P2) (kind : Int) (val : Nat) (dt st : Option Int) (w : World) (e : Ending) (w' : World) : Prop :=
  ∃ a c, e = .returned (.agg (xcs (.slice a F.length c) kind val (isD kind dt) (toD kind dt) st.isSome (st.getD 0))) ∧ w'.ownsRow w.heap.size 211 2 (.slice a F.length c) F.length (F.flatMap pc) ∧ Below w.heap.size w w'

set_option maxHeartbeats 16000000 in
set_option maxRecDepth 100000 in
theorem metricOf_0 (b : Nat) (F : List P2) (val : Nat) (w : World) (hm : MetAt w b F 0 val none none) (hF : F.length ≤ 2147483647) :
    Calls Tryz.prog 86 #[ptr b] w (MetOut F 0 val none none w) := by
  obtain ⟨lv, vb, f, ct, ts, hcs, hps, hva, hdt, hst⟩ := hm.got
  have hlt := hm.lt
  obtain ⟨hlv, hlf⟩ := hva.lt
  have hdt := hdt rfl
  have hdt : ct = nilp := hdt
  subst hdt
  have hst : ts = nilp := hst
  subst hst
  obtain ⟨A, hA⟩ : ∃ A, A = w.alloc (.cells #[.slice none 0 0, .int .i64 0, .float .f64 0, .bool false, .float .f64 0, .slice none 0 0, .int .i64 0, .int .i64 0, .bool false, .int .u64 0, .float .f64 0, .slice none 0 0, .int .i64 0, .bool false, .int .i32 0, .float .f64 0, .int .u64 0, .slice none 0 0, .slice none 0 0, .slice none 0 0, .slice none 0 0, .slice none 0 0, .int .u64 0, .float .f64 0, .slice none 0 0, .bool false, .int .i64 0] 40) := ⟨_, rfl⟩
  have s1 : A.heap.size = w.heap.size + 1 := by rw [hA]; simp
  have hqb : Below w.heap.size w A := by rw [hA]; exact (Below.refl _ _).alloc (Nat.le_refl _) _
  obtain ⟨qs, hql, hlvs, _⟩ := id hps
  obtain ⟨al, cl, rfl, _, _⟩ := sl_slice hlvs
  rw [hql] at hps hcs
  have k0 : (w.alloc (.cells #[.slice none 0 0, .int .i64 0, .float .f64 0, .bool false, .float .f64 0, .slice none 0 0, .int .i64 0, .int .i64 0, .bool false, .int .u64 0, .float .f64 0, .slice none 0 0, .int .i64 0, .bool false, .int .i32 0, .float .f64 0, .int .u64 0, .slice none 0 0, .slice none 0 0, .slice none 0 0, .slice none 0 0, .slice none 0 0, .int .u64 0, .float .f64 0, .slice none 0 0, .bool false, .int .i64 0] 40)).cell? ⟨b, 0, none⟩ = some (.slice al F.length cl) := al_cell _ (hcs 0)
  have CP := Lib.hid (pairs_own F (.slice al F.length cl) A (hps.below hqb) hF)
  have hR : Whole A w.heap.size 40 (xcs (.slice none 0 0) 0 0 false 0 false 0) := by rw [hA]; exact Whole.made w _ _
  have hsz27 : (Tryz.prog.info? 40).map (·.size) = some 27 := by kernel_rfl
  clear hps hlvs hql
  go_enter Tryz.func86, Tryz.ntmps86
  go_wp2_with fail
  rw [← hA]
  refine CP.out.mono ?_
  rintro e W1 ⟨v1, rfl, ho, hb1⟩
  obtain ⟨a1, c1, rfl⟩ := row_slice2 ho
  have hsz1 := hb1.size
  have hbw1 : Below w.heap.size w W1 := hqb.trans (hb1.mono (by omega))
  have HOf : Hid (∀ W, Below W1.heap.size W1 W → Ss.Of 2 pc W (.slice a1 F.length c1) F) := fun W h => (Ss.Of.own pc_len ho).below h
  have hwR : Whole W1 w.heap.size 40 (xcs (.slice none 0 0) 0 0 false 0 false 0) := (hb1.block w.heap.size (by omega)).trans hR
  have HR : Hid (∀ W, Below W1.heap.size W1 W → Whole W w.heap.size 40 (xcs (.slice none 0 0) 0 0 false 0 false 0)) := fun W h => (h.block w.heap.size (by omega)).trans hwR
  have HC : Hid (∀ W, Below W1.heap.size W1 W → W.cell? ⟨b, 0, none⟩ = some (.slice al F.length cl) ∧ W.cell? ⟨b, 1, none⟩ = some (nilp) ∧ W.cell? ⟨b, 2, none⟩ = some (ptr vb) ∧ W.cell? ⟨b, 3, none⟩ = some (nilp) ∧ W.cell? ⟨b, 4, none⟩ = some (nilp) ∧ W.cell? ⟨b, 5, none⟩ = some (nilp) ∧ W.cell? ⟨b, 6, none⟩ = some (nilp) ∧ W.cell? ⟨vb, 0, none⟩ = some (ptr f) ∧ W.cell? ⟨f, 0, none⟩ = some (.float .f64 val) ∧ W.cell? ⟨vb, 1, none⟩ = some nilp ∧ W.cell? ⟨vb, 2, none⟩ = some (nilp)) := fun W h =>
    have k := hbw1.trans (h.mono (by omega))
    ⟨(k.cell (p := ⟨b, 0, none⟩) hlt).trans (hcs 0), (k.cell (p := ⟨b, 1, none⟩) hlt).trans (hcs 1), (k.cell (p := ⟨b, 2, none⟩) hlt).trans (hcs 2), (k.cell (p := ⟨b, 3, none⟩) hlt).trans (hcs 3), (k.cell (p := ⟨b, 4, none⟩) hlt).trans (hcs 4), (k.cell (p := ⟨b, 5, none⟩) hlt).trans (hcs 5), (k.cell (p := ⟨b, 6, none⟩) hlt).trans (hcs 6), (k.cell (p := ⟨vb, 0, none⟩) hlv).trans hva.v0, (k.cell (p := ⟨f, 0, none⟩) hlf).trans hva.fv, (k.cell (p := ⟨vb, 1, none⟩) hlv).trans (hva.v1 rfl), (k.cell (p := ⟨vb, 2, none⟩) hlv).trans (hva.v2 rfl)⟩
  have HUp : Hid (∀ W, Below W1.heap.size W1 W → Below w.heap.size w W) := fun W h => hbw1.trans (h.mono (by omega))
  have hne : w.heap.size < W1.heap.size := by omega
  have HFar_b : Hid (∀ (W : World) (i j : Nat) (u : Value), (W.setCell ⟨W1.heap.size, i, none⟩ u).cell? ⟨b, j, none⟩ = W.cell? ⟨b, j, none⟩) := fun W i j u => World.cell?_setCell_far W _ _ u (by show W1.heap.size ≠ b; omega)
  have HFar_vb : Hid (∀ (W : World) (i j : Nat) (u : Value), (W.setCell ⟨W1.heap.size, i, none⟩ u).cell? ⟨vb, j, none⟩ = W.cell? ⟨vb, j, none⟩) := fun W i j u => World.cell?_setCell_far W _ _ u (by show W1.heap.size ≠ vb; omega)
  have HFar_f : Hid (∀ (W : World) (i j : Nat) (u : Value), (W.setCell ⟨W1.heap.size, i, none⟩ u).cell? ⟨f, j, none⟩ = W.cell? ⟨f, j, none⟩) := fun W i j u => World.cell?_setCell_far W _ _ u (by show W1.heap.size ≠ f; omega)
  have HMk0 : Hid (Mk W1 (xcs (.slice none 0 0) 0 0 false 0 false 0) (W1.alloc (.cells (xcs (.slice none 0 0) 0 0 false 0 false 0) 40))) := ⟨Whole.made W1 _ _, (Below.refl _ _).alloc (Nat.le_refl _) _⟩
  have HOut : Hid (∀ W Wf, Mk W1 (xcs (.slice a1 F.length c1) 0 val false 0 false 0) W → Whole Wf w.heap.size 40 (xcs (.slice a1 F.length c1) 0 val false 0 false 0) → W.grownBy Wf (some w.heap.size) → Wf.heap.size = W.heap.size → MetOut F 0 val none none w (.returned (.agg (xcs (.slice a1 F.length c1) 0 val false 0 false 0))) Wf) := fun W Wf hM hW hg hs => by
    have hz := hM.b.size
    refine ⟨a1, c1, rfl, ?_, (HUp.out _ hM.b).grown hg (by omega) (fun j hj => by injection hj with hj; omega)⟩
    have h0 : (W1.ownsRow A.heap.size 211 2 (.slice a1 F.length c1) F.length (F.flatMap pc)) := ho
    have h2 : W.ownsRow A.heap.size 211 2 (.slice a1 F.length c1) F.length (F.flatMap pc) := own_below h0 hM.b
    refine own_base (h2.kept hg ?_) (by omega)
    cases hv : (Value.slice a1 F.length c1).ownBlock with
    | none => exact Or.inl rfl
    | some g => exact Or.inr (by have := (h2.lt g hv).1; intro e; injection e with e; omega)
  clear ho hb1 hbw1 hwR hR hqb hcs hva hm k0 CP hsz1 hA s1   
  rename_i K1 hK1 K2 hK2
  dsimp only
  refine hK2 _ _ ?_
  refine wpList_plain rfl fun K3 hK3 => ?_
  go_simp
  refine hK3 _ _ ?_
  refine wpList_plain rfl fun K4 hK4 => ?_
  go_simp
  refine hK4 _ _ ?_
  refine Big.wpList_store_whole rfl _ _ _ rfl W1.heap.size 40 _ (xcs (.slice a1 F.length c1) 0 0 false 0 false 0) rfl rfl HMk0.out.x rfl hsz27 (xcs_ones _ _ _ _ _ _ _ _ _) ?_
  intro W2 hx2 hg2 hs2
  simp only [Act.put]
  have HMk : Hid (Mk W1 (xcs (.slice a1 F.length c1) 0 0 false 0 false 0) W2) := ⟨hx2, HMk0.out.b.grown hg2 (by simp) (fun j hj => by injection hj with hj; omega)⟩
  have z2 := HC.out W2 HMk.out.b
  clear hx2 hg2 hs2 HMk0 hK2 K2 hK3 K3 hK4 K4
  go_upto_block 0 with fail
  go_cut [5] (fun s wx => Hid (Mk W1 (xcs (.slice a1 F.length c1) 0 val false 0 false 0) wx))
  case first => as_aux_lemma =>
    have x1 : W2.cell? ⟨W1.heap.size, 1, none⟩ = some (.int .i64 0) := HMk.out.x.cell 1
    have x2 : W2.cell? ⟨W1.heap.size, 2, none⟩ = some (.float .f64 0) := HMk.out.x.cell 2
    have f1 := HMk.out.x.free 1
    have f2 := HMk.out.x.free 2
    go_wp2_with fail
    have HS : Hid (∀ W, Below W1.heap.size W1 W → W.cell? ⟨b, 2, none⟩ = some (ptr vb) ∧ W.cell? ⟨vb, 0, none⟩ = some (ptr f) ∧ W.cell? ⟨f, 0, none⟩ = some (.float .f64 val)) := fun W h => by
      obtain ⟨y0, y1, y2, y3, y4, y5, y6, y7, y8, y9, y10⟩ := HC.out W h
      exact ⟨y2, y7, y8⟩
    clear z2
    go_region_held3 (fun W => W.cell? ⟨b, 2, none⟩ = some (ptr vb) ∧ W.cell? ⟨vb, 0, none⟩ = some (ptr f) ∧ W.cell? ⟨f, 0, none⟩ = some (.float .f64 val)) (first | (with_reducible exact HS.out _ HMk.out.drew.b) | (with_reducible exact HS.out _ (HMk.out.put _ _).drew.b) | (with_reducible exact HS.out _ ((HMk.out.put _ _).put _ _).drew.b)) (fail)
    have z4 := HC.out _ (((HMk.out.put 1 (.int .i64 0)).put 2 (.float .f64 val)).drew).b
    go_wp2_with fail
    go_meet
    exact ((HMk.out.put 1 (.int .i64 0)).put 2 (.float .f64 val)).drew
  case rest => as_aux_lemma =>
    obtain ⟨W5, rfl⟩ : ∃ W5, W5 = wc := ⟨_, rfl⟩
    have z5 := HC.out W5 hcut.out.b
    go_upto_region 23 with fail
    obtain ⟨W6, hW6⟩ : ∃ W6, W6 = W5 := ⟨_, rfl⟩
    rw [← hW6]
    have HM6 : Hid (Mk W1 (xcs (.slice a1 F.length c1) 0 val false 0 false 0) W6) := by rw [hW6]; exact hcut.out
    clear hW6
    go_step
    refine Big.wpList_load_whole rfl _ _ rfl W1.heap.size 40 (xcs (.slice a1 F.length c1) 0 val false 0 false 0) rfl HM6.out.x _ Tryz.underlying40 rfl hsz27 ?_
    simp only [Act.put, List.setIfInBounds_toArray, List.set_cons_zero, List.set_cons_succ]
    refine Big.wpList_store_whole rfl _ _ _ rfl w.heap.size 40 _ (xcs (.slice a1 F.length c1) 0 val false 0 false 0) rfl rfl (HR.out _ HM6.out.b) rfl hsz27 (xcs_ones _ _ _ _ _ _ _ _ _) ?_
    intro W7 hx7 hg7 hs7
    simp only [Act.put]
    have HF := Lib.hid (HOut.out _ _ HM6.out hx7 hg7 hs7)
    have HX7 := Lib.hid hx7
    clear hx7 hg7 hs7
    go_wp2_with fail
    exact bodyPost_ret (v := .agg (xcs (.slice a1 F.length c1) 0 val false 0 false 0)) (res1 Tryz.results86 _ _ _ _ _ rfl (Big.loaded_whole 40 w.heap.size 40 (xcs (.slice a1 F.length c1) 0 val false 0 false 0) HX7.out _ Tryz.underlying40 rfl hsz27)) rfl HF.out

set_option maxHeartbeats 16000000 in
set_option maxRecDepth 100000 in
theorem metricOf_1 (b : Nat) (F : List P2) (val : Nat) (w : World) (hm : MetAt w b F 1 val none none) (hF : F.length ≤ 2147483647) :
    Calls Tryz.prog 86 #[ptr b] w (MetOut F 1 val none none w) := by
  obtain ⟨lv, vb, f, ct, ts, hcs, hps, hva, hdt, hst⟩ := hm.got
  have hlt := hm.lt
  obtain ⟨hlv, hlf⟩ := hva.lt
  have hst : ts = nilp := hst
  subst hst
  obtain ⟨A, hA⟩ : ∃ A, A = w.alloc (.cells #[.slice none 0 0, .int .i64 0, .float .f64 0, .bool false, .float .f64 0, .slice none 0 0, .int .i64 0, .int .i64 0, .bool false, .int .u64 0, .float .f64 0, .slice none 0 0, .int .i64 0, .bool false, .int .i32 0, .float .f64 0, .int .u64 0, .slice none 0 0, .slice none 0 0, .slice none 0 0, .slice none 0 0, .slice none 0 0, .int .u64 0, .float .f64 0, .slice none 0 0, .bool false, .int .i64 0] 40) := ⟨_, rfl⟩
  have s1 : A.heap.size = w.heap.size + 1 := by rw [hA]; simp
  have hqb : Below w.heap.size w A := by rw [hA]; exact (Below.refl _ _).alloc (Nat.le_refl _) _
  obtain ⟨qs, hql, hlvs, _⟩ := id hps
  obtain ⟨al, cl, rfl, _, _⟩ := sl_slice hlvs
  rw [hql] at hps hcs
  have k0 : (w.alloc (.cells #[.slice none 0 0, .int .i64 0, .float .f64 0, .bool false, .float .f64 0, .slice none 0 0, .int .i64 0, .int .i64 0, .bool false, .int .u64 0, .float .f64 0, .slice none 0 0, .int .i64 0, .bool false, .int .i32 0, .float .f64 0, .int .u64 0, .slice none 0 0, .slice none 0 0, .slice none 0 0, .slice none 0 0, .slice none 0 0, .int .u64 0, .float .f64 0, .slice none 0 0, .bool false, .int .i64 0] 40)).cell? ⟨b, 0, none⟩ = some (.slice al F.length cl) := al_cell _ (hcs 0)
  have CP := Lib.hid (pairs_own F (.slice al F.length cl) A (hps.below hqb) hF)
  have hR : Whole A w.heap.size 40 (xcs (.slice none 0 0) 0 0 false 0 false 0) := by rw [hA]; exact Whole.made w _ _
  have hsz27 : (Tryz.prog.info? 40).map (·.size) = some 27 := by kernel_rfl
  clear hps hlvs hql
  go_enter Tryz.func86, Tryz.ntmps86
  go_wp2_with fail
  rw [← hA]
  refine CP.out.mono ?_
  rintro e W1 ⟨v1, rfl, ho, hb1⟩
  obtain ⟨a1, c1, rfl⟩ := row_slice2 ho
  have hsz1 := hb1.size
  have hbw1 : Below w.heap.size w W1 := hqb.trans (hb1.mono (by omega))
  have HOf : Hid (∀ W, Below W1.heap.size W1 W → Ss.Of 2 pc W (.slice a1 F.length c1) F) := fun W h => (Ss.Of.own pc_len ho).below h
  have hwR : Whole W1 w.heap.size 40 (xcs (.slice none 0 0) 0 0 false 0 false 0) := (hb1.block w.heap.size (by omega)).trans hR
  have HR : Hid (∀ W, Below W1.heap.size W1 W → Whole W w.heap.size 40 (xcs (.slice none 0 0) 0 0 false 0 false 0)) := fun W h => (h.block w.heap.size (by omega)).trans hwR
  have HC : Hid (∀ W, Below W1.heap.size W1 W → W.cell? ⟨b, 0, none⟩ = some (.slice al F.length cl) ∧ W.cell? ⟨b, 1, none⟩ = some (ptr vb) ∧ W.cell? ⟨b, 2, none⟩ = some (nilp) ∧ W.cell? ⟨b, 3, none⟩ = some (nilp) ∧ W.cell? ⟨b, 4, none⟩ = some (nilp) ∧ W.cell? ⟨b, 5, none⟩ = some (nilp) ∧ W.cell? ⟨b, 6, none⟩ = some (nilp) ∧ W.cell? ⟨vb, 0, none⟩ = some (ptr f) ∧ W.cell? ⟨f, 0, none⟩ = some (.float .f64 val)) := fun W h =>
    have k := hbw1.trans (h.mono (by omega))
    ⟨(k.cell (p := ⟨b, 0, none⟩) hlt).trans (hcs 0), (k.cell (p := ⟨b, 1, none⟩) hlt).trans (hcs 1), (k.cell (p := ⟨b, 2, none⟩) hlt).trans (hcs 2), (k.cell (p := ⟨b, 3, none⟩) hlt).trans (hcs 3), (k.cell (p := ⟨b, 4, none⟩) hlt).trans (hcs 4), (k.cell (p := ⟨b, 5, none⟩) hlt).trans (hcs 5), (k.cell (p := ⟨b, 6, none⟩) hlt).trans (hcs 6), (k.cell (p := ⟨vb, 0, none⟩) hlv).trans hva.v0, (k.cell (p := ⟨f, 0, none⟩) hlf).trans hva.fv⟩
  have HUp : Hid (∀ W, Below W1.heap.size W1 W → Below w.heap.size w W) := fun W h => hbw1.trans (h.mono (by omega))
  have hne : w.heap.size < W1.heap.size := by omega
  have HFar_b : Hid (∀ (W : World) (i j : Nat) (u : Value), (W.setCell ⟨W1.heap.size, i, none⟩ u).cell? ⟨b, j, none⟩ = W.cell? ⟨b, j, none⟩) := fun W i j u => World.cell?_setCell_far W _ _ u (by show W1.heap.size ≠ b; omega)
  have HFar_vb : Hid (∀ (W : World) (i j : Nat) (u : Value), (W.setCell ⟨W1.heap.size, i, none⟩ u).cell? ⟨vb, j, none⟩ = W.cell? ⟨vb, j, none⟩) := fun W i j u => World.cell?_setCell_far W _ _ u (by show W1.heap.size ≠ vb; omega)
  have HFar_f : Hid (∀ (W : World) (i j : Nat) (u : Value), (W.setCell ⟨W1.heap.size, i, none⟩ u).cell? ⟨f, j, none⟩ = W.cell? ⟨f, j, none⟩) := fun W i j u => World.cell?_setCell_far W _ _ u (by show W1.heap.size ≠ f; omega)
  have HMk0 : Hid (Mk W1 (xcs (.slice none 0 0) 0 0 false 0 false 0) (W1.alloc (.cells (xcs (.slice none 0 0) 0 0 false 0 false 0) 40))) := ⟨Whole.made W1 _ _, (Below.refl _ _).alloc (Nat.le_refl _) _⟩
  have HOut : Hid (∀ W Wf, Mk W1 (xcs (.slice a1 F.length c1) 1 val false 0 false 0) W → Whole Wf w.heap.size 40 (xcs (.slice a1 F.length c1) 1 val false 0 false 0) → W.grownBy Wf (some w.heap.size) → Wf.heap.size = W.heap.size → MetOut F 1 val none none w (.returned (.agg (xcs (.slice a1 F.length c1) 1 val false 0 false 0))) Wf) := fun W Wf hM hW hg hs => by
    have hz := hM.b.size
    refine ⟨a1, c1, rfl, ?_, (HUp.out _ hM.b).grown hg (by omega) (fun j hj => by injection hj with hj; omega)⟩
    have h0 : (W1.ownsRow A.heap.size 211 2 (.slice a1 F.length c1) F.length (F.flatMap pc)) := ho
    have h2 : W.ownsRow A.heap.size 211 2 (.slice a1 F.length c1) F.length (F.flatMap pc) := own_below h0 hM.b
    refine own_base (h2.kept hg ?_) (by omega)
    cases hv : (Value.slice a1 F.length c1).ownBlock with
    | none => exact Or.inl rfl
    | some g => exact Or.inr (by have := (h2.lt g hv).1; intro e; injection e with e; omega)
  clear ho hb1 hbw1 hwR hR hqb hcs hva hm k0 CP hsz1 hA s1 hdt  
  rename_i K1 hK1 K2 hK2
  dsimp only
  refine hK2 _ _ ?_
  refine wpList_plain rfl fun K3 hK3 => ?_
  go_simp
  refine hK3 _ _ ?_
  refine wpList_plain rfl fun K4 hK4 => ?_
  go_simp
  refine hK4 _ _ ?_
  refine Big.wpList_store_whole rfl _ _ _ rfl W1.heap.size 40 _ (xcs (.slice a1 F.length c1) 0 0 false 0 false 0) rfl rfl HMk0.out.x rfl hsz27 (xcs_ones _ _ _ _ _ _ _ _ _) ?_
  intro W2 hx2 hg2 hs2
  simp only [Act.put]
  have HMk : Hid (Mk W1 (xcs (.slice a1 F.length c1) 0 0 false 0 false 0) W2) := ⟨hx2, HMk0.out.b.grown hg2 (by simp) (fun j hj => by injection hj with hj; omega)⟩
  have z2 := HC.out W2 HMk.out.b
  clear hx2 hg2 hs2 HMk0 hK2 K2 hK3 K3 hK4 K4
  go_upto_block 0 with fail
  go_cut [5] (fun s wx => Hid (Mk W1 (xcs (.slice a1 F.length c1) 1 val false 0 false 0) wx))
  case first => as_aux_lemma =>
    have x1 : W2.cell? ⟨W1.heap.size, 1, none⟩ = some (.int .i64 0) := HMk.out.x.cell 1
    have x2 : W2.cell? ⟨W1.heap.size, 2, none⟩ = some (.float .f64 0) := HMk.out.x.cell 2
    have f1 := HMk.out.x.free 1
    have f2 := HMk.out.x.free 2
    go_wp2_with fail
    have HS : Hid (∀ W, Below W1.heap.size W1 W → W.cell? ⟨b, 1, none⟩ = some (ptr vb) ∧ W.cell? ⟨vb, 0, none⟩ = some (ptr f) ∧ W.cell? ⟨f, 0, none⟩ = some (.float .f64 val)) := fun W h => by
      obtain ⟨y0, y1, y2, y3, y4, y5, y6, y7, y8⟩ := HC.out W h
      exact ⟨y1, y7, y8⟩
    clear z2
    go_region_held3 (fun W => W.cell? ⟨b, 1, none⟩ = some (ptr vb) ∧ W.cell? ⟨vb, 0, none⟩ = some (ptr f) ∧ W.cell? ⟨f, 0, none⟩ = some (.float .f64 val)) (first | (with_reducible exact HS.out _ HMk.out.drew.b) | (with_reducible exact HS.out _ (HMk.out.put _ _).drew.b) | (with_reducible exact HS.out _ ((HMk.out.put _ _).put _ _).drew.b)) (fail)
    go_wp2_with fail
    go_meet
    exact ((HMk.out.put 1 (.int .i64 1)).put 2 (.float .f64 val)).drew
  case rest => as_aux_lemma =>
    obtain ⟨W5, rfl⟩ : ∃ W5, W5 = wc := ⟨_, rfl⟩
    have z5 := HC.out W5 hcut.out.b
    go_upto_region 23 with fail
    obtain ⟨W6, hW6⟩ : ∃ W6, W6 = W5 := ⟨_, rfl⟩
    rw [← hW6]
    have HM6 : Hid (Mk W1 (xcs (.slice a1 F.length c1) 1 val false 0 false 0) W6) := by rw [hW6]; exact hcut.out
    clear hW6
    go_step
    refine Big.wpList_load_whole rfl _ _ rfl W1.heap.size 40 (xcs (.slice a1 F.length c1) 1 val false 0 false 0) rfl HM6.out.x _ Tryz.underlying40 rfl hsz27 ?_
    simp only [Act.put, List.setIfInBounds_toArray, List.set_cons_zero, List.set_cons_succ]
    refine Big.wpList_store_whole rfl _ _ _ rfl w.heap.size 40 _ (xcs (.slice a1 F.length c1) 1 val false 0 false 0) rfl rfl (HR.out _ HM6.out.b) rfl hsz27 (xcs_ones _ _ _ _ _ _ _ _ _) ?_
    intro W7 hx7 hg7 hs7
    simp only [Act.put]
    have HF := Lib.hid (HOut.out _ _ HM6.out hx7 hg7 hs7)
    have HX7 := Lib.hid hx7
    clear hx7 hg7 hs7
    go_wp2_with fail
    exact bodyPost_ret (v := .agg (xcs (.slice a1 F.length c1) 1 val false 0 false 0)) (res1 Tryz.results86 _ _ _ _ _ rfl (Big.loaded_whole 40 w.heap.size 40 (xcs (.slice a1 F.length c1) 1 val false 0 false 0) HX7.out _ Tryz.underlying40 rfl hsz27)) rfl HF.out

set_option maxHeartbeats 16000000 in
set_option maxRecDepth 100000 in
theorem metricOf_3 (b : Nat) (F : List P2) (val : Nat) (w : World) (hm : MetAt w b F 3 val none none) (hF : F.length ≤ 2147483647) :
    Calls Tryz.prog 86 #[ptr b] w (MetOut F 3 val none none w) := by
  obtain ⟨lv, vb, f, ct, ts, hcs, hps, hva, hdt, hst⟩ := hm.got
  have hlt := hm.lt
  obtain ⟨hlv, hlf⟩ := hva.lt
  have hst : ts = nilp := hst
  subst hst
  obtain ⟨A, hA⟩ : ∃ A, A = w.alloc (.cells #[.slice none 0 0, .int .i64 0, .float .f64 0, .bool false, .float .f64 0, .slice none 0 0, .int .i64 0, .int .i64 0, .bool false, .int .u64 0, .float .f64 0, .slice none 0 0, .int .i64 0, .bool false, .int .i32 0, .float .f64 0, .int .u64 0, .slice none 0 0, .slice none 0 0, .slice none 0 0, .slice none 0 0, .slice none 0 0, .int .u64 0, .float .f64 0, .slice none 0 0, .bool false, .int .i64 0] 40) := ⟨_, rfl⟩
  have s1 : A.heap.size = w.heap.size + 1 := by rw [hA]; simp
  have hqb : Below w.heap.size w A := by rw [hA]; exact (Below.refl _ _).alloc (Nat.le_refl _) _
  obtain ⟨qs, hql, hlvs, _⟩ := id hps
  obtain ⟨al, cl, rfl, _, _⟩ := sl_slice hlvs
  rw [hql] at hps hcs
  have k0 : (w.alloc (.cells #[.slice none 0 0, .int .i64 0, .float .f64 0, .bool false, .float .f64 0, .slice none 0 0, .int .i64 0, .int .i64 0, .bool false, .int .u64 0, .float .f64 0, .slice none 0 0, .int .i64 0, .bool false, .int .i32 0, .float .f64 0, .int .u64 0, .slice none 0 0, .slice none 0 0, .slice none 0 0, .slice none 0 0, .slice none 0 0, .int .u64 0, .float .f64 0, .slice none 0 0, .bool false, .int .i64 0] 40)).cell? ⟨b, 0, none⟩ = some (.slice al F.length cl) := al_cell _ (hcs 0)
  have CP := Lib.hid (pairs_own F (.slice al F.length cl) A (hps.below hqb) hF)
  have hR : Whole A w.heap.size 40 (xcs (.slice none 0 0) 0 0 false 0 false 0) := by rw [hA]; exact Whole.made w _ _
  have hsz27 : (Tryz.prog.info? 40).map (·.size) = some 27 := by kernel_rfl
  clear hps hlvs hql
  go_enter Tryz.func86, Tryz.ntmps86
  go_wp2_with fail
  rw [← hA]
  refine CP.out.mono ?_
  rintro e W1 ⟨v1, rfl, ho, hb1⟩
  obtain ⟨a1, c1, rfl⟩ := row_slice2 ho
  have hsz1 := hb1.size
  have hbw1 : Below w.heap.size w W1 := hqb.trans (hb1.mono (by omega))
  have HOf : Hid (∀ W, Below W1.heap.size W1 W → Ss.Of 2 pc W (.slice a1 F.length c1) F) := fun W h => (Ss.Of.own pc_len ho).below h
  have hwR : Whole W1 w.heap.size 40 (xcs (.slice none 0 0) 0 0 false 0 false 0) := (hb1.block w.heap.size (by omega)).trans hR
  have HR : Hid (∀ W, Below W1.heap.size W1 W → Whole W w.heap.size 40 (xcs (.slice none 0 0) 0 0 false 0 false 0)) := fun W h => (h.block w.heap.size (by omega)).trans hwR
  have HC : Hid (∀ W, Below W1.heap.size W1 W → W.cell? ⟨b, 0, none⟩ = some (.slice al F.length cl) ∧ W.cell? ⟨b, 1, none⟩ = some (nilp) ∧ W.cell? ⟨b, 2, none⟩ = some (nilp) ∧ W.cell? ⟨b, 3, none⟩ = some (nilp) ∧ W.cell? ⟨b, 4, none⟩ = some (ptr vb) ∧ W.cell? ⟨b, 5, none⟩ = some (nilp) ∧ W.cell? ⟨b, 6, none⟩ = some (nilp) ∧ W.cell? ⟨vb, 0, none⟩ = some (ptr f) ∧ W.cell? ⟨f, 0, none⟩ = some (.float .f64 val)) := fun W h =>
    have k := hbw1.trans (h.mono (by omega))
    ⟨(k.cell (p := ⟨b, 0, none⟩) hlt).trans (hcs 0), (k.cell (p := ⟨b, 1, none⟩) hlt).trans (hcs 1), (k.cell (p := ⟨b, 2, none⟩) hlt).trans (hcs 2), (k.cell (p := ⟨b, 3, none⟩) hlt).trans (hcs 3), (k.cell (p := ⟨b, 4, none⟩) hlt).trans (hcs 4), (k.cell (p := ⟨b, 5, none⟩) hlt).trans (hcs 5), (k.cell (p := ⟨b, 6, none⟩) hlt).trans (hcs 6), (k.cell (p := ⟨vb, 0, none⟩) hlv).trans hva.v0, (k.cell (p := ⟨f, 0, none⟩) hlf).trans hva.fv⟩
  have HUp : Hid (∀ W, Below W1.heap.size W1 W → Below w.heap.size w W) := fun W h => hbw1.trans (h.mono (by omega))
  have hne : w.heap.size < W1.heap.size := by omega
  have HFar_b : Hid (∀ (W : World) (i j : Nat) (u : Value), (W.setCell ⟨W1.heap.size, i, none⟩ u).cell? ⟨b, j, none⟩ = W.cell? ⟨b, j, none⟩) := fun W i j u => World.cell?_setCell_far W _ _ u (by show W1.heap.size ≠ b; omega)
  have HFar_vb : Hid (∀ (W : World) (i j : Nat) (u : Value), (W.setCell ⟨W1.heap.size, i, none⟩ u).cell? ⟨vb, j, none⟩ = W.cell? ⟨vb, j, none⟩) := fun W i j u => World.cell?_setCell_far W _ _ u (by show W1.heap.size ≠ vb; omega)
  have HFar_f : Hid (∀ (W : World) (i j : Nat) (u : Value), (W.setCell ⟨W1.heap.size, i, none⟩ u).cell? ⟨f, j, none⟩ = W.cell? ⟨f, j, none⟩) := fun W i j u => World.cell?_setCell_far W _ _ u (by show W1.heap.size ≠ f; omega)
  have HMk0 : Hid (Mk W1 (xcs (.slice none 0 0) 0 0 false 0 false 0) (W1.alloc (.cells (xcs (.slice none 0 0) 0 0 false 0 false 0) 40))) := ⟨Whole.made W1 _ _, (Below.refl _ _).alloc (Nat.le_refl _) _⟩
  have HOut : Hid (∀ W Wf, Mk W1 (xcs (.slice a1 F.length c1) 3 val false 0 false 0) W → Whole Wf w.heap.size 40 (xcs (.slice a1 F.length c1) 3 val false 0 false 0) → W.grownBy Wf (some w.heap.size) → Wf.heap.size = W.heap.size → MetOut F 3 val none none w (.returned (.agg (xcs (.slice a1 F.length c1) 3 val false 0 false 0))) Wf) := fun W Wf hM hW hg hs => by
    have hz := hM.b.size
    refine ⟨a1, c1, rfl, ?_, (HUp.out _ hM.b).grown hg (by omega) (fun j hj => by injection hj with hj; omega)⟩
    have h0 : (W1.ownsRow A.heap.size 211 2 (.slice a1 F.length c1) F.length (F.flatMap pc)) := ho
    have h2 : W.ownsRow A.heap.size 211 2 (.slice a1 F.length c1) F.length (F.flatMap pc) := own_below h0 hM.b
    refine own_base (h2.kept hg ?_) (by omega)
    cases hv : (Value.slice a1 F.length c1).ownBlock with
    | none => exact Or.inl rfl
    | some g => exact Or.inr (by have := (h2.lt g hv).1; intro e; injection e with e; omega)
  clear ho hb1 hbw1 hwR hR hqb hcs hva hm k0 CP hsz1 hA s1 hdt  
  rename_i K1 hK1 K2 hK2
  dsimp only
  refine hK2 _ _ ?_
  refine wpList_plain rfl fun K3 hK3 => ?_
  go_simp
  refine hK3 _ _ ?_
  refine wpList_plain rfl fun K4 hK4 => ?_
  go_simp
  refine hK4 _ _ ?_
  refine Big.wpList_store_whole rfl _ _ _ rfl W1.heap.size 40 _ (xcs (.slice a1 F.length c1) 0 0 false 0 false 0) rfl rfl HMk0.out.x rfl hsz27 (xcs_ones _ _ _ _ _ _ _ _ _) ?_
  intro W2 hx2 hg2 hs2
  simp only [Act.put]
  have HMk : Hid (Mk W1 (xcs (.slice a1 F.length c1) 0 0 false 0 false 0) W2) := ⟨hx2, HMk0.out.b.grown hg2 (by simp) (fun j hj => by injection hj with hj; omega)⟩
  have z2 := HC.out W2 HMk.out.b
  clear hx2 hg2 hs2 HMk0 hK2 K2 hK3 K3 hK4 K4
  go_upto_block 0 with fail
  go_cut [5] (fun s wx => Hid (Mk W1 (xcs (.slice a1 F.length c1) 3 val false 0 false 0) wx))
  case first => as_aux_lemma =>
    have x1 : W2.cell? ⟨W1.heap.size, 1, none⟩ = some (.int .i64 0) := HMk.out.x.cell 1
    have x2 : W2.cell? ⟨W1.heap.size, 2, none⟩ = some (.float .f64 0) := HMk.out.x.cell 2
    have f1 := HMk.out.x.free 1
    have f2 := HMk.out.x.free 2
    go_wp2_with fail
    have HS : Hid (∀ W, Below W1.heap.size W1 W → W.cell? ⟨b, 4, none⟩ = some (ptr vb) ∧ W.cell? ⟨vb, 0, none⟩ = some (ptr f) ∧ W.cell? ⟨f, 0, none⟩ = some (.float .f64 val)) := fun W h => by
      obtain ⟨y0, y1, y2, y3, y4, y5, y6, y7, y8⟩ := HC.out W h
      exact ⟨y4, y7, y8⟩
    clear z2
    go_region_held3 (fun W => W.cell? ⟨b, 4, none⟩ = some (ptr vb) ∧ W.cell? ⟨vb, 0, none⟩ = some (ptr f) ∧ W.cell? ⟨f, 0, none⟩ = some (.float .f64 val)) (first | (with_reducible exact HS.out _ HMk.out.drew.b) | (with_reducible exact HS.out _ (HMk.out.put _ _).drew.b) | (with_reducible exact HS.out _ ((HMk.out.put _ _).put _ _).drew.b)) (fail)
    go_wp2_with fail
    go_meet
    exact ((HMk.out.put 1 (.int .i64 3)).put 2 (.float .f64 val)).drew
  case rest => as_aux_lemma =>
    obtain ⟨W5, rfl⟩ : ∃ W5, W5 = wc := ⟨_, rfl⟩
    have z5 := HC.out W5 hcut.out.b
    go_upto_region 23 with fail
    obtain ⟨W6, hW6⟩ : ∃ W6, W6 = W5 := ⟨_, rfl⟩
    rw [← hW6]
    have HM6 : Hid (Mk W1 (xcs (.slice a1 F.length c1) 3 val false 0 false 0) W6) := by rw [hW6]; exact hcut.out
    clear hW6
    go_step
    refine Big.wpList_load_whole rfl _ _ rfl W1.heap.size 40 (xcs (.slice a1 F.length c1) 3 val false 0 false 0) rfl HM6.out.x _ Tryz.underlying40 rfl hsz27 ?_
    simp only [Act.put, List.setIfInBounds_toArray, List.set_cons_zero, List.set_cons_succ]
    refine Big.wpList_store_whole rfl _ _ _ rfl w.heap.size 40 _ (xcs (.slice a1 F.length c1) 3 val false 0 false 0) rfl rfl (HR.out _ HM6.out.b) rfl hsz27 (xcs_ones _ _ _ _ _ _ _ _ _) ?_
    intro W7 hx7 hg7 hs7
    simp only [Act.put]
    have HF := Lib.hid (HOut.out _ _ HM6.out hx7 hg7 hs7)
    have HX7 := Lib.hid hx7
    clear hx7 hg7 hs7
    go_wp2_with fail
    exact bodyPost_ret (v := .agg (xcs (.slice a1 F.length c1) 3 val false 0 false 0)) (res1 Tryz.results86 _ _ _ _ _ rfl (Big.loaded_whole 40 w.heap.size 40 (xcs (.slice a1 F.length c1) 3 val false 0 false 0) HX7.out _ Tryz.underlying40 rfl hsz27)) rfl HF.out

set_option maxHeartbeats 16000000 in
set_option maxRecDepth 100000 in
theorem metricOf_0d (b : Nat) (F : List P2) (val : Nat) (t : Int) (w : World) (hm : MetAt w b F 0 val (some t) none) (hF : F.length ≤ 2147483647) :
    Calls Tryz.prog 86 #[ptr b] w (MetOut F 0 val (some t) none w) := by
  obtain ⟨lv, vb, f, ct, ts, hcs, hps, hva, hdt, hst⟩ := hm.got
  have hlt := hm.lt
  obtain ⟨hlv, hlf⟩ := hva.lt
  have hdt := hdt rfl
  obtain ⟨tb, rfl, htb, htc⟩ := hdt
  have hst : ts = nilp := hst
  subst hst
  obtain ⟨A, hA⟩ : ∃ A, A = w.alloc (.cells #[.slice none 0 0, .int .i64 0, .float .f64 0, .bool false, .float .f64 0, .slice none 0 0, .int .i64 0, .int .i64 0, .bool false, .int .u64 0, .float .f64 0, .slice none 0 0, .int .i64 0, .bool false, .int .i32 0, .float .f64 0, .int .u64 0, .slice none 0 0, .slice none 0 0, .slice none 0 0, .slice none 0 0, .slice none 0 0, .int .u64 0, .float .f64 0, .slice none 0 0, .bool false, .int .i64 0] 40) := ⟨_, rfl⟩
  have s1 : A.heap.size = w.heap.size + 1 := by rw [hA]; simp
  have hqb : Below w.heap.size w A := by rw [hA]; exact (Below.refl _ _).alloc (Nat.le_refl _) _
  obtain ⟨qs, hql, hlvs, _⟩ := id hps
  obtain ⟨al, cl, rfl, _, _⟩ := sl_slice hlvs
  rw [hql] at hps hcs
  have k0 : (w.alloc (.cells #[.slice none 0 0, .int .i64 0, .float .f64 0, .bool false, .float .f64 0, .slice none 0 0, .int .i64 0, .int .i64 0, .bool false, .int .u64 0, .float .f64 0, .slice none 0 0, .int .i64 0, .bool false, .int .i32 0, .float .f64 0, .int .u64 0, .slice none 0 0, .slice none 0 0, .slice none 0 0, .slice none 0 0, .slice none 0 0, .int .u64 0, .float .f64 0, .slice none 0 0, .bool false, .int .i64 0] 40)).cell? ⟨b, 0, none⟩ = some (.slice al F.length cl) := al_cell _ (hcs 0)
  have CP := Lib.hid (pairs_own F (.slice al F.length cl) A (hps.below hqb) hF)
  have hR : Whole A w.heap.size 40 (xcs (.slice none 0 0) 0 0 false 0 false 0) := by rw [hA]; exact Whole.made w _ _
  have hsz27 : (Tryz.prog.info? 40).map (·.size) = some 27 := by kernel_rfl
  clear hps hlvs hql
  go_enter Tryz.func86, Tryz.ntmps86
  go_wp2_with fail
  rw [← hA]
  refine CP.out.mono ?_
  rintro e W1 ⟨v1, rfl, ho, hb1⟩
  obtain ⟨a1, c1, rfl⟩ := row_slice2 ho
  have hsz1 := hb1.size
  have hbw1 : Below w.heap.size w W1 := hqb.trans (hb1.mono (by omega))
  have HOf : Hid (∀ W, Below W1.heap.size W1 W → Ss.Of 2 pc W (.slice a1 F.length c1) F) := fun W h => (Ss.Of.own pc_len ho).below h
  have hwR : Whole W1 w.heap.size 40 (xcs (.slice none 0 0) 0 0 false 0 false 0) := (hb1.block w.heap.size (by omega)).trans hR
  have HR : Hid (∀ W, Below W1.heap.size W1 W → Whole W w.heap.size 40 (xcs (.slice none 0 0) 0 0 false 0 false 0)) := fun W h => (h.block w.heap.size (by omega)).trans hwR
  have HC : Hid (∀ W, Below W1.heap.size W1 W → W.cell? ⟨b, 0, none⟩ = some (.slice al F.length cl) ∧ W.cell? ⟨b, 1, none⟩ = some (nilp) ∧ W.cell? ⟨b, 2, none⟩ = some (ptr vb) ∧ W.cell? ⟨b, 3, none⟩ = some (nilp) ∧ W.cell? ⟨b, 4, none⟩ = some (nilp) ∧ W.cell? ⟨b, 5, none⟩ = some (nilp) ∧ W.cell? ⟨b, 6, none⟩ = some (nilp) ∧ W.cell? ⟨vb, 0, none⟩ = some (ptr f) ∧ W.cell? ⟨f, 0, none⟩ = some (.float .f64 val) ∧ W.cell? ⟨vb, 1, none⟩ = some nilp ∧ W.cell? ⟨vb, 2, none⟩ = some (ptr tb) ∧ W.cell? ⟨tb, 0, none⟩ = some (.int .i64 t)) := fun W h =>
    have k := hbw1.trans (h.mono (by omega))
    ⟨(k.cell (p := ⟨b, 0, none⟩) hlt).trans (hcs 0), (k.cell (p := ⟨b, 1, none⟩) hlt).trans (hcs 1), (k.cell (p := ⟨b, 2, none⟩) hlt).trans (hcs 2), (k.cell (p := ⟨b, 3, none⟩) hlt).trans (hcs 3), (k.cell (p := ⟨b, 4, none⟩) hlt).trans (hcs 4), (k.cell (p := ⟨b, 5, none⟩) hlt).trans (hcs 5), (k.cell (p := ⟨b, 6, none⟩) hlt).trans (hcs 6), (k.cell (p := ⟨vb, 0, none⟩) hlv).trans hva.v0, (k.cell (p := ⟨f, 0, none⟩) hlf).trans hva.fv, (k.cell (p := ⟨vb, 1, none⟩) hlv).trans (hva.v1 rfl), (k.cell (p := ⟨vb, 2, none⟩) hlv).trans (hva.v2 rfl), (k.cell (p := ⟨tb, 0, none⟩) htb).trans htc⟩
  have HUp : Hid (∀ W, Below W1.heap.size W1 W → Below w.heap.size w W) := fun W h => hbw1.trans (h.mono (by omega))
  have hne : w.heap.size < W1.heap.size := by omega
  have HFar_b : Hid (∀ (W : World) (i j : Nat) (u : Value), (W.setCell ⟨W1.heap.size, i, none⟩ u).cell? ⟨b, j, none⟩ = W.cell? ⟨b, j, none⟩) := fun W i j u => World.cell?_setCell_far W _ _ u (by show W1.heap.size ≠ b; omega)
  have HFar_vb : Hid (∀ (W : World) (i j : Nat) (u : Value), (W.setCell ⟨W1.heap.size, i, none⟩ u).cell? ⟨vb, j, none⟩ = W.cell? ⟨vb, j, none⟩) := fun W i j u => World.cell?_setCell_far W _ _ u (by show W1.heap.size ≠ vb; omega)
  have HFar_f : Hid (∀ (W : World) (i j : Nat) (u : Value), (W.setCell ⟨W1.heap.size, i, none⟩ u).cell? ⟨f, j, none⟩ = W.cell? ⟨f, j, none⟩) := fun W i j u => World.cell?_setCell_far W _ _ u (by show W1.heap.size ≠ f; omega)
  have HFar_tb : Hid (∀ (W : World) (i j : Nat) (u : Value), (W.setCell ⟨W1.heap.size, i, none⟩ u).cell? ⟨tb, j, none⟩ = W.cell? ⟨tb, j, none⟩) := fun W i j u => World.cell?_setCell_far W _ _ u (by show W1.heap.size ≠ tb; omega)
  have HMk0 : Hid (Mk W1 (xcs (.slice none 0 0) 0 0 false 0 false 0) (W1.alloc (.cells (xcs (.slice none 0 0) 0 0 false 0 false 0) 40))) := ⟨Whole.made W1 _ _, (Below.refl _ _).alloc (Nat.le_refl _) _⟩
  have HOut : Hid (∀ W Wf, Mk W1 (xcs (.slice a1 F.length c1) 0 val true t false 0) W → Whole Wf w.heap.size 40 (xcs (.slice a1 F.length c1) 0 val true t false 0) → W.grownBy Wf (some w.heap.size) → Wf.heap.size = W.heap.size → MetOut F 0 val (some t) none w (.returned (.agg (xcs (.slice a1 F.length c1) 0 val true t false 0))) Wf) := fun W Wf hM hW hg hs => by
    have hz := hM.b.size
    refine ⟨a1, c1, rfl, ?_, (HUp.out _ hM.b).grown hg (by omega) (fun j hj => by injection hj with hj; omega)⟩
    have h0 : (W1.ownsRow A.heap.size 211 2 (.slice a1 F.length c1) F.length (F.flatMap pc)) := ho
    have h2 : W.ownsRow A.heap.size 211 2 (.slice a1 F.length c1) F.length (F.flatMap pc) := own_below h0 hM.b
    refine own_base (h2.kept hg ?_) (by omega)
    cases hv : (Value.slice a1 F.length c1).ownBlock with
    | none => exact Or.inl rfl
    | some g => exact Or.inr (by have := (h2.lt g hv).1; intro e; injection e with e; omega)
  clear ho hb1 hbw1 hwR hR hqb hcs hva hm k0 CP hsz1 hA s1  htc 
  rename_i K1 hK1 K2 hK2
  dsimp only
  refine hK2 _ _ ?_
  refine wpList_plain rfl fun K3 hK3 => ?_
  go_simp
  refine hK3 _ _ ?_
  refine wpList_plain rfl fun K4 hK4 => ?_
  go_simp
  refine hK4 _ _ ?_
  refine Big.wpList_store_whole rfl _ _ _ rfl W1.heap.size 40 _ (xcs (.slice a1 F.length c1) 0 0 false 0 false 0) rfl rfl HMk0.out.x rfl hsz27 (xcs_ones _ _ _ _ _ _ _ _ _) ?_
  intro W2 hx2 hg2 hs2
  simp only [Act.put]
  have HMk : Hid (Mk W1 (xcs (.slice a1 F.length c1) 0 0 false 0 false 0) W2) := ⟨hx2, HMk0.out.b.grown hg2 (by simp) (fun j hj => by injection hj with hj; omega)⟩
  have z2 := HC.out W2 HMk.out.b
  clear hx2 hg2 hs2 HMk0 hK2 K2 hK3 K3 hK4 K4
  go_upto_block 0 with fail
  go_cut [5] (fun s wx => Hid (Mk W1 (xcs (.slice a1 F.length c1) 0 val true t false 0) wx))
  case first => as_aux_lemma =>
    have x1 : W2.cell? ⟨W1.heap.size, 1, none⟩ = some (.int .i64 0) := HMk.out.x.cell 1
    have x2 : W2.cell? ⟨W1.heap.size, 2, none⟩ = some (.float .f64 0) := HMk.out.x.cell 2
    have f1 := HMk.out.x.free 1
    have f2 := HMk.out.x.free 2
    go_wp2_with fail
    have HS : Hid (∀ W, Below W1.heap.size W1 W → W.cell? ⟨b, 2, none⟩ = some (ptr vb) ∧ W.cell? ⟨vb, 0, none⟩ = some (ptr f) ∧ W.cell? ⟨f, 0, none⟩ = some (.float .f64 val)) := fun W h => by
      obtain ⟨y0, y1, y2, y3, y4, y5, y6, y7, y8, y9, y10, y11⟩ := HC.out W h
      exact ⟨y2, y7, y8⟩
    clear z2
    go_region_held3 (fun W => W.cell? ⟨b, 2, none⟩ = some (ptr vb) ∧ W.cell? ⟨vb, 0, none⟩ = some (ptr f) ∧ W.cell? ⟨f, 0, none⟩ = some (.float .f64 val)) (first | (with_reducible exact HS.out _ HMk.out.drew.b) | (with_reducible exact HS.out _ (HMk.out.put _ _).drew.b) | (with_reducible exact HS.out _ ((HMk.out.put _ _).put _ _).drew.b)) (fail)
    obtain ⟨W4, hW4⟩ : ∃ W4, W4 = ((W2.setCell ⟨W1.heap.size, 1, none⟩ (.int .i64 0)).setCell ⟨W1.heap.size, 2, none⟩ (.float .f64 val)).drew := ⟨_, rfl⟩
    rw [← hW4]
    have HMk4 : Hid (Mk W1 (xcs (.slice a1 F.length c1) 0 val false 0 false 0) W4) := by rw [hW4]; exact ((HMk.out.put 1 (.int .i64 0)).put 2 (.float .f64 val)).drew
    clear hW4 HMk HS x1 x2 f1 f2
    have x5 : W4.cell? ⟨W1.heap.size, 5, none⟩ = some (.slice none 0 0) := HMk4.out.x.cell 5
    have x6 : W4.cell? ⟨W1.heap.size, 8, none⟩ = some (.bool false) := HMk4.out.x.cell 8
    have x7 : W4.cell? ⟨W1.heap.size, 7, none⟩ = some (.int .i64 0) := HMk4.out.x.cell 7
    have f6 := HMk4.out.x.free 8
    have f7 := HMk4.out.x.free 7
    have z4 := HC.out W4 HMk4.out.b
    go_wp2_with fail
    have HS : Hid (∀ W, Below W1.heap.size W1 W → W.cell? ⟨b, 2, none⟩ = some (ptr vb) ∧ W.cell? ⟨vb, 2, none⟩ = some (ptr tb) ∧ W.cell? ⟨tb, 0, none⟩ = some (.int .i64 t)) := fun W h => by
      obtain ⟨y0, y1, y2, y3, y4, y5, y6, y7, y8, y9, y10, y11⟩ := HC.out W h
      exact ⟨y2, y10, y11⟩
    clear z4
    go_region_held3 (fun W => W.cell? ⟨b, 2, none⟩ = some (ptr vb) ∧ W.cell? ⟨vb, 2, none⟩ = some (ptr tb) ∧ W.cell? ⟨tb, 0, none⟩ = some (.int .i64 t)) (first | (with_reducible exact HS.out _ HMk4.out.drew.b) | (with_reducible exact HS.out _ (HMk4.out.put _ _).drew.b) | (with_reducible exact HS.out _ ((HMk4.out.put _ _).put _ _).drew.b)) (fail)
    all_goals
      go_wp2_with fail
      go_meet
      first | exact ((HMk4.out.put 8 (.bool true)).put 7 (.int .i64 t)).drew | exact ((HMk4.out.put 7 (.int .i64 t)).put 8 (.bool true)).drew
  case rest => as_aux_lemma =>
    obtain ⟨W5, rfl⟩ : ∃ W5, W5 = wc := ⟨_, rfl⟩
    have z5 := HC.out W5 hcut.out.b
    go_upto_region 23 with fail
    obtain ⟨W6, hW6⟩ : ∃ W6, W6 = W5 := ⟨_, rfl⟩
    rw [← hW6]
    have HM6 : Hid (Mk W1 (xcs (.slice a1 F.length c1) 0 val true t false 0) W6) := by rw [hW6]; exact hcut.out
    clear hW6
    go_step
    refine Big.wpList_load_whole rfl _ _ rfl W1.heap.size 40 (xcs (.slice a1 F.length c1) 0 val true t false 0) rfl HM6.out.x _ Tryz.underlying40 rfl hsz27 ?_
    simp only [Act.put, List.setIfInBounds_toArray, List.set_cons_zero, List.set_cons_succ]
    refine Big.wpList_store_whole rfl _ _ _ rfl w.heap.size 40 _ (xcs (.slice a1 F.length c1) 0 val true t false 0) rfl rfl (HR.out _ HM6.out.b) rfl hsz27 (xcs_ones _ _ _ _ _ _ _ _ _) ?_
    intro W7 hx7 hg7 hs7
    simp only [Act.put]
    have HF := Lib.hid (HOut.out _ _ HM6.out hx7 hg7 hs7)
    have HX7 := Lib.hid hx7
    clear hx7 hg7 hs7
    go_wp2_with fail
    exact bodyPost_ret (v := .agg (xcs (.slice a1 F.length c1) 0 val true t false 0)) (res1 Tryz.results86 _ _ _ _ _ rfl (Big.loaded_whole 40 w.heap.size 40 (xcs (.slice a1 F.length c1) 0 val true t false 0) HX7.out _ Tryz.underlying40 rfl hsz27)) rfl HF.out

end Go.Proofs.YtlolomodcbkblaaGreatDoor.Mt
