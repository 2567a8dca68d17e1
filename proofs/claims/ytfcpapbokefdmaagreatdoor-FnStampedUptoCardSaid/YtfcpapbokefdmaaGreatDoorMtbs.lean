/- Metrics: a metric with a single value and a timestamp read back (impl.metricOf). -/
import Derived.Test.YtfcpapbokefdmaaGreatDoorMtb
set_option linter.unusedVariables false
set_option linter.unusedSimpArgs false
namespace Go.Proofs.YtfcpapbokefdmaaGreatDoor.Mt
open Go.RowKit Go.Maps Go.WideMaps Go.ChangeShapes Go.WideShapes Go.Deep Fp Obs _root_.Go.Proofs.YtfcpapbokefdmaaGreatDoor.Nd
attribute [local go_sem] run_store_float

set_option maxHeartbeats 16000000 in
set_option maxRecDepth 100000 in
theorem metricOf_0s (b : Nat) (F : List P2) (val : Nat) (s : Int) (w : World) (hm : MetAt w b F 0 val none (some s)) (hF : F.length ≤ 2147483647) :
    Calls Tryz.prog 83 #[ptr b] w (MetOut F 0 val none (some s) w) := by
  obtain ⟨lv, vb, f, ct, ts, hcs, hps, hva, hdt, hst⟩ := hm.got
  have hlt := hm.lt
  obtain ⟨hlv, hlf⟩ := hva.lt
  have hdt := hdt rfl
  have hdt : ct = nilp := hdt
  subst hdt
  obtain ⟨sb, rfl, hsb, hsc⟩ := hst
  obtain ⟨A, hA⟩ : ∃ A, A = w.alloc (.cells #[.slice none 0 0, .int .i64 0, .float .f64 0, .bool false, .float .f64 0, .slice none 0 0, .int .i64 0, .int .i64 0, .bool false, .int .u64 0, .float .f64 0, .slice none 0 0, .int .i64 0, .bool false, .int .i32 0, .float .f64 0, .int .u64 0, .slice none 0 0, .slice none 0 0, .slice none 0 0, .slice none 0 0, .slice none 0 0, .int .u64 0, .float .f64 0, .slice none 0 0, .bool false, .int .i64 0] 75) := ⟨_, rfl⟩
  have s1 : A.heap.size = w.heap.size + 1 := by rw [hA]; simp
  have hqb : Below w.heap.size w A := by rw [hA]; exact (Below.refl _ _).alloc (Nat.le_refl _) _
  obtain ⟨qs, hql, hlvs, _⟩ := id hps
  obtain ⟨al, cl, rfl, _, _⟩ := sl_slice hlvs
  rw [hql] at hps hcs
  have k0 : (w.alloc (.cells #[.slice none 0 0, .int .i64 0, .float .f64 0, .bool false, .float .f64 0, .slice none 0 0, .int .i64 0, .int .i64 0, .bool false, .int .u64 0, .float .f64 0, .slice none 0 0, .int .i64 0, .bool false, .int .i32 0, .float .f64 0, .int .u64 0, .slice none 0 0, .slice none 0 0, .slice none 0 0, .slice none 0 0, .slice none 0 0, .int .u64 0, .float .f64 0, .slice none 0 0, .bool false, .int .i64 0] 75)).cell? ⟨b, 0, none⟩ = some (.slice al F.length cl) := al_cell _ (hcs 0)
  have CP := Lib.hid (pairs_own F (.slice al F.length cl) A (hps.below hqb) hF)
  have hR : Whole A w.heap.size 75 (xcs (.slice none 0 0) 0 0 false 0 false 0) := by rw [hA]; exact Whole.made w _ _
  have hsz27 : (Tryz.prog.info? 75).map (·.size) = some 27 := by kernel_rfl
  clear hps hlvs hql
  go_enter Tryz.func83, Tryz.ntmps83
  go_wp2_with fail
  rw [← hA]
  refine CP.out.mono ?_
  rintro e W1 ⟨v1, rfl, ho, hb1⟩
  obtain ⟨a1, c1, rfl⟩ := row_slice2 ho
  have hsz1 := hb1.size
  have hbw1 : Below w.heap.size w W1 := hqb.trans (hb1.mono (by omega))
  have HOf : Hid (∀ W, Below W1.heap.size W1 W → Ss.Of 2 pc W (.slice a1 F.length c1) F) := fun W h => (Ss.Of.own pc_len ho).below h
  have hwR : Whole W1 w.heap.size 75 (xcs (.slice none 0 0) 0 0 false 0 false 0) := (hb1.block w.heap.size (by omega)).trans hR
  have HR : Hid (∀ W, Below W1.heap.size W1 W → Whole W w.heap.size 75 (xcs (.slice none 0 0) 0 0 false 0 false 0)) := fun W h => (h.block w.heap.size (by omega)).trans hwR
  have HC : Hid (∀ W, Below W1.heap.size W1 W → W.cell? ⟨b, 0, none⟩ = some (.slice al F.length cl) ∧ W.cell? ⟨b, 1, none⟩ = some (nilp) ∧ W.cell? ⟨b, 2, none⟩ = some (ptr vb) ∧ W.cell? ⟨b, 3, none⟩ = some (nilp) ∧ W.cell? ⟨b, 4, none⟩ = some (nilp) ∧ W.cell? ⟨b, 5, none⟩ = some (nilp) ∧ W.cell? ⟨b, 6, none⟩ = some (ptr sb) ∧ W.cell? ⟨vb, 0, none⟩ = some (ptr f) ∧ W.cell? ⟨f, 0, none⟩ = some (.float .f64 val) ∧ W.cell? ⟨vb, 1, none⟩ = some nilp ∧ W.cell? ⟨vb, 2, none⟩ = some (nilp) ∧ W.cell? ⟨sb, 0, none⟩ = some (.int .i64 s)) := fun W h =>
    have k := hbw1.trans (h.mono (by omega))
    ⟨(k.cell (p := ⟨b, 0, none⟩) hlt).trans (hcs 0), (k.cell (p := ⟨b, 1, none⟩) hlt).trans (hcs 1), (k.cell (p := ⟨b, 2, none⟩) hlt).trans (hcs 2), (k.cell (p := ⟨b, 3, none⟩) hlt).trans (hcs 3), (k.cell (p := ⟨b, 4, none⟩) hlt).trans (hcs 4), (k.cell (p := ⟨b, 5, none⟩) hlt).trans (hcs 5), (k.cell (p := ⟨b, 6, none⟩) hlt).trans (hcs 6), (k.cell (p := ⟨vb, 0, none⟩) hlv).trans hva.v0, (k.cell (p := ⟨f, 0, none⟩) hlf).trans hva.fv, (k.cell (p := ⟨vb, 1, none⟩) hlv).trans (hva.v1 rfl), (k.cell (p := ⟨vb, 2, none⟩) hlv).trans (hva.v2 rfl), (k.cell (p := ⟨sb, 0, none⟩) hsb).trans hsc⟩
  have HUp : Hid (∀ W, Below W1.heap.size W1 W → Below w.heap.size w W) := fun W h => hbw1.trans (h.mono (by omega))
  have hne : w.heap.size < W1.heap.size := by omega
  have HFar_b : Hid (∀ (W : World) (i j : Nat) (u : Value), (W.setCell ⟨W1.heap.size, i, none⟩ u).cell? ⟨b, j, none⟩ = W.cell? ⟨b, j, none⟩) := fun W i j u => World.cell?_setCell_far W _ _ u (by show W1.heap.size ≠ b; omega)
  have HFar_vb : Hid (∀ (W : World) (i j : Nat) (u : Value), (W.setCell ⟨W1.heap.size, i, none⟩ u).cell? ⟨vb, j, none⟩ = W.cell? ⟨vb, j, none⟩) := fun W i j u => World.cell?_setCell_far W _ _ u (by show W1.heap.size ≠ vb; omega)
  have HFar_f : Hid (∀ (W : World) (i j : Nat) (u : Value), (W.setCell ⟨W1.heap.size, i, none⟩ u).cell? ⟨f, j, none⟩ = W.cell? ⟨f, j, none⟩) := fun W i j u => World.cell?_setCell_far W _ _ u (by show W1.heap.size ≠ f; omega)
  have HFar_sb : Hid (∀ (W : World) (i j : Nat) (u : Value), (W.setCell ⟨W1.heap.size, i, none⟩ u).cell? ⟨sb, j, none⟩ = W.cell? ⟨sb, j, none⟩) := fun W i j u => World.cell?_setCell_far W _ _ u (by show W1.heap.size ≠ sb; omega)
  have HMk0 : Hid (Mk W1 (xcs (.slice none 0 0) 0 0 false 0 false 0) (W1.alloc (.cells (xcs (.slice none 0 0) 0 0 false 0 false 0) 75))) := ⟨Whole.made W1 _ _, (Below.refl _ _).alloc (Nat.le_refl _) _⟩
  have HOut : Hid (∀ W Wf, Mk W1 (xcs (.slice a1 F.length c1) 0 val false 0 true s) W → Whole Wf w.heap.size 75 (xcs (.slice a1 F.length c1) 0 val false 0 true s) → W.grownBy Wf (some w.heap.size) → Wf.heap.size = W.heap.size → MetOut F 0 val none (some s) w (.returned (.agg (xcs (.slice a1 F.length c1) 0 val false 0 true s))) Wf) := fun W Wf hM hW hg hs => by
    have hz := hM.b.size
    refine ⟨a1, c1, rfl, ?_, (HUp.out _ hM.b).grown hg (by omega) (fun j hj => by injection hj with hj; omega)⟩
    have h0 : (W1.ownsRow A.heap.size 102 2 (.slice a1 F.length c1) F.length (F.flatMap pc)) := ho
    have h2 : W.ownsRow A.heap.size 102 2 (.slice a1 F.length c1) F.length (F.flatMap pc) := own_below h0 hM.b
    refine own_base (h2.kept hg ?_) (by omega)
    cases hv : (Value.slice a1 F.length c1).ownBlock with
    | none => exact Or.inl rfl
    | some g => exact Or.inr (by have := (h2.lt g hv).1; intro e; injection e with e; omega)
  clear ho hb1 hbw1 hwR hR hqb hcs hva hm k0 CP hsz1 hA s1   hsc
  rename_i K1 hK1 K2 hK2
  dsimp only
  refine hK2 _ _ ?_
  refine wpList_plain rfl fun K3 hK3 => ?_
  go_simp
  refine hK3 _ _ ?_
  refine wpList_plain rfl fun K4 hK4 => ?_
  go_simp
  refine hK4 _ _ ?_
  refine Big.wpList_store_whole rfl _ _ _ rfl W1.heap.size 75 _ (xcs (.slice a1 F.length c1) 0 0 false 0 false 0) rfl rfl HMk0.out.x rfl hsz27 (xcs_ones _ _ _ _ _ _ _ _ _) ?_
  intro W2 hx2 hg2 hs2
  simp only [Act.put]
  have HMk : Hid (Mk W1 (xcs (.slice a1 F.length c1) 0 0 false 0 false 0) W2) := ⟨hx2, HMk0.out.b.grown hg2 (by simp) (fun j hj => by injection hj with hj; omega)⟩
  have z2 := HC.out W2 HMk.out.b
  clear hx2 hg2 hs2 HMk0 hK2 K2 hK3 K3 hK4 K4
  go_upto_block 0 with fail
  go_cut [5] (fun s wx => Hid (Mk W1 (xcs (.slice a1 F.length c1) 0 val false 0 false 0) wx))
  case first => as_aux_lemma =>
    have x1 : W2.cell? ⟨W1.heap.size, 1, none⟩ = some (.int .i64 0) := HMk.out.x.cell 1
    have x2 : W2.cell? ⟨W1.heap.size, 2, none⟩ = some (.float .f64 0) := HMk.out.x.cell 2
    have f1 := HMk.out.x.free 1
    have f2 := HMk.out.x.free 2
    go_wp2_with fail
    have HS : Hid (∀ W, Below W1.heap.size W1 W → W.cell? ⟨b, 2, none⟩ = some (ptr vb) ∧ W.cell? ⟨vb, 0, none⟩ = some (ptr f) ∧ W.cell? ⟨f, 0, none⟩ = some (.float .f64 val)) := fun W h => by
      obtain ⟨y0, y1, y2, y3, y4, y5, y6, y7, y8, y9, y10, y11⟩ := HC.out W h
      exact ⟨y2, y7, y8⟩
    clear z2
    go_region_held3 (fun W => W.cell? ⟨b, 2, none⟩ = some (ptr vb) ∧ W.cell? ⟨vb, 0, none⟩ = some (ptr f) ∧ W.cell? ⟨f, 0, none⟩ = some (.float .f64 val)) (first | (with_reducible exact HS.out _ HMk.out.drew.b) | (with_reducible exact HS.out _ (HMk.out.put _ _).drew.b) | (with_reducible exact HS.out _ ((HMk.out.put _ _).put _ _).drew.b)) (fail)
    have z4 := HC.out _ (((HMk.out.put 1 (.int .i64 0)).put 2 (.float .f64 val)).drew).b
    go_wp2_with fail
    go_meet
    exact ((HMk.out.put 1 (.int .i64 0)).put 2 (.float .f64 val)).drew
  case rest => as_aux_lemma =>
    obtain ⟨W5, rfl⟩ : ∃ W5, W5 = wc := ⟨_, rfl⟩
    have z5 := HC.out W5 hcut.out.b
    have x11 : W5.cell? ⟨W1.heap.size, 25, none⟩ = some (.bool false) := hcut.out.x.cell 25
    have x12 : W5.cell? ⟨W1.heap.size, 26, none⟩ = some (.int .i64 0) := hcut.out.x.cell 26
    have f11 := hcut.out.x.free 25
    have f12 := hcut.out.x.free 26
    go_wp2_with fail
    have HS : Hid (∀ W, Below W1.heap.size W1 W → W.cell? ⟨b, 6, none⟩ = some (ptr sb) ∧ W.cell? ⟨sb, 0, none⟩ = some (.int .i64 s)) := fun W h => by
      obtain ⟨y0, y1, y2, y3, y4, y5, y6, y7, y8, y9, y10, y11⟩ := HC.out W h
      exact ⟨y6, y11⟩
    clear z5
    go_region_held3 (fun W => W.cell? ⟨b, 6, none⟩ = some (ptr sb) ∧ W.cell? ⟨sb, 0, none⟩ = some (.int .i64 s)) (first | (with_reducible exact HS.out _ hcut.out.drew.b) | (with_reducible exact HS.out _ (hcut.out.put _ _).drew.b) | (with_reducible exact HS.out _ ((hcut.out.put _ _).put _ _).drew.b)) (fail)
    go_upto_region 23 with fail
    obtain ⟨W6, hW6⟩ : ∃ W6, W6 = ((W5.setCell ⟨W1.heap.size, 25, none⟩ (.bool true)).setCell ⟨W1.heap.size, 26, none⟩ (.int .i64 s)).drew := ⟨_, rfl⟩
    rw [← hW6]
    have HM6 : Hid (Mk W1 (xcs (.slice a1 F.length c1) 0 val false 0 true s) W6) := by rw [hW6]; exact ((hcut.out.put 25 (.bool true)).put 26 (.int .i64 s)).drew
    clear hW6
    go_step
    refine Big.wpList_load_whole rfl _ _ rfl W1.heap.size 75 (xcs (.slice a1 F.length c1) 0 val false 0 true s) rfl HM6.out.x _ Tryz.underlying75 rfl hsz27 ?_
    simp only [Act.put, List.setIfInBounds_toArray, List.set_cons_zero, List.set_cons_succ]
    refine Big.wpList_store_whole rfl _ _ _ rfl w.heap.size 75 _ (xcs (.slice a1 F.length c1) 0 val false 0 true s) rfl rfl (HR.out _ HM6.out.b) rfl hsz27 (xcs_ones _ _ _ _ _ _ _ _ _) ?_
    intro W7 hx7 hg7 hs7
    simp only [Act.put]
    have HF := Lib.hid (HOut.out _ _ HM6.out hx7 hg7 hs7)
    have HX7 := Lib.hid hx7
    clear hx7 hg7 hs7
    go_wp2_with fail
    exact bodyPost_ret (v := .agg (xcs (.slice a1 F.length c1) 0 val false 0 true s)) (res1 Tryz.results83 _ _ _ _ _ rfl (Big.loaded_whole 75 w.heap.size 75 (xcs (.slice a1 F.length c1) 0 val false 0 true s) HX7.out _ Tryz.underlying75 rfl hsz27)) rfl HF.out

set_option maxHeartbeats 16000000 in
set_option maxRecDepth 100000 in
theorem metricOf_1s (b : Nat) (F : List P2) (val : Nat) (s : Int) (w : World) (hm : MetAt w b F 1 val none (some s)) (hF : F.length ≤ 2147483647) :
    Calls Tryz.prog 83 #[ptr b] w (MetOut F 1 val none (some s) w) := by
  obtain ⟨lv, vb, f, ct, ts, hcs, hps, hva, hdt, hst⟩ := hm.got
  have hlt := hm.lt
  obtain ⟨hlv, hlf⟩ := hva.lt
  obtain ⟨sb, rfl, hsb, hsc⟩ := hst
  obtain ⟨A, hA⟩ : ∃ A, A = w.alloc (.cells #[.slice none 0 0, .int .i64 0, .float .f64 0, .bool false, .float .f64 0, .slice none 0 0, .int .i64 0, .int .i64 0, .bool false, .int .u64 0, .float .f64 0, .slice none 0 0, .int .i64 0, .bool false, .int .i32 0, .float .f64 0, .int .u64 0, .slice none 0 0, .slice none 0 0, .slice none 0 0, .slice none 0 0, .slice none 0 0, .int .u64 0, .float .f64 0, .slice none 0 0, .bool false, .int .i64 0] 75) := ⟨_, rfl⟩
  have s1 : A.heap.size = w.heap.size + 1 := by rw [hA]; simp
  have hqb : Below w.heap.size w A := by rw [hA]; exact (Below.refl _ _).alloc (Nat.le_refl _) _
  obtain ⟨qs, hql, hlvs, _⟩ := id hps
  obtain ⟨al, cl, rfl, _, _⟩ := sl_slice hlvs
  rw [hql] at hps hcs
  have k0 : (w.alloc (.cells #[.slice none 0 0, .int .i64 0, .float .f64 0, .bool false, .float .f64 0, .slice none 0 0, .int .i64 0, .int .i64 0, .bool false, .int .u64 0, .float .f64 0, .slice none 0 0, .int .i64 0, .bool false, .int .i32 0, .float .f64 0, .int .u64 0, .slice none 0 0, .slice none 0 0, .slice none 0 0, .slice none 0 0, .slice none 0 0, .int .u64 0, .float .f64 0, .slice none 0 0, .bool false, .int .i64 0] 75)).cell? ⟨b, 0, none⟩ = some (.slice al F.length cl) := al_cell _ (hcs 0)
  have CP := Lib.hid (pairs_own F (.slice al F.length cl) A (hps.below hqb) hF)
  have hR : Whole A w.heap.size 75 (xcs (.slice none 0 0) 0 0 false 0 false 0) := by rw [hA]; exact Whole.made w _ _
  have hsz27 : (Tryz.prog.info? 75).map (·.size) = some 27 := by kernel_rfl
  clear hps hlvs hql
  go_enter Tryz.func83, Tryz.ntmps83
  go_wp2_with fail
  rw [← hA]
  refine CP.out.mono ?_
  rintro e W1 ⟨v1, rfl, ho, hb1⟩
  obtain ⟨a1, c1, rfl⟩ := row_slice2 ho
  have hsz1 := hb1.size
  have hbw1 : Below w.heap.size w W1 := hqb.trans (hb1.mono (by omega))
  have HOf : Hid (∀ W, Below W1.heap.size W1 W → Ss.Of 2 pc W (.slice a1 F.length c1) F) := fun W h => (Ss.Of.own pc_len ho).below h
  have hwR : Whole W1 w.heap.size 75 (xcs (.slice none 0 0) 0 0 false 0 false 0) := (hb1.block w.heap.size (by omega)).trans hR
  have HR : Hid (∀ W, Below W1.heap.size W1 W → Whole W w.heap.size 75 (xcs (.slice none 0 0) 0 0 false 0 false 0)) := fun W h => (h.block w.heap.size (by omega)).trans hwR
  have HC : Hid (∀ W, Below W1.heap.size W1 W → W.cell? ⟨b, 0, none⟩ = some (.slice al F.length cl) ∧ W.cell? ⟨b, 1, none⟩ = some (ptr vb) ∧ W.cell? ⟨b, 2, none⟩ = some (nilp) ∧ W.cell? ⟨b, 3, none⟩ = some (nilp) ∧ W.cell? ⟨b, 4, none⟩ = some (nilp) ∧ W.cell? ⟨b, 5, none⟩ = some (nilp) ∧ W.cell? ⟨b, 6, none⟩ = some (ptr sb) ∧ W.cell? ⟨vb, 0, none⟩ = some (ptr f) ∧ W.cell? ⟨f, 0, none⟩ = some (.float .f64 val) ∧ W.cell? ⟨sb, 0, none⟩ = some (.int .i64 s)) := fun W h =>
    have k := hbw1.trans (h.mono (by omega))
    ⟨(k.cell (p := ⟨b, 0, none⟩) hlt).trans (hcs 0), (k.cell (p := ⟨b, 1, none⟩) hlt).trans (hcs 1), (k.cell (p := ⟨b, 2, none⟩) hlt).trans (hcs 2), (k.cell (p := ⟨b, 3, none⟩) hlt).trans (hcs 3), (k.cell (p := ⟨b, 4, none⟩) hlt).trans (hcs 4), (k.cell (p := ⟨b, 5, none⟩) hlt).trans (hcs 5), (k.cell (p := ⟨b, 6, none⟩) hlt).trans (hcs 6), (k.cell (p := ⟨vb, 0, none⟩) hlv).trans hva.v0, (k.cell (p := ⟨f, 0, none⟩) hlf).trans hva.fv, (k.cell (p := ⟨sb, 0, none⟩) hsb).trans hsc⟩
  have HUp : Hid (∀ W, Below W1.heap.size W1 W → Below w.heap.size w W) := fun W h => hbw1.trans (h.mono (by omega))
  have hne : w.heap.size < W1.heap.size := by omega
  have HFar_b : Hid (∀ (W : World) (i j : Nat) (u : Value), (W.setCell ⟨W1.heap.size, i, none⟩ u).cell? ⟨b, j, none⟩ = W.cell? ⟨b, j, none⟩) := fun W i j u => World.cell?_setCell_far W _ _ u (by show W1.heap.size ≠ b; omega)
  have HFar_vb : Hid (∀ (W : World) (i j : Nat) (u : Value), (W.setCell ⟨W1.heap.size, i, none⟩ u).cell? ⟨vb, j, none⟩ = W.cell? ⟨vb, j, none⟩) := fun W i j u => World.cell?_setCell_far W _ _ u (by show W1.heap.size ≠ vb; omega)
  have HFar_f : Hid (∀ (W : World) (i j : Nat) (u : Value), (W.setCell ⟨W1.heap.size, i, none⟩ u).cell? ⟨f, j, none⟩ = W.cell? ⟨f, j, none⟩) := fun W i j u => World.cell?_setCell_far W _ _ u (by show W1.heap.size ≠ f; omega)
  have HFar_sb : Hid (∀ (W : World) (i j : Nat) (u : Value), (W.setCell ⟨W1.heap.size, i, none⟩ u).cell? ⟨sb, j, none⟩ = W.cell? ⟨sb, j, none⟩) := fun W i j u => World.cell?_setCell_far W _ _ u (by show W1.heap.size ≠ sb; omega)
  have HMk0 : Hid (Mk W1 (xcs (.slice none 0 0) 0 0 false 0 false 0) (W1.alloc (.cells (xcs (.slice none 0 0) 0 0 false 0 false 0) 75))) := ⟨Whole.made W1 _ _, (Below.refl _ _).alloc (Nat.le_refl _) _⟩
  have HOut : Hid (∀ W Wf, Mk W1 (xcs (.slice a1 F.length c1) 1 val false 0 true s) W → Whole Wf w.heap.size 75 (xcs (.slice a1 F.length c1) 1 val false 0 true s) → W.grownBy Wf (some w.heap.size) → Wf.heap.size = W.heap.size → MetOut F 1 val none (some s) w (.returned (.agg (xcs (.slice a1 F.length c1) 1 val false 0 true s))) Wf) := fun W Wf hM hW hg hs => by
    have hz := hM.b.size
    refine ⟨a1, c1, rfl, ?_, (HUp.out _ hM.b).grown hg (by omega) (fun j hj => by injection hj with hj; omega)⟩
    have h0 : (W1.ownsRow A.heap.size 102 2 (.slice a1 F.length c1) F.length (F.flatMap pc)) := ho
    have h2 : W.ownsRow A.heap.size 102 2 (.slice a1 F.length c1) F.length (F.flatMap pc) := own_below h0 hM.b
    refine own_base (h2.kept hg ?_) (by omega)
    cases hv : (Value.slice a1 F.length c1).ownBlock with
    | none => exact Or.inl rfl
    | some g => exact Or.inr (by have := (h2.lt g hv).1; intro e; injection e with e; omega)
  clear ho hb1 hbw1 hwR hR hqb hcs hva hm k0 CP hsz1 hA s1 hdt  hsc
  rename_i K1 hK1 K2 hK2
  dsimp only
  refine hK2 _ _ ?_
  refine wpList_plain rfl fun K3 hK3 => ?_
  go_simp
  refine hK3 _ _ ?_
  refine wpList_plain rfl fun K4 hK4 => ?_
  go_simp
  refine hK4 _ _ ?_
  refine Big.wpList_store_whole rfl _ _ _ rfl W1.heap.size 75 _ (xcs (.slice a1 F.length c1) 0 0 false 0 false 0) rfl rfl HMk0.out.x rfl hsz27 (xcs_ones _ _ _ _ _ _ _ _ _) ?_
  intro W2 hx2 hg2 hs2
  simp only [Act.put]
  have HMk : Hid (Mk W1 (xcs (.slice a1 F.length c1) 0 0 false 0 false 0) W2) := ⟨hx2, HMk0.out.b.grown hg2 (by simp) (fun j hj => by injection hj with hj; omega)⟩
  have z2 := HC.out W2 HMk.out.b
  clear hx2 hg2 hs2 HMk0 hK2 K2 hK3 K3 hK4 K4
  go_upto_block 0 with fail
  go_cut [5] (fun s wx => Hid (Mk W1 (xcs (.slice a1 F.length c1) 1 val false 0 false 0) wx))
  case first => as_aux_lemma =>
    have x1 : W2.cell? ⟨W1.heap.size, 1, none⟩ = some (.int .i64 0) := HMk.out.x.cell 1
    have x2 : W2.cell? ⟨W1.heap.size, 2, none⟩ = some (.float .f64 0) := HMk.out.x.cell 2
    have f1 := HMk.out.x.free 1
    have f2 := HMk.out.x.free 2
    go_wp2_with fail
    have HS : Hid (∀ W, Below W1.heap.size W1 W → W.cell? ⟨b, 1, none⟩ = some (ptr vb) ∧ W.cell? ⟨vb, 0, none⟩ = some (ptr f) ∧ W.cell? ⟨f, 0, none⟩ = some (.float .f64 val)) := fun W h => by
      obtain ⟨y0, y1, y2, y3, y4, y5, y6, y7, y8, y9⟩ := HC.out W h
      exact ⟨y1, y7, y8⟩
    clear z2
    go_region_held3 (fun W => W.cell? ⟨b, 1, none⟩ = some (ptr vb) ∧ W.cell? ⟨vb, 0, none⟩ = some (ptr f) ∧ W.cell? ⟨f, 0, none⟩ = some (.float .f64 val)) (first | (with_reducible exact HS.out _ HMk.out.drew.b) | (with_reducible exact HS.out _ (HMk.out.put _ _).drew.b) | (with_reducible exact HS.out _ ((HMk.out.put _ _).put _ _).drew.b)) (fail)
    go_wp2_with fail
    go_meet
    exact ((HMk.out.put 1 (.int .i64 1)).put 2 (.float .f64 val)).drew
  case rest => as_aux_lemma =>
    obtain ⟨W5, rfl⟩ : ∃ W5, W5 = wc := ⟨_, rfl⟩
    have z5 := HC.out W5 hcut.out.b
    have x11 : W5.cell? ⟨W1.heap.size, 25, none⟩ = some (.bool false) := hcut.out.x.cell 25
    have x12 : W5.cell? ⟨W1.heap.size, 26, none⟩ = some (.int .i64 0) := hcut.out.x.cell 26
    have f11 := hcut.out.x.free 25
    have f12 := hcut.out.x.free 26
    go_wp2_with fail
    have HS : Hid (∀ W, Below W1.heap.size W1 W → W.cell? ⟨b, 6, none⟩ = some (ptr sb) ∧ W.cell? ⟨sb, 0, none⟩ = some (.int .i64 s)) := fun W h => by
      obtain ⟨y0, y1, y2, y3, y4, y5, y6, y7, y8, y9⟩ := HC.out W h
      exact ⟨y6, y9⟩
    clear z5
    go_region_held3 (fun W => W.cell? ⟨b, 6, none⟩ = some (ptr sb) ∧ W.cell? ⟨sb, 0, none⟩ = some (.int .i64 s)) (first | (with_reducible exact HS.out _ hcut.out.drew.b) | (with_reducible exact HS.out _ (hcut.out.put _ _).drew.b) | (with_reducible exact HS.out _ ((hcut.out.put _ _).put _ _).drew.b)) (fail)
    go_upto_region 23 with fail
    obtain ⟨W6, hW6⟩ : ∃ W6, W6 = ((W5.setCell ⟨W1.heap.size, 25, none⟩ (.bool true)).setCell ⟨W1.heap.size, 26, none⟩ (.int .i64 s)).drew := ⟨_, rfl⟩
    rw [← hW6]
    have HM6 : Hid (Mk W1 (xcs (.slice a1 F.length c1) 1 val false 0 true s) W6) := by rw [hW6]; exact ((hcut.out.put 25 (.bool true)).put 26 (.int .i64 s)).drew
    clear hW6
    go_step
    refine Big.wpList_load_whole rfl _ _ rfl W1.heap.size 75 (xcs (.slice a1 F.length c1) 1 val false 0 true s) rfl HM6.out.x _ Tryz.underlying75 rfl hsz27 ?_
    simp only [Act.put, List.setIfInBounds_toArray, List.set_cons_zero, List.set_cons_succ]
    refine Big.wpList_store_whole rfl _ _ _ rfl w.heap.size 75 _ (xcs (.slice a1 F.length c1) 1 val false 0 true s) rfl rfl (HR.out _ HM6.out.b) rfl hsz27 (xcs_ones _ _ _ _ _ _ _ _ _) ?_
    intro W7 hx7 hg7 hs7
    simp only [Act.put]
    have HF := Lib.hid (HOut.out _ _ HM6.out hx7 hg7 hs7)
    have HX7 := Lib.hid hx7
    clear hx7 hg7 hs7
    go_wp2_with fail
    exact bodyPost_ret (v := .agg (xcs (.slice a1 F.length c1) 1 val false 0 true s)) (res1 Tryz.results83 _ _ _ _ _ rfl (Big.loaded_whole 75 w.heap.size 75 (xcs (.slice a1 F.length c1) 1 val false 0 true s) HX7.out _ Tryz.underlying75 rfl hsz27)) rfl HF.out

set_option maxHeartbeats 16000000 in
set_option maxRecDepth 100000 in
theorem metricOf_3s (b : Nat) (F : List P2) (val : Nat) (s : Int) (w : World) (hm : MetAt w b F 3 val none (some s)) (hF : F.length ≤ 2147483647) :
    Calls Tryz.prog 83 #[ptr b] w (MetOut F 3 val none (some s) w) := by
  obtain ⟨lv, vb, f, ct, ts, hcs, hps, hva, hdt, hst⟩ := hm.got
  have hlt := hm.lt
  obtain ⟨hlv, hlf⟩ := hva.lt
  obtain ⟨sb, rfl, hsb, hsc⟩ := hst
  obtain ⟨A, hA⟩ : ∃ A, A = w.alloc (.cells #[.slice none 0 0, .int .i64 0, .float .f64 0, .bool false, .float .f64 0, .slice none 0 0, .int .i64 0, .int .i64 0, .bool false, .int .u64 0, .float .f64 0, .slice none 0 0, .int .i64 0, .bool false, .int .i32 0, .float .f64 0, .int .u64 0, .slice none 0 0, .slice none 0 0, .slice none 0 0, .slice none 0 0, .slice none 0 0, .int .u64 0, .float .f64 0, .slice none 0 0, .bool false, .int .i64 0] 75) := ⟨_, rfl⟩
  have s1 : A.heap.size = w.heap.size + 1 := by rw [hA]; simp
  have hqb : Below w.heap.size w A := by rw [hA]; exact (Below.refl _ _).alloc (Nat.le_refl _) _
  obtain ⟨qs, hql, hlvs, _⟩ := id hps
  obtain ⟨al, cl, rfl, _, _⟩ := sl_slice hlvs
  rw [hql] at hps hcs
  have k0 : (w.alloc (.cells #[.slice none 0 0, .int .i64 0, .float .f64 0, .bool false, .float .f64 0, .slice none 0 0, .int .i64 0, .int .i64 0, .bool false, .int .u64 0, .float .f64 0, .slice none 0 0, .int .i64 0, .bool false, .int .i32 0, .float .f64 0, .int .u64 0, .slice none 0 0, .slice none 0 0, .slice none 0 0, .slice none 0 0, .slice none 0 0, .int .u64 0, .float .f64 0, .slice none 0 0, .bool false, .int .i64 0] 75)).cell? ⟨b, 0, none⟩ = some (.slice al F.length cl) := al_cell _ (hcs 0)
  have CP := Lib.hid (pairs_own F (.slice al F.length cl) A (hps.below hqb) hF)
  have hR : Whole A w.heap.size 75 (xcs (.slice none 0 0) 0 0 false 0 false 0) := by rw [hA]; exact Whole.made w _ _
  have hsz27 : (Tryz.prog.info? 75).map (·.size) = some 27 := by kernel_rfl
  clear hps hlvs hql
  go_enter Tryz.func83, Tryz.ntmps83
  go_wp2_with fail
  rw [← hA]
  refine CP.out.mono ?_
  rintro e W1 ⟨v1, rfl, ho, hb1⟩
  obtain ⟨a1, c1, rfl⟩ := row_slice2 ho
  have hsz1 := hb1.size
  have hbw1 : Below w.heap.size w W1 := hqb.trans (hb1.mono (by omega))
  have HOf : Hid (∀ W, Below W1.heap.size W1 W → Ss.Of 2 pc W (.slice a1 F.length c1) F) := fun W h => (Ss.Of.own pc_len ho).below h
  have hwR : Whole W1 w.heap.size 75 (xcs (.slice none 0 0) 0 0 false 0 false 0) := (hb1.block w.heap.size (by omega)).trans hR
  have HR : Hid (∀ W, Below W1.heap.size W1 W → Whole W w.heap.size 75 (xcs (.slice none 0 0) 0 0 false 0 false 0)) := fun W h => (h.block w.heap.size (by omega)).trans hwR
  have HC : Hid (∀ W, Below W1.heap.size W1 W → W.cell? ⟨b, 0, none⟩ = some (.slice al F.length cl) ∧ W.cell? ⟨b, 1, none⟩ = some (nilp) ∧ W.cell? ⟨b, 2, none⟩ = some (nilp) ∧ W.cell? ⟨b, 3, none⟩ = some (nilp) ∧ W.cell? ⟨b, 4, none⟩ = some (ptr vb) ∧ W.cell? ⟨b, 5, none⟩ = some (nilp) ∧ W.cell? ⟨b, 6, none⟩ = some (ptr sb) ∧ W.cell? ⟨vb, 0, none⟩ = some (ptr f) ∧ W.cell? ⟨f, 0, none⟩ = some (.float .f64 val) ∧ W.cell? ⟨sb, 0, none⟩ = some (.int .i64 s)) := fun W h =>
    have k := hbw1.trans (h.mono (by omega))
    ⟨(k.cell (p := ⟨b, 0, none⟩) hlt).trans (hcs 0), (k.cell (p := ⟨b, 1, none⟩) hlt).trans (hcs 1), (k.cell (p := ⟨b, 2, none⟩) hlt).trans (hcs 2), (k.cell (p := ⟨b, 3, none⟩) hlt).trans (hcs 3), (k.cell (p := ⟨b, 4, none⟩) hlt).trans (hcs 4), (k.cell (p := ⟨b, 5, none⟩) hlt).trans (hcs 5), (k.cell (p := ⟨b, 6, none⟩) hlt).trans (hcs 6), (k.cell (p := ⟨vb, 0, none⟩) hlv).trans hva.v0, (k.cell (p := ⟨f, 0, none⟩) hlf).trans hva.fv, (k.cell (p := ⟨sb, 0, none⟩) hsb).trans hsc⟩
  have HUp : Hid (∀ W, Below W1.heap.size W1 W → Below w.heap.size w W) := fun W h => hbw1.trans (h.mono (by omega))
  have hne : w.heap.size < W1.heap.size := by omega
  have HFar_b : Hid (∀ (W : World) (i j : Nat) (u : Value), (W.setCell ⟨W1.heap.size, i, none⟩ u).cell? ⟨b, j, none⟩ = W.cell? ⟨b, j, none⟩) := fun W i j u => World.cell?_setCell_far W _ _ u (by show W1.heap.size ≠ b; omega)
  have HFar_vb : Hid (∀ (W : World) (i j : Nat) (u : Value), (W.setCell ⟨W1.heap.size, i, none⟩ u).cell? ⟨vb, j, none⟩ = W.cell? ⟨vb, j, none⟩) := fun W i j u => World.cell?_setCell_far W _ _ u (by show W1.heap.size ≠ vb; omega)
  have HFar_f : Hid (∀ (W : World) (i j : Nat) (u : Value), (W.setCell ⟨W1.heap.size, i, none⟩ u).cell? ⟨f, j, none⟩ = W.cell? ⟨f, j, none⟩) := fun W i j u => World.cell?_setCell_far W _ _ u (by show W1.heap.size ≠ f; omega)
  have HFar_sb : Hid (∀ (W : World) (i j : Nat) (u : Value), (W.setCell ⟨W1.heap.size, i, none⟩ u).cell? ⟨sb, j, none⟩ = W.cell? ⟨sb, j, none⟩) := fun W i j u => World.cell?_setCell_far W _ _ u (by show W1.heap.size ≠ sb; omega)
  have HMk0 : Hid (Mk W1 (xcs (.slice none 0 0) 0 0 false 0 false 0) (W1.alloc (.cells (xcs (.slice none 0 0) 0 0 false 0 false 0) 75))) := ⟨Whole.made W1 _ _, (Below.refl _ _).alloc (Nat.le_refl _) _⟩
  have HOut : Hid (∀ W Wf, Mk W1 (xcs (.slice a1 F.length c1) 3 val false 0 true s) W → Whole Wf w.heap.size 75 (xcs (.slice a1 F.length c1) 3 val false 0 true s) → W.grownBy Wf (some w.heap.size) → Wf.heap.size = W.heap.size → MetOut F 3 val none (some s) w (.returned (.agg (xcs (.slice a1 F.length c1) 3 val false 0 true s))) Wf) := fun W Wf hM hW hg hs => by
    have hz := hM.b.size
    refine ⟨a1, c1, rfl, ?_, (HUp.out _ hM.b).grown hg (by omega) (fun j hj => by injection hj with hj; omega)⟩
    have h0 : (W1.ownsRow A.heap.size 102 2 (.slice a1 F.length c1) F.length (F.flatMap pc)) := ho
    have h2 : W.ownsRow A.heap.size 102 2 (.slice a1 F.length c1) F.length (F.flatMap pc) := own_below h0 hM.b
    refine own_base (h2.kept hg ?_) (by omega)
    cases hv : (Value.slice a1 F.length c1).ownBlock with
    | none => exact Or.inl rfl
    | some g => exact Or.inr (by have := (h2.lt g hv).1; intro e; injection e with e; omega)
  clear ho hb1 hbw1 hwR hR hqb hcs hva hm k0 CP hsz1 hA s1 hdt  hsc
  rename_i K1 hK1 K2 hK2
  dsimp only
  refine hK2 _ _ ?_
  refine wpList_plain rfl fun K3 hK3 => ?_
  go_simp
  refine hK3 _ _ ?_
  refine wpList_plain rfl fun K4 hK4 => ?_
  go_simp
  refine hK4 _ _ ?_
  refine Big.wpList_store_whole rfl _ _ _ rfl W1.heap.size 75 _ (xcs (.slice a1 F.length c1) 0 0 false 0 false 0) rfl rfl HMk0.out.x rfl hsz27 (xcs_ones _ _ _ _ _ _ _ _ _) ?_
  intro W2 hx2 hg2 hs2
  simp only [Act.put]
  have HMk : Hid (Mk W1 (xcs (.slice a1 F.length c1) 0 0 false 0 false 0) W2) := ⟨hx2, HMk0.out.b.grown hg2 (by simp) (fun j hj => by injection hj with hj; omega)⟩
  have z2 := HC.out W2 HMk.out.b
  clear hx2 hg2 hs2 HMk0 hK2 K2 hK3 K3 hK4 K4
  go_upto_block 0 with fail
  go_cut [5] (fun s wx => Hid (Mk W1 (xcs (.slice a1 F.length c1) 3 val false 0 false 0) wx))
  case first => as_aux_lemma =>
    have x1 : W2.cell? ⟨W1.heap.size, 1, none⟩ = some (.int .i64 0) := HMk.out.x.cell 1
    have x2 : W2.cell? ⟨W1.heap.size, 2, none⟩ = some (.float .f64 0) := HMk.out.x.cell 2
    have f1 := HMk.out.x.free 1
    have f2 := HMk.out.x.free 2
    go_wp2_with fail
    have HS : Hid (∀ W, Below W1.heap.size W1 W → W.cell? ⟨b, 4, none⟩ = some (ptr vb) ∧ W.cell? ⟨vb, 0, none⟩ = some (ptr f) ∧ W.cell? ⟨f, 0, none⟩ = some (.float .f64 val)) := fun W h => by
      obtain ⟨y0, y1, y2, y3, y4, y5, y6, y7, y8, y9⟩ := HC.out W h
      exact ⟨y4, y7, y8⟩
    clear z2
    go_region_held3 (fun W => W.cell? ⟨b, 4, none⟩ = some (ptr vb) ∧ W.cell? ⟨vb, 0, none⟩ = some (ptr f) ∧ W.cell? ⟨f, 0, none⟩ = some (.float .f64 val)) (first | (with_reducible exact HS.out _ HMk.out.drew.b) | (with_reducible exact HS.out _ (HMk.out.put _ _).drew.b) | (with_reducible exact HS.out _ ((HMk.out.put _ _).put _ _).drew.b)) (fail)
    go_wp2_with fail
    go_meet
    exact ((HMk.out.put 1 (.int .i64 3)).put 2 (.float .f64 val)).drew
  case rest => as_aux_lemma =>
    obtain ⟨W5, rfl⟩ : ∃ W5, W5 = wc := ⟨_, rfl⟩
    have z5 := HC.out W5 hcut.out.b
    have x11 : W5.cell? ⟨W1.heap.size, 25, none⟩ = some (.bool false) := hcut.out.x.cell 25
    have x12 : W5.cell? ⟨W1.heap.size, 26, none⟩ = some (.int .i64 0) := hcut.out.x.cell 26
    have f11 := hcut.out.x.free 25
    have f12 := hcut.out.x.free 26
    go_wp2_with fail
    have HS : Hid (∀ W, Below W1.heap.size W1 W → W.cell? ⟨b, 6, none⟩ = some (ptr sb) ∧ W.cell? ⟨sb, 0, none⟩ = some (.int .i64 s)) := fun W h => by
      obtain ⟨y0, y1, y2, y3, y4, y5, y6, y7, y8, y9⟩ := HC.out W h
      exact ⟨y6, y9⟩
    clear z5
    go_region_held3 (fun W => W.cell? ⟨b, 6, none⟩ = some (ptr sb) ∧ W.cell? ⟨sb, 0, none⟩ = some (.int .i64 s)) (first | (with_reducible exact HS.out _ hcut.out.drew.b) | (with_reducible exact HS.out _ (hcut.out.put _ _).drew.b) | (with_reducible exact HS.out _ ((hcut.out.put _ _).put _ _).drew.b)) (fail)
    go_upto_region 23 with fail
    obtain ⟨W6, hW6⟩ : ∃ W6, W6 = ((W5.setCell ⟨W1.heap.size, 25, none⟩ (.bool true)).setCell ⟨W1.heap.size, 26, none⟩ (.int .i64 s)).drew := ⟨_, rfl⟩
    rw [← hW6]
    have HM6 : Hid (Mk W1 (xcs (.slice a1 F.length c1) 3 val false 0 true s) W6) := by rw [hW6]; exact ((hcut.out.put 25 (.bool true)).put 26 (.int .i64 s)).drew
    clear hW6
    go_step
    refine Big.wpList_load_whole rfl _ _ rfl W1.heap.size 75 (xcs (.slice a1 F.length c1) 3 val false 0 true s) rfl HM6.out.x _ Tryz.underlying75 rfl hsz27 ?_
    simp only [Act.put, List.setIfInBounds_toArray, List.set_cons_zero, List.set_cons_succ]
    refine Big.wpList_store_whole rfl _ _ _ rfl w.heap.size 75 _ (xcs (.slice a1 F.length c1) 3 val false 0 true s) rfl rfl (HR.out _ HM6.out.b) rfl hsz27 (xcs_ones _ _ _ _ _ _ _ _ _) ?_
    intro W7 hx7 hg7 hs7
    simp only [Act.put]
    have HF := Lib.hid (HOut.out _ _ HM6.out hx7 hg7 hs7)
    have HX7 := Lib.hid hx7
    clear hx7 hg7 hs7
    go_wp2_with fail
    exact bodyPost_ret (v := .agg (xcs (.slice a1 F.length c1) 3 val false 0 true s)) (res1 Tryz.results83 _ _ _ _ _ rfl (Big.loaded_whole 75 w.heap.size 75 (xcs (.slice a1 F.length c1) 3 val false 0 true s) HX7.out _ Tryz.underlying75 rfl hsz27)) rfl HF.out

end Go.Proofs.YtfcpapbokefdmaaGreatDoor.Mt
