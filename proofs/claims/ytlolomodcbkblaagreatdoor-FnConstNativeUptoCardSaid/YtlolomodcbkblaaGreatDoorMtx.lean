/- Metrics: metrics converted (laws.metricFrom), marks and histograms being zero. -/
import Derived.Test.YtlolomodcbkblaaGreatDoorMg13
import Derived.Test.YtlolomodcbkblaaGreatDoorMg7
import Derived.Test.YtlolomodcbkblaaGreatDoorMg14
import Derived.Deep.RegionHeld3
set_option linter.unusedVariables false
set_option linter.unusedSimpArgs false
namespace Go.Proofs.YtlolomodcbkblaaGreatDoor.Mt
open Go.RowKit Go.Maps Go.WideMaps Go.ChangeShapes Go.WideShapes Go.Deep Fp Obs _root_.Go.Proofs.YtlolomodcbkblaaGreatDoor.Nd

attribute [local go_sem] run_store_float
/-- the same, as an equation -/
theorem run_none (P : Program) (w : World) (a : Act) (o : Oper) (s x : Operand) (t : TypeId)
    (ho : o.op = .call { callee := .builtin .append, args := #[s, x], argTypes := #[t, t] }) (e : TypeId) (i : TypeInfo) (ht : P.underlying t = some (.slice e)) (hi : P.info? e = some i)
    (av : Option Addr) (n cv : Nat) (hn : n ≤ cv) (hs : a.eval s = .slice av n cv) (ax : Option Addr) (cx : Nat) (hx : a.eval x = .slice ax 0 cx) : (execOp a.eval o).run P w = .ok (.value (.slice av n cv)) w := by
  have hr : (Builtin.append_ #[t, t] o.type #[.slice av n cv, .slice ax 0 cx]).run P w = .ok (.slice av n cv) w := by
    refine run_append_nothing w t t o.type e i ht hi av n cv hn _ ⟨Or.inl ⟨e, ht⟩, fun w' => ?_, ?_, ?_, by simp, by simp⟩
    all_goals cases ax <;> simp [Builtin.lenOf, Builtin.firstCells, loadCells, loadCellsFrom]
  unfold execOp
  simp only [ho, resolve, invoke, builtin, Sem.run_bind, Sem.run_pure, Result.andThen_ok, List.map_toArray, List.map_cons, List.map_nil, hs, hx, hr]
section
variable {P : Program} {w : World}
/-- 'append' of nothing, inside a region that draws -/
theorem step_none {ops : Array Oper} {o : Oper} {a : Act} {K : Act → World → Prop} {Q : Exit → Act → World → Prop} {E : Prop} (hgd : o.guard = none) (s x : Operand) (t : TypeId)
    (ho : o.op = .call { callee := .builtin .append, args := #[s, x], argTypes := #[t, t] }) (e : TypeId) (i : TypeInfo) (ht : P.underlying t = some (.slice e)) (hi : P.info? e = some i)
    (av : Option Addr) (n cv : Nat) (hn : n ≤ cv) (hs : a.eval s = .slice av n cv) (ax : Option Addr) (cx : Nat) (hx : a.eval x = .slice ax 0 cx) (h : K (a.put o.dst (.slice av n cv)) w) :
    if Region.wanted o (yielded ops a.tmps) = true then Oper.wp P o a w K Q else E := by
  have hw : Region.wanted o (yielded ops a.tmps) = true := by simp [Region.wanted, hgd]
  rw [if_pos hw]
  have hr : (Builtin.append_ #[t, t] o.type #[.slice av n cv, .slice ax 0 cx]).run P w = .ok (.slice av n cv) w := by
    refine run_append_nothing w t t o.type e i ht hi av n cv hn _ ⟨Or.inl ⟨e, ht⟩, fun w' => ?_, ?_, ?_, by simp, by simp⟩
    all_goals cases ax <;> simp [Builtin.lenOf, Builtin.firstCells, loadCells, loadCellsFrom]
  unfold Oper.wp execOp
  simp only [ho, resolve, invoke, builtin, Sem.run_bind, Sem.run_pure, Result.andThen_ok, List.map_toArray, List.map_cons, List.map_nil, hs, hx, hr]
  exact h
end

set_option maxHeartbeats 4000000 in
set_option maxRecDepth 100000 in
theorem markFrom_zero (a : Option Addr) (c : Nat) (w : World) :
    Calls Tryz.prog 48 #[.agg #[.float .f64 0, .slice a 0 c, .int .i64 0]] w fun e w' => e = .returned (.agg #[.float .f64 0, .slice none 0 0, .int .i64 0]) ∧ Below w.heap.size w w' := by
  go_enter Tryz.func48, Tryz.ntmps48
  go_wp2_with fail
  go_region_held3 (fun W => W.cell? ⟨w.heap.size, 0, none⟩ = some (.float .f64 0) ∧ W.cell? ⟨w.heap.size, 1, none⟩ = some (.slice a 0 c) ∧ W.cell? ⟨w.heap.size, 2, none⟩ = some (.int .i64 0)) (go_keep)
    (first | (go_at_call 47; refine (pairsFrom_nil _ _ _).mono ?_; rintro e w' ⟨rfl, rfl⟩))
  go_wp2_with fail
  exact bodyPost_ret (v := .agg #[.float .f64 0, .slice none 0 0, .int .i64 0]) (by simp [results, Tryz.results48, go_sem]) rfl ⟨rfl, bdr (((Below.refl _ _).alloc (Nat.le_refl _) _).alloc (by simp) _) 1⟩

theorem infoI64 : (Tryz.prog.info? 2).map (fun i => (i.zero, i.size, i.bytes)) = some (some (.int .i64 0), 1, 8) := by kernel_rfl
def HistOut (w : World) (e : Ending) (w' : World) : Prop := ∃ d1 d1c u1 u1c, e = .returned (.agg #[.int .u64 0, .float .f64 0, .slice none 0 0, .int .i64 0, .bool false, .int .i32 0, .float .f64 0, .int .u64 0, .slice none 0 0, .slice none 0 0, .slice d1 0 d1c, .slice u1 0 u1c, .slice none 0 0]) ∧ Below w.heap.size w w'
theorem res1 {fn : Func} {p : Tmp} {ty : TypeId} (h : fn.results = #[.cell p ty]) (tmps : Array Value) (P : Program) (w : World) (a : Addr) (v : Value) (hp : tmps.getD p undef = .pointer (some a)) (hl : (loadVar ty a).run P w = .ok v w) :
    (results fn tmps).run P w = .ok v w := by
  have hp' : tmps[p]?.getD undef = .pointer (some a) := by simpa using hp
  simp only [results, h]
  simp [Sem.run_bind, Result.andThen, hp', asAddr, hl]
set_option maxHeartbeats 8000000 in
set_option maxRecDepth 100000 in
theorem histFrom_zero (w : World) : Calls Tryz.prog 49 #[.agg #[.int .u64 0, .float .f64 0, .slice none 0 0, .int .i64 0, .bool false, .int .i32 0, .float .f64 0, .int .u64 0, .slice none 0 0, .slice none 0 0, .slice none 0 0, .slice none 0 0, .slice none 0 0]] w (HistOut w) := by
  obtain ⟨i0, hi, hz0, hz1, hz2⟩ := info_parts infoI64
  obtain ⟨A, hA⟩ : ∃ A, A = (w.alloc (.cells #[.int .u64 0, .float .f64 0, .slice none 0 0, .int .i64 0, .bool false, .int .i32 0, .float .f64 0, .int .u64 0, .slice none 0 0, .slice none 0 0, .slice none 0 0, .slice none 0 0, .slice none 0 0] 37)).alloc (.cells #[.int .u64 0, .float .f64 0, .slice none 0 0, .int .i64 0, .bool false, .int .i32 0, .float .f64 0, .int .u64 0, .slice none 0 0, .slice none 0 0, .slice none 0 0, .slice none 0 0, .slice none 0 0] 52) := ⟨_, rfl⟩
  have s1 : (w.alloc (.cells #[.int .u64 0, .float .f64 0, .slice none 0 0, .int .i64 0, .bool false, .int .i32 0, .float .f64 0, .int .u64 0, .slice none 0 0, .slice none 0 0, .slice none 0 0, .slice none 0 0, .slice none 0 0] 37)).heap.size = w.heap.size + 1 := by simp
  have s2 : A.heap.size = w.heap.size + 1 + 1 := by rw [hA]; simp
  have HC : Hid (∀ W : World, Below (w.heap.size + 1 + 1) A W → W.cell? ⟨w.heap.size, 0, none⟩ = some (.int .u64 0) ∧ W.cell? ⟨w.heap.size, 1, none⟩ = some (.float .f64 0) ∧ W.cell? ⟨w.heap.size, 2, none⟩ = some (.slice none 0 0) ∧ W.cell? ⟨w.heap.size, 3, none⟩ = some (.int .i64 0) ∧ W.cell? ⟨w.heap.size, 4, none⟩ = some (.bool false) ∧ W.cell? ⟨w.heap.size, 5, none⟩ = some (.int .i32 0) ∧ W.cell? ⟨w.heap.size, 6, none⟩ = some (.float .f64 0) ∧ W.cell? ⟨w.heap.size, 7, none⟩ = some (.int .u64 0) ∧ W.cell? ⟨w.heap.size, 8, none⟩ = some (.slice none 0 0) ∧ W.cell? ⟨w.heap.size, 9, none⟩ = some (.slice none 0 0) ∧ W.cell? ⟨w.heap.size, 10, none⟩ = some (.slice none 0 0) ∧ W.cell? ⟨w.heap.size, 11, none⟩ = some (.slice none 0 0) ∧ W.cell? ⟨w.heap.size, 12, none⟩ = some (.slice none 0 0)) := fun W h => by
    rw [hA] at h
    have e : ∀ j, W.cell? ⟨w.heap.size, j, none⟩ = (#[.int .u64 0, .float .f64 0, .slice none 0 0, .int .i64 0, .bool false, .int .i32 0, .float .f64 0, .int .u64 0, .slice none 0 0, .slice none 0 0, .slice none 0 0, .slice none 0 0, .slice none 0 0] : Array Value)[j]? := fun j => ((h.cell (p := ⟨w.heap.size, j, none⟩) (by show w.heap.size < w.heap.size + 1 + 1; omega)).trans (Sl.cell_old _ _ _ _ (by rw [s1]; omega))).trans (Sl.cell_new w _ _ j)
    exact ⟨e 0, e 1, e 2, e 3, e 4, e 5, e 6, e 7, e 8, e 9, e 10, e 11, e 12⟩
  have hqb : Below w.heap.size w A := by rw [hA]; exact ((Below.refl _ _).alloc (Nat.le_refl _) _).alloc (by simp) _
  have HUp : Hid (∀ W : World, Below (w.heap.size + 1 + 1) A W → Below w.heap.size w W) := fun W h => hqb.trans (h.mono (by omega))
  have HD : Hid (∀ W : World, Below (w.heap.size + 1 + 1) A W → Whole W (w.heap.size + 1) 52 #[.int .u64 0, .float .f64 0, .slice none 0 0, .int .i64 0, .bool false, .int .i32 0, .float .f64 0, .int .u64 0, .slice none 0 0, .slice none 0 0, .slice none 0 0, .slice none 0 0, .slice none 0 0]) := fun W h => by
    rw [hA] at h
    have h1 := heap_alloc_new (w.alloc (.cells #[.int .u64 0, .float .f64 0, .slice none 0 0, .int .i64 0, .bool false, .int .i32 0, .float .f64 0, .int .u64 0, .slice none 0 0, .slice none 0 0, .slice none 0 0, .slice none 0 0, .slice none 0 0] 37)) (.cells #[.int .u64 0, .float .f64 0, .slice none 0 0, .int .i64 0, .bool false, .int .i32 0, .float .f64 0, .int .u64 0, .slice none 0 0, .slice none 0 0, .slice none 0 0, .slice none 0 0, .slice none 0 0] 52)
    rw [s1] at h1
    exact (h.block (w.heap.size + 1) (by omega)).trans h1
  have HFar : Hid (∀ (W : World) (us : List Value) (j : Nat), (W.setCells (w.heap.size + 1) 0 us).cell? ⟨w.heap.size, j, none⟩ = W.cell? ⟨w.heap.size, j, none⟩) := fun W us j => far_sets (by omega) us 0 W
  have hsz13 : (Tryz.prog.info? 52).map (·.size) = some 13 := by kernel_rfl
  have HTh : Hid (∀ W, Below (w.heap.size + 1 + 1) A W → W.there (w.heap.size + 1) 0 13) := fun W h => there_whole (HD.out W h)
  have HSto : Hid (∀ (d1 u1 : Option Addr) W, Below (w.heap.size + 1 + 1) A W → ∃ Wf, W.setCells (w.heap.size + 1) 0 [.int .u64 0, .float .f64 0, .slice none 0 0, .int .i64 0, .bool false, .int .i32 0, .float .f64 0, .int .u64 0, .slice none 0 0, .slice none 0 0, .slice d1 0 0, .slice u1 0 0, .slice none 0 0] = Wf ∧ (Wf.cell? ⟨w.heap.size, 0, none⟩ = some (.int .u64 0) ∧ Wf.cell? ⟨w.heap.size, 1, none⟩ = some (.float .f64 0) ∧ Wf.cell? ⟨w.heap.size, 2, none⟩ = some (.slice none 0 0) ∧ Wf.cell? ⟨w.heap.size, 3, none⟩ = some (.int .i64 0) ∧ Wf.cell? ⟨w.heap.size, 4, none⟩ = some (.bool false) ∧ Wf.cell? ⟨w.heap.size, 5, none⟩ = some (.int .i32 0) ∧ Wf.cell? ⟨w.heap.size, 6, none⟩ = some (.float .f64 0) ∧ Wf.cell? ⟨w.heap.size, 7, none⟩ = some (.int .u64 0) ∧ Wf.cell? ⟨w.heap.size, 8, none⟩ = some (.slice none 0 0) ∧ Wf.cell? ⟨w.heap.size, 9, none⟩ = some (.slice none 0 0) ∧ Wf.cell? ⟨w.heap.size, 10, none⟩ = some (.slice none 0 0) ∧ Wf.cell? ⟨w.heap.size, 11, none⟩ = some (.slice none 0 0) ∧ Wf.cell? ⟨w.heap.size, 12, none⟩ = some (.slice none 0 0)) ∧ (loadVar 52 ⟨w.heap.size + 1, 0, none⟩).run Tryz.prog Wf = .ok (.agg #[.int .u64 0, .float .f64 0, .slice none 0 0, .int .i64 0, .bool false, .int .i32 0, .float .f64 0, .int .u64 0, .slice none 0 0, .slice none 0 0, .slice d1 0 0, .slice u1 0 0, .slice none 0 0]) Wf ∧ HistOut w (.returned (.agg #[.int .u64 0, .float .f64 0, .slice none 0 0, .int .i64 0, .bool false, .int .i32 0, .float .f64 0, .int .u64 0, .slice none 0 0, .slice none 0 0, .slice d1 0 0, .slice u1 0 0, .slice none 0 0])) Wf) := fun d1 u1 W hb => by
    have hR := World.rangeAt_setCells_same W (w.heap.size + 1) 0 [.int .u64 0, .float .f64 0, .slice none 0 0, .int .i64 0, .bool false, .int .i32 0, .float .f64 0, .int .u64 0, .slice none 0 0, .slice none 0 0, .slice d1 0 0, .slice u1 0 0, .slice none 0 0] (HTh.out W hb)
    refine ⟨_, rfl, ?_, run_loadVar_mid _ _ _ _ [.int .u64 0, .float .f64 0, .slice none 0 0, .int .i64 0, .bool false, .int .i32 0, .float .f64 0, .int .u64 0, .slice none 0 0, .slice none 0 0, .slice d1 0 0, .slice u1 0 0, .slice none 0 0] _ hR Tryz.underlying52 rfl hsz13, _, _, _, _, rfl, below_sets (by omega) _ 0 W (HUp.out W hb)⟩
    have h := HC.out W hb
    simp only [HFar.out]
    exact h
  have k1 := HC.out A.drew (bdr (Below.refl _ _) 1)
  go_enter Tryz.func49, Tryz.ntmps49
  go_wp2_with fail
  rw [← hA]
  clear hA
  refine wp_region_noPanic ?_
  refine wp_region_held_drew (S := fun W => W.cell? ⟨w.heap.size, 0, none⟩ = some (.int .u64 0) ∧ W.cell? ⟨w.heap.size, 1, none⟩ = some (.float .f64 0) ∧ W.cell? ⟨w.heap.size, 2, none⟩ = some (.slice none 0 0) ∧ W.cell? ⟨w.heap.size, 3, none⟩ = some (.int .i64 0) ∧ W.cell? ⟨w.heap.size, 4, none⟩ = some (.bool false) ∧ W.cell? ⟨w.heap.size, 5, none⟩ = some (.int .i32 0) ∧ W.cell? ⟨w.heap.size, 6, none⟩ = some (.float .f64 0) ∧ W.cell? ⟨w.heap.size, 7, none⟩ = some (.int .u64 0) ∧ W.cell? ⟨w.heap.size, 8, none⟩ = some (.slice none 0 0) ∧ W.cell? ⟨w.heap.size, 9, none⟩ = some (.slice none 0 0) ∧ W.cell? ⟨w.heap.size, 10, none⟩ = some (.slice none 0 0) ∧ W.cell? ⟨w.heap.size, 11, none⟩ = some (.slice none 0 0) ∧ W.cell? ⟨w.heap.size, 12, none⟩ = some (.slice none 0 0)) (by kernel_rfl) (by (with_reducible exact k1)) (fun hHeld => ?_)
  refine wpAnyH_take (i := 0) (v := ?_) rfl (by kernel_rfl) (by kernel_rfl) (by kernel_rfl) (fun _ _ _ h => h) (Or.inl ⟨by rfl, ?_⟩) hHeld ?_
  rotate_left
  · intro w hSw; (try dsimp only at hSw); go_simp; (try with_reducible rfl)
  try simp only [Act.put, List.setIfInBounds_toArray, List.set_cons_zero, List.set_cons_succ, List.getElem_toArray, List.getElem_cons_zero, List.getElem_cons_succ]
  refine wpAnyH_take (i := 1) (v := ?_) rfl (by kernel_rfl) (by kernel_rfl) (by kernel_rfl) (fun _ _ _ h => h) (Or.inl ⟨by rfl, ?_⟩) hHeld ?_
  rotate_left
  · intro w hSw; (try dsimp only at hSw); go_simp; (try with_reducible rfl)
  try simp only [Act.put, List.setIfInBounds_toArray, List.set_cons_zero, List.set_cons_succ, List.getElem_toArray, List.getElem_cons_zero, List.getElem_cons_succ]
  refine wpAnyH_take (i := 2) (v := ?_) rfl (by kernel_rfl) (by kernel_rfl) (by kernel_rfl) (fun _ _ _ h => h) (Or.inl ⟨by rfl, ?_⟩) hHeld ?_
  rotate_left
  · intro w hSw; (try dsimp only at hSw); go_simp; (try with_reducible rfl)
  try simp only [Act.put, List.setIfInBounds_toArray, List.set_cons_zero, List.set_cons_succ, List.getElem_toArray, List.getElem_cons_zero, List.getElem_cons_succ]
  refine wpAnyH_take (i := 3) (v := ?_) rfl (by kernel_rfl) (by kernel_rfl) (by kernel_rfl) (fun _ _ _ h => h) (Or.inl ⟨by rfl, ?_⟩) hHeld ?_
  rotate_left
  · intro w hSw; (try dsimp only at hSw); go_simp; (try with_reducible rfl)
  try simp only [Act.put, List.setIfInBounds_toArray, List.set_cons_zero, List.set_cons_succ, List.getElem_toArray, List.getElem_cons_zero, List.getElem_cons_succ]
  refine wpAnyH_take (i := 4) (v := ?_) rfl (by kernel_rfl) (by kernel_rfl) (by kernel_rfl) (fun _ _ _ h => h) (Or.inl ⟨by rfl, ?_⟩) hHeld ?_
  rotate_left
  · intro w hSw; (try dsimp only at hSw); go_simp; (try with_reducible rfl)
  try simp only [Act.put, List.setIfInBounds_toArray, List.set_cons_zero, List.set_cons_succ, List.getElem_toArray, List.getElem_cons_zero, List.getElem_cons_succ]
  refine wpAnyH_take (i := 5) (v := ?_) rfl (by kernel_rfl) (by kernel_rfl) (by kernel_rfl) (fun _ _ _ h => h) (Or.inl ⟨by rfl, ?_⟩) hHeld ?_
  rotate_left
  · intro w hSw; (try dsimp only at hSw); go_simp; (try with_reducible rfl)
  try simp only [Act.put, List.setIfInBounds_toArray, List.set_cons_zero, List.set_cons_succ, List.getElem_toArray, List.getElem_cons_zero, List.getElem_cons_succ]
  refine Calm.take (i := 6) (v := .slice none 0 0) rfl (by kernel_rfl) (by kernel_rfl) (by kernel_rfl) (fun _ _ _ h => h) ⟨by rfl, fun W hSw => ⟨92, #[.slice none 0 0], ?_, bucketsFrom_nil _ _ W⟩⟩ hHeld ?_
  · go_simp; (try with_reducible rfl)
  try simp only [Act.put, List.setIfInBounds_toArray, List.set_cons_zero, List.set_cons_succ, List.getElem_toArray, List.getElem_cons_zero, List.getElem_cons_succ]
  refine wpAnyH_take (i := 7) (v := ?_) rfl (by kernel_rfl) (by kernel_rfl) (by kernel_rfl) (fun _ _ _ h => h) (Or.inl ⟨by rfl, ?_⟩) hHeld ?_
  rotate_left
  · intro w hSw; (try dsimp only at hSw); go_simp; (try with_reducible rfl)
  try simp only [Act.put, List.setIfInBounds_toArray, List.set_cons_zero, List.set_cons_succ, List.getElem_toArray, List.getElem_cons_zero, List.getElem_cons_succ]
  refine wpAnyH_take (i := 8) (v := ?_) rfl (by kernel_rfl) (by kernel_rfl) (by kernel_rfl) (fun _ _ _ h => h) (Or.inl ⟨by rfl, ?_⟩) hHeld ?_
  rotate_left
  · intro w hSw; (try dsimp only at hSw); go_simp; (try with_reducible rfl)
  try simp only [Act.put, List.setIfInBounds_toArray, List.set_cons_zero, List.set_cons_succ, List.getElem_toArray, List.getElem_cons_zero, List.getElem_cons_succ]
  refine wpAnyH_take (i := 9) (v := ?_) rfl (by kernel_rfl) (by kernel_rfl) (by kernel_rfl) (fun _ _ _ h => h) (Or.inl ⟨by rfl, ?_⟩) hHeld ?_
  rotate_left
  · intro w hSw; (try dsimp only at hSw); go_simp; (try with_reducible rfl)
  try simp only [Act.put, List.setIfInBounds_toArray, List.set_cons_zero, List.set_cons_succ, List.getElem_toArray, List.getElem_cons_zero, List.getElem_cons_succ]
  refine wpAnyH_take (i := 10) (v := ?_) rfl (by kernel_rfl) (by kernel_rfl) (by kernel_rfl) (fun _ _ _ h => h) (Or.inl ⟨by rfl, ?_⟩) hHeld ?_
  rotate_left
  · intro w hSw; (try dsimp only at hSw); go_simp; (try with_reducible rfl)
  try simp only [Act.put, List.setIfInBounds_toArray, List.set_cons_zero, List.set_cons_succ, List.getElem_toArray, List.getElem_cons_zero, List.getElem_cons_succ]
  refine wpAnyH_take (i := 11) (v := ?_) rfl (by kernel_rfl) (by kernel_rfl) (by kernel_rfl) (fun _ _ _ h => h) (Or.inl ⟨by rfl, ?_⟩) hHeld ?_
  rotate_left
  · intro w hSw; (try dsimp only at hSw); go_simp; (try with_reducible rfl)
  try simp only [Act.put, List.setIfInBounds_toArray, List.set_cons_zero, List.set_cons_succ, List.getElem_toArray, List.getElem_cons_zero, List.getElem_cons_succ]
  refine wpAnyH_take (i := 12) (v := ?_) rfl (by kernel_rfl) (by kernel_rfl) (by kernel_rfl) (fun _ _ _ h => h) (Or.inl ⟨by rfl, ?_⟩) hHeld ?_
  rotate_left
  · intro w hSw; (try dsimp only at hSw); go_simp; (try with_reducible rfl)
  try simp only [Act.put, List.setIfInBounds_toArray, List.set_cons_zero, List.set_cons_succ, List.getElem_toArray, List.getElem_cons_zero, List.getElem_cons_succ]
  refine wpAnyH_take (i := 13) (v := ?_) rfl (by kernel_rfl) (by kernel_rfl) (by kernel_rfl) (fun _ _ _ h => h) (Or.inl ⟨by rfl, ?_⟩) hHeld ?_
  rotate_left
  · intro w hSw; (try dsimp only at hSw); go_simp; (try with_reducible rfl)
  try simp only [Act.put, List.setIfInBounds_toArray, List.set_cons_zero, List.set_cons_succ, List.getElem_toArray, List.getElem_cons_zero, List.getElem_cons_succ]
  refine wpAnyH_take (i := 14) (v := ?_) rfl (by kernel_rfl) (by kernel_rfl) (by kernel_rfl) (fun _ _ _ h => h) (Or.inl ⟨by rfl, ?_⟩) hHeld ?_
  rotate_left
  · intro w hSw; (try dsimp only at hSw); go_simp; (try with_reducible rfl)
  try simp only [Act.put, List.setIfInBounds_toArray, List.set_cons_zero, List.set_cons_succ, List.getElem_toArray, List.getElem_cons_zero, List.getElem_cons_succ]
  refine wpAnyH_take (i := 15) (v := ?_) rfl (by kernel_rfl) (by kernel_rfl) (by kernel_rfl) (fun _ _ _ h => h) (Or.inl ⟨by rfl, ?_⟩) hHeld ?_
  rotate_left
  · intro w hSw; (try dsimp only at hSw); go_simp; (try with_reducible rfl)
  try simp only [Act.put, List.setIfInBounds_toArray, List.set_cons_zero, List.set_cons_succ, List.getElem_toArray, List.getElem_cons_zero, List.getElem_cons_succ]
  refine wpAnyH_take (i := 16) (v := ?_) rfl (by kernel_rfl) (by kernel_rfl) (by kernel_rfl) (fun _ _ _ h => h) (Or.inl ⟨by rfl, ?_⟩) hHeld ?_
  rotate_left
  · intro w hSw; (try dsimp only at hSw); go_simp; (try with_reducible rfl)
  try simp only [Act.put, List.setIfInBounds_toArray, List.set_cons_zero, List.set_cons_succ, List.getElem_toArray, List.getElem_cons_zero, List.getElem_cons_succ]
  refine wpAnyH_take (i := 17) (v := ?_) rfl (by kernel_rfl) (by kernel_rfl) (by kernel_rfl) (fun _ _ _ h => h) (Or.inl ⟨by rfl, ?_⟩) hHeld ?_
  rotate_left
  · intro w hSw; (try dsimp only at hSw); go_simp; (try with_reducible rfl)
  try simp only [Act.put, List.setIfInBounds_toArray, List.set_cons_zero, List.set_cons_succ, List.getElem_toArray, List.getElem_cons_zero, List.getElem_cons_succ]
  refine wpAnyH_take (i := 18) (v := ?_) rfl (by kernel_rfl) (by kernel_rfl) (by kernel_rfl) (fun _ _ _ h => h) (Or.inl ⟨by rfl, ?_⟩) hHeld ?_
  rotate_left
  · intro w hSw; (try dsimp only at hSw); go_simp; (try with_reducible rfl)
  try simp only [Act.put, List.setIfInBounds_toArray, List.set_cons_zero, List.set_cons_succ, List.getElem_toArray, List.getElem_cons_zero, List.getElem_cons_succ]
  refine Calm.take (i := 19) (v := .slice none 0 0) rfl (by kernel_rfl) (by kernel_rfl) (by kernel_rfl) (fun _ _ _ h => h) ⟨by rfl, fun W hSw => ⟨93, #[.slice none 0 0], ?_, runsFrom_nil _ _ W⟩⟩ hHeld ?_
  · go_simp; (try with_reducible rfl)
  try simp only [Act.put, List.setIfInBounds_toArray, List.set_cons_zero, List.set_cons_succ, List.getElem_toArray, List.getElem_cons_zero, List.getElem_cons_succ]
  refine wpAnyH_take (i := 20) (v := ?_) rfl (by kernel_rfl) (by kernel_rfl) (by kernel_rfl) (fun _ _ _ h => h) (Or.inl ⟨by rfl, ?_⟩) hHeld ?_
  rotate_left
  · intro w hSw; (try dsimp only at hSw); go_simp; (try with_reducible rfl)
  try simp only [Act.put, List.setIfInBounds_toArray, List.set_cons_zero, List.set_cons_succ, List.getElem_toArray, List.getElem_cons_zero, List.getElem_cons_succ]
  refine wpAnyH_take (i := 21) (v := ?_) rfl (by kernel_rfl) (by kernel_rfl) (by kernel_rfl) (fun _ _ _ h => h) (Or.inl ⟨by rfl, ?_⟩) hHeld ?_
  rotate_left
  · intro w hSw; (try dsimp only at hSw); go_simp; (try with_reducible rfl)
  try simp only [Act.put, List.setIfInBounds_toArray, List.set_cons_zero, List.set_cons_succ, List.getElem_toArray, List.getElem_cons_zero, List.getElem_cons_succ]
  refine Calm.take (i := 22) (v := .slice none 0 0) rfl (by kernel_rfl) (by kernel_rfl) (by kernel_rfl) (fun _ _ _ h => h) ⟨by rfl, fun W hSw => ⟨93, #[.slice none 0 0], ?_, runsFrom_nil _ _ W⟩⟩ hHeld ?_
  · go_simp; (try with_reducible rfl)
  try simp only [Act.put, List.setIfInBounds_toArray, List.set_cons_zero, List.set_cons_succ, List.getElem_toArray, List.getElem_cons_zero, List.getElem_cons_succ]
  refine wpAnyH_take (i := 24) (v := ?_) rfl (by kernel_rfl) (by kernel_rfl) (by kernel_rfl) (fun _ _ _ h => h) (Or.inl ⟨by rfl, ?_⟩) hHeld ?_
  rotate_left
  · intro w hSw; (try dsimp only at hSw); go_simp; (try with_reducible rfl)
  try simp only [Act.put, List.setIfInBounds_toArray, List.set_cons_zero, List.set_cons_succ, List.getElem_toArray, List.getElem_cons_zero, List.getElem_cons_succ]
  refine wpAnyH_take (i := 25) (v := ?_) rfl (by kernel_rfl) (by kernel_rfl) (by kernel_rfl) (fun _ _ _ h => h) (Or.inl ⟨by rfl, ?_⟩) hHeld ?_
  rotate_left
  · intro w hSw; (try dsimp only at hSw); go_simp; (try with_reducible rfl)
  try simp only [Act.put, List.setIfInBounds_toArray, List.set_cons_zero, List.set_cons_succ, List.getElem_toArray, List.getElem_cons_zero, List.getElem_cons_succ]
  refine wpAnyH_take (i := 28) (v := ?_) rfl (by kernel_rfl) (by kernel_rfl) (by kernel_rfl) (fun _ _ _ h => h) (Or.inl ⟨by rfl, ?_⟩) hHeld ?_
  rotate_left
  · intro w hSw; (try dsimp only at hSw); go_simp; (try with_reducible rfl)
  try simp only [Act.put, List.setIfInBounds_toArray, List.set_cons_zero, List.set_cons_succ, List.getElem_toArray, List.getElem_cons_zero, List.getElem_cons_succ]
  refine wpAnyH_take (i := 29) (v := ?_) rfl (by kernel_rfl) (by kernel_rfl) (by kernel_rfl) (fun _ _ _ h => h) (Or.inl ⟨by rfl, ?_⟩) hHeld ?_
  rotate_left
  · intro w hSw; (try dsimp only at hSw); go_simp; (try with_reducible rfl)
  try simp only [Act.put, List.setIfInBounds_toArray, List.set_cons_zero, List.set_cons_succ, List.getElem_toArray, List.getElem_cons_zero, List.getElem_cons_succ]
  refine wpAnyH_take (i := 31) (v := ?_) rfl (by kernel_rfl) (by kernel_rfl) (by kernel_rfl) (fun _ _ _ h => h) (Or.inl ⟨by rfl, ?_⟩) hHeld ?_
  rotate_left
  · intro w hSw; (try dsimp only at hSw); go_simp; (try with_reducible rfl)
  try simp only [Act.put, List.setIfInBounds_toArray, List.set_cons_zero, List.set_cons_succ, List.getElem_toArray, List.getElem_cons_zero, List.getElem_cons_succ]
  refine wpAnyH_take (i := 32) (v := ?_) rfl (by kernel_rfl) (by kernel_rfl) (by kernel_rfl) (fun _ _ _ h => h) (Or.inl ⟨by rfl, ?_⟩) hHeld ?_
  rotate_left
  · intro w hSw; (try dsimp only at hSw); go_simp; (try with_reducible rfl)
  try simp only [Act.put, List.setIfInBounds_toArray, List.set_cons_zero, List.set_cons_succ, List.getElem_toArray, List.getElem_cons_zero, List.getElem_cons_succ]

  clear k1
  refine wpAnyH_ready (rs := [23, 27]) (by kernel_rfl) (by simp) (AllReadyH.cons rfl (fun K hK => ?_) (AllReadyH.cons rfl (fun K hK => ?_) AllReadyH.nil))
  · go_simp
    refine hK.out _ _ ?_ (fun hHeld2 => ?_)
    · exact HC.out _ (bdr ((Below.refl _ _).alloc (Nat.le_of_eq s2.symm) _) 1)
    clear hK K hHeld
    have hHeld := hHeld2; clear hHeld2
    try simp only [Act.put, List.setIfInBounds_toArray, List.set_cons_zero, List.set_cons_succ, List.getElem_toArray, List.getElem_cons_zero, List.getElem_cons_succ]
    refine wpAnyH_take (i := 26) (v := .slice (some ⟨w.heap.size + 1 + 1, 0, none⟩) 0 0) rfl (by kernel_rfl) (by kernel_rfl) (by kernel_rfl) (fun _ _ _ h => h) (Or.inl ⟨by rfl, fun w2 hSw => run_none _ w2 _ _ (.tmp 26) (.tmp 28) 34 rfl 2 i0 Tryz.underlying34 hi _ 0 _ (Nat.le_refl _) rfl _ _ rfl⟩) hHeld ?_
    try simp only [Act.put, List.setIfInBounds_toArray, List.set_cons_zero, List.set_cons_succ, List.getElem_toArray, List.getElem_cons_zero, List.getElem_cons_succ]
    refine wpAnyH_ready (rs := [27]) (by kernel_rfl) (by simp) (AllReadyH.cons rfl (fun K hK => ?_) AllReadyH.nil)
    go_simp
    refine hK.out _ _ ?_ (fun hHeld2 => ?_)
    · exact HC.out _ (bdr (((Below.refl _ _).alloc (Nat.le_of_eq s2.symm) _).alloc (by simp [s2]) _) 1)
    clear hK K hHeld
    have hHeld := hHeld2; clear hHeld2
    try simp only [Act.put, List.setIfInBounds_toArray, List.set_cons_zero, List.set_cons_succ, List.getElem_toArray, List.getElem_cons_zero, List.getElem_cons_succ]
    refine wpAnyH_take (i := 30) (v := .slice (some ⟨w.heap.size + 1 + 1 + 1, 0, none⟩) 0 0) rfl (by kernel_rfl) (by kernel_rfl) (by kernel_rfl) (fun _ _ _ h => h) (Or.inl ⟨by rfl, fun w2 hSw => run_none _ w2 _ _ (.tmp 30) (.tmp 32) 34 rfl 2 i0 Tryz.underlying34 hi _ 0 _ (Nat.le_refl _) rfl _ _ rfl⟩) hHeld ?_
    try simp only [Act.put, List.setIfInBounds_toArray, List.set_cons_zero, List.set_cons_succ, List.getElem_toArray, List.getElem_cons_zero, List.getElem_cons_succ]
    refine Calm.take (i := 33) (v := .slice none 0 0) rfl (by kernel_rfl) (by kernel_rfl) (by kernel_rfl) (fun _ _ _ h => h) ⟨by rfl, fun W hSw => ⟨94, #[.slice none 0 0], ?_, marksFrom_nil _ _ W⟩⟩ hHeld ?_
    · go_simp; (try with_reducible rfl)
    try simp only [Act.put, List.setIfInBounds_toArray, List.set_cons_zero, List.set_cons_succ, List.getElem_toArray, List.getElem_cons_zero, List.getElem_cons_succ]
    refine wpAnyH_take (i := 34) (v := ?_) rfl (by kernel_rfl) (by kernel_rfl) (by kernel_rfl) (fun _ _ _ h => h) (Or.inl ⟨by rfl, ?_⟩) hHeld ?_
    rotate_left
    · intro w hSw; (try dsimp only at hSw); go_simp; (try with_reducible rfl)
    try simp only [Act.put, List.setIfInBounds_toArray, List.set_cons_zero, List.set_cons_succ, List.getElem_toArray, List.getElem_cons_zero, List.getElem_cons_succ]
    refine wpAnyH_ready (rs := [35]) (by kernel_rfl) (by simp) (AllReadyH.cons rfl (fun K hK => ?_) AllReadyH.nil)
    rw [if_pos (by rfl)]
    have HB : Hid (Below (w.heap.size + 1 + 1) A ((A.alloc (.cells #[] 2)).alloc (.cells #[] 2)).drew) := (bdr (((Below.refl _ _).alloc (Nat.le_of_eq s2.symm) _).alloc (by simp [s2]) _) 1)
    obtain ⟨Wf, hWf, q9, hcs, hfo⟩ := HSto.out (some ⟨w.heap.size + 1 + 1, 0, none⟩) (some ⟨w.heap.size + 1 + 1 + 1, 0, none⟩) _ HB.out; have HCS := Lib.hid hcs; have HFO := Lib.hid hfo; clear hcs hfo; refine wp_store_named _ _ _ rfl _ _ (List.toArray _) rfl rfl (HTh.out _ HB.out) hsz13 (by simp [Value.oneCell']) Wf hWf ?_; clear hWf
    refine hK.out _ _ ?_ (fun hHeld2 => ?_)
    · with_reducible exact q9
    clear hK K hHeld
    have hHeld := hHeld2; clear hHeld2
    try simp only [Act.put, List.setIfInBounds_toArray, List.set_cons_zero, List.set_cons_succ, List.getElem_toArray, List.getElem_cons_zero, List.getElem_cons_succ]
    refine wpAnyH_done (by kernel_rfl) ?_ _
    refine NoPanic.normal ?_
    clear q9
    go_wp2_with fail
    exact bodyPost_ret (v := .agg #[.int .u64 0, .float .f64 0, .slice none 0 0, .int .i64 0, .bool false, .int .i32 0, .float .f64 0, .int .u64 0, .slice none 0 0, .slice none 0 0, .slice (some ⟨w.heap.size + 1 + 1, 0, none⟩) 0 0, .slice (some ⟨w.heap.size + 1 + 1 + 1, 0, none⟩) 0 0, .slice none 0 0]) (res1 Tryz.results49 _ _ _ _ _ rfl HCS.out) rfl HFO.out
  · go_simp
    refine hK.out _ _ ?_ (fun hHeld2 => ?_)
    · exact HC.out _ (bdr ((Below.refl _ _).alloc (Nat.le_of_eq s2.symm) _) 1)
    clear hK K hHeld
    have hHeld := hHeld2; clear hHeld2
    try simp only [Act.put, List.setIfInBounds_toArray, List.set_cons_zero, List.set_cons_succ, List.getElem_toArray, List.getElem_cons_zero, List.getElem_cons_succ]
    refine wpAnyH_ready (rs := [23]) (by kernel_rfl) (by simp) (AllReadyH.cons rfl (fun K hK => ?_) AllReadyH.nil)
    go_simp
    refine hK.out _ _ ?_ (fun hHeld2 => ?_)
    · exact HC.out _ (bdr (((Below.refl _ _).alloc (Nat.le_of_eq s2.symm) _).alloc (by simp [s2]) _) 1)
    clear hK K hHeld
    have hHeld := hHeld2; clear hHeld2
    try simp only [Act.put, List.setIfInBounds_toArray, List.set_cons_zero, List.set_cons_succ, List.getElem_toArray, List.getElem_cons_zero, List.getElem_cons_succ]
    refine wpAnyH_take (i := 26) (v := .slice (some ⟨w.heap.size + 1 + 1 + 1, 0, none⟩) 0 0) rfl (by kernel_rfl) (by kernel_rfl) (by kernel_rfl) (fun _ _ _ h => h) (Or.inl ⟨by rfl, fun w2 hSw => run_none _ w2 _ _ (.tmp 26) (.tmp 28) 34 rfl 2 i0 Tryz.underlying34 hi _ 0 _ (Nat.le_refl _) rfl _ _ rfl⟩) hHeld ?_
    try simp only [Act.put, List.setIfInBounds_toArray, List.set_cons_zero, List.set_cons_succ, List.getElem_toArray, List.getElem_cons_zero, List.getElem_cons_succ]
    refine wpAnyH_take (i := 30) (v := .slice (some ⟨w.heap.size + 1 + 1, 0, none⟩) 0 0) rfl (by kernel_rfl) (by kernel_rfl) (by kernel_rfl) (fun _ _ _ h => h) (Or.inl ⟨by rfl, fun w2 hSw => run_none _ w2 _ _ (.tmp 30) (.tmp 32) 34 rfl 2 i0 Tryz.underlying34 hi _ 0 _ (Nat.le_refl _) rfl _ _ rfl⟩) hHeld ?_
    try simp only [Act.put, List.setIfInBounds_toArray, List.set_cons_zero, List.set_cons_succ, List.getElem_toArray, List.getElem_cons_zero, List.getElem_cons_succ]
    refine Calm.take (i := 33) (v := .slice none 0 0) rfl (by kernel_rfl) (by kernel_rfl) (by kernel_rfl) (fun _ _ _ h => h) ⟨by rfl, fun W hSw => ⟨94, #[.slice none 0 0], ?_, marksFrom_nil _ _ W⟩⟩ hHeld ?_
    · go_simp; (try with_reducible rfl)
    try simp only [Act.put, List.setIfInBounds_toArray, List.set_cons_zero, List.set_cons_succ, List.getElem_toArray, List.getElem_cons_zero, List.getElem_cons_succ]
    refine wpAnyH_take (i := 34) (v := ?_) rfl (by kernel_rfl) (by kernel_rfl) (by kernel_rfl) (fun _ _ _ h => h) (Or.inl ⟨by rfl, ?_⟩) hHeld ?_
    rotate_left
    · intro w hSw; (try dsimp only at hSw); go_simp; (try with_reducible rfl)
    try simp only [Act.put, List.setIfInBounds_toArray, List.set_cons_zero, List.set_cons_succ, List.getElem_toArray, List.getElem_cons_zero, List.getElem_cons_succ]
    refine wpAnyH_ready (rs := [35]) (by kernel_rfl) (by simp) (AllReadyH.cons rfl (fun K hK => ?_) AllReadyH.nil)
    rw [if_pos (by rfl)]
    have HB : Hid (Below (w.heap.size + 1 + 1) A ((A.alloc (.cells #[] 2)).alloc (.cells #[] 2)).drew) := (bdr (((Below.refl _ _).alloc (Nat.le_of_eq s2.symm) _).alloc (by simp [s2]) _) 1)
    obtain ⟨Wf, hWf, q9, hcs, hfo⟩ := HSto.out (some ⟨w.heap.size + 1 + 1 + 1, 0, none⟩) (some ⟨w.heap.size + 1 + 1, 0, none⟩) _ HB.out; have HCS := Lib.hid hcs; have HFO := Lib.hid hfo; clear hcs hfo; refine wp_store_named _ _ _ rfl _ _ (List.toArray _) rfl rfl (HTh.out _ HB.out) hsz13 (by simp [Value.oneCell']) Wf hWf ?_; clear hWf
    refine hK.out _ _ ?_ (fun hHeld2 => ?_)
    · with_reducible exact q9
    clear hK K hHeld
    have hHeld := hHeld2; clear hHeld2
    try simp only [Act.put, List.setIfInBounds_toArray, List.set_cons_zero, List.set_cons_succ, List.getElem_toArray, List.getElem_cons_zero, List.getElem_cons_succ]
    refine wpAnyH_done (by kernel_rfl) ?_ _
    refine NoPanic.normal ?_
    clear q9
    go_wp2_with fail
    exact bodyPost_ret (v := .agg #[.int .u64 0, .float .f64 0, .slice none 0 0, .int .i64 0, .bool false, .int .i32 0, .float .f64 0, .int .u64 0, .slice none 0 0, .slice none 0 0, .slice (some ⟨w.heap.size + 1 + 1 + 1, 0, none⟩) 0 0, .slice (some ⟨w.heap.size + 1 + 1, 0, none⟩) 0 0, .slice none 0 0]) (res1 Tryz.results49 _ _ _ _ _ rfl HCS.out) rfl HFO.out

end Go.Proofs.YtlolomodcbkblaaGreatDoor.Mt
