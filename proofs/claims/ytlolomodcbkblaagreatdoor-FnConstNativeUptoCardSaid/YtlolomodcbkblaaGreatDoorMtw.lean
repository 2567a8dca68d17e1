/- Metrics: metrics converted (laws.metricFrom), but for marks, histograms and quantiles, which are zero. -/
import Derived.Test.YtlolomodcbkblaaGreatDoorMtx
set_option linter.unusedVariables false
set_option linter.unusedSimpArgs false
namespace Go.Proofs.YtlolomodcbkblaaGreatDoor.Mt
open Go.RowKit Go.Maps Go.WideMaps Go.ChangeShapes Go.WideShapes Go.Deep Fp Obs _root_.Go.Proofs.YtlolomodcbkblaaGreatDoor.Nd
attribute [local go_sem] run_store_float
/-- the metric converted -/
def FromMetric (L : List P2) (kind : Int) (val : Nat) (b3 b6 b11 : Bool) (t5 t12 : Int) (w : World) (e : Ending) (w' : World) : Prop :=
  ∃ a1 c1 d1 d1c u1 u1c, e = .returned (.agg #[(.slice a1 L.length c1), .int .i64 kind, .float .f64 val, .bool b3, .float .f64 0, .slice none 0 0, .int .i64 0, .int .i64 t5, .bool b6, .int .u64 0, .float .f64 0, .slice none 0 0, .int .i64 0, .bool false, .int .i32 0, .float .f64 0, .int .u64 0, .slice none 0 0, .slice none 0 0, .slice d1 0 d1c, .slice u1 0 u1c, .slice none 0 0, .int .u64 0, .float .f64 0, .slice none 0 0, .bool b11, .int .i64 t12]) ∧ w'.ownsRow w.heap.size 138 2 (.slice a1 L.length c1) L.length (L.flatMap pc) ∧ Below w.heap.size w w'
set_option maxHeartbeats 16000000 in
set_option maxRecDepth 100000 in
theorem metricFrom_any (L : List P2) (lab : Value) (kind : Int) (val : Nat) (b3 b6 b11 : Bool) (t5 t12 : Int) (w : World) (hof : Ss.Of 2 pc w lab L) (hL : L.length ≤ 2147483647) :
    Calls Tryz.prog 13 #[.agg #[lab, .int .i64 kind, .float .f64 val, .bool b3, .float .f64 0, .slice none 0 0, .int .i64 0, .int .i64 t5, .bool b6, .int .u64 0, .float .f64 0, .slice none 0 0, .int .i64 0, .bool false, .int .i32 0, .float .f64 0, .int .u64 0, .slice none 0 0, .slice none 0 0, .slice none 0 0, .slice none 0 0, .slice none 0 0, .int .u64 0, .float .f64 0, .slice none 0 0, .bool b11, .int .i64 t12]] w (FromMetric L kind val b3 b6 b11 t5 t12 w) := by
  obtain ⟨A, hA⟩ : ∃ A, A = (w.alloc (.cells #[lab, .int .i64 kind, .float .f64 val, .bool b3, .float .f64 0, .slice none 0 0, .int .i64 0, .int .i64 t5, .bool b6, .int .u64 0, .float .f64 0, .slice none 0 0, .int .i64 0, .bool false, .int .i32 0, .float .f64 0, .int .u64 0, .slice none 0 0, .slice none 0 0, .slice none 0 0, .slice none 0 0, .slice none 0 0, .int .u64 0, .float .f64 0, .slice none 0 0, .bool b11, .int .i64 t12] 40)).alloc (.cells #[.slice none 0 0, .int .i64 0, .float .f64 0, .bool false, .float .f64 0, .slice none 0 0, .int .i64 0, .int .i64 0, .bool false, .int .u64 0, .float .f64 0, .slice none 0 0, .int .i64 0, .bool false, .int .i32 0, .float .f64 0, .int .u64 0, .slice none 0 0, .slice none 0 0, .slice none 0 0, .slice none 0 0, .slice none 0 0, .int .u64 0, .float .f64 0, .slice none 0 0, .bool false, .int .i64 0] 55) := ⟨_, rfl⟩
  have s1 : (w.alloc (.cells #[lab, .int .i64 kind, .float .f64 val, .bool b3, .float .f64 0, .slice none 0 0, .int .i64 0, .int .i64 t5, .bool b6, .int .u64 0, .float .f64 0, .slice none 0 0, .int .i64 0, .bool false, .int .i32 0, .float .f64 0, .int .u64 0, .slice none 0 0, .slice none 0 0, .slice none 0 0, .slice none 0 0, .slice none 0 0, .int .u64 0, .float .f64 0, .slice none 0 0, .bool b11, .int .i64 t12] 40)).heap.size = w.heap.size + 1 := by simp
  have s2 : A.heap.size = w.heap.size + 1 + 1 := by rw [hA]; simp
  have hqb : Below w.heap.size w A := by rw [hA]; exact ((Below.refl _ _).alloc (Nat.le_refl _) _).alloc (by simp) _
  have HUp : Hid (∀ W : World, Below (w.heap.size + 1 + 1) A W → Below w.heap.size w W) := fun W h => hqb.trans (h.mono (by omega))
  have HTr : Hid (∀ W W' : World, Below (w.heap.size + 1 + 1) A W → Below W.heap.size W W' → Below (w.heap.size + 1 + 1) A W') := fun W W' h h' => h.trans (h'.mono (by have := h.size; omega))
  have HC : Hid (∀ W : World, Below (w.heap.size + 1 + 1) A W → W.cell? ⟨w.heap.size, 0, none⟩ = some (lab) ∧ W.cell? ⟨w.heap.size, 1, none⟩ = some (.int .i64 kind) ∧ W.cell? ⟨w.heap.size, 2, none⟩ = some (.float .f64 val) ∧ W.cell? ⟨w.heap.size, 3, none⟩ = some (.bool b3) ∧ W.cell? ⟨w.heap.size, 4, none⟩ = some (.float .f64 0) ∧ W.cell? ⟨w.heap.size, 5, none⟩ = some (.slice none 0 0) ∧ W.cell? ⟨w.heap.size, 6, none⟩ = some (.int .i64 0) ∧ W.cell? ⟨w.heap.size, 7, none⟩ = some (.int .i64 t5) ∧ W.cell? ⟨w.heap.size, 8, none⟩ = some (.bool b6) ∧ W.cell? ⟨w.heap.size, 9, none⟩ = some (.int .u64 0) ∧ W.cell? ⟨w.heap.size, 10, none⟩ = some (.float .f64 0) ∧ W.cell? ⟨w.heap.size, 11, none⟩ = some (.slice none 0 0) ∧ W.cell? ⟨w.heap.size, 12, none⟩ = some (.int .i64 0) ∧ W.cell? ⟨w.heap.size, 13, none⟩ = some (.bool false) ∧ W.cell? ⟨w.heap.size, 14, none⟩ = some (.int .i32 0) ∧ W.cell? ⟨w.heap.size, 15, none⟩ = some (.float .f64 0) ∧ W.cell? ⟨w.heap.size, 16, none⟩ = some (.int .u64 0) ∧ W.cell? ⟨w.heap.size, 17, none⟩ = some (.slice none 0 0) ∧ W.cell? ⟨w.heap.size, 18, none⟩ = some (.slice none 0 0) ∧ W.cell? ⟨w.heap.size, 19, none⟩ = some (.slice none 0 0) ∧ W.cell? ⟨w.heap.size, 20, none⟩ = some (.slice none 0 0) ∧ W.cell? ⟨w.heap.size, 21, none⟩ = some (.slice none 0 0) ∧ W.cell? ⟨w.heap.size, 22, none⟩ = some (.int .u64 0) ∧ W.cell? ⟨w.heap.size, 23, none⟩ = some (.float .f64 0) ∧ W.cell? ⟨w.heap.size, 24, none⟩ = some (.slice none 0 0) ∧ W.cell? ⟨w.heap.size, 25, none⟩ = some (.bool b11) ∧ W.cell? ⟨w.heap.size, 26, none⟩ = some (.int .i64 t12)) := fun W h => by
    rw [hA] at h
    have e : ∀ j, W.cell? ⟨w.heap.size, j, none⟩ = (#[lab, .int .i64 kind, .float .f64 val, .bool b3, .float .f64 0, .slice none 0 0, .int .i64 0, .int .i64 t5, .bool b6, .int .u64 0, .float .f64 0, .slice none 0 0, .int .i64 0, .bool false, .int .i32 0, .float .f64 0, .int .u64 0, .slice none 0 0, .slice none 0 0, .slice none 0 0, .slice none 0 0, .slice none 0 0, .int .u64 0, .float .f64 0, .slice none 0 0, .bool b11, .int .i64 t12] : Array Value)[j]? := fun j => ((h.cell (p := ⟨w.heap.size, j, none⟩) (by show w.heap.size < w.heap.size + 1 + 1; omega)).trans (Sl.cell_old _ _ _ _ (by rw [s1]; omega))).trans (Sl.cell_new w _ _ j)
    exact ⟨e 0, e 1, e 2, e 3, e 4, e 5, e 6, e 7, e 8, e 9, e 10, e 11, e 12, e 13, e 14, e 15, e 16, e 17, e 18, e 19, e 20, e 21, e 22, e 23, e 24, e 25, e 26⟩
  have HD : Hid (∀ W : World, Below (w.heap.size + 1 + 1) A W → Whole W (w.heap.size + 1) 55 #[.slice none 0 0, .int .i64 0, .float .f64 0, .bool false, .float .f64 0, .slice none 0 0, .int .i64 0, .int .i64 0, .bool false, .int .u64 0, .float .f64 0, .slice none 0 0, .int .i64 0, .bool false, .int .i32 0, .float .f64 0, .int .u64 0, .slice none 0 0, .slice none 0 0, .slice none 0 0, .slice none 0 0, .slice none 0 0, .int .u64 0, .float .f64 0, .slice none 0 0, .bool false, .int .i64 0]) := fun W h => by
    rw [hA] at h
    have h1 := heap_alloc_new (w.alloc (.cells #[lab, .int .i64 kind, .float .f64 val, .bool b3, .float .f64 0, .slice none 0 0, .int .i64 0, .int .i64 t5, .bool b6, .int .u64 0, .float .f64 0, .slice none 0 0, .int .i64 0, .bool false, .int .i32 0, .float .f64 0, .int .u64 0, .slice none 0 0, .slice none 0 0, .slice none 0 0, .slice none 0 0, .slice none 0 0, .int .u64 0, .float .f64 0, .slice none 0 0, .bool b11, .int .i64 t12] 40)) (.cells #[.slice none 0 0, .int .i64 0, .float .f64 0, .bool false, .float .f64 0, .slice none 0 0, .int .i64 0, .int .i64 0, .bool false, .int .u64 0, .float .f64 0, .slice none 0 0, .int .i64 0, .bool false, .int .i32 0, .float .f64 0, .int .u64 0, .slice none 0 0, .slice none 0 0, .slice none 0 0, .slice none 0 0, .slice none 0 0, .int .u64 0, .float .f64 0, .slice none 0 0, .bool false, .int .i64 0] 55)
    rw [s1] at h1
    exact (h.block (w.heap.size + 1) (by omega)).trans h1
  have HFar : Hid (∀ (W : World) (us : List Value) (j : Nat), (W.setCells (w.heap.size + 1) 0 us).cell? ⟨w.heap.size, j, none⟩ = W.cell? ⟨w.heap.size, j, none⟩) := fun W us j => far_sets (by omega) us 0 W
  have CP : Hid (∀ W, Below (w.heap.size + 1 + 1) A W → Calls Tryz.prog 47 #[lab] W (fun e w' => ∃ a1 c1, e = .returned (.slice a1 L.length c1) ∧ w'.ownsRow (w.heap.size + 1 + 1) 138 2 (.slice a1 L.length c1) L.length (L.flatMap pc) ∧ Below (w.heap.size + 1 + 1) A w')) := fun W h => by
    refine (pairsFrom_own L lab W (hof.below (HUp.out W h)) hL).mono ?_
    rintro e w' ⟨v, rfl, ho, hb⟩
    obtain ⟨a, c, rfl⟩ := row_slice2 ho
    exact ⟨a, c, rfl, own_base ho (by have := h.size; omega), HTr.out _ _ h hb⟩
  have CM : Hid (∀ a1 c1 W, W.ownsRow (w.heap.size + 1 + 1) 138 2 (.slice a1 L.length c1) L.length (L.flatMap pc) → Below (w.heap.size + 1 + 1) A W → Calls Tryz.prog 48 #[.agg #[.float .f64 0, .slice none 0 0, .int .i64 0]] W (fun e w' => e = .returned (.agg #[.float .f64 0, .slice none 0 0, .int .i64 0]) ∧ w'.ownsRow (w.heap.size + 1 + 1) 138 2 (.slice a1 L.length c1) L.length (L.flatMap pc) ∧ Below (w.heap.size + 1 + 1) A w')) := fun a1 c1 W ho h => by
    refine (markFrom_zero none 0 W).mono ?_
    rintro e w' ⟨rfl, hb⟩
    exact ⟨rfl, own_below ho hb, HTr.out _ _ h hb⟩
  have CH : Hid (∀ a1 c1 W, W.ownsRow (w.heap.size + 1 + 1) 138 2 (.slice a1 L.length c1) L.length (L.flatMap pc) → Below (w.heap.size + 1 + 1) A W → Calls Tryz.prog 49 #[.agg #[.int .u64 0, .float .f64 0, .slice none 0 0, .int .i64 0, .bool false, .int .i32 0, .float .f64 0, .int .u64 0, .slice none 0 0, .slice none 0 0, .slice none 0 0, .slice none 0 0, .slice none 0 0]] W (fun e w' => ∃ d1 d1c u1 u1c, e = .returned (.agg #[.int .u64 0, .float .f64 0, .slice none 0 0, .int .i64 0, .bool false, .int .i32 0, .float .f64 0, .int .u64 0, .slice none 0 0, .slice none 0 0, .slice d1 0 d1c, .slice u1 0 u1c, .slice none 0 0]) ∧ w'.ownsRow (w.heap.size + 1 + 1) 138 2 (.slice a1 L.length c1) L.length (L.flatMap pc) ∧ Below (w.heap.size + 1 + 1) A w')) := fun a1 c1 W ho h => by
    refine (histFrom_zero W).mono ?_
    rintro e w' ⟨d1, d1c, u1, u1c, rfl, hb⟩
    exact ⟨d1, d1c, u1, u1c, rfl, own_below ho hb, HTr.out _ _ h hb⟩
  have hsz27 : (Tryz.prog.info? 55).map (·.size) = some 27 := by kernel_rfl
  have HTh : Hid (∀ W, Below (w.heap.size + 1 + 1) A W → W.there (w.heap.size + 1) 0 27) := fun W h => there_whole (HD.out W h)
  have HSto : Hid (∀ a1 c1 d1 d1c u1 u1c W, W.ownsRow (w.heap.size + 1 + 1) 138 2 (.slice a1 L.length c1) L.length (L.flatMap pc) → Below (w.heap.size + 1 + 1) A W → ∃ Wf, W.setCells (w.heap.size + 1) 0 [(.slice a1 L.length c1), .int .i64 kind, .float .f64 val, .bool b3, .float .f64 0, .slice none 0 0, .int .i64 0, .int .i64 t5, .bool b6, .int .u64 0, .float .f64 0, .slice none 0 0, .int .i64 0, .bool false, .int .i32 0, .float .f64 0, .int .u64 0, .slice none 0 0, .slice none 0 0, .slice d1 0 d1c, .slice u1 0 u1c, .slice none 0 0, .int .u64 0, .float .f64 0, .slice none 0 0, .bool b11, .int .i64 t12] = Wf ∧ (Wf.cell? ⟨w.heap.size, 0, none⟩ = some (lab) ∧ Wf.cell? ⟨w.heap.size, 1, none⟩ = some (.int .i64 kind) ∧ Wf.cell? ⟨w.heap.size, 2, none⟩ = some (.float .f64 val) ∧ Wf.cell? ⟨w.heap.size, 3, none⟩ = some (.bool b3) ∧ Wf.cell? ⟨w.heap.size, 4, none⟩ = some (.float .f64 0) ∧ Wf.cell? ⟨w.heap.size, 5, none⟩ = some (.slice none 0 0) ∧ Wf.cell? ⟨w.heap.size, 6, none⟩ = some (.int .i64 0) ∧ Wf.cell? ⟨w.heap.size, 7, none⟩ = some (.int .i64 t5) ∧ Wf.cell? ⟨w.heap.size, 8, none⟩ = some (.bool b6) ∧ Wf.cell? ⟨w.heap.size, 9, none⟩ = some (.int .u64 0) ∧ Wf.cell? ⟨w.heap.size, 10, none⟩ = some (.float .f64 0) ∧ Wf.cell? ⟨w.heap.size, 11, none⟩ = some (.slice none 0 0) ∧ Wf.cell? ⟨w.heap.size, 12, none⟩ = some (.int .i64 0) ∧ Wf.cell? ⟨w.heap.size, 13, none⟩ = some (.bool false) ∧ Wf.cell? ⟨w.heap.size, 14, none⟩ = some (.int .i32 0) ∧ Wf.cell? ⟨w.heap.size, 15, none⟩ = some (.float .f64 0) ∧ Wf.cell? ⟨w.heap.size, 16, none⟩ = some (.int .u64 0) ∧ Wf.cell? ⟨w.heap.size, 17, none⟩ = some (.slice none 0 0) ∧ Wf.cell? ⟨w.heap.size, 18, none⟩ = some (.slice none 0 0) ∧ Wf.cell? ⟨w.heap.size, 19, none⟩ = some (.slice none 0 0) ∧ Wf.cell? ⟨w.heap.size, 20, none⟩ = some (.slice none 0 0) ∧ Wf.cell? ⟨w.heap.size, 21, none⟩ = some (.slice none 0 0) ∧ Wf.cell? ⟨w.heap.size, 22, none⟩ = some (.int .u64 0) ∧ Wf.cell? ⟨w.heap.size, 23, none⟩ = some (.float .f64 0) ∧ Wf.cell? ⟨w.heap.size, 24, none⟩ = some (.slice none 0 0) ∧ Wf.cell? ⟨w.heap.size, 25, none⟩ = some (.bool b11) ∧ Wf.cell? ⟨w.heap.size, 26, none⟩ = some (.int .i64 t12)) ∧ (loadVar 55 ⟨w.heap.size + 1, 0, none⟩).run Tryz.prog Wf = .ok (.agg #[(.slice a1 L.length c1), .int .i64 kind, .float .f64 val, .bool b3, .float .f64 0, .slice none 0 0, .int .i64 0, .int .i64 t5, .bool b6, .int .u64 0, .float .f64 0, .slice none 0 0, .int .i64 0, .bool false, .int .i32 0, .float .f64 0, .int .u64 0, .slice none 0 0, .slice none 0 0, .slice d1 0 d1c, .slice u1 0 u1c, .slice none 0 0, .int .u64 0, .float .f64 0, .slice none 0 0, .bool b11, .int .i64 t12]) Wf ∧ FromMetric L kind val b3 b6 b11 t5 t12 w (.returned (.agg #[(.slice a1 L.length c1), .int .i64 kind, .float .f64 val, .bool b3, .float .f64 0, .slice none 0 0, .int .i64 0, .int .i64 t5, .bool b6, .int .u64 0, .float .f64 0, .slice none 0 0, .int .i64 0, .bool false, .int .i32 0, .float .f64 0, .int .u64 0, .slice none 0 0, .slice none 0 0, .slice d1 0 d1c, .slice u1 0 u1c, .slice none 0 0, .int .u64 0, .float .f64 0, .slice none 0 0, .bool b11, .int .i64 t12])) Wf) := fun a1 c1 d1 d1c u1 u1c W ho hb => by
    have hR := World.rangeAt_setCells_same W (w.heap.size + 1) 0 [(.slice a1 L.length c1), .int .i64 kind, .float .f64 val, .bool b3, .float .f64 0, .slice none 0 0, .int .i64 0, .int .i64 t5, .bool b6, .int .u64 0, .float .f64 0, .slice none 0 0, .int .i64 0, .bool false, .int .i32 0, .float .f64 0, .int .u64 0, .slice none 0 0, .slice none 0 0, .slice d1 0 d1c, .slice u1 0 u1c, .slice none 0 0, .int .u64 0, .float .f64 0, .slice none 0 0, .bool b11, .int .i64 t12] (HTh.out W hb)
    refine ⟨_, rfl, ?_, run_loadVar_mid _ _ _ _ [(.slice a1 L.length c1), .int .i64 kind, .float .f64 val, .bool b3, .float .f64 0, .slice none 0 0, .int .i64 0, .int .i64 t5, .bool b6, .int .u64 0, .float .f64 0, .slice none 0 0, .int .i64 0, .bool false, .int .i32 0, .float .f64 0, .int .u64 0, .slice none 0 0, .slice none 0 0, .slice d1 0 d1c, .slice u1 0 u1c, .slice none 0 0, .int .u64 0, .float .f64 0, .slice none 0 0, .bool b11, .int .i64 t12] _ hR Tryz.underlying55 rfl hsz27, a1, c1, d1, d1c, u1, u1c, rfl, own_base (own_sets (by omega) _ 0 W ho) (by omega), below_sets (by omega) _ 0 W (HUp.out W hb)⟩
    have h := HC.out W hb
    simp only [HFar.out]
    exact h
  have HB0 : Hid (Below (w.heap.size + 1 + 1) A A.drew) := bdr (Below.refl _ _) 1
  have k1 := HC.out A.drew HB0.out
  go_enter Tryz.func13, Tryz.ntmps13
  go_wp2_with fail
  rw [← hA]
  clear hA
  refine wp_region_noPanic ?_
  refine wp_region_held_drew (S := fun W => W.cell? ⟨w.heap.size, 0, none⟩ = some (lab) ∧ W.cell? ⟨w.heap.size, 1, none⟩ = some (.int .i64 kind) ∧ W.cell? ⟨w.heap.size, 2, none⟩ = some (.float .f64 val) ∧ W.cell? ⟨w.heap.size, 3, none⟩ = some (.bool b3) ∧ W.cell? ⟨w.heap.size, 4, none⟩ = some (.float .f64 0) ∧ W.cell? ⟨w.heap.size, 5, none⟩ = some (.slice none 0 0) ∧ W.cell? ⟨w.heap.size, 6, none⟩ = some (.int .i64 0) ∧ W.cell? ⟨w.heap.size, 7, none⟩ = some (.int .i64 t5) ∧ W.cell? ⟨w.heap.size, 8, none⟩ = some (.bool b6) ∧ W.cell? ⟨w.heap.size, 9, none⟩ = some (.int .u64 0) ∧ W.cell? ⟨w.heap.size, 10, none⟩ = some (.float .f64 0) ∧ W.cell? ⟨w.heap.size, 11, none⟩ = some (.slice none 0 0) ∧ W.cell? ⟨w.heap.size, 12, none⟩ = some (.int .i64 0) ∧ W.cell? ⟨w.heap.size, 13, none⟩ = some (.bool false) ∧ W.cell? ⟨w.heap.size, 14, none⟩ = some (.int .i32 0) ∧ W.cell? ⟨w.heap.size, 15, none⟩ = some (.float .f64 0) ∧ W.cell? ⟨w.heap.size, 16, none⟩ = some (.int .u64 0) ∧ W.cell? ⟨w.heap.size, 17, none⟩ = some (.slice none 0 0) ∧ W.cell? ⟨w.heap.size, 18, none⟩ = some (.slice none 0 0) ∧ W.cell? ⟨w.heap.size, 19, none⟩ = some (.slice none 0 0) ∧ W.cell? ⟨w.heap.size, 20, none⟩ = some (.slice none 0 0) ∧ W.cell? ⟨w.heap.size, 21, none⟩ = some (.slice none 0 0) ∧ W.cell? ⟨w.heap.size, 22, none⟩ = some (.int .u64 0) ∧ W.cell? ⟨w.heap.size, 23, none⟩ = some (.float .f64 0) ∧ W.cell? ⟨w.heap.size, 24, none⟩ = some (.slice none 0 0) ∧ W.cell? ⟨w.heap.size, 25, none⟩ = some (.bool b11) ∧ W.cell? ⟨w.heap.size, 26, none⟩ = some (.int .i64 t12)) (by kernel_rfl) (by (with_reducible exact k1)) (fun hHeld => ?_)
  refine wpAnyH_take (i := 0) (v := ?_) rfl (by kernel_rfl) (by kernel_rfl) (by kernel_rfl) (fun _ _ _ h => h) (Or.inl ⟨by rfl, ?_⟩) hHeld ?_
  rotate_left
  · intro w hSw; (try dsimp only at hSw); go_simp; (try with_reducible rfl)
  try simp only [Act.put, List.setIfInBounds_toArray, List.set_cons_zero, List.set_cons_succ, List.getElem_toArray, List.getElem_cons_zero, List.getElem_cons_succ]
  refine wpAnyH_take (i := 1) (v := ?_) rfl (by kernel_rfl) (by kernel_rfl) (by kernel_rfl) (fun _ _ _ h => h) (Or.inl ⟨by rfl, ?_⟩) hHeld ?_
  rotate_left
  · intro w hSw; (try dsimp only at hSw); go_simp; (try with_reducible rfl)
  try simp only [Act.put, List.setIfInBounds_toArray, List.set_cons_zero, List.set_cons_succ, List.getElem_toArray, List.getElem_cons_zero, List.getElem_cons_succ]
  refine wpAnyH_take (i := 3) (v := ?_) rfl (by kernel_rfl) (by kernel_rfl) (by kernel_rfl) (fun _ _ _ h => h) (Or.inl ⟨by rfl, ?_⟩) hHeld ?_
  rotate_left
  · intro w hSw; (try dsimp only at hSw); go_simp; (try with_reducible rfl)
  try simp only [Act.put, List.setIfInBounds_toArray, List.set_cons_zero, List.set_cons_succ, List.getElem_toArray, List.getElem_cons_zero, List.getElem_cons_succ]
  refine wpAnyH_take (i := 4) (v := ?_) rfl (by kernel_rfl) (by kernel_rfl) (by kernel_rfl) (fun _ _ _ h => h) (Or.inl ⟨by rfl, ?_⟩) hHeld ?_
  rotate_left
  · intro w hSw; (try dsimp only at hSw); go_simp; (try with_reducible rfl)
  try simp only [Act.put, List.setIfInBounds_toArray, List.set_cons_zero, List.set_cons_succ, List.getElem_toArray, List.getElem_cons_zero, List.getElem_cons_succ]
  refine wpAnyH_take (i := 5) (v := ?_) rfl (by kernel_rfl) (by kernel_rfl) (by kernel_rfl) (fun _ _ _ h => h) (Or.inl ⟨by rfl, ?_⟩) hHeld ?_
  rotate_left
  · intro w hSw; (try dsimp only at hSw); go_simp; (try with_reducible rfl)
  try simp only [Act.put, List.setIfInBounds_toArray, List.set_cons_zero, List.set_cons_succ, List.getElem_toArray, List.getElem_cons_zero, List.getElem_cons_succ]
  refine wpAnyH_take (i := 6) (v := ?_) rfl (by kernel_rfl) (by kernel_rfl) (by kernel_rfl) (fun _ _ _ h => h) (Or.inl ⟨by rfl, ?_⟩) hHeld ?_
  rotate_left
  · intro w hSw; (try dsimp only at hSw); go_simp; (try with_reducible rfl)
  try simp only [Act.put, List.setIfInBounds_toArray, List.set_cons_zero, List.set_cons_succ, List.getElem_toArray, List.getElem_cons_zero, List.getElem_cons_succ]
  refine wpAnyH_take (i := 7) (v := ?_) rfl (by kernel_rfl) (by kernel_rfl) (by kernel_rfl) (fun _ _ _ h => h) (Or.inl ⟨by rfl, ?_⟩) hHeld ?_
  rotate_left
  · intro w hSw; (try dsimp only at hSw); go_simp; (try with_reducible rfl)
  try simp only [Act.put, List.setIfInBounds_toArray, List.set_cons_zero, List.set_cons_succ, List.getElem_toArray, List.getElem_cons_zero, List.getElem_cons_succ]
  refine wpAnyH_take (i := 8) (v := ?_) rfl (by kernel_rfl) (by kernel_rfl) (by kernel_rfl) (fun _ _ _ h => h) (Or.inl ⟨by rfl, ?_⟩) hHeld ?_
  rotate_left
  · intro w hSw; (try dsimp only at hSw); go_simp; (try with_reducible rfl)
  try simp only [Act.put, List.setIfInBounds_toArray, List.set_cons_zero, List.set_cons_succ, List.getElem_toArray, List.getElem_cons_zero, List.getElem_cons_succ]
  refine wpAnyH_take (i := 9) (v := ?_) rfl (by kernel_rfl) (by kernel_rfl) (by kernel_rfl) (fun _ _ _ h => h) (Or.inl ⟨by rfl, ?_⟩) hHeld ?_
  rotate_left
  · intro w hSw; (try dsimp only at hSw); go_simp; (try with_reducible rfl)
  try simp only [Act.put, List.setIfInBounds_toArray, List.set_cons_zero, List.set_cons_succ, List.getElem_toArray, List.getElem_cons_zero, List.getElem_cons_succ]
  refine wpAnyH_take (i := 10) (v := ?_) rfl (by kernel_rfl) (by kernel_rfl) (by kernel_rfl) (fun _ _ _ h => h) (Or.inl ⟨by rfl, ?_⟩) hHeld ?_
  rotate_left
  · intro w hSw; (try dsimp only at hSw); go_simp; (try with_reducible rfl)
  try simp only [Act.put, List.setIfInBounds_toArray, List.set_cons_zero, List.set_cons_succ, List.getElem_toArray, List.getElem_cons_zero, List.getElem_cons_succ]
  refine wpAnyH_take (i := 12) (v := ?_) rfl (by kernel_rfl) (by kernel_rfl) (by kernel_rfl) (fun _ _ _ h => h) (Or.inl ⟨by rfl, ?_⟩) hHeld ?_
  rotate_left
  · intro w hSw; (try dsimp only at hSw); go_simp; (try with_reducible rfl)
  try simp only [Act.put, List.setIfInBounds_toArray, List.set_cons_zero, List.set_cons_succ, List.getElem_toArray, List.getElem_cons_zero, List.getElem_cons_succ]
  refine wpAnyH_take (i := 13) (v := ?_) rfl (by kernel_rfl) (by kernel_rfl) (by kernel_rfl) (fun _ _ _ h => h) (Or.inl ⟨by rfl, ?_⟩) hHeld ?_
  rotate_left
  · intro w hSw; (try dsimp only at hSw); go_simp; (try with_reducible rfl)
  try simp only [Act.put, List.setIfInBounds_toArray, List.set_cons_zero, List.set_cons_succ, List.getElem_toArray, List.getElem_cons_zero, List.getElem_cons_succ]
  refine wpAnyH_take (i := 14) (v := ?_) rfl (by kernel_rfl) (by kernel_rfl) (by kernel_rfl) (fun _ _ _ h => h) (Or.inl ⟨by rfl, ?_⟩) hHeld ?_
  rotate_left
  · intro w hSw; (try dsimp only at hSw); go_simp; (try with_reducible rfl)
  try simp only [Act.put, List.setIfInBounds_toArray, List.set_cons_zero, List.set_cons_succ, List.getElem_toArray, List.getElem_cons_zero, List.getElem_cons_succ]
  refine wpAnyH_take (i := 15) (v := ?_) rfl (by kernel_rfl) (by kernel_rfl) (by kernel_rfl) (fun _ _ _ h => h) (Or.inl ⟨by rfl, ?_⟩) hHeld ?_
  rotate_left
  · intro w hSw; (try dsimp only at hSw); go_simp; (try with_reducible rfl)
  try simp only [Act.put, List.setIfInBounds_toArray, List.set_cons_zero, List.set_cons_succ, List.getElem_toArray, List.getElem_cons_zero, List.getElem_cons_succ]
  refine wpAnyH_take (i := 16) (v := ?_) rfl (by kernel_rfl) (by kernel_rfl) (by kernel_rfl) (fun _ _ _ h => h) (Or.inl ⟨by rfl, ?_⟩) hHeld ?_
  rotate_left
  · intro w hSw; (try dsimp only at hSw); go_simp; (try with_reducible rfl)
  try simp only [Act.put, List.setIfInBounds_toArray, List.set_cons_zero, List.set_cons_succ, List.getElem_toArray, List.getElem_cons_zero, List.getElem_cons_succ]
  refine wpAnyH_take (i := 17) (v := ?_) rfl (by kernel_rfl) (by kernel_rfl) (by kernel_rfl) (fun _ _ _ h => h) (Or.inl ⟨by rfl, ?_⟩) hHeld ?_
  rotate_left
  · intro w hSw; (try dsimp only at hSw); go_simp; (try with_reducible rfl)
  try simp only [Act.put, List.setIfInBounds_toArray, List.set_cons_zero, List.set_cons_succ, List.getElem_toArray, List.getElem_cons_zero, List.getElem_cons_succ]
  refine wpAnyH_take (i := 19) (v := ?_) rfl (by kernel_rfl) (by kernel_rfl) (by kernel_rfl) (fun _ _ _ h => h) (Or.inl ⟨by rfl, ?_⟩) hHeld ?_
  rotate_left
  · intro w hSw; (try dsimp only at hSw); go_simp; (try with_reducible rfl)
  try simp only [Act.put, List.setIfInBounds_toArray, List.set_cons_zero, List.set_cons_succ, List.getElem_toArray, List.getElem_cons_zero, List.getElem_cons_succ]
  refine wpAnyH_take (i := 20) (v := ?_) rfl (by kernel_rfl) (by kernel_rfl) (by kernel_rfl) (fun _ _ _ h => h) (Or.inl ⟨by rfl, ?_⟩) hHeld ?_
  rotate_left
  · intro w hSw; (try dsimp only at hSw); go_simp; (try with_reducible rfl)
  try simp only [Act.put, List.setIfInBounds_toArray, List.set_cons_zero, List.set_cons_succ, List.getElem_toArray, List.getElem_cons_zero, List.getElem_cons_succ]
  refine wpAnyH_take (i := 21) (v := ?_) rfl (by kernel_rfl) (by kernel_rfl) (by kernel_rfl) (fun _ _ _ h => h) (Or.inl ⟨by rfl, ?_⟩) hHeld ?_
  rotate_left
  · intro w hSw; (try dsimp only at hSw); go_simp; (try with_reducible rfl)
  try simp only [Act.put, List.setIfInBounds_toArray, List.set_cons_zero, List.set_cons_succ, List.getElem_toArray, List.getElem_cons_zero, List.getElem_cons_succ]
  refine wpAnyH_take (i := 22) (v := ?_) rfl (by kernel_rfl) (by kernel_rfl) (by kernel_rfl) (fun _ _ _ h => h) (Or.inl ⟨by rfl, ?_⟩) hHeld ?_
  rotate_left
  · intro w hSw; (try dsimp only at hSw); go_simp; (try with_reducible rfl)
  try simp only [Act.put, List.setIfInBounds_toArray, List.set_cons_zero, List.set_cons_succ, List.getElem_toArray, List.getElem_cons_zero, List.getElem_cons_succ]
  refine wpAnyH_take (i := 23) (v := ?_) rfl (by kernel_rfl) (by kernel_rfl) (by kernel_rfl) (fun _ _ _ h => h) (Or.inl ⟨by rfl, ?_⟩) hHeld ?_
  rotate_left
  · intro w hSw; (try dsimp only at hSw); go_simp; (try with_reducible rfl)
  try simp only [Act.put, List.setIfInBounds_toArray, List.set_cons_zero, List.set_cons_succ, List.getElem_toArray, List.getElem_cons_zero, List.getElem_cons_succ]
  refine wpAnyH_take (i := 24) (v := ?_) rfl (by kernel_rfl) (by kernel_rfl) (by kernel_rfl) (fun _ _ _ h => h) (Or.inl ⟨by rfl, ?_⟩) hHeld ?_
  rotate_left
  · intro w hSw; (try dsimp only at hSw); go_simp; (try with_reducible rfl)
  try simp only [Act.put, List.setIfInBounds_toArray, List.set_cons_zero, List.set_cons_succ, List.getElem_toArray, List.getElem_cons_zero, List.getElem_cons_succ]
  refine wpAnyH_take (i := 26) (v := ?_) rfl (by kernel_rfl) (by kernel_rfl) (by kernel_rfl) (fun _ _ _ h => h) (Or.inl ⟨by rfl, ?_⟩) hHeld ?_
  rotate_left
  · intro w hSw; (try dsimp only at hSw); go_simp; (try with_reducible rfl)
  try simp only [Act.put, List.setIfInBounds_toArray, List.set_cons_zero, List.set_cons_succ, List.getElem_toArray, List.getElem_cons_zero, List.getElem_cons_succ]
  refine wpAnyH_take (i := 27) (v := ?_) rfl (by kernel_rfl) (by kernel_rfl) (by kernel_rfl) (fun _ _ _ h => h) (Or.inl ⟨by rfl, ?_⟩) hHeld ?_
  rotate_left
  · intro w hSw; (try dsimp only at hSw); go_simp; (try with_reducible rfl)
  try simp only [Act.put, List.setIfInBounds_toArray, List.set_cons_zero, List.set_cons_succ, List.getElem_toArray, List.getElem_cons_zero, List.getElem_cons_succ]
  refine wpAnyH_take (i := 28) (v := ?_) rfl (by kernel_rfl) (by kernel_rfl) (by kernel_rfl) (fun _ _ _ h => h) (Or.inl ⟨by rfl, ?_⟩) hHeld ?_
  rotate_left
  · intro w hSw; (try dsimp only at hSw); go_simp; (try with_reducible rfl)
  try simp only [Act.put, List.setIfInBounds_toArray, List.set_cons_zero, List.set_cons_succ, List.getElem_toArray, List.getElem_cons_zero, List.getElem_cons_succ]
  refine wpAnyH_take (i := 29) (v := ?_) rfl (by kernel_rfl) (by kernel_rfl) (by kernel_rfl) (fun _ _ _ h => h) (Or.inl ⟨by rfl, ?_⟩) hHeld ?_
  rotate_left
  · intro w hSw; (try dsimp only at hSw); go_simp; (try with_reducible rfl)
  try simp only [Act.put, List.setIfInBounds_toArray, List.set_cons_zero, List.set_cons_succ, List.getElem_toArray, List.getElem_cons_zero, List.getElem_cons_succ]
  refine wpAnyH_ready (rs := [2]) (by kernel_rfl) (by simp) (AllReadyH.cons rfl (fun K hK => ?_) AllReadyH.nil)
  go_simp
  (go_at_call 47; refine (CP.out _ HB0.out).mono ?_; rintro e y1 ⟨a1, c1, rfl, ho, hb⟩; have HR1 := Lib.hid ho; have HE1 := Lib.hid hb; have q1 := HC.out _ hb; clear hb ho)
  refine hK.out _ _ ?_ (fun hHeld2 => ?_)
  · first | (with_reducible exact q1) | (with_reducible exact q2) | (with_reducible exact q3) | (with_reducible exact q9)
  clear hK K hHeld
  have hHeld := hHeld2; clear hHeld2
  try simp only [Act.put, List.setIfInBounds_toArray, List.set_cons_zero, List.set_cons_succ, List.getElem_toArray, List.getElem_cons_zero, List.getElem_cons_succ]
  refine wpAnyH_ready (rs := [11]) (by kernel_rfl) (by simp) (AllReadyH.cons rfl (fun K hK => ?_) AllReadyH.nil)
  go_simp
  (go_at_call 48; refine (CM.out _ _ _ HR1.out HE1.out).mono ?_; rintro e y2 ⟨rfl, ho, hb⟩; have HR2 := Lib.hid ho; have HE2 := Lib.hid hb; have q2 := HC.out _ hb; clear hb ho)
  refine hK.out _ _ ?_ (fun hHeld2 => ?_)
  · first | (with_reducible exact q1) | (with_reducible exact q2) | (with_reducible exact q3) | (with_reducible exact q9)
  clear hK K hHeld
  have hHeld := hHeld2; clear hHeld2
  try simp only [Act.put, List.setIfInBounds_toArray, List.set_cons_zero, List.set_cons_succ, List.getElem_toArray, List.getElem_cons_zero, List.getElem_cons_succ]
  refine wpAnyH_ready (rs := [18]) (by kernel_rfl) (by simp) (AllReadyH.cons rfl (fun K hK => ?_) AllReadyH.nil)
  go_simp
  (go_at_call 49; refine (CH.out _ _ _ HR2.out HE2.out).mono ?_; rintro e y3 ⟨d1, d1c, u1, u1c, rfl, ho, hb⟩; have HR3 := Lib.hid ho; have HE3 := Lib.hid hb; have q3 := HC.out _ hb; clear hb ho)
  refine hK.out _ _ ?_ (fun hHeld2 => ?_)
  · first | (with_reducible exact q1) | (with_reducible exact q2) | (with_reducible exact q3) | (with_reducible exact q9)
  clear hK K hHeld
  have hHeld := hHeld2; clear hHeld2
  try simp only [Act.put, List.setIfInBounds_toArray, List.set_cons_zero, List.set_cons_succ, List.getElem_toArray, List.getElem_cons_zero, List.getElem_cons_succ]
  refine Calm.take (i := 25) (v := .slice none 0 0) rfl (by kernel_rfl) (by kernel_rfl) (by kernel_rfl) (fun _ _ _ h => h) ⟨by rfl, fun W hSw => ⟨50, #[.slice none 0 0], ?_, quantilesFrom_nil _ _ W⟩⟩ hHeld ?_
  · go_simp; (try with_reducible rfl)
  try simp only [Act.put, List.setIfInBounds_toArray, List.set_cons_zero, List.set_cons_succ, List.getElem_toArray, List.getElem_cons_zero, List.getElem_cons_succ]
  refine wpAnyH_take (i := 30) (v := ?_) rfl (by kernel_rfl) (by kernel_rfl) (by kernel_rfl) (fun _ _ _ h => h) (Or.inl ⟨by rfl, ?_⟩) hHeld ?_
  rotate_left
  · intro w hSw; (try dsimp only at hSw); go_simp; (try with_reducible rfl)
  try simp only [Act.put, List.setIfInBounds_toArray, List.set_cons_zero, List.set_cons_succ, List.getElem_toArray, List.getElem_cons_zero, List.getElem_cons_succ]
  refine wpAnyH_ready (rs := [31]) (by kernel_rfl) (by simp) (AllReadyH.cons rfl (fun K hK => ?_) AllReadyH.nil)
  rw [if_pos (by rfl)]
  obtain ⟨Wf, hWf, q9, hcs, hfo⟩ := HSto.out a1 c1 d1 d1c u1 u1c _ HR3.out HE3.out; have HCS := Lib.hid hcs; have HFO := Lib.hid hfo; clear hcs hfo; refine wp_store_named _ _ _ rfl _ _ (List.toArray _) rfl rfl (HTh.out _ HE3.out) hsz27 (by simp [Value.oneCell']) Wf hWf ?_; clear hWf
  refine hK.out _ _ ?_ (fun hHeld2 => ?_)
  · first | (with_reducible exact q1) | (with_reducible exact q2) | (with_reducible exact q3) | (with_reducible exact q9)
  clear hK K hHeld
  have hHeld := hHeld2; clear hHeld2
  try simp only [Act.put, List.setIfInBounds_toArray, List.set_cons_zero, List.set_cons_succ, List.getElem_toArray, List.getElem_cons_zero, List.getElem_cons_succ]
  refine wpAnyH_done (by kernel_rfl) ?_ _
  refine NoPanic.normal ?_
  clear k1 q1 q2 q3 q9
  go_wp2_with fail
  exact bodyPost_ret (v := .agg #[(.slice a1 L.length c1), .int .i64 kind, .float .f64 val, .bool b3, .float .f64 0, .slice none 0 0, .int .i64 0, .int .i64 t5, .bool b6, .int .u64 0, .float .f64 0, .slice none 0 0, .int .i64 0, .bool false, .int .i32 0, .float .f64 0, .int .u64 0, .slice none 0 0, .slice none 0 0, .slice d1 0 d1c, .slice u1 0 u1c, .slice none 0 0, .int .u64 0, .float .f64 0, .slice none 0 0, .bool b11, .int .i64 t12]) (res1 Tryz.results13 _ _ _ _ _ rfl HCS.out) rfl HFO.out

end Go.Proofs.YtlolomodcbkblaaGreatDoor.Mt
