/- Metrics: two metrics with the same labels, kind, value and times, and else zero, are the same (spec.SameMetric). -/
import Derived.Test.YtlolomodcbkblaaGreatDoorMg13
set_option linter.unusedVariables false
set_option linter.unusedSimpArgs false
namespace Go.Proofs.YtlolomodcbkblaaGreatDoor.Mt
open Go.RowKit Go.Maps Go.WideMaps Go.ChangeShapes Go.WideShapes Go.Deep Fp Obs _root_.Go.Proofs.YtlolomodcbkblaaGreatDoor.Nd

set_option maxHeartbeats 8000000 in
set_option maxRecDepth 100000 in
theorem sameHist_zero (a1 a2 a3 a4 a5 a6 b1 b2 b3 b4 b5 b6 : Option Addr) (a1c a2c a3c a4c a5c a6c b1c b2c b3c b4c b5c b6c : Nat) (w : World) :
    Calls Tryz.prog 45 #[.agg #[.int .u64 0, .float .f64 0, .slice a1 0 a1c, .int .i64 0, .bool false, .int .i32 0, .float .f64 0, .int .u64 0, .slice a2 0 a2c, .slice a3 0 a3c, .slice a4 0 a4c, .slice a5 0 a5c, .slice a6 0 a6c], .agg #[.int .u64 0, .float .f64 0, .slice b1 0 b1c, .int .i64 0, .bool false, .int .i32 0, .float .f64 0, .int .u64 0, .slice b2 0 b2c, .slice b3 0 b3c, .slice b4 0 b4c, .slice b5 0 b5c, .slice b6 0 b6c]] w fun e w' => e = .returned (.bool true) ∧ Below w.heap.size w w' := by
  have hb : Hid (Below w.heap.size w ((w.alloc (.cells #[.int .u64 0, .float .f64 0, .slice a1 0 a1c, .int .i64 0, .bool false, .int .i32 0, .float .f64 0, .int .u64 0, .slice a2 0 a2c, .slice a3 0 a3c, .slice a4 0 a4c, .slice a5 0 a5c, .slice a6 0 a6c] 52)).alloc (.cells #[.int .u64 0, .float .f64 0, .slice b1 0 b1c, .int .i64 0, .bool false, .int .i32 0, .float .f64 0, .int .u64 0, .slice b2 0 b2c, .slice b3 0 b3c, .slice b4 0 b4c, .slice b5 0 b5c, .slice b6 0 b6c] 52))) := ((Below.refl _ _).alloc (Nat.le_refl _) _).alloc (by simp) _
  go_enter Tryz.func45, Tryz.ntmps45
  go_wp2_with (first
    | (go_at_call 26; refine (sameNum_self _ _).mono ?_; rintro e w' ⟨rfl, rfl⟩)
    | (go_at_call 87; refine (sameBuckets_nil _ _ _ _ _).mono ?_; rintro e w' ⟨rfl, rfl⟩)
    | (go_at_call 88; refine (sameRuns_nil _ _ _ _ _).mono ?_; rintro e w' ⟨rfl, rfl⟩)
    | (go_at_call 89; refine (sameDeltas_nil _ _ _ _ _).mono ?_; rintro e w' ⟨rfl, rfl⟩)
    | (go_at_call 90; refine (sameMarks_nil _ _ _ _ _).mono ?_; rintro e w' ⟨rfl, rfl⟩))
  go_ret
  exact ⟨rfl, hb.out⟩

set_option maxHeartbeats 16000000 in
set_option maxRecDepth 100000 in
theorem sameMetric_any (L : List P2) (la lb : Value) (kind : Int) (val : Nat) (created stamp : Int) (dated stamped : Bool) (a0 a1 a2 a3 a4 a5 a6 a7 b0 b1 b2 b3 b4 b5 b6 b7 : Option Addr) (a0c a1c a2c a3c a4c a5c a6c a7c b0c b1c b2c b3c b4c b5c b6c b7c : Nat) (w : World) (ha : Ss.Of 2 pc w la L) (hb : Ss.Of 2 pc w lb L) (hL : L.length ≤ 2147483647) :
    Calls Tryz.prog 12 #[.agg #[la, .int .i64 kind, .float .f64 val, .bool false, .float .f64 0, .slice a0 0 a0c, .int .i64 0, .int .i64 created, .bool dated, .int .u64 0, .float .f64 0, .slice a1 0 a1c, .int .i64 0, .bool false, .int .i32 0, .float .f64 0, .int .u64 0, .slice a2 0 a2c, .slice a3 0 a3c, .slice a4 0 a4c, .slice a5 0 a5c, .slice a6 0 a6c, .int .u64 0, .float .f64 0, .slice a7 0 a7c, .bool stamped, .int .i64 stamp], .agg #[lb, .int .i64 kind, .float .f64 val, .bool false, .float .f64 0, .slice b0 0 b0c, .int .i64 0, .int .i64 created, .bool dated, .int .u64 0, .float .f64 0, .slice b1 0 b1c, .int .i64 0, .bool false, .int .i32 0, .float .f64 0, .int .u64 0, .slice b2 0 b2c, .slice b3 0 b3c, .slice b4 0 b4c, .slice b5 0 b5c, .slice b6 0 b6c, .int .u64 0, .float .f64 0, .slice b7 0 b7c, .bool stamped, .int .i64 stamp]] w fun e w' => e = .returned (.bool true) ∧ Below w.heap.size w w' := by
  obtain ⟨p1, p1c, rfl, _, _⟩ := ha.slice
  obtain ⟨p2, p2c, rfl, _, _⟩ := hb.slice
  have s1 : (w.alloc (.cells #[.slice p1 L.length p1c, .int .i64 kind, .float .f64 val, .bool false, .float .f64 0, .slice a0 0 a0c, .int .i64 0, .int .i64 created, .bool dated, .int .u64 0, .float .f64 0, .slice a1 0 a1c, .int .i64 0, .bool false, .int .i32 0, .float .f64 0, .int .u64 0, .slice a2 0 a2c, .slice a3 0 a3c, .slice a4 0 a4c, .slice a5 0 a5c, .slice a6 0 a6c, .int .u64 0, .float .f64 0, .slice a7 0 a7c, .bool stamped, .int .i64 stamp] 55)).heap.size = w.heap.size + 1 := by simp
  obtain ⟨A, hA⟩ : ∃ A, A = ((w.alloc (.cells #[.slice p1 L.length p1c, .int .i64 kind, .float .f64 val, .bool false, .float .f64 0, .slice a0 0 a0c, .int .i64 0, .int .i64 created, .bool dated, .int .u64 0, .float .f64 0, .slice a1 0 a1c, .int .i64 0, .bool false, .int .i32 0, .float .f64 0, .int .u64 0, .slice a2 0 a2c, .slice a3 0 a3c, .slice a4 0 a4c, .slice a5 0 a5c, .slice a6 0 a6c, .int .u64 0, .float .f64 0, .slice a7 0 a7c, .bool stamped, .int .i64 stamp] 55)).alloc (.cells #[.slice p2 L.length p2c, .int .i64 kind, .float .f64 val, .bool false, .float .f64 0, .slice b0 0 b0c, .int .i64 0, .int .i64 created, .bool dated, .int .u64 0, .float .f64 0, .slice b1 0 b1c, .int .i64 0, .bool false, .int .i32 0, .float .f64 0, .int .u64 0, .slice b2 0 b2c, .slice b3 0 b3c, .slice b4 0 b4c, .slice b5 0 b5c, .slice b6 0 b6c, .int .u64 0, .float .f64 0, .slice b7 0 b7c, .bool stamped, .int .i64 stamp] 55)) := ⟨_, rfl⟩
  have s2 : A.heap.size = w.heap.size + 1 + 1 := by rw [hA]; simp
  have hqb : Below w.heap.size w A := by rw [hA]; exact ((Below.refl _ _).alloc (Nat.le_refl _) _).alloc (by simp) _
  have HUp : Hid (∀ W : World, Below (w.heap.size + 1 + 1) A W → Below w.heap.size w W) := fun W h => hqb.trans (h.mono (by omega))
  have HTr : Hid (∀ W W' : World, Below (w.heap.size + 1 + 1) A W → Below W.heap.size W W' → Below (w.heap.size + 1 + 1) A W') := fun W W' h h' => h.trans (h'.mono (by have := h.size; omega))
  have HC : Hid (∀ W : World, Below (w.heap.size + 1 + 1) A W → W.cell? ⟨w.heap.size, 0, none⟩ = some (.slice p1 L.length p1c) ∧ W.cell? ⟨w.heap.size, 1, none⟩ = some (.int .i64 kind) ∧ W.cell? ⟨w.heap.size, 2, none⟩ = some (.float .f64 val) ∧ W.cell? ⟨w.heap.size, 3, none⟩ = some (.bool false) ∧ W.cell? ⟨w.heap.size, 4, none⟩ = some (.float .f64 0) ∧ W.cell? ⟨w.heap.size, 5, none⟩ = some (.slice a0 0 a0c) ∧ W.cell? ⟨w.heap.size, 6, none⟩ = some (.int .i64 0) ∧ W.cell? ⟨w.heap.size, 7, none⟩ = some (.int .i64 created) ∧ W.cell? ⟨w.heap.size, 8, none⟩ = some (.bool dated) ∧ W.cell? ⟨w.heap.size, 9, none⟩ = some (.int .u64 0) ∧ W.cell? ⟨w.heap.size, 10, none⟩ = some (.float .f64 0) ∧ W.cell? ⟨w.heap.size, 11, none⟩ = some (.slice a1 0 a1c) ∧ W.cell? ⟨w.heap.size, 12, none⟩ = some (.int .i64 0) ∧ W.cell? ⟨w.heap.size, 13, none⟩ = some (.bool false) ∧ W.cell? ⟨w.heap.size, 14, none⟩ = some (.int .i32 0) ∧ W.cell? ⟨w.heap.size, 15, none⟩ = some (.float .f64 0) ∧ W.cell? ⟨w.heap.size, 16, none⟩ = some (.int .u64 0) ∧ W.cell? ⟨w.heap.size, 17, none⟩ = some (.slice a2 0 a2c) ∧ W.cell? ⟨w.heap.size, 18, none⟩ = some (.slice a3 0 a3c) ∧ W.cell? ⟨w.heap.size, 19, none⟩ = some (.slice a4 0 a4c) ∧ W.cell? ⟨w.heap.size, 20, none⟩ = some (.slice a5 0 a5c) ∧ W.cell? ⟨w.heap.size, 21, none⟩ = some (.slice a6 0 a6c) ∧ W.cell? ⟨w.heap.size, 22, none⟩ = some (.int .u64 0) ∧ W.cell? ⟨w.heap.size, 23, none⟩ = some (.float .f64 0) ∧ W.cell? ⟨w.heap.size, 24, none⟩ = some (.slice a7 0 a7c) ∧ W.cell? ⟨w.heap.size, 25, none⟩ = some (.bool stamped) ∧ W.cell? ⟨w.heap.size, 26, none⟩ = some (.int .i64 stamp) ∧ W.cell? ⟨w.heap.size + 1, 0, none⟩ = some (.slice p2 L.length p2c) ∧ W.cell? ⟨w.heap.size + 1, 1, none⟩ = some (.int .i64 kind) ∧ W.cell? ⟨w.heap.size + 1, 2, none⟩ = some (.float .f64 val) ∧ W.cell? ⟨w.heap.size + 1, 3, none⟩ = some (.bool false) ∧ W.cell? ⟨w.heap.size + 1, 4, none⟩ = some (.float .f64 0) ∧ W.cell? ⟨w.heap.size + 1, 5, none⟩ = some (.slice b0 0 b0c) ∧ W.cell? ⟨w.heap.size + 1, 6, none⟩ = some (.int .i64 0) ∧ W.cell? ⟨w.heap.size + 1, 7, none⟩ = some (.int .i64 created) ∧ W.cell? ⟨w.heap.size + 1, 8, none⟩ = some (.bool dated) ∧ W.cell? ⟨w.heap.size + 1, 9, none⟩ = some (.int .u64 0) ∧ W.cell? ⟨w.heap.size + 1, 10, none⟩ = some (.float .f64 0) ∧ W.cell? ⟨w.heap.size + 1, 11, none⟩ = some (.slice b1 0 b1c) ∧ W.cell? ⟨w.heap.size + 1, 12, none⟩ = some (.int .i64 0) ∧ W.cell? ⟨w.heap.size + 1, 13, none⟩ = some (.bool false) ∧ W.cell? ⟨w.heap.size + 1, 14, none⟩ = some (.int .i32 0) ∧ W.cell? ⟨w.heap.size + 1, 15, none⟩ = some (.float .f64 0) ∧ W.cell? ⟨w.heap.size + 1, 16, none⟩ = some (.int .u64 0) ∧ W.cell? ⟨w.heap.size + 1, 17, none⟩ = some (.slice b2 0 b2c) ∧ W.cell? ⟨w.heap.size + 1, 18, none⟩ = some (.slice b3 0 b3c) ∧ W.cell? ⟨w.heap.size + 1, 19, none⟩ = some (.slice b4 0 b4c) ∧ W.cell? ⟨w.heap.size + 1, 20, none⟩ = some (.slice b5 0 b5c) ∧ W.cell? ⟨w.heap.size + 1, 21, none⟩ = some (.slice b6 0 b6c) ∧ W.cell? ⟨w.heap.size + 1, 22, none⟩ = some (.int .u64 0) ∧ W.cell? ⟨w.heap.size + 1, 23, none⟩ = some (.float .f64 0) ∧ W.cell? ⟨w.heap.size + 1, 24, none⟩ = some (.slice b7 0 b7c) ∧ W.cell? ⟨w.heap.size + 1, 25, none⟩ = some (.bool stamped) ∧ W.cell? ⟨w.heap.size + 1, 26, none⟩ = some (.int .i64 stamp)) := fun W h => by
    rw [hA] at h
    have e : ∀ j, W.cell? ⟨w.heap.size, j, none⟩ = (#[.slice p1 L.length p1c, .int .i64 kind, .float .f64 val, .bool false, .float .f64 0, .slice a0 0 a0c, .int .i64 0, .int .i64 created, .bool dated, .int .u64 0, .float .f64 0, .slice a1 0 a1c, .int .i64 0, .bool false, .int .i32 0, .float .f64 0, .int .u64 0, .slice a2 0 a2c, .slice a3 0 a3c, .slice a4 0 a4c, .slice a5 0 a5c, .slice a6 0 a6c, .int .u64 0, .float .f64 0, .slice a7 0 a7c, .bool stamped, .int .i64 stamp] : Array Value)[j]? := fun j => ((h.cell (p := ⟨w.heap.size, j, none⟩) (by show w.heap.size < w.heap.size + 1 + 1; omega)).trans (Sl.cell_old _ _ _ _ (by rw [s1]; omega))).trans (Sl.cell_new w _ _ j)
    have e2 : ∀ j, W.cell? ⟨w.heap.size + 1, j, none⟩ = (#[.slice p2 L.length p2c, .int .i64 kind, .float .f64 val, .bool false, .float .f64 0, .slice b0 0 b0c, .int .i64 0, .int .i64 created, .bool dated, .int .u64 0, .float .f64 0, .slice b1 0 b1c, .int .i64 0, .bool false, .int .i32 0, .float .f64 0, .int .u64 0, .slice b2 0 b2c, .slice b3 0 b3c, .slice b4 0 b4c, .slice b5 0 b5c, .slice b6 0 b6c, .int .u64 0, .float .f64 0, .slice b7 0 b7c, .bool stamped, .int .i64 stamp] : Array Value)[j]? := fun j => by
      have h1 := Sl.cell_new (w.alloc (.cells #[.slice p1 L.length p1c, .int .i64 kind, .float .f64 val, .bool false, .float .f64 0, .slice a0 0 a0c, .int .i64 0, .int .i64 created, .bool dated, .int .u64 0, .float .f64 0, .slice a1 0 a1c, .int .i64 0, .bool false, .int .i32 0, .float .f64 0, .int .u64 0, .slice a2 0 a2c, .slice a3 0 a3c, .slice a4 0 a4c, .slice a5 0 a5c, .slice a6 0 a6c, .int .u64 0, .float .f64 0, .slice a7 0 a7c, .bool stamped, .int .i64 stamp] 55)) #[.slice p2 L.length p2c, .int .i64 kind, .float .f64 val, .bool false, .float .f64 0, .slice b0 0 b0c, .int .i64 0, .int .i64 created, .bool dated, .int .u64 0, .float .f64 0, .slice b1 0 b1c, .int .i64 0, .bool false, .int .i32 0, .float .f64 0, .int .u64 0, .slice b2 0 b2c, .slice b3 0 b3c, .slice b4 0 b4c, .slice b5 0 b5c, .slice b6 0 b6c, .int .u64 0, .float .f64 0, .slice b7 0 b7c, .bool stamped, .int .i64 stamp] 55 j
      rw [s1] at h1
      exact (h.cell (p := ⟨w.heap.size + 1, j, none⟩) (by show w.heap.size + 1 < w.heap.size + 1 + 1; omega)).trans h1
    exact ⟨e 0, e 1, e 2, e 3, e 4, e 5, e 6, e 7, e 8, e 9, e 10, e 11, e 12, e 13, e 14, e 15, e 16, e 17, e 18, e 19, e 20, e 21, e 22, e 23, e 24, e 25, e 26, e2 0, e2 1, e2 2, e2 3, e2 4, e2 5, e2 6, e2 7, e2 8, e2 9, e2 10, e2 11, e2 12, e2 13, e2 14, e2 15, e2 16, e2 17, e2 18, e2 19, e2 20, e2 21, e2 22, e2 23, e2 24, e2 25, e2 26⟩
  have HB0 : Hid (Below (w.heap.size + 1 + 1) A A) := Below.refl _ _
  have CP : Hid (∀ W : World, Below (w.heap.size + 1 + 1) A W → Calls Tryz.prog 43 #[.slice p1 L.length p1c, .slice p2 L.length p2c] W fun e w' => e = .returned (.bool true) ∧ Below (w.heap.size + 1 + 1) A w') := fun W h =>
    (samePairs_any L L _ _ W (ha.below (HUp.out W h)) (hb.below (HUp.out W h)) hL hL).mono fun e w' ⟨he, hb⟩ => ⟨by rw [he, pairsB_iff.2 rfl], HTr.out _ _ h hb⟩
  have CM : Hid (∀ W : World, Below (w.heap.size + 1 + 1) A W → Calls Tryz.prog 44 #[.agg #[.float .f64 0, .slice a0 0 a0c, .int .i64 0], .agg #[.float .f64 0, .slice b0 0 b0c, .int .i64 0]] W fun e w' => e = .returned (.bool true) ∧ Below (w.heap.size + 1 + 1) A w') := fun W h =>
    (sameMark_zero _ _ _ _ W).mono fun e w' ⟨he, hb⟩ => ⟨he, HTr.out _ _ h hb⟩
  have CH : Hid (∀ W : World, Below (w.heap.size + 1 + 1) A W → Calls Tryz.prog 45 #[.agg #[.int .u64 0, .float .f64 0, .slice a1 0 a1c, .int .i64 0, .bool false, .int .i32 0, .float .f64 0, .int .u64 0, .slice a2 0 a2c, .slice a3 0 a3c, .slice a4 0 a4c, .slice a5 0 a5c, .slice a6 0 a6c], .agg #[.int .u64 0, .float .f64 0, .slice b1 0 b1c, .int .i64 0, .bool false, .int .i32 0, .float .f64 0, .int .u64 0, .slice b2 0 b2c, .slice b3 0 b3c, .slice b4 0 b4c, .slice b5 0 b5c, .slice b6 0 b6c]] W fun e w' => e = .returned (.bool true) ∧ Below (w.heap.size + 1 + 1) A w') := fun W h =>
    (sameHist_zero _ _ _ _ _ _ _ _ _ _ _ _ _ _ _ _ _ _ _ _ _ _ _ _ W).mono fun e w' ⟨he, hb⟩ => ⟨he, HTr.out _ _ h hb⟩
  have hk : (kind == kind) = true := beq_self_eq_true _
  clear ha hb hqb s1 s2
  go_enter Tryz.func12, Tryz.ntmps12
  go_wp2_with fail
  rw [← hA]
  clear hA
  have k0 := HC.out A HB0.out
  refine (CP.out A HB0.out).mono ?_
  rintro e w1 ⟨rfl, hb1⟩
  have k1 := HC.out w1 hb1
  have HB1 := Lib.hid hb1
  clear k0 hb1
  go_wp2_with (go_at_call 26; refine (sameNum_self _ _).mono ?_; rintro e w' ⟨rfl, rfl⟩)
  refine (CM.out w1 HB1.out).mono ?_
  rintro e w2 ⟨rfl, hb2⟩
  have k2 := HC.out w2 hb2
  have HB2 := Lib.hid hb2
  clear k1 hb2
  go_wp2_with fail
  refine (CH.out w2 HB2.out).mono ?_
  rintro e w3 ⟨rfl, hb3⟩
  have k3 := HC.out w3 hb3
  have HB3 := Lib.hid (HUp.out _ hb3)
  clear k2 hb3
  go_wp2_with (first
    | (go_at_call 26; refine (sameNum_self _ _).mono ?_; rintro e w' ⟨rfl, rfl⟩)
    | (go_at_call 46; refine (sameQuantiles_nil _ _ _ _ _).mono ?_; rintro e w' ⟨rfl, rfl⟩))
  go_ret
  exact ⟨rfl, HB3.out⟩

end Go.Proofs.YtlolomodcbkblaaGreatDoor.Mt
