/- Metrics: conversions and comparisons where nothing is there: nil lists, marks and histograms that are zero. Metrics: kinds; the reference's labels of a metric (spec.Labels) walked. Metrics: a single value laid into a metric (dto.Of, populateMetric). Regions that draw their order: a call that hands back one value and leaves the world as it is may be taken first, wherever it may come up. Descriptors: how much the data hold (plain Lean). -/
import Derived.Test.YtlolomodcbkblaaGreatDoorMg12
import Derived.Test.YtlolomodcbkblaaGreatDoorMg7
import Derived.Deep.RegionHeld3
import Derived.Test.YtlolomodcbkblaaGreatDoorNla
import Derived.Test.YtlolomodcbkblaaGreatDoorProg
import Derived.Test.YtlolomodcbkblaaGreatDoorNsb
set_option linter.unusedVariables false
set_option linter.unusedSimpArgs false
namespace Go.Proofs.YtlolomodcbkblaaGreatDoor.Mt
open Go.RowKit Go.Maps Go.WideMaps Go.ChangeShapes Go.WideShapes Go.Deep Fp Obs _root_.Go.Proofs.YtlolomodcbkblaaGreatDoor.Nd

set_option maxHeartbeats 1000000 in
set_option maxRecDepth 100000 in
theorem bucketsFrom_nil (a : Option Addr) (c : Nat) (w : World) : Calls Tryz.prog 92 #[.slice a 0 c] w fun e w' => e = .returned (.slice none 0 0) ∧ w = w' := by
  go_enter Tryz.func92, Tryz.ntmps92
  go_wp2
  go_loopw [3, 4] (fun vu vk wr => vu = .slice none 0 0 ∧ vk = .int .i64 0 ∧ w = wr) (fun _ _ _ => 0)
  case atStart => exact ⟨rfl, rfl, rfl⟩
  case round =>
    obtain ⟨rfl, rfl, rfl⟩ := hrel
    go_wp2
    go_ret
    exact ⟨rfl, rfl⟩
set_option maxHeartbeats 1000000 in
set_option maxRecDepth 100000 in
theorem runsFrom_nil (a : Option Addr) (c : Nat) (w : World) : Calls Tryz.prog 93 #[.slice a 0 c] w fun e w' => e = .returned (.slice none 0 0) ∧ w = w' := by
  go_enter Tryz.func93, Tryz.ntmps93
  go_wp2
  go_loopw [3, 4] (fun vu vk wr => vu = .slice none 0 0 ∧ vk = .int .i64 0 ∧ w = wr) (fun _ _ _ => 0)
  case atStart => exact ⟨rfl, rfl, rfl⟩
  case round =>
    obtain ⟨rfl, rfl, rfl⟩ := hrel
    go_wp2
    go_ret
    exact ⟨rfl, rfl⟩
set_option maxHeartbeats 1000000 in
set_option maxRecDepth 100000 in
theorem marksFrom_nil (a : Option Addr) (c : Nat) (w : World) : Calls Tryz.prog 94 #[.slice a 0 c] w fun e w' => e = .returned (.slice none 0 0) ∧ w = w' := by
  go_enter Tryz.func94, Tryz.ntmps94
  go_wp2
  go_loopw [3, 4] (fun vu vk wr => vu = .slice none 0 0 ∧ vk = .int .i64 0 ∧ w = wr) (fun _ _ _ => 0)
  case atStart => exact ⟨rfl, rfl, rfl⟩
  case round =>
    obtain ⟨rfl, rfl, rfl⟩ := hrel
    go_wp2
    go_ret
    exact ⟨rfl, rfl⟩
set_option maxHeartbeats 1000000 in
set_option maxRecDepth 100000 in
theorem quantilesFrom_nil (a : Option Addr) (c : Nat) (w : World) : Calls Tryz.prog 50 #[.slice a 0 c] w fun e w' => e = .returned (.slice none 0 0) ∧ w = w' := by
  go_enter Tryz.func50, Tryz.ntmps50
  go_wp2
  go_loopw [3, 4] (fun vu vk wr => vu = .slice none 0 0 ∧ vk = .int .i64 0 ∧ w = wr) (fun _ _ _ => 0)
  case atStart => exact ⟨rfl, rfl, rfl⟩
  case round =>
    obtain ⟨rfl, rfl, rfl⟩ := hrel
    go_wp2
    go_ret
    exact ⟨rfl, rfl⟩
set_option maxHeartbeats 1000000 in
set_option maxRecDepth 100000 in
theorem pairsFrom_nil (a : Option Addr) (c : Nat) (w : World) : Calls Tryz.prog 47 #[.slice a 0 c] w fun e w' => e = .returned (.slice none 0 0) ∧ w = w' := by
  go_enter Tryz.func47, Tryz.ntmps47
  go_wp2
  go_loopw [3, 4] (fun vu vk wr => vu = .slice none 0 0 ∧ vk = .int .i64 0 ∧ w = wr) (fun _ _ _ => 0)
  case atStart => exact ⟨rfl, rfl, rfl⟩
  case round =>
    obtain ⟨rfl, rfl, rfl⟩ := hrel
    go_wp2
    go_ret
    exact ⟨rfl, rfl⟩
set_option maxHeartbeats 1000000 in
set_option maxRecDepth 100000 in
theorem sameBuckets_nil (a b : Option Addr) (c d : Nat) (w : World) : Calls Tryz.prog 87 #[.slice a 0 c, .slice b 0 d] w fun e w' => e = .returned (.bool true) ∧ w = w' := by
  go_enter Tryz.func87, Tryz.ntmps87
  go_wp2
  go_loopw [5] (fun vk wr => vk = .int .i64 0 ∧ w = wr) (fun _ _ => 0)
  case atStart => exact ⟨rfl, rfl⟩
  case round =>
    obtain ⟨rfl, rfl⟩ := hrel
    go_wp2
    go_ret
    exact ⟨rfl, rfl⟩
set_option maxHeartbeats 1000000 in
set_option maxRecDepth 100000 in
theorem sameRuns_nil (a b : Option Addr) (c d : Nat) (w : World) : Calls Tryz.prog 88 #[.slice a 0 c, .slice b 0 d] w fun e w' => e = .returned (.bool true) ∧ w = w' := by
  go_enter Tryz.func88, Tryz.ntmps88
  go_wp2
  go_loopw [5] (fun vk wr => vk = .int .i64 0 ∧ w = wr) (fun _ _ => 0)
  case atStart => exact ⟨rfl, rfl⟩
  case round =>
    obtain ⟨rfl, rfl⟩ := hrel
    go_wp2
    go_ret
    exact ⟨rfl, rfl⟩
set_option maxHeartbeats 1000000 in
set_option maxRecDepth 100000 in
theorem sameDeltas_nil (a b : Option Addr) (c d : Nat) (w : World) : Calls Tryz.prog 89 #[.slice a 0 c, .slice b 0 d] w fun e w' => e = .returned (.bool true) ∧ w = w' := by
  go_enter Tryz.func89, Tryz.ntmps89
  go_wp2
  go_loopw [5] (fun vk wr => vk = .int .i64 0 ∧ w = wr) (fun _ _ => 0)
  case atStart => exact ⟨rfl, rfl⟩
  case round =>
    obtain ⟨rfl, rfl⟩ := hrel
    go_wp2
    go_ret
    exact ⟨rfl, rfl⟩
set_option maxHeartbeats 1000000 in
set_option maxRecDepth 100000 in
theorem sameMarks_nil (a b : Option Addr) (c d : Nat) (w : World) : Calls Tryz.prog 90 #[.slice a 0 c, .slice b 0 d] w fun e w' => e = .returned (.bool true) ∧ w = w' := by
  go_enter Tryz.func90, Tryz.ntmps90
  go_wp2
  go_loopw [5] (fun vk wr => vk = .int .i64 0 ∧ w = wr) (fun _ _ => 0)
  case atStart => exact ⟨rfl, rfl⟩
  case round =>
    obtain ⟨rfl, rfl⟩ := hrel
    go_wp2
    go_ret
    exact ⟨rfl, rfl⟩
set_option maxHeartbeats 1000000 in
set_option maxRecDepth 100000 in
theorem sameQuantiles_nil (a b : Option Addr) (c d : Nat) (w : World) : Calls Tryz.prog 46 #[.slice a 0 c, .slice b 0 d] w fun e w' => e = .returned (.bool true) ∧ w = w' := by
  go_enter Tryz.func46, Tryz.ntmps46
  go_wp2
  go_loopw [5] (fun vk wr => vk = .int .i64 0 ∧ w = wr) (fun _ _ => 0)
  case atStart => exact ⟨rfl, rfl⟩
  case round =>
    obtain ⟨rfl, rfl⟩ := hrel
    go_wp2
    go_ret
    exact ⟨rfl, rfl⟩
set_option maxHeartbeats 1000000 in
set_option maxRecDepth 100000 in
theorem samePairs_nil (a b : Option Addr) (c d : Nat) (w : World) : Calls Tryz.prog 43 #[.slice a 0 c, .slice b 0 d] w fun e w' => e = .returned (.bool true) ∧ w = w' := by
  go_enter Tryz.func43, Tryz.ntmps43
  go_wp2
  go_loopw [5] (fun vk wr => vk = .int .i64 0 ∧ w = wr) (fun _ _ => 0)
  case atStart => exact ⟨rfl, rfl⟩
  case round =>
    obtain ⟨rfl, rfl⟩ := hrel
    go_wp2
    go_ret
    exact ⟨rfl, rfl⟩
set_option maxHeartbeats 1000000 in
set_option maxRecDepth 100000 in
theorem sameNum_self (z : Nat) (w : World) : Calls Tryz.prog 26 #[.float .f64 z, .float .f64 z] w fun e w' => e = .returned (.bool true) ∧ w = w' := by
  have h : (FloatKind.f64.format.order z z == some Ordering.eq) = true ∨ (FloatKind.f64.format.order z z == some Ordering.eq) = false := by
    cases (FloatKind.f64.format.order z z == some Ordering.eq) <;> simp
  rcases h with h | h
  · go_enter Tryz.func26, Tryz.ntmps26
    go_wp2
    go_ret
    exact ⟨rfl, rfl⟩
  · have h2 : (FloatKind.f64.format.order z z != some Ordering.eq) = true := by rw [bne, h]; rfl
    go_enter Tryz.func26, Tryz.ntmps26
    go_wp2
    go_ret
    exact ⟨rfl, rfl⟩

set_option maxHeartbeats 4000000 in
set_option maxRecDepth 100000 in
theorem sameMark_zero (a b : Option Addr) (c d : Nat) (w : World) :
    Calls Tryz.prog 44 #[.agg #[.float .f64 0, .slice a 0 c, .int .i64 0], .agg #[.float .f64 0, .slice b 0 d, .int .i64 0]] w fun e w' => e = .returned (.bool true) ∧ Below w.heap.size w w' := by
  have hb : Hid (Below w.heap.size w ((w.alloc (.cells #[.float .f64 0, .slice a 0 c, .int .i64 0] 47)).alloc (.cells #[.float .f64 0, .slice b 0 d, .int .i64 0] 47))) := ((Below.refl _ _).alloc (Nat.le_refl _) _).alloc (by simp) _
  go_enter Tryz.func44, Tryz.ntmps44
  go_wp2_with (first
    | (go_at_call 26; refine (sameNum_self _ _).mono ?_; rintro e w' ⟨rfl, rfl⟩)
    | (go_at_call 43; refine (samePairs_nil _ _ _ _ _).mono ?_; rintro e w' ⟨rfl, rfl⟩))
  go_ret
  exact ⟨rfl, hb.out⟩

end Go.Proofs.YtlolomodcbkblaaGreatDoor.Mt

set_option linter.unusedVariables false
set_option linter.unusedSimpArgs false
namespace Go.Proofs.YtlolomodcbkblaaGreatDoor.Mt
open Go.RowKit Go.Maps Go.WideMaps Go.ChangeShapes Go.WideShapes Go.Deep Fp Obs _root_.Go.Proofs.YtlolomodcbkblaaGreatDoor.Nd

theorem al_cell {W : World} {b j : Nat} {v : Value} (o : Obj) (h : W.cell? ⟨b, j, none⟩ = some v) : (W.alloc o).cell? ⟨b, j, none⟩ = some v := by
  rw [World.cell?_alloc_past (w := W) o b _ (World.block_lt_of_cell? W (a := ⟨b, j, none⟩) h)]; exact h
/-- one of the kinds with a single value -/
def kindOf (k : Nat) : Int := if k % 3 = 0 then 0 else if k % 3 = 1 then 1 else 3
theorem kind_cases (k : Nat) : kindOf k = 0 ∨ kindOf k = 1 ∨ kindOf k = 3 := by
  unfold kindOf
  split
  · simp
  · split <;> simp
def typeOf (k : Int) : Int := if k = 0 then 1 else if k = 1 then 2 else 3
set_option maxHeartbeats 1000000 in
set_option maxRecDepth 100000 in
theorem valueType_any (k : Int) (hk : k = 0 ∨ k = 1 ∨ k = 3) (w : World) : Calls Tryz.prog 81 #[.int .i64 k] w fun e w' => e = .returned (.int .i64 (typeOf k)) ∧ w = w' := by
  rcases hk with rfl | rfl | rfl
  all_goals
    go_enter Tryz.func81, Tryz.ntmps81
    go_wp2
    go_ret
    exact ⟨rfl, rfl⟩

def LabOut (V X : List ByteArray) (L : List P2) (w : World) (e : Ending) (w' : World) : Prop :=
  ∃ v, e = .returned v ∧ w'.ownsRow w.heap.size 138 2 v (labs V X (fit L)).length ((labs V X (fit L)).flatMap pc) ∧ Below w.heap.size w w'
end Go.Proofs.YtlolomodcbkblaaGreatDoor.Mt

set_option linter.unusedVariables false
set_option linter.unusedSimpArgs false
namespace Go.Proofs.YtlolomodcbkblaaGreatDoor.Mt
open Go.RowKit Go.Maps Go.WideMaps Go.ChangeShapes Go.WideShapes Go.Deep Fp Obs _root_.Go.Proofs.YtlolomodcbkblaaGreatDoor.Nd

abbrev ptr (b : Nat) : Value := .pointer (some ⟨b, 0, none⟩)
abbrev nilp : Value := .pointer none
/-- the cells of a metric with a single value -/
def mcs (lv : Value) (kind : Int) (vb : Nat) (ts : Value) : Array Value :=
  #[lv, if kind = 1 then ptr vb else nilp, if kind = 0 then ptr vb else nilp, nilp, if kind = 3 then ptr vb else nilp, nilp, ts]
theorem mcs0 (lv : Value) (vb : Nat) (ts : Value) : mcs lv 0 vb ts = #[lv, nilp, ptr vb, nilp, nilp, nilp, ts] := rfl
theorem mcs1 (lv : Value) (vb : Nat) (ts : Value) : mcs lv 1 vb ts = #[lv, ptr vb, nilp, nilp, nilp, nilp, ts] := rfl
theorem mcs3 (lv : Value) (vb : Nat) (ts : Value) : mcs lv 3 vb ts = #[lv, nilp, nilp, nilp, ptr vb, nilp, ts] := rfl
/-- the value's block, with what belongs to it -/
structure ValAt (W : World) (kind : Int) (vb f : Nat) (val : Nat) (ct : Value) : Prop where
  v0 : W.cell? ⟨vb, 0, none⟩ = some (ptr f)
  v1 : kind = 0 → W.cell? ⟨vb, 1, none⟩ = some nilp
  v2 : kind = 0 → W.cell? ⟨vb, 2, none⟩ = some ct
  fv : W.cell? ⟨f, 0, none⟩ = some (.float .f64 val)
  lt : vb < W.heap.size ∧ f < W.heap.size
theorem ValAt.below {W W' : World} {kind : Int} {vb f val : Nat} {ct : Value} (h : ValAt W kind vb f val ct) (k : Below W.heap.size W W') : ValAt W' kind vb f val ct :=
  ⟨(k.cell (p := ⟨vb, 0, none⟩) h.lt.1).trans h.v0, fun e => (k.cell (p := ⟨vb, 1, none⟩) h.lt.1).trans (h.v1 e), fun e => (k.cell (p := ⟨vb, 2, none⟩) h.lt.1).trans (h.v2 e), (k.cell (p := ⟨f, 0, none⟩) h.lt.2).trans h.fv, Nat.lt_of_lt_of_le h.lt.1 k.size, Nat.lt_of_lt_of_le h.lt.2 k.size⟩
theorem ofFloat_any (val : Nat) (w : World) : Calls Tryz.prog 113 #[.float .f64 val] w fun e w' => e = .returned (ptr w.heap.size) ∧ w' = w.alloc (.cells #[.float .f64 val] 24) := by
  go_enter Tryz.func113, Tryz.ntmps113
  go_wp2
  go_ret
  exact ⟨rfl, rfl⟩
/-- the metric in block b filled; nothing else that was there has changed -/
def PopOut (lv : Value) (kind : Int) (val b : Nat) (ct : Value) (w : World) (e : Ending) (w' : World) : Prop :=
  e = .returned .nilIface ∧ Whole w' b 201 (mcs lv kind (w.heap.size + 1) nilp) ∧ ValAt w' kind (w.heap.size + 1) w.heap.size val ct ∧ w.grownBy w' (some b)
theorem pop_fin {lv : Value} {kind : Int} {val b : Nat} {ct : Value} {w : World} (T2 : TypeId) (cs : Array Value) (i j : Nat) (u0 u : Value) (hb : Whole w b 201 #[.slice none 0 0, nilp, nilp, nilp, nilp, nilp, nilp])
    (hc : ((#[.slice none 0 0, nilp, nilp, nilp, nilp, nilp, nilp] : Array Value).setIfInBounds i u0).setIfInBounds j u = mcs lv kind (w.heap.size + 1) nilp) (h0 : cs[0]? = some (ptr w.heap.size)) (h1 : kind = 0 → cs[1]? = some nilp) (h2 : kind = 0 → cs[2]? = some ct) :
    PopOut lv kind val b ct w (.returned .nilIface) ((((w.setCell ⟨b, i, none⟩ u0).setCell ⟨b, j, none⟩ u).alloc (.cells #[.float .f64 val] 24)).alloc (.cells cs T2)) := by
  obtain ⟨W0, hW0⟩ : ∃ W0, W0 = (w.setCell ⟨b, i, none⟩ u0).setCell ⟨b, j, none⟩ u := ⟨_, rfl⟩
  have hs : W0.heap.size = w.heap.size := by rw [hW0]; simp [World.setCell]
  have hg : w.grownBy W0 (some b) := by
    rw [hW0]
    refine ⟨rfl, rfl, rfl, by simp [World.setCell], fun k hk hne => ?_⟩
    have hkb : k ≠ b := by rintro rfl; exact hne rfl
    rw [Below.heap_setCell _ ⟨b, j, none⟩ _ k hkb, Below.heap_setCell _ ⟨b, i, none⟩ _ k hkb]
  have hW : Whole W0 b 201 (mcs lv kind (w.heap.size + 1) nilp) := by rw [hW0, ← hc]; exact (hb.put i u0).put j u
  rw [← hW0]
  clear hW0 hc
  have s1 : (W0.alloc (.cells #[.float .f64 val] 24)).heap.size = w.heap.size + 1 := by simp [hs]
  have hq : Below w.heap.size W0 ((W0.alloc (.cells #[.float .f64 val] 24)).alloc (.cells cs T2)) := ((Below.refl _ _).alloc (by omega) _).alloc (by rw [s1]; omega) _
  have e1 : ∀ k, ((W0.alloc (.cells #[.float .f64 val] 24)).alloc (.cells cs T2)).cell? ⟨w.heap.size + 1, k, none⟩ = cs[k]? := fun k => by rw [← s1]; exact Sl.cell_new _ _ _ k
  have e2 : ((W0.alloc (.cells #[.float .f64 val] 24)).alloc (.cells cs T2)).cell? ⟨w.heap.size, 0, none⟩ = some (.float .f64 val) := by
    rw [Sl.cell_old _ _ _ _ (by rw [s1]; omega), ← hs]; exact Sl.cell_new W0 _ _ 0
  have hlt : b < w.heap.size := hb.lt
  refine ⟨rfl, (hq.block b hlt).trans hW, ⟨by rw [e1, h0], fun h => by rw [e1, h1 h], fun h => by rw [e1, h2 h], e2, by simp [hs]; omega⟩, ⟨hg.os, hg.tape, hg.output, by simp [hs]; omega, fun k hk hne => ?_⟩⟩
  rw [hq.block k hk]
  exact hg.block k hk hne
set_option maxHeartbeats 4000000 in
set_option maxRecDepth 100000 in
theorem populate_any (al : Option Addr) (nl cl : Nat) (kind : Int) (hk : kind = 0 ∨ kind = 1 ∨ kind = 3) (val b : Nat) (ct : Option Addr) (w : World) (hb : Whole w b 201 #[.slice none 0 0, nilp, nilp, nilp, nilp, nilp, nilp]) :
    Calls Tryz.prog 117 #[.int .i64 (typeOf kind), .float .f64 val, .slice al nl cl, nilp, ptr b, .pointer ct] w (PopOut (.slice al nl cl) kind val b (.pointer ct) w) := by
  have hlt := hb.lt
  have c0 : w.cell? ⟨b, 0, none⟩ = some (.slice none 0 0) := hb.cell 0
  have f0 := hb.free 0
  have c1 : w.cell? ⟨b, 1, none⟩ = some nilp := hb.cell 1
  have f1 := hb.free 1
  have c2 : w.cell? ⟨b, 2, none⟩ = some nilp := hb.cell 2
  have f2 := hb.free 2
  have c4 : w.cell? ⟨b, 4, none⟩ = some nilp := hb.cell 4
  have f4 := hb.free 4
  have HB := Lib.hid hb
  clear hb
  rcases hk with rfl | rfl | rfl
  · show Calls _ _ #[.int .i64 1, _, _, _, _, _] _ _
    go_enter Tryz.func117, Tryz.ntmps117
    go_wp2_with (go_at_call 113; refine (ofFloat_any _ _).mono ?_; rintro e w' ⟨rfl, rfl⟩)
    go_ret
    exact pop_fin 276 #[ptr w.heap.size, nilp, .pointer ct] 0 2 _ _ HB.out rfl rfl (fun _ => rfl) (fun _ => rfl)
  · show Calls _ _ #[.int .i64 2, _, _, _, _, _] _ _
    go_enter Tryz.func117, Tryz.ntmps117
    go_wp2_with (go_at_call 113; refine (ofFloat_any _ _).mono ?_; rintro e w' ⟨rfl, rfl⟩)
    go_ret
    exact pop_fin 279 #[ptr w.heap.size] 0 1 _ _ HB.out rfl rfl (fun h => by cases h) (fun h => by cases h)
  · show Calls _ _ #[.int .i64 3, _, _, _, _, _] _ _
    go_enter Tryz.func117, Tryz.ntmps117
    go_wp2_with (go_at_call 113; refine (ofFloat_any _ _).mono ?_; rintro e w' ⟨rfl, rfl⟩)
    go_ret
    exact pop_fin 280 #[ptr w.heap.size] 0 4 _ _ HB.out rfl rfl (fun h => by cases h) (fun h => by cases h)

end Go.Proofs.YtlolomodcbkblaaGreatDoor.Mt

set_option linter.unusedVariables false
set_option linter.unusedSimpArgs false
namespace Go.Proofs.YtlolomodcbkblaaGreatDoor.Calm

section
variable {P : Program} {ops : Array Oper} {Q : Exit → Act → World → Prop} {md : Region.Mode} {S : World → Prop}

/-- in every world that meets S the operation enters a function that returns v and leaves that world -/
def Is (P : Program) (ops : Array Oper) (S : World → Prop) (o : Oper) (v : Value) (a : Act) : Prop :=
  Region.wanted o (yielded ops a.tmps) = true ∧ ∀ w, S w → ∃ f args, (execOp a.eval o).run P w = .ok (.enter f args) w ∧ Calls P f args w fun e w' => e = .returned v ∧ w = w'
theorem Is.goes {i : Nat} {o : Oper} {v : Value} {a : Act} (hi : ops[i]? = some o) (h : Is P ops S o v a) {K : Act → World → Prop} {w : World} (hS : S w) (hK : K (a.put o.dst v) w) : wpOp P ops Q i K a w := by
  obtain ⟨f, args, hr, hc⟩ := h.2 w hS
  unfold wpOp
  simp only [hi, h.1, if_true]
  left
  unfold Oper.wp
  rw [hr]
  simp only [Oper.upon]
  exact hc.mono fun e w' ⟨he, hw⟩ => by subst he; subst hw; exact hK
theorem Is.same {o : Oper} {v : Value} {a a' : Act} (h : Is P ops S o v a) (he : execOp a'.eval o = execOp a.eval o) (hw : Region.wanted o (yielded ops a'.tmps) = Region.wanted o (yielded ops a.tmps)) : Is P ops S o v a' := by
  unfold Is at *
  rw [he, hw]
  exact h
/-- what comes up apart from it may as well come up before it -/
theorem ahead {j : Nat} {oi oj : Oper} {v : Value} (hj : ops[j]? = some oj) (hap : oi.apart ops oj = true) (hsi : ∀ cs b, oi.op ≠ .select cs b) (hsj : ∀ cs b, oj.op ≠ .select cs b)
    (hQ : ∀ c a w, Q (.panic c) (a.put oi.dst v) w → Q (.panic c) a w) {K : Act → World → Prop} {a : Act} {w : World} (hy : Is P ops S oi v a) (h : wpOp P ops Q j K (a.put oi.dst v) w) :
    wpOp P ops Q j (fun a' w' => Is P ops S oi v a' ∧ K (a'.put oi.dst v) w') a w := by
  obtain ⟨h1, h2, h3⟩ := Oper.apart_spec hap
  have kp : ∀ (b : Act), Is P ops S oi v b → ∀ u, Is P ops S oi v (b.put oj.dst u) := fun b hb u => hb.same (execOp_put oi hsi b oj.dst u h3) (wanted_put oi b oj.dst u h3)
  have kd : ∀ d, Is P ops S oi v { a with defers := d :: a.defers } := fun d => hy.same rfl rfl
  unfold wpOp at *
  simp only [hj] at *
  rw [wanted_put oj a oi.dst v h1] at h
  by_cases hw : Region.wanted oj (yielded ops a.tmps) = true
  · simp only [hw, if_true] at h ⊢
    rcases h with h | ⟨ha, hl⟩
    · left
      unfold Oper.wp at *
      rw [execOp_put oj hsj a oi.dst v h1] at h
      revert h
      cases (execOp a.eval oj).run P w with
      | halt x w' =>
        cases x <;> simp only [Oper.upon] <;> intro h
        all_goals first
          | exact hQ _ _ _ h
          | exact h
      | ok n w' =>
        cases n <;> simp only [Oper.upon] <;> intro h
        case value u => exact ⟨kp a hy u, by rw [← Act.put_comm a v u h2]; exact h⟩
        case skip => exact ⟨kp a hy _, by rw [← Act.put_comm a v undef h2]; exact h⟩
        case defer d =>
          refine ⟨kp _ (kd d) _, ?_⟩
          rw [← Act.put_comm _ v undef h2, ← Act.put_defers]
          exact h
        case enter f args =>
          refine Calls.mono h fun e w'' he => ?_
          cases e with
          | returned u => exact ⟨kp a hy u, by rw [← Act.put_comm a v u h2]; exact he⟩
          | panicked c => exact hQ _ _ _ he
          | outgrown => exact he
        case row r l => exact Rows.mono h fun u w'' he => ⟨kp a hy u, by rw [← Act.put_comm a v u h2]; exact he⟩
        all_goals exact h
    · right
      refine ⟨?_, hl⟩
      unfold Oper.asks at *
      rw [execOp_put oj hsj a oi.dst v h1] at ha
      exact ha
  · simp only [hw] at h ⊢
    exact ⟨kp a hy _, by rw [← Act.put_comm a v undef h2]; exact h⟩
theorem first {i : Nat} {oi : Oper} {v : Value} (hi : ops[i]? = some oi) (hsel : ∀ (j : Nat) (o : Oper) cs b, ops[j]? = some o → o.op ≠ .select cs b) (hQ : ∀ c a w, Q (.panic c) (a.put oi.dst v) w → Q (.panic c) a w) :
    ∀ (fuel : Nat) (listed : Array Bool) (a : Act) (w : World),
      (∀ j oj, ops[j]? = some oj → j ≠ i → listed.getD j true = false → (∀ e ∈ oj.after, Region.binds md e = true → e.on ≠ i) → oi.apart ops oj = true) →
      i ∈ Region.ready md ops listed → Is P ops S oi v a → S w → wpAnyH P md ops Q S fuel (listed.setIfInBounds i true) (a.put oi.dst v) w → wpAnyH P md ops Q S (fuel + 1) listed a w := by
  intro fuel
  induction fuel with
  | zero =>
    intro listed a w _ hr hy hS H
    refine ⟨fun h => (by rw [h] at hr; cases hr), fun j hj => ?_⟩
    by_cases e : j = i
    · rw [e]; exact hy.goes hi hS ⟨hS, H⟩
    · have := ready_mono hj e
      rw [H.1] at this
      cases this
  | succ fuel ih =>
    intro listed a w hfree hr hy hS H
    refine ⟨fun h => (by rw [h] at hr; cases hr), fun j hj => ?_⟩
    by_cases e : j = i
    · rw [e]; exact hy.goes hi hS ⟨hS, H⟩
    · obtain ⟨hun, oj, hoj, hall⟩ := mem_ready.1 hj
      have hnot : ∀ d ∈ oj.after, Region.binds md d = true → d.on ≠ i := fun d hd hb heq => by
        have h1 := hall d hd hb
        have h0 := (mem_ready.1 hr).1
        rw [heq] at h1
        rcases Nat.lt_or_ge i listed.size with h' | h'
        · simp [h'] at h0 h1; rw [h0] at h1; cases h1
        · simp [Array.getElem?_eq_none h'] at h1
      have h2 := ahead hoj (hfree j oj hoj e hun hnot) (fun cs b => hsel i oi cs b hi) (fun cs b => hsel j oj cs b hoj) hQ hy (H.2 j (ready_mono hj e))
      refine wpOp_mono (fun a' w' h3 => ⟨h3.2.1, ih (listed.setIfInBounds j true) a' w' (fun k ok hk hki hu hno => hfree k ok hk hki ?_ hno) (ready_mono hr (Ne.symm e)) h3.1 h3.2.1 ?_⟩) h2
      · by_cases hjk : j = k
        · rw [← hjk]; exact hun
        · rw [getD_set_ne true hjk] at hu; exact hu
      · rw [Array.setIfInBounds_comm _ _ e]
        exact h3.2.2
/-- such a call is taken first -/
theorem take {i : Nat} {oi : Oper} {v : Value} {fuel : Nat} {listed : Array Bool} {a : Act} {w : World} (hi : ops[i]? = some oi) (hs : Region.noSelect ops = true) (hf : Region.free md ops listed i = true) (hr : (Region.ready md ops listed).contains i = true)
    (hQ : ∀ c a w, Q (.panic c) (a.put oi.dst v) w → Q (.panic c) a w) (hy : Is P ops S oi v a) (hS : S w) (h : wpAnyH P md ops Q S fuel (listed.setIfInBounds i true) (a.put oi.dst v) w) : wpAnyH P md ops Q S (fuel + 1) listed a w :=
  first hi (Region.noSelect_spec hs) hQ fuel listed a w (Region.free_spec hi hf) (by simpa using hr) hy hS h
end
end Go.Proofs.YtlolomodcbkblaaGreatDoor.Calm

set_option linter.unusedVariables false
set_option linter.unusedSimpArgs false
namespace Go.Proofs.YtlolomodcbkblaaGreatDoor.Nd
open Go.RowKit Go.ChangeShapes Go.WideShapes Go.Deep Fp

/-- how much a list of strings, of pairs holds -/
def wt (l : List ByteArray) : Nat := (l.map fun x => x.size + 1).sum
def wp (L : List P2) : Nat := (L.map fun p => (p.1.size + 1) + (p.2.size + 1)).sum
theorem wp_cons (p : P2) (L : List P2) : wp (p :: L) = (p.1.size + 1) + (p.2.size + 1) + wp L := by unfold wp; simp
theorem wp_app (a b : List P2) : wp (a ++ b) = wp a + wp b := by unfold wp; simp
theorem wt_cons (x : ByteArray) (l : List ByteArray) : wt (x :: l) = x.size + 1 + wt l := by unfold wt; simp
theorem wt_app (a b : List ByteArray) : wt (a ++ b) = wt a + wt b := by unfold wt; simp
theorem ins_wp (p : P2) : ∀ F : List P2, wp (ins p F) ≤ wp F + ((p.1.size + 1) + (p.2.size + 1))
  | [] => by simp [ins, wp]
  | q :: F => by
    have ih := ins_wp p F
    unfold ins
    split
    · simp only [wp_cons]; omega
    · split
      · simp only [wp_cons]; omega
      · simp only [wp_cons]; omega
theorem fit_wp (L : List P2) : wp (fit L) ≤ wp L := by
  refine snoc_ind (P := fun L => wp (fit L) ≤ wp L) (by simp [fit, wp]) (fun L p ih => ?_) L
  rw [fit_snoc, wp_app]
  have h := ins_wp p (fit L)
  have e : wp [p] = (p.1.size + 1) + (p.2.size + 1) := by simp [wp]
  omega
theorem wt_vals (F : List P2) : wt (F.map (·.2)) ≤ wp F := by
  induction F with
  | nil => exact Nat.le_refl _
  | cons p F ih => rw [List.map_cons, wt_cons, wp_cons]; omega
theorem wt_keys (F : List P2) : wt (F.map (·.1)) ≤ wp F := by
  induction F with
  | nil => exact Nat.le_refl _
  | cons p F ih => rw [List.map_cons, wt_cons, wp_cons]; omega
theorem seps_wt (l : List ByteArray) : (seps l).length = wt l := by
  induction l with
  | nil => rfl
  | cons x l ih => rw [seps_cons, List.length_append, List.length_cons, ih, wt_cons, dl_len]; omega
theorem wt_perm {a b : List ByteArray} (h : a.Perm b) : wt a = wt b := by
  unfold wt
  exact (h.map _).sum_nat
theorem wt_dollar (V : List ByteArray) : wt (V.map dollar) = wt V + V.length := by
  induction V with
  | nil => rfl
  | cons x l ih =>
    have e : (dollar x).size = x.size + 1 := by rw [← dl_len]; unfold dollar; rw [dl_mk, List.length_cons, dl_len]
    rw [List.map_cons, wt_cons, wt_cons, ih, e, List.length_cons]; omega
theorem mem_wt {x : ByteArray} {l : List ByteArray} (h : x ∈ l) : x.size ≤ wt l := by
  induction l with
  | nil => cases h
  | cons y l ih =>
    rw [wt_cons]
    rcases List.mem_cons.1 h with rfl | h
    · omega
    · have := ih h; omega
theorem mem_wp {p : P2} {L : List P2} (h : p ∈ L) : p.1.size + p.2.size ≤ wp L := by
  induction L with
  | nil => cases h
  | cons q l ih =>
    rw [wp_cons]
    rcases List.mem_cons.1 h with rfl | h
    · omega
    · have := ih h; omega
/-- the data are small -/
structure Small (nm hp un : ByteArray) (V : List ByteArray) (L : List P2) : Prop where
  all : nm.size + hp.size + un.size + wt V + wp L ≤ 67108864
  lenV : V.length ≤ 1048576
  lenL : L.length ≤ 1048576

end Go.Proofs.YtlolomodcbkblaaGreatDoor.Nd
