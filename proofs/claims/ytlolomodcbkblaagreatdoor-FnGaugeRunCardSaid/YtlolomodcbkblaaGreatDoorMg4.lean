/- Metrics: conversions and comparisons where nothing is there: nil lists, marks and histograms that are zero. Metrics: kinds; the reference's labels of a metric (spec.Labels) walked. Metrics: a single value laid into a metric (dto.Of, populateMetric). -/
import Derived.Test.YtlolomodcbkblaaGreatDoorNlb
import Derived.Test.YtlolomodcbkblaaGreatDoorNst
import Derived.Deep.RegionHeld3
import Derived.Test.YtlolomodcbkblaaGreatDoorNla
set_option linter.unusedVariables false
set_option linter.unusedSimpArgs false
namespace Go.Proofs.YtlolomodcbkblaaGreatDoor.Mt
open Go.RowKit Go.Maps Go.WideMaps Go.ChangeShapes Go.WideShapes Go.Deep Fp Obs _root_.Go.Proofs.YtlolomodcbkblaaGreatDoor.Nd

set_option maxHeartbeats 1000000 in
set_option maxRecDepth 100000 in
theorem bucketsFrom_nil (a : Option Addr) (c : Nat) (w : World) : Calls Tryz.prog 92 #[.slice a 0 c] w fun e w' => e = .returned (.slice none 0 0) ∧ w = w' := by
  go_enter Tryz.func92, Tryz.ntmps92
  go_wp2
  go_loopw [3, 4] (fun vu vk wr => vu = .slice none 0 0 ∧ vk = .int .i64 0 ∧ w = wr) (fun _ _ _ => 0)
  case atStart => exact ⟨rfl, rfl, rfl⟩
  case round =>
    obtain ⟨rfl, rfl, rfl⟩ := hrel
    go_wp2
    go_ret
    exact ⟨rfl, rfl⟩
set_option maxHeartbeats 1000000 in
set_option maxRecDepth 100000 in
theorem runsFrom_nil (a : Option Addr) (c : Nat) (w : World) : Calls Tryz.prog 93 #[.slice a 0 c] w fun e w' => e = .returned (.slice none 0 0) ∧ w = w' := by
  go_enter Tryz.func93, Tryz.ntmps93
  go_wp2
  go_loopw [3, 4] (fun vu vk wr => vu = .slice none 0 0 ∧ vk = .int .i64 0 ∧ w = wr) (fun _ _ _ => 0)
  case atStart => exact ⟨rfl, rfl, rfl⟩
  case round =>
    obtain ⟨rfl, rfl, rfl⟩ := hrel
    go_wp2
    go_ret
    exact ⟨rfl, rfl⟩
set_option maxHeartbeats 1000000 in
set_option maxRecDepth 100000 in
theorem marksFrom_nil (a : Option Addr) (c : Nat) (w : World) : Calls Tryz.prog 94 #[.slice a 0 c] w fun e w' => e = .returned (.slice none 0 0) ∧ w = w' := by
  go_enter Tryz.func94, Tryz.ntmps94
  go_wp2
  go_loopw [3, 4] (fun vu vk wr => vu = .slice none 0 0 ∧ vk = .int .i64 0 ∧ w = wr) (fun _ _ _ => 0)
  case atStart => exact ⟨rfl, rfl, rfl⟩
  case round =>
    obtain ⟨rfl, rfl, rfl⟩ := hrel
    go_wp2
    go_ret
    exact ⟨rfl, rfl⟩
set_option maxHeartbeats 1000000 in
set_option maxRecDepth 100000 in
theorem quantilesFrom_nil (a : Option Addr) (c : Nat) (w : World) : Calls Tryz.prog 50 #[.slice a 0 c] w fun e w' => e = .returned (.slice none 0 0) ∧ w = w' := by
  go_enter Tryz.func50, Tryz.ntmps50
  go_wp2
  go_loopw [3, 4] (fun vu vk wr => vu = .slice none 0 0 ∧ vk = .int .i64 0 ∧ w = wr) (fun _ _ _ => 0)
  case atStart => exact ⟨rfl, rfl, rfl⟩
  case round =>
    obtain ⟨rfl, rfl, rfl⟩ := hrel
    go_wp2
    go_ret
    exact ⟨rfl, rfl⟩
set_option maxHeartbeats 1000000 in
set_option maxRecDepth 100000 in
theorem pairsFrom_nil (a : Option Addr) (c : Nat) (w : World) : Calls Tryz.prog 47 #[.slice a 0 c] w fun e w' => e = .returned (.slice none 0 0) ∧ w = w' := by
  go_enter Tryz.func47, Tryz.ntmps47
  go_wp2
  go_loopw [3, 4] (fun vu vk wr => vu = .slice none 0 0 ∧ vk = .int .i64 0 ∧ w = wr) (fun _ _ _ => 0)
  case atStart => exact ⟨rfl, rfl, rfl⟩
  case round =>
    obtain ⟨rfl, rfl, rfl⟩ := hrel
    go_wp2
    go_ret
    exact ⟨rfl, rfl⟩
set_option maxHeartbeats 1000000 in
set_option maxRecDepth 100000 in
theorem sameBuckets_nil (a b : Option Addr) (c d : Nat) (w : World) : Calls Tryz.prog 87 #[.slice a 0 c, .slice b 0 d] w fun e w' => e = .returned (.bool true) ∧ w = w' := by
  go_enter Tryz.func87, Tryz.ntmps87
  go_wp2
  go_loopw [5] (fun vk wr => vk = .int .i64 0 ∧ w = wr) (fun _ _ => 0)
  case atStart => exact ⟨rfl, rfl⟩
  case round =>
    obtain ⟨rfl, rfl⟩ := hrel
    go_wp2
    go_ret
    exact ⟨rfl, rfl⟩
set_option maxHeartbeats 1000000 in
set_option maxRecDepth 100000 in
theorem sameRuns_nil (a b : Option Addr) (c d : Nat) (w : World) : Calls Tryz.prog 88 #[.slice a 0 c, .slice b 0 d] w fun e w' => e = .returned (.bool true) ∧ w = w' := by
  go_enter Tryz.func88, Tryz.ntmps88
  go_wp2
  go_loopw [5] (fun vk wr => vk = .int .i64 0 ∧ w = wr) (fun _ _ => 0)
  case atStart => exact ⟨rfl, rfl⟩
  case round =>
    obtain ⟨rfl, rfl⟩ := hrel
    go_wp2
    go_ret
    exact ⟨rfl, rfl⟩
set_option maxHeartbeats 1000000 in
set_option maxRecDepth 100000 in
theorem sameDeltas_nil (a b : Option Addr) (c d : Nat) (w : World) : Calls Tryz.prog 89 #[.slice a 0 c, .slice b 0 d] w fun e w' => e = .returned (.bool true) ∧ w = w' := by
  go_enter Tryz.func89, Tryz.ntmps89
  go_wp2
  go_loopw [5] (fun vk wr => vk = .int .i64 0 ∧ w = wr) (fun _ _ => 0)
  case atStart => exact ⟨rfl, rfl⟩
  case round =>
    obtain ⟨rfl, rfl⟩ := hrel
    go_wp2
    go_ret
    exact ⟨rfl, rfl⟩
set_option maxHeartbeats 1000000 in
set_option maxRecDepth 100000 in
theorem sameMarks_nil (a b : Option Addr) (c d : Nat) (w : World) : Calls Tryz.prog 90 #[.slice a 0 c, .slice b 0 d] w fun e w' => e = .returned (.bool true) ∧ w = w' := by
  go_enter Tryz.func90, Tryz.ntmps90
  go_wp2
  go_loopw [5] (fun vk wr => vk = .int .i64 0 ∧ w = wr) (fun _ _ => 0)
  case atStart => exact ⟨rfl, rfl⟩
  case round =>
    obtain ⟨rfl, rfl⟩ := hrel
    go_wp2
    go_ret
    exact ⟨rfl, rfl⟩
set_option maxHeartbeats 1000000 in
set_option maxRecDepth 100000 in
theorem sameQuantiles_nil (a b : Option Addr) (c d : Nat) (w : World) : Calls Tryz.prog 46 #[.slice a 0 c, .slice b 0 d] w fun e w' => e = .returned (.bool true) ∧ w = w' := by
  go_enter Tryz.func46, Tryz.ntmps46
  go_wp2
  go_loopw [5] (fun vk wr => vk = .int .i64 0 ∧ w = wr) (fun _ _ => 0)
  case atStart => exact ⟨rfl, rfl⟩
  case round =>
    obtain ⟨rfl, rfl⟩ := hrel
    go_wp2
    go_ret
    exact ⟨rfl, rfl⟩
set_option maxHeartbeats 1000000 in
set_option maxRecDepth 100000 in
theorem samePairs_nil (a b : Option Addr) (c d : Nat) (w : World) : Calls Tryz.prog 43 #[.slice a 0 c, .slice b 0 d] w fun e w' => e = .returned (.bool true) ∧ w = w' := by
  go_enter Tryz.func43, Tryz.ntmps43
  go_wp2
  go_loopw [5] (fun vk wr => vk = .int .i64 0 ∧ w = wr) (fun _ _ => 0)
  case atStart => exact ⟨rfl, rfl⟩
  case round =>
    obtain ⟨rfl, rfl⟩ := hrel
    go_wp2
    go_ret
    exact ⟨rfl, rfl⟩
set_option maxHeartbeats 1000000 in
set_option maxRecDepth 100000 in
theorem sameNum_self (z : Nat) (w : World) : Calls Tryz.prog 26 #[.float .f64 z, .float .f64 z] w fun e w' => e = .returned (.bool true) ∧ w = w' := by
  have h : (FloatKind.f64.format.order z z == some Ordering.eq) = true ∨ (FloatKind.f64.format.order z z == some Ordering.eq) = false := by
    cases (FloatKind.f64.format.order z z == some Ordering.eq) <;> simp
  rcases h with h | h
  · go_enter Tryz.func26, Tryz.ntmps26
    go_wp2
    go_ret
    exact ⟨rfl, rfl⟩
  · have h2 : (FloatKind.f64.format.order z z != some Ordering.eq) = true := by rw [bne, h]; rfl
    go_enter Tryz.func26, Tryz.ntmps26
    go_wp2
    go_ret
    exact ⟨rfl, rfl⟩

set_option maxHeartbeats 4000000 in
set_option maxRecDepth 100000 in
theorem sameMark_zero (a b : Option Addr) (c d : Nat) (w : World) :
    Calls Tryz.prog 44 #[.agg #[.float .f64 0, .slice a 0 c, .int .i64 0], .agg #[.float .f64 0, .slice b 0 d, .int .i64 0]] w fun e w' => e = .returned (.bool true) ∧ Below w.heap.size w w' := by
  have hb : Hid (Below w.heap.size w ((w.alloc (.cells #[.float .f64 0, .slice a 0 c, .int .i64 0] 47)).alloc (.cells #[.float .f64 0, .slice b 0 d, .int .i64 0] 47))) := ((Below.refl _ _).alloc (Nat.le_refl _) _).alloc (by simp) _
  go_enter Tryz.func44, Tryz.ntmps44
  go_wp2_with (first
    | (go_at_call 26; refine (sameNum_self _ _).mono ?_; rintro e w' ⟨rfl, rfl⟩)
    | (go_at_call 43; refine (samePairs_nil _ _ _ _ _).mono ?_; rintro e w' ⟨rfl, rfl⟩))
  go_ret
  exact ⟨rfl, hb.out⟩

end Go.Proofs.YtlolomodcbkblaaGreatDoor.Mt

set_option linter.unusedVariables false
set_option linter.unusedSimpArgs false
namespace Go.Proofs.YtlolomodcbkblaaGreatDoor.Mt
open Go.RowKit Go.Maps Go.WideMaps Go.ChangeShapes Go.WideShapes Go.Deep Fp Obs _root_.Go.Proofs.YtlolomodcbkblaaGreatDoor.Nd

theorem al_cell {W : World} {b j : Nat} {v : Value} (o : Obj) (h : W.cell? ⟨b, j, none⟩ = some v) : (W.alloc o).cell? ⟨b, j, none⟩ = some v := by
  rw [World.cell?_alloc_past (w := W) o b _ (World.block_lt_of_cell? W (a := ⟨b, j, none⟩) h)]; exact h
/-- one of the kinds with a single value -/
def kindOf (k : Nat) : Int := if k % 3 = 0 then 0 else if k % 3 = 1 then 1 else 3
theorem kind_cases (k : Nat) : kindOf k = 0 ∨ kindOf k = 1 ∨ kindOf k = 3 := by
  unfold kindOf
  split
  · simp
  · split <;> simp
def typeOf (k : Int) : Int := if k = 0 then 1 else if k = 1 then 2 else 3
set_option maxHeartbeats 1000000 in
set_option maxRecDepth 100000 in
theorem valueType_any (k : Int) (hk : k = 0 ∨ k = 1 ∨ k = 3) (w : World) : Calls Tryz.prog 81 #[.int .i64 k] w fun e w' => e = .returned (.int .i64 (typeOf k)) ∧ w = w' := by
  rcases hk with rfl | rfl | rfl
  all_goals
    go_enter Tryz.func81, Tryz.ntmps81
    go_wp2
    go_ret
    exact ⟨rfl, rfl⟩

def LabOut (V X : List ByteArray) (L : List P2) (w : World) (e : Ending) (w' : World) : Prop :=
  ∃ v, e = .returned v ∧ w'.ownsRow w.heap.size 138 2 v (labs V X (fit L)).length ((labs V X (fit L)).flatMap pc) ∧ Below w.heap.size w w'
end Go.Proofs.YtlolomodcbkblaaGreatDoor.Mt

set_option linter.unusedVariables false
set_option linter.unusedSimpArgs false
namespace Go.Proofs.YtlolomodcbkblaaGreatDoor.Mt
open Go.RowKit Go.Maps Go.WideMaps Go.ChangeShapes Go.WideShapes Go.Deep Fp Obs _root_.Go.Proofs.YtlolomodcbkblaaGreatDoor.Nd

abbrev ptr (b : Nat) : Value := .pointer (some ⟨b, 0, none⟩)
abbrev nilp : Value := .pointer none
/-- the cells of a metric with a single value -/
def mcs (lv : Value) (kind : Int) (vb : Nat) (ts : Value) : Array Value :=
  #[lv, if kind = 1 then ptr vb else nilp, if kind = 0 then ptr vb else nilp, nilp, if kind = 3 then ptr vb else nilp, nilp, ts]
theorem mcs0 (lv : Value) (vb : Nat) (ts : Value) : mcs lv 0 vb ts = #[lv, nilp, ptr vb, nilp, nilp, nilp, ts] := rfl
theorem mcs1 (lv : Value) (vb : Nat) (ts : Value) : mcs lv 1 vb ts = #[lv, ptr vb, nilp, nilp, nilp, nilp, ts] := rfl
theorem mcs3 (lv : Value) (vb : Nat) (ts : Value) : mcs lv 3 vb ts = #[lv, nilp, nilp, nilp, ptr vb, nilp, ts] := rfl
/-- the value's block, with what belongs to it -/
structure ValAt (W : World) (kind : Int) (vb f : Nat) (val : Nat) (ct : Value) : Prop where
  v0 : W.cell? ⟨vb, 0, none⟩ = some (ptr f)
  v1 : kind = 0 → W.cell? ⟨vb, 1, none⟩ = some nilp
  v2 : kind = 0 → W.cell? ⟨vb, 2, none⟩ = some ct
  fv : W.cell? ⟨f, 0, none⟩ = some (.float .f64 val)
  lt : vb < W.heap.size ∧ f < W.heap.size
theorem ValAt.below {W W' : World} {kind : Int} {vb f val : Nat} {ct : Value} (h : ValAt W kind vb f val ct) (k : Below W.heap.size W W') : ValAt W' kind vb f val ct :=
  ⟨(k.cell (p := ⟨vb, 0, none⟩) h.lt.1).trans h.v0, fun e => (k.cell (p := ⟨vb, 1, none⟩) h.lt.1).trans (h.v1 e), fun e => (k.cell (p := ⟨vb, 2, none⟩) h.lt.1).trans (h.v2 e), (k.cell (p := ⟨f, 0, none⟩) h.lt.2).trans h.fv, Nat.lt_of_lt_of_le h.lt.1 k.size, Nat.lt_of_lt_of_le h.lt.2 k.size⟩
theorem ofFloat_any (val : Nat) (w : World) : Calls Tryz.prog 113 #[.float .f64 val] w fun e w' => e = .returned (ptr w.heap.size) ∧ w' = w.alloc (.cells #[.float .f64 val] 24) := by
  go_enter Tryz.func113, Tryz.ntmps113
  go_wp2
  go_ret
  exact ⟨rfl, rfl⟩
/-- the metric in block b filled; nothing else that was there has changed -/
def PopOut (lv : Value) (kind : Int) (val b : Nat) (ct : Value) (w : World) (e : Ending) (w' : World) : Prop :=
  e = .returned .nilIface ∧ Whole w' b 201 (mcs lv kind (w.heap.size + 1) nilp) ∧ ValAt w' kind (w.heap.size + 1) w.heap.size val ct ∧ w.grownBy w' (some b)
theorem pop_fin {lv : Value} {kind : Int} {val b : Nat} {ct : Value} {w : World} (T2 : TypeId) (cs : Array Value) (i j : Nat) (u0 u : Value) (hb : Whole w b 201 #[.slice none 0 0, nilp, nilp, nilp, nilp, nilp, nilp])
    (hc : ((#[.slice none 0 0, nilp, nilp, nilp, nilp, nilp, nilp] : Array Value).setIfInBounds i u0).setIfInBounds j u = mcs lv kind (w.heap.size + 1) nilp) (h0 : cs[0]? = some (ptr w.heap.size)) (h1 : kind = 0 → cs[1]? = some nilp) (h2 : kind = 0 → cs[2]? = some ct) :
    PopOut lv kind val b ct w (.returned .nilIface) ((((w.setCell ⟨b, i, none⟩ u0).setCell ⟨b, j, none⟩ u).alloc (.cells #[.float .f64 val] 24)).alloc (.cells cs T2)) := by
  obtain ⟨W0, hW0⟩ : ∃ W0, W0 = (w.setCell ⟨b, i, none⟩ u0).setCell ⟨b, j, none⟩ u := ⟨_, rfl⟩
  have hs : W0.heap.size = w.heap.size := by rw [hW0]; simp [World.setCell]
  have hg : w.grownBy W0 (some b) := by
    rw [hW0]
    refine ⟨rfl, rfl, rfl, by simp [World.setCell], fun k hk hne => ?_⟩
    have hkb : k ≠ b := by rintro rfl; exact hne rfl
    rw [Below.heap_setCell _ ⟨b, j, none⟩ _ k hkb, Below.heap_setCell _ ⟨b, i, none⟩ _ k hkb]
  have hW : Whole W0 b 201 (mcs lv kind (w.heap.size + 1) nilp) := by rw [hW0, ← hc]; exact (hb.put i u0).put j u
  rw [← hW0]
  clear hW0 hc
  have s1 : (W0.alloc (.cells #[.float .f64 val] 24)).heap.size = w.heap.size + 1 := by simp [hs]
  have hq : Below w.heap.size W0 ((W0.alloc (.cells #[.float .f64 val] 24)).alloc (.cells cs T2)) := ((Below.refl _ _).alloc (by omega) _).alloc (by rw [s1]; omega) _
  have e1 : ∀ k, ((W0.alloc (.cells #[.float .f64 val] 24)).alloc (.cells cs T2)).cell? ⟨w.heap.size + 1, k, none⟩ = cs[k]? := fun k => by rw [← s1]; exact Sl.cell_new _ _ _ k
  have e2 : ((W0.alloc (.cells #[.float .f64 val] 24)).alloc (.cells cs T2)).cell? ⟨w.heap.size, 0, none⟩ = some (.float .f64 val) := by
    rw [Sl.cell_old _ _ _ _ (by rw [s1]; omega), ← hs]; exact Sl.cell_new W0 _ _ 0
  have hlt : b < w.heap.size := hb.lt
  refine ⟨rfl, (hq.block b hlt).trans hW, ⟨by rw [e1, h0], fun h => by rw [e1, h1 h], fun h => by rw [e1, h2 h], e2, by simp [hs]; omega⟩, ⟨hg.os, hg.tape, hg.output, by simp [hs]; omega, fun k hk hne => ?_⟩⟩
  rw [hq.block k hk]
  exact hg.block k hk hne
set_option maxHeartbeats 4000000 in
set_option maxRecDepth 100000 in
theorem populate_any (al : Option Addr) (nl cl : Nat) (kind : Int) (hk : kind = 0 ∨ kind = 1 ∨ kind = 3) (val b : Nat) (ct : Option Addr) (w : World) (hb : Whole w b 201 #[.slice none 0 0, nilp, nilp, nilp, nilp, nilp, nilp]) :
    Calls Tryz.prog 117 #[.int .i64 (typeOf kind), .float .f64 val, .slice al nl cl, nilp, ptr b, .pointer ct] w (PopOut (.slice al nl cl) kind val b (.pointer ct) w) := by
  have hlt := hb.lt
  have c0 : w.cell? ⟨b, 0, none⟩ = some (.slice none 0 0) := hb.cell 0
  have f0 := hb.free 0
  have c1 : w.cell? ⟨b, 1, none⟩ = some nilp := hb.cell 1
  have f1 := hb.free 1
  have c2 : w.cell? ⟨b, 2, none⟩ = some nilp := hb.cell 2
  have f2 := hb.free 2
  have c4 : w.cell? ⟨b, 4, none⟩ = some nilp := hb.cell 4
  have f4 := hb.free 4
  have HB := Lib.hid hb
  clear hb
  rcases hk with rfl | rfl | rfl
  · show Calls _ _ #[.int .i64 1, _, _, _, _, _] _ _
    go_enter Tryz.func117, Tryz.ntmps117
    go_wp2_with (go_at_call 113; refine (ofFloat_any _ _).mono ?_; rintro e w' ⟨rfl, rfl⟩)
    go_ret
    exact pop_fin 276 #[ptr w.heap.size, nilp, .pointer ct] 0 2 _ _ HB.out rfl rfl (fun _ => rfl) (fun _ => rfl)
  · show Calls _ _ #[.int .i64 2, _, _, _, _, _] _ _
    go_enter Tryz.func117, Tryz.ntmps117
    go_wp2_with (go_at_call 113; refine (ofFloat_any _ _).mono ?_; rintro e w' ⟨rfl, rfl⟩)
    go_ret
    exact pop_fin 279 #[ptr w.heap.size] 0 1 _ _ HB.out rfl rfl (fun h => by cases h) (fun h => by cases h)
  · show Calls _ _ #[.int .i64 3, _, _, _, _, _] _ _
    go_enter Tryz.func117, Tryz.ntmps117
    go_wp2_with (go_at_call 113; refine (ofFloat_any _ _).mono ?_; rintro e w' ⟨rfl, rfl⟩)
    go_ret
    exact pop_fin 280 #[ptr w.heap.size] 0 4 _ _ HB.out rfl rfl (fun h => by cases h) (fun h => by cases h)

end Go.Proofs.YtlolomodcbkblaaGreatDoor.Mt
