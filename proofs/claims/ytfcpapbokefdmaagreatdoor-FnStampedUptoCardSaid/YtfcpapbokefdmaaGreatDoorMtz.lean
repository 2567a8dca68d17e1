/- Metrics: conversions and comparisons where nothing is there: nil lists, marks and histograms that are zero. -/
import Derived.Test.YtfcpapbokefdmaaGreatDoorNlb
set_option linter.unusedVariables false
set_option linter.unusedSimpArgs false
namespace Go.Proofs.YtfcpapbokefdmaaGreatDoor.Mt
open Go.RowKit Go.Maps Go.WideMaps Go.ChangeShapes Go.WideShapes Go.Deep Fp Obs _root_.Go.Proofs.YtfcpapbokefdmaaGreatDoor.Nd

set_option maxHeartbeats 1000000 in
set_option maxRecDepth 100000 in
theorem bucketsFrom_nil (a : Option Addr) (c : Nat) (w : World) : Calls Tryz.prog 88 #[.slice a 0 c] w fun e w' => e = .returned (.slice none 0 0) ∧ w = w' := by
  go_enter Tryz.func88, Tryz.ntmps88
  go_wp2
  go_loopw [3, 4] (fun vu vk wr => vu = .slice none 0 0 ∧ vk = .int .i64 0 ∧ w = wr) (fun _ _ _ => 0)
  case atStart => exact ⟨rfl, rfl, rfl⟩
  case round =>
    obtain ⟨rfl, rfl, rfl⟩ := hrel
    go_wp2
    go_ret
    exact ⟨rfl, rfl⟩
set_option maxHeartbeats 1000000 in
set_option maxRecDepth 100000 in
theorem runsFrom_nil (a : Option Addr) (c : Nat) (w : World) : Calls Tryz.prog 89 #[.slice a 0 c] w fun e w' => e = .returned (.slice none 0 0) ∧ w = w' := by
  go_enter Tryz.func89, Tryz.ntmps89
  go_wp2
  go_loopw [3, 4] (fun vu vk wr => vu = .slice none 0 0 ∧ vk = .int .i64 0 ∧ w = wr) (fun _ _ _ => 0)
  case atStart => exact ⟨rfl, rfl, rfl⟩
  case round =>
    obtain ⟨rfl, rfl, rfl⟩ := hrel
    go_wp2
    go_ret
    exact ⟨rfl, rfl⟩
set_option maxHeartbeats 1000000 in
set_option maxRecDepth 100000 in
theorem marksFrom_nil (a : Option Addr) (c : Nat) (w : World) : Calls Tryz.prog 90 #[.slice a 0 c] w fun e w' => e = .returned (.slice none 0 0) ∧ w = w' := by
  go_enter Tryz.func90, Tryz.ntmps90
  go_wp2
  go_loopw [3, 4] (fun vu vk wr => vu = .slice none 0 0 ∧ vk = .int .i64 0 ∧ w = wr) (fun _ _ _ => 0)
  case atStart => exact ⟨rfl, rfl, rfl⟩
  case round =>
    obtain ⟨rfl, rfl, rfl⟩ := hrel
    go_wp2
    go_ret
    exact ⟨rfl, rfl⟩
set_option maxHeartbeats 1000000 in
set_option maxRecDepth 100000 in
theorem quantilesFrom_nil (a : Option Addr) (c : Nat) (w : World) : Calls Tryz.prog 68 #[.slice a 0 c] w fun e w' => e = .returned (.slice none 0 0) ∧ w = w' := by
  go_enter Tryz.func68, Tryz.ntmps68
  go_wp2
  go_loopw [3, 4] (fun vu vk wr => vu = .slice none 0 0 ∧ vk = .int .i64 0 ∧ w = wr) (fun _ _ _ => 0)
  case atStart => exact ⟨rfl, rfl, rfl⟩
  case round =>
    obtain ⟨rfl, rfl, rfl⟩ := hrel
    go_wp2
    go_ret
    exact ⟨rfl, rfl⟩
set_option maxHeartbeats 1000000 in
set_option maxRecDepth 100000 in
theorem pairsFrom_nil (a : Option Addr) (c : Nat) (w : World) : Calls Tryz.prog 20 #[.slice a 0 c] w fun e w' => e = .returned (.slice none 0 0) ∧ w = w' := by
  go_enter Tryz.func20, Tryz.ntmps20
  go_wp2
  go_loopw [3, 4] (fun vu vk wr => vu = .slice none 0 0 ∧ vk = .int .i64 0 ∧ w = wr) (fun _ _ _ => 0)
  case atStart => exact ⟨rfl, rfl, rfl⟩
  case round =>
    obtain ⟨rfl, rfl, rfl⟩ := hrel
    go_wp2
    go_ret
    exact ⟨rfl, rfl⟩
set_option maxHeartbeats 1000000 in
set_option maxRecDepth 100000 in
theorem sameBuckets_nil (a b : Option Addr) (c d : Nat) (w : World) : Calls Tryz.prog 84 #[.slice a 0 c, .slice b 0 d] w fun e w' => e = .returned (.bool true) ∧ w = w' := by
  go_enter Tryz.func84, Tryz.ntmps84
  go_wp2
  go_loopw [5] (fun vk wr => vk = .int .i64 0 ∧ w = wr) (fun _ _ => 0)
  case atStart => exact ⟨rfl, rfl⟩
  case round =>
    obtain ⟨rfl, rfl⟩ := hrel
    go_wp2
    go_ret
    exact ⟨rfl, rfl⟩
set_option maxHeartbeats 1000000 in
set_option maxRecDepth 100000 in
theorem sameRuns_nil (a b : Option Addr) (c d : Nat) (w : World) : Calls Tryz.prog 85 #[.slice a 0 c, .slice b 0 d] w fun e w' => e = .returned (.bool true) ∧ w = w' := by
  go_enter Tryz.func85, Tryz.ntmps85
  go_wp2
  go_loopw [5] (fun vk wr => vk = .int .i64 0 ∧ w = wr) (fun _ _ => 0)
  case atStart => exact ⟨rfl, rfl⟩
  case round =>
    obtain ⟨rfl, rfl⟩ := hrel
    go_wp2
    go_ret
    exact ⟨rfl, rfl⟩
set_option maxHeartbeats 1000000 in
set_option maxRecDepth 100000 in
theorem sameDeltas_nil (a b : Option Addr) (c d : Nat) (w : World) : Calls Tryz.prog 86 #[.slice a 0 c, .slice b 0 d] w fun e w' => e = .returned (.bool true) ∧ w = w' := by
  go_enter Tryz.func86, Tryz.ntmps86
  go_wp2
  go_loopw [5] (fun vk wr => vk = .int .i64 0 ∧ w = wr) (fun _ _ => 0)
  case atStart => exact ⟨rfl, rfl⟩
  case round =>
    obtain ⟨rfl, rfl⟩ := hrel
    go_wp2
    go_ret
    exact ⟨rfl, rfl⟩
set_option maxHeartbeats 1000000 in
set_option maxRecDepth 100000 in
theorem sameMarks_nil (a b : Option Addr) (c d : Nat) (w : World) : Calls Tryz.prog 87 #[.slice a 0 c, .slice b 0 d] w fun e w' => e = .returned (.bool true) ∧ w = w' := by
  go_enter Tryz.func87, Tryz.ntmps87
  go_wp2
  go_loopw [5] (fun vk wr => vk = .int .i64 0 ∧ w = wr) (fun _ _ => 0)
  case atStart => exact ⟨rfl, rfl⟩
  case round =>
    obtain ⟨rfl, rfl⟩ := hrel
    go_wp2
    go_ret
    exact ⟨rfl, rfl⟩
set_option maxHeartbeats 1000000 in
set_option maxRecDepth 100000 in
theorem sameQuantiles_nil (a b : Option Addr) (c d : Nat) (w : World) : Calls Tryz.prog 65 #[.slice a 0 c, .slice b 0 d] w fun e w' => e = .returned (.bool true) ∧ w = w' := by
  go_enter Tryz.func65, Tryz.ntmps65
  go_wp2
  go_loopw [5] (fun vk wr => vk = .int .i64 0 ∧ w = wr) (fun _ _ => 0)
  case atStart => exact ⟨rfl, rfl⟩
  case round =>
    obtain ⟨rfl, rfl⟩ := hrel
    go_wp2
    go_ret
    exact ⟨rfl, rfl⟩
set_option maxHeartbeats 1000000 in
set_option maxRecDepth 100000 in
theorem samePairs_nil (a b : Option Addr) (c d : Nat) (w : World) : Calls Tryz.prog 19 #[.slice a 0 c, .slice b 0 d] w fun e w' => e = .returned (.bool true) ∧ w = w' := by
  go_enter Tryz.func19, Tryz.ntmps19
  go_wp2
  go_loopw [5] (fun vk wr => vk = .int .i64 0 ∧ w = wr) (fun _ _ => 0)
  case atStart => exact ⟨rfl, rfl⟩
  case round =>
    obtain ⟨rfl, rfl⟩ := hrel
    go_wp2
    go_ret
    exact ⟨rfl, rfl⟩
set_option maxHeartbeats 1000000 in
set_option maxRecDepth 100000 in
theorem sameNum_self (z : Nat) (w : World) : Calls Tryz.prog 62 #[.float .f64 z, .float .f64 z] w fun e w' => e = .returned (.bool true) ∧ w = w' := by
  have h : (FloatKind.f64.format.order z z == some Ordering.eq) = true ∨ (FloatKind.f64.format.order z z == some Ordering.eq) = false := by
    cases (FloatKind.f64.format.order z z == some Ordering.eq) <;> simp
  rcases h with h | h
  · go_enter Tryz.func62, Tryz.ntmps62
    go_wp2
    go_ret
    exact ⟨rfl, rfl⟩
  · have h2 : (FloatKind.f64.format.order z z != some Ordering.eq) = true := by rw [bne, h]; rfl
    go_enter Tryz.func62, Tryz.ntmps62
    go_wp2
    go_ret
    exact ⟨rfl, rfl⟩

set_option maxHeartbeats 4000000 in
set_option maxRecDepth 100000 in
theorem sameMark_zero (a b : Option Addr) (c d : Nat) (w : World) :
    Calls Tryz.prog 63 #[.agg #[.float .f64 0, .slice a 0 c, .int .i64 0], .agg #[.float .f64 0, .slice b 0 d, .int .i64 0]] w fun e w' => e = .returned (.bool true) ∧ Below w.heap.size w w' := by
  have hb : Hid (Below w.heap.size w ((w.alloc (.cells #[.float .f64 0, .slice a 0 c, .int .i64 0] 52)).alloc (.cells #[.float .f64 0, .slice b 0 d, .int .i64 0] 52))) := ((Below.refl _ _).alloc (Nat.le_refl _) _).alloc (by simp) _
  go_enter Tryz.func63, Tryz.ntmps63
  go_wp2_with (first
    | (go_at_call 62; refine (sameNum_self _ _).mono ?_; rintro e w' ⟨rfl, rfl⟩)
    | (go_at_call 19; refine (samePairs_nil _ _ _ _ _).mono ?_; rintro e w' ⟨rfl, rfl⟩))
  go_ret
  exact ⟨rfl, hb.out⟩

end Go.Proofs.YtfcpapbokefdmaaGreatDoor.Mt
