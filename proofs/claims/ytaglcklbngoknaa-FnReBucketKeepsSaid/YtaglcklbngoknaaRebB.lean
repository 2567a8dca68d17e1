/- FnReBucketKeeps: the walks of SameNums and of reBucketExp. -/
import Derived.Test.YtaglcklbngoknaaRebA
set_option linter.unusedVariables false
set_option linter.unusedSimpArgs false
namespace Go.Proofs.Ytaglcklbngoknaa.ReBucketKeeps
open Go.RowKit Plf

theorem same_one' (z : Nat) (w : World) :
    Calls Try.prog 34 #[.float .f64 z, .float .f64 z] w fun e w' => e = .returned (.bool true) ∧ w' = w :=
  (same_one z w).mono fun e w' ⟨h1, h2⟩ => ⟨h1, h2.symm⟩

set_option maxHeartbeats 4000000 in
set_option maxRecDepth 100000 in
theorem same_any (v u : Value) (zs : List Nat) (w : World) (hv : Sl.Of (Value.float .f64) w v zs) (hu : Sl.Of (Value.float .f64) w u zs) (hl : zs.length ≤ 2147483647) :
    Calls Try.prog 17 #[v, u] w fun e w' => e = .returned (.bool true) ∧ ∃ n, w' = w.drewN n := by
  rcases hv with ⟨h0, a, cap, rfl, hc⟩ | ⟨b, off, cap, rfl, h0, hcap, hm, hb, hcell⟩
  · subst h0
    obtain ⟨a2, cap2, rfl⟩ : ∃ a2 cap2, u = .slice a2 0 cap2 := by
      rcases hu with ⟨h0, a, cap, h, hc⟩ | ⟨b, off, cap, rfl, h0, _⟩
      · exact ⟨_, _, h⟩
      · simp at h0
    go_enter Try.func17, Try.ntmps17
    go_wp2
    go_loop [5] (fun i => i = .int .i64 0) (fun _ => 0)
    case atStart => exact rfl
    case round =>
      subst hrel
      go_wp2
      go_ret
      exact ⟨rfl, 0, rfl⟩
  · rcases hu with ⟨hx, _⟩ | ⟨b2, off2, cap2, rfl, _, hcap2, hm2, hb2, hcell2⟩
    · rw [hx] at h0; simp at h0
    have H1 := Lib.hid hcell
    have H2 := Lib.hid hcell2
    clear hcell hcell2
    have hl1 : zs.length ≤ 2147483647 := hl
    go_enter Try.func17, Try.ntmps17
    go_wp2
    go_loopw [5] (fun i wr => ∃ k n : Nat, k ≤ zs.length ∧ i = .int .i64 k ∧ Hid (wr = w.drewN n)) (fun i _ => zs.length - (intOf i).toNat)
    case atStart => exact ⟨0, 0, Nat.zero_le _, rfl, rfl⟩
    case round =>
      obtain ⟨k, n, hk, rfl, hwr⟩ := hrel
      by_cases hlt : k < zs.length
      · obtain ⟨z, hz⟩ : ∃ z, zs[k] = z := ⟨_, rfl⟩
        have c1 : wr.cell? ⟨b, off + k, none⟩ = some (.float .f64 z) := by rw [hwr.out, ← hz]; exact H1.out k hlt
        have c2 : wr.cell? ⟨b2, off2 + k, none⟩ = some (.float .f64 z) := by rw [hwr.out, ← hz]; exact H2.out k hlt
        clear hz
        have z1 : (0 : Int) ≤ k := by omega
        go_wp2
        go_quiet ((go_at_call 34; exact Calls.quiet_of_same (same_one' _ _)))
        go_wp2
        go_roundw
        case rel =>
          refine ⟨k + 1, n + nq, by omega, by go_num, ?_⟩
          show _ = _
          rw [hwr.out]; exact World.drewN_drewN ..
        case measure => simp [intOf]; omega
      · go_wp2
        go_ret
        exact ⟨rfl, n, hwr.out⟩

end Go.Proofs.Ytaglcklbngoknaa.ReBucketKeeps
