/- Two lists of texts compared (spec.SameTexts). -/
import Derived.Test.YtfcpapbokefdmaaGreatDoorNla
import Derived.Deep.QuietTactic
import Derived.BigQuiet
set_option linter.unusedVariables false
set_option linter.unusedSimpArgs false
namespace Go.Proofs.YtfcpapbokefdmaaGreatDoor.Tx
open Go.RowKit Go.Maps Go.WideMaps Go.ChangeShapes Go.WideShapes Go.Deep Fp Obs _root_.Go.Proofs.YtfcpapbokefdmaaGreatDoor.Nd

set_option maxHeartbeats 4000000 in
set_option maxRecDepth 100000 in
theorem sameTexts_any (v v1 : Value) (xs ys : List ByteArray) (w : World) (hv : Sl.Of Value.string w v xs) (hv1 : Sl.Of Value.string w v1 ys) :
    Calls Tryz.prog 28 #[v, v1] w fun e w' => e = .returned (.bool (decide (xs = ys))) ∧ ∃ m, w' = w.drewN m := by
  obtain ⟨ax, cx, rfl, hx1, hx2⟩ := sl_slice hv
  obtain ⟨ay, cy, rfl, hy1, hy2⟩ := sl_slice hv1
  have HV := Lib.hid hv
  have HV1 := Lib.hid hv1
  obtain ⟨B, hB⟩ : ∃ B, decide (xs = ys) = B := ⟨_, rfl⟩
  rw [hB]
  have HB := Lib.hid hB
  clear hv hv1 hB
  go_enter Tryz.func28, Tryz.ntmps28
  by_cases hl : xs.length = ys.length
  · have hl1 : (xs.length : Int) = (ys.length : Int) := by omega
    have hd : decide ((xs.length : Int) = (ys.length : Int)) = true := by rw [decide_eq_true_eq]; exact hl1
    go_wp2_with fail
    go_loopw [5] (fun i wr => ∃ k m : Nat, k ≤ xs.length ∧ i = .int .i64 k ∧ Hid (wr = w.drewN m) ∧ Hid (∀ j (h : j < xs.length) (h' : j < ys.length), j < k → xs[j] = ys[j])) (fun i _ => xs.length - (intOf i).toNat)
    case atStart => exact ⟨0, 0, Nat.zero_le _, rfl, rfl, fun j h h' h0 => absurd h0 (Nat.not_lt_zero _)⟩
    case round =>
      obtain ⟨k, m, hk, rfl, hwr, hall⟩ := hrel
      by_cases hlt : k < xs.length
      · obtain ⟨b, off, hav, _, c0⟩ := sl_at HV.out hlt
        have hlt' : k < ys.length := by omega
        obtain ⟨b2, off2, hav2, _, c1⟩ := sl_at HV1.out hlt'
        subst hav hav2
        obtain ⟨z, hz⟩ : ∃ z, xs[k] = z := ⟨_, rfl⟩
        obtain ⟨z', hz'⟩ : ∃ z', ys[k] = z' := ⟨_, rfl⟩
        rw [hz] at c0
        rw [hz'] at c1
        have c0' : wr.cell? ⟨b, off + k, none⟩ = some (.string z) := by rw [hwr.out]; exact c0
        have c1' : wr.cell? ⟨b2, off2 + k, none⟩ = some (.string z') := by rw [hwr.out]; exact c1
        have z1 : (0 : Int) ≤ (k : Int) := by omega
        have z2 : (k : Int) < (xs.length : Int) := by omega
        have z3 : (k : Int) < (ys.length : Int) := by omega
        clear c0 c1
        cases he : (z.toList == z'.toList) with
        | true =>
          have hzz : z = z' := (eqS_iff z z').1 he
          have hall2 : Hid (∀ j (h : j < xs.length) (h' : j < ys.length), j < k + 1 → xs[j] = ys[j]) := by
            intro j h h' hj
            rcases Nat.lt_or_ge j k with h1 | h1
            · exact hall.out j h h' h1
            · have : j = k := by omega
              subst this
              rw [hz, hz']; exact hzz
          clear hz hz' hall hzz
          go_wp2_with fail
          go_quiet (fail)
          go_wp2_with fail
          go_roundw
          case rel => exact ⟨k + 1, _, by omega, by go_num, by show _ = _; rw [hwr.out, World.drewN_drewN], hall2⟩
          case measure => simp [intOf]; omega
        | false =>
          have hfin : Hid (B = false) := by
            show _ = _
            rw [← HB.out, decide_eq_false_iff_not]
            rintro rfl
            have : z = z' := by rw [← hz, ← hz']
            subst this
            simp at he
          clear hz hz' hall
          go_wp2_with fail
          go_quiet (fail)
          go_wp2_with fail
          go_ret
          exact ⟨by rw [hfin.out]; rfl, _, by rw [hwr.out, World.drewN_drewN]⟩
      · have hfin : Hid (B = true) := by
          show _ = _
          rw [← HB.out, decide_eq_true_eq]
          exact List.ext_getElem hl (fun j h h' => hall.out j h h' (by omega))
        obtain rfl : k = xs.length := by omega
        clear hall
        go_wp2_with fail
        go_ret
        exact ⟨by rw [hfin.out]; rfl, m, hwr.out⟩
  · have hl1 : (xs.length : Int) ≠ (ys.length : Int) := by omega
    have hd : decide ((xs.length : Int) = (ys.length : Int)) = false := by rw [decide_eq_false_iff_not]; exact hl1
    have hfin : Hid (B = false) := by
      show _ = _
      rw [← HB.out, decide_eq_false_iff_not]
      rintro rfl
      exact hl rfl
    go_wp2_with fail
    go_ret
    exact ⟨by rw [hfin.out]; rfl, 0, rfl⟩

end Go.Proofs.YtfcpapbokefdmaaGreatDoor.Tx
