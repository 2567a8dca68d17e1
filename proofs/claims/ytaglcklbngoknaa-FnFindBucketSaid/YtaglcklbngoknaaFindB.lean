/- FnFindBucket: the walks of HistPlace and of the library's search. -/
import Derived.Test.YtaglcklbngoknaaFindA
set_option linter.unusedVariables false
set_option linter.unusedSimpArgs false
namespace Go.Proofs.Ytaglcklbngoknaa.FindBucket
open Go.RowKit Plf

set_option maxHeartbeats 4000000 in
set_option maxRecDepth 100000 in
theorem place_any (s : Value) (zs : List Nat) (x : Nat) (w : World) (hv : Sl.Of (Value.float .f64) w s zs) (hl : zs.length ≤ 2147483647) :
    Calls Try.prog 11 #[s, .float .f64 x] w fun e w' => e = .returned (.int .i64 (place zs x : Nat)) ∧ w = w' := by
  rcases hv with ⟨rfl, a, cap, rfl, hc⟩ | ⟨b, off, cap, rfl, h0, hcap, hm, hb, hcell⟩
  · go_enter Try.func11, Try.ntmps11
    go_wp2
    go_loop [5] (fun i => i = .int .i64 0) (fun _ => 0)
    case atStart => exact rfl
    case round =>
      subst hrel
      go_wp2
      go_ret
      exact ⟨rfl, rfl⟩
  · go_enter Try.func11, Try.ntmps11
    go_wp2
    go_loop [5] (fun i => ∃ k : Nat, k ≤ zs.length ∧ i = .int .i64 k ∧ Hid (∀ j (h : j < zs.length), j < k → leW x zs[j] = false)) (fun i => zs.length - (intOf i).toNat)
    case atStart => exact ⟨0, Nat.zero_le _, rfl, fun j h h2 => by omega⟩
    case round =>
      obtain ⟨k, hk, rfl, hno⟩ := hrel
      by_cases hlt : k < zs.length
      · have hck := hcell k hlt
        have Hcell := Lib.hid hcell
        clear hcell
        by_cases hle : leW x zs[k] = true
        · have hp := Lib.hid (place_eq hlt hno.out hle)
          have hle : (FloatKind.f64.format.order x zs[k] == some Ordering.lt || FloatKind.f64.format.order x zs[k] == some Ordering.eq) = true := hle
          go_wp2
          go_ret
          exact ⟨ret_int (by rw [hp.out]), rfl⟩
        · have hle' := Bool.eq_false_iff.2 hle
          have HL := Lib.hid hle'
          have hle : (FloatKind.f64.format.order x zs[k] == some Ordering.lt || FloatKind.f64.format.order x zs[k] == some Ordering.eq) = false := hle'
          clear hle'
          go_wp2
          go_round
          case rel =>
            refine ⟨k + 1, by omega, by go_num, fun j h hj => ?_⟩
            by_cases e : j = k
            · subst e; exact HL.out
            · exact hno.out j h (by omega)
          case measure => simp [intOf]; omega
      · have hp := Lib.hid (place_none (l := zs) (v := x) fun j hj => hno.out j hj (by omega))
        have Hcell := Lib.hid hcell
        clear hcell
        go_wp2
        go_ret
        exact ⟨ret_int (by rw [hp.out]), rfl⟩

set_option maxHeartbeats 4000000 in
set_option maxRecDepth 100000 in
theorem less_any (b off cap p q : Nat) (zs : List Nat) (x i : Nat) (hi : i < zs.length) (hcap : zs.length ≤ cap) (hm : cap ≤ 9223372036854775807) (w : World) (r : Bool) (hr : leW x zs[i] = r)
    (h1 : w.cell? ⟨p, 0, none⟩ = some (.slice (some ⟨b, off, none⟩) zs.length cap)) (h2 : w.cell? ⟨q, 0, none⟩ = some (.float .f64 x)) (h3 : w.cell? ⟨b, off + i, none⟩ = some (.float .f64 zs[i])) :
    Calls Try.prog 71 #[.int .i64 i, .pointer (some ⟨p, 0, none⟩), .pointer (some ⟨q, 0, none⟩)] w fun e w' => e = .returned (.bool r) ∧ ∃ n, w' = w.drewN n := by
  have hr' : (FloatKind.f64.format.order zs[i] x == some Ordering.gt || FloatKind.f64.format.order zs[i] x == some Ordering.eq) = r := by
    rw [← hr, ← geW_leW]; rfl
  have HR := Lib.hid hr'
  clear hr hr'
  have z1 : (0 : Int) ≤ i := by omega
  have z2 : (i : Int) < zs.length := by omega
  go_enter Try.func71, Try.ntmps71
  go_wp2
  go_quiet (fail)
  go_wp2
  go_ret
  rw [HR.out]
  exact ⟨rfl, _, rfl⟩

end Go.Proofs.Ytaglcklbngoknaa.FindBucket
