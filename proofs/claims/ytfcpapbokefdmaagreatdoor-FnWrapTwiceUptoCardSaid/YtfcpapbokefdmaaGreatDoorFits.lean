/- The size guard over strings, where they are small. -/
import Derived.Test.YtfcpapbokefdmaaGreatDoorSl
import Derived.WalkSpells
import Derived.Lib.Hide
set_option linter.unusedVariables false
set_option linter.unusedSimpArgs false
namespace Go.Proofs.YtfcpapbokefdmaaGreatDoor.Fits
open Go.RowKit

set_option maxHeartbeats 1000000 in
set_option maxRecDepth 100000 in
theorem fits3_any (v : Value) (zs : List ByteArray) (w : World) (hv : Sl.Of Value.string w v zs) (hl : zs.length ≤ 2147483647) (hs : ∀ z ∈ zs, z.size ≤ 2147483647) :
    Calls Tryz.prog 16 #[v] w fun e w' => e = .returned (.bool true) ∧ w = w' := by
  have hl1 : (zs.length : Int) ≤ 2147483647 := by omega
  rcases hv with ⟨rfl, a, cap, rfl, hcap⟩ | ⟨b, off, cap, rfl, h0, hcap, hm, hb, hcell⟩
  · clear hs
    go_enter Tryz.func16, Tryz.ntmps16
    go_wp2
    go_loopw [10] (fun i wr => i = .int .i64 0 ∧ w = wr) (fun _ _ => 0)
    case atStart => exact ⟨rfl, rfl⟩
    case round =>
      obtain ⟨rfl, rfl⟩ := hrel
      go_wp2
      go_ret
      exact ⟨rfl, rfl⟩
  · have Hcell := Lib.hid hcell
    have HS := Lib.hid hs
    clear hcell hs
    go_enter Tryz.func16, Tryz.ntmps16
    go_wp2
    go_loopw [10] (fun i wr => ∃ k : Nat, k ≤ zs.length ∧ i = .int .i64 k ∧ w = wr) (fun i _ => zs.length - (intOf i).toNat)
    case atStart => exact ⟨0, Nat.zero_le _, rfl, rfl⟩
    case round =>
      obtain ⟨k, hk, rfl, rfl⟩ := hrel
      by_cases hlt : k < zs.length
      · have c0 : w.cell? ⟨b, off + k, none⟩ = some (.string zs[k]) := Hcell.out k hlt
        have hsz : ((zs[k]).size : Int) ≤ 2147483647 := by have := HS.out _ (List.getElem_mem hlt); omega
        go_wp2
        go_roundw
        case rel => exact ⟨k + 1, by omega, by go_num, by first | rfl | trivial⟩
        case measure => simp [intOf]; omega
      · go_wp2
        go_ret
        exact ⟨rfl, rfl⟩

end Go.Proofs.YtfcpapbokefdmaaGreatDoor.Fits
