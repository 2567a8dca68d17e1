/- Wrapped descriptors: what a descriptor has (DoorParts), a descriptor's error, the thin package's WrapMeta. -/
import Derived.Test.YtfcpapbokefdmaaGreatDoorWrb
import Derived.Test.YtfcpapbokefdmaaGreatDoorNsd
import Derived.Test.YtfcpapbokefdmaaGreatDoorNse
import Derived.Test.YtfcpapbokefdmaaGreatDoorNlb
import Derived.BigQuiet
set_option linter.unusedVariables false
set_option linter.unusedSimpArgs false
namespace Go.Proofs.YtfcpapbokefdmaaGreatDoor.Nd
open Go.RowKit Go.Maps Go.WideMaps Go.ChangeShapes Go.WideShapes Go.Deep Fp Obs

set_option maxRecDepth 100000 in
theorem errAt_any (d : Nat) (v : Value) (w : World) (h : w.cell? ⟨d, 7, none⟩ = some v) : Calls Tryz.prog 44 #[.pointer (some ⟨d, 0, none⟩)] w fun e w' => e = .returned v ∧ w' = w := by
  go_enter Tryz.func44, Tryz.ntmps44
  go_wp2_with fail
  go_ret
  exact ⟨rfl, rfl⟩
set_option maxHeartbeats 4000000 in
set_option maxRecDepth 100000 in
theorem parts_any (d c : Nat) (nm hp un : ByteArray) (V : List ByteArray) (F : List P2) (v3 vn : Value) (w : World) (hd : DescAt w d nm hp un V F v3 c vn) :
    Calls Tryz.prog 54 #[.pointer (some ⟨d, 0, none⟩)] w fun e w' => e = .returned (.tuple #[.string nm, .string hp, .string un, vn, v3]) ∧ ∃ q, w' = w.drewN q := by
  have c0 := hd.c0
  have c1 := hd.c1
  have c2 := hd.c2
  have c3 := hd.c3
  have c4 := hd.c4
  have n0 := hd.n0
  clear hd
  go_enter Tryz.func54, Tryz.ntmps54
  go_wp2_with fail
  go_quiet (fail)
  go_wp2_with fail
  exact bodyPost_ret (v := .tuple #[.string nm, .string hp, .string un, vn, v3]) (by simp [results, Tryz.results54, go_sem]) rfl ⟨rfl, _, rfl⟩
set_option maxHeartbeats 4000000 in
set_option maxRecDepth 100000 in
theorem doorWrap_any (d : Nat) (p : ByteArray) (m : Option Nat) (w : World) (Q : Ending → World → Prop) (h : Calls Tryz.prog 79 #[.pointer (some ⟨d, 0, none⟩), .string p, .map m] w fun e w' => ∃ b, e = .returned (.pointer (some ⟨b, 0, none⟩)) ∧ Q e w') :
    Calls Tryz.prog 52 #[.pointer (some ⟨d, 0, none⟩), .string p, .map m] w Q := by
  have H := Lib.hid h
  clear h
  go_enter Tryz.func52, Tryz.ntmps52
  go_wp2_with (go_at_call 79; refine H.out.mono ?_; rintro e w' ⟨b, rfl, hq⟩; have HQ := Lib.hid hq; clear hq)
  exact HQ.out

end Go.Proofs.YtfcpapbokefdmaaGreatDoor.Nd
