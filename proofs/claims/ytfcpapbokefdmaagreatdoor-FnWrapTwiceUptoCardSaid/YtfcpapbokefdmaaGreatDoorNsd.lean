/- Descriptors: the thin package's door to NewDesc; what a descriptor answers. -/
import Derived.Test.YtfcpapbokefdmaaGreatDoorNsc
import Derived.Deep.RegionHeld3
set_option linter.unusedVariables false
set_option linter.unusedSimpArgs false
namespace Go.Proofs.YtfcpapbokefdmaaGreatDoor.Nd
open Go.RowKit Go.ChangeShapes Go.WideShapes Go.Deep Fp

set_option maxRecDepth 100000 in
theorem err_any (d : Nat) (w : World) (h : w.cell? ⟨d, 7, none⟩ = some .nilIface) : Calls Tryz.prog 44 #[.pointer (some ⟨d, 0, none⟩)] w fun e w' => e = .returned .nilIface ∧ w' = w := by
  go_enter Tryz.func44, Tryz.ntmps44
  go_wp2_with fail
  go_ret
  exact ⟨rfl, rfl⟩
set_option maxRecDepth 100000 in
theorem id_any (d : Nat) (s : ByteArray) (w : World) (h : w.cell? ⟨d, 5, none⟩ = some (.string s)) : Calls Tryz.prog 45 #[.pointer (some ⟨d, 0, none⟩)] w fun e w' => e = .returned (.string s) ∧ w' = w := by
  go_enter Tryz.func45, Tryz.ntmps45
  go_wp2_with fail
  go_ret
  exact ⟨rfl, rfl⟩

set_option maxHeartbeats 8000000 in
set_option maxRecDepth 100000 in
theorem door_any (nm hp un : ByteArray) (V : List ByteArray) (L : List P2) (m : Option Nat) (vn : Value) (w : World) (hG : Glob w) (hok : NewOk nm hp un V L) (hm : Ms w m L) (hV : Sl.Of Value.string w vn V) :
    Calls Tryz.prog 74 #[.string nm, .string hp, .string un, vn, .map m] w fun e w' => ∃ W, Below w.heap.size w W ∧ NewOut nm hp un V L vn W e w' := by
  obtain ⟨avn, cvn, rfl⟩ : ∃ a cap, vn = .slice a V.length cap := by
    rcases hV with ⟨rfl, a, cap, rfl, _⟩ | ⟨b, off, cap, rfl, _⟩
    · exact ⟨_, _, rfl⟩
    · exact ⟨_, _, rfl⟩
  have HNew : Hid (∀ (ob ub : Nat) (W : World), Below w.heap.size w W → W.cell? ⟨ob, 0, none⟩ = some (.func (.func 120) #[] #[.pointer (some ⟨ub, 0, none⟩)]) → W.cell? ⟨ub, 0, none⟩ = some (.string un) → (ob < W.heap.size ∧ ub < W.heap.size) →
      Calls Tryz.prog 102 #[.agg #[], .string nm, .string hp, .iface 212 (.slice avn V.length cvn), .map m, .slice (some ⟨ob, 0, none⟩) 1 1] W (NewOut nm hp un V L (.slice avn V.length cvn) W)) :=
    fun ob ub W hb h1 h2 h3 => new_any nm hp un V L m _ ob ub W (hG.below hb) hok (hm.below hb) (hV.below hb) h1 h2 h3
  have hB : Below w.heap.size w ((w.alloc (.cells #[.string un] 9)).alloc (.cells #[.func (.func 120) #[] #[.pointer (some ⟨w.heap.size, 0, none⟩)]] 214)).drew := bdr (((Below.refl _ _).alloc (Nat.le_refl _) _).alloc (by simp) _) 1
  have HCall : Hid (Calls Tryz.prog 102 #[.agg #[], .string nm, .string hp, .iface 212 (.slice avn V.length cvn), .map m, .slice (some ⟨w.heap.size + 1, 0, none⟩) 1 1] ((w.alloc (.cells #[.string un] 9)).alloc (.cells #[.func (.func 120) #[] #[.pointer (some ⟨w.heap.size, 0, none⟩)]] 214)).drew (fun e w' => ∃ W, Below w.heap.size w W ∧ NewOut nm hp un V L (.slice avn V.length cvn) W e w')) := by
    refine (HNew.out (w.heap.size + 1) w.heap.size _ hB ?_ ?_ ?_).mono ?_
    · have h1 := Sl.cell_new (w.alloc (.cells #[.string un] 9)) #[.func (.func 120) #[] #[.pointer (some ⟨w.heap.size, 0, none⟩)]] 214 0
      have h2 : (w.alloc (.cells #[.string un] 9)).heap.size = w.heap.size + 1 := by simp
      rw [h2] at h1
      exact h1
    · have h2 : (w.alloc (.cells #[.string un] 9)).heap.size = w.heap.size + 1 := by simp
      exact (Sl.cell_old (w.alloc (.cells #[.string un] 9)) _ w.heap.size 0 (by rw [h2]; omega)).trans (Sl.cell_new w #[.string un] 9 0)
    · constructor <;> simp [World.drew] <;> omega
    · rintro e w' h
      exact ⟨_, hB, h⟩
  clear hG hok hm hV hB HNew
  go_enter Tryz.func74, Tryz.ntmps74
  go_wp2_with fail
  go_region_held3 (fun w' => True) (trivial)
    (first
      | (go_at_call 103; refine (unit_any _ _).mono ?_; rintro e w' ⟨rfl, rfl⟩)
      | (go_at_call 102; refine HCall.out.mono ?_; rintro e w' ⟨W, hb, d, v3, c, rfl, hd, hb2⟩; have HR : Hid (∃ W, Below w.heap.size w W ∧ NewOut nm hp un V L (.slice avn V.length cvn) W (.returned (.pointer (some ⟨d, 0, none⟩))) w') := ⟨W, hb, d, v3, c, rfl, hd, hb2⟩; clear hb hd hb2))
  go_wp2_with fail
  go_ret
  exact HR.out

end Go.Proofs.YtfcpapbokefdmaaGreatDoor.Nd
