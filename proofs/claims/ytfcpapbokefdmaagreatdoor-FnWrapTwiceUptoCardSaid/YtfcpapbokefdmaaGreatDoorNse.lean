/- Descriptors: the thin package's 'desc' walked. -/
import Derived.Test.YtfcpapbokefdmaaGreatDoorNsd
import Derived.Test.YtfcpapbokefdmaaGreatDoorNst
set_option linter.unusedVariables false
set_option linter.unusedSimpArgs false
namespace Go.Proofs.YtfcpapbokefdmaaGreatDoor.Nd
open Go.RowKit Go.Maps Go.WideMaps Go.ChangeShapes Go.WideShapes Go.Deep Fp

def DescOut (nm hp un : ByteArray) (V : List ByteArray) (L : List P2) (w : World) (e : Ending) (w' : World) : Prop :=
  ∃ d v3 c vn, e = .returned (.pointer (some ⟨d, 0, none⟩)) ∧ DescAt w' d nm hp un V (fit L) v3 c vn ∧ Below w.heap.size w w'

set_option maxHeartbeats 16000000 in
set_option maxRecDepth 100000 in
theorem desc_any (nm hp un : ByteArray) (V : List ByteArray) (L : List P2) (vv cv : Value) (w : World) (hG : Glob w) (hok : NewOk nm hp un V L) (hV : Sl.Of Value.string w vv V) (hL : Ss.Of 2 pc w cv L) (hr : ∀ p ∈ L, p.1.size ≤ 2147483647 ∧ p.2.size ≤ 2147483647) :
    Calls Tryz.prog 43 #[.agg #[.string nm, .string hp, .string un, vv, cv]] w (DescOut nm hp un V L w) := by
  obtain ⟨i0, hi, hz0, hz1, hz2⟩ := info_parts infoS
  have hB1 : Below w.heap.size w (w.alloc (.cells #[.string nm, .string hp, .string un, vv, cv] 31)) := (Below.refl _ _).alloc (Nat.le_refl _) _
  have hB1d := bdr hB1 1
  have HB1 := Lib.hid hB1
  have hs1 : (w.alloc (.cells #[.string nm, .string hp, .string un, vv, cv] 31)).heap.size = w.heap.size + 1 := by simp
  have HC : Hid (∀ W : World, Below (w.heap.size + 1) (w.alloc (.cells #[.string nm, .string hp, .string un, vv, cv] 31)) W → W.cell? ⟨w.heap.size, 0, none⟩ = some (.string nm) ∧ W.cell? ⟨w.heap.size, 1, none⟩ = some (.string hp) ∧ W.cell? ⟨w.heap.size, 2, none⟩ = some (.string un) ∧ W.cell? ⟨w.heap.size, 3, none⟩ = some vv ∧ W.cell? ⟨w.heap.size, 4, none⟩ = some cv) := fun W h => by
    have e : ∀ j, W.cell? ⟨w.heap.size, j, none⟩ = (#[.string nm, .string hp, .string un, vv, cv] : Array Value)[j]? := fun j => (h.cell (p := ⟨w.heap.size, j, none⟩) (by show w.heap.size < w.heap.size + 1; omega)).trans (Sl.cell_new w _ _ j)
    exact ⟨e 0, e 1, e 2, e 3, e 4⟩
  have HV : Hid (∀ W : World, Below w.heap.size w W → Ss.Of 1 (fun z => [Value.string z]) W vv V) := fun W h => (sl_ss hV).below h
  have HL : Hid (∀ W : World, Below w.heap.size w W → Ss.Of 2 pc W cv L) := fun W h => hL.below h
  have HR := Lib.hid hr
  have HG := Lib.hid hG
  have HOk := Lib.hid hok
  have HUp : Hid (∀ W : World, Below (w.heap.size + 1) (w.alloc (.cells #[.string nm, .string hp, .string un, vv, cv] 31)) W → Below w.heap.size w W) := fun W h => hB1.trans (h.mono (by omega))
  have hLV : V.length ≤ 1048576 := hok.lenV
  have hLL : L.length ≤ 1048576 := hok.lenL
  have HOneV : Hid (∀ z : ByteArray, ∀ u ∈ [Value.string z], u.oneCell' = true) := fun z => one_str z
  have HNil : Hid ((w.alloc (.cells #[.string nm, .string hp, .string un, vv, cv] 31)).drew.ownsRow (w.heap.size + 1) 9 1 (.slice none 0 0) 0 []) := World.ownsRow_nil _ _ _ _
  have HAp : Hid (∀ v' W', W'.ownsRow (w.heap.size + 1) 9 1 v' (0 + V.length) ([] ++ V.flatMap fun z => [Value.string z]) → (w.alloc (.cells #[.string nm, .string hp, .string un, vv, cv] 31)).drew.grownBy W' (Value.slice none 0 0).ownBlock → Below (w.heap.size + 1) (w.alloc (.cells #[.string nm, .string hp, .string un, vv, cv] 31)) W' ∧ Sl.Of Value.string W' v' V) := fun v' W' ho hg => by
    have hs1d : (w.alloc (.cells #[.string nm, .string hp, .string un, vv, cv] 31)).drew.heap.size = w.heap.size + 1 := hs1
    refine ⟨(bdr (Below.refl (w.heap.size + 1) (w.alloc (.cells #[.string nm, .string hp, .string un, vv, cv] 31))) 1).grown hg (by show w.heap.size + 1 ≤ (w.alloc (.cells #[.string nm, .string hp, .string un, vv, cv] 31)).heap.size; omega) (fun j hj => by cases hj), ?_⟩
    have e6 : ([] ++ V.flatMap fun z => [Value.string z]) = V.map Value.string := by rw [List.nil_append]; exact flat_one V
    rw [e6, Nat.zero_add] at ho
    exact Sl.Of.own ho
  have HLb : Hid (∀ v2 W2 m W3, Below (w.heap.size + 1) (w.alloc (.cells #[.string nm, .string hp, .string un, vv, cv] 31)) W2 → Sl.Of Value.string W2 v2 V → Ms W3 m L → Below W2.heap.size W2 W3 → Below (w.heap.size + 1) (w.alloc (.cells #[.string nm, .string hp, .string un, vv, cv] 31)) W3 ∧ Calls Tryz.prog 74 #[.string nm, .string hp, .string un, v2, .map m] W3 (fun e w' => DescOut nm hp un V L w e w' ∧ Below (w.heap.size + 1) (w.alloc (.cells #[.string nm, .string hp, .string un, vv, cv] 31)) w')) := fun v2 W2 m W3 hb2 hv2 hm3 hb3 => by
    have hz2 := hb2.size
    have hb13 : Below (w.heap.size + 1) (w.alloc (.cells #[.string nm, .string hp, .string un, vv, cv] 31)) W3 := hb2.trans (hb3.mono (by omega))
    have hw3 := HUp.out W3 hb13
    refine ⟨hb13, (door_any nm hp un V L m v2 W3 (HG.out.below hw3) HOk.out hm3 (hv2.below hb3)).mono ?_⟩
    rintro e w' ⟨W, hbW, d, v3, c, rfl, hd, hbn⟩
    have hz3 := hb13.size
    have hzW := hbW.size
    have hb4 : Below (w.heap.size + 1) (w.alloc (.cells #[.string nm, .string hp, .string un, vv, cv] 31)) w' := (hb13.trans (hbW.mono (by omega))).trans (hbn.mono (by omega))
    exact ⟨⟨d, v3, c, v2, rfl, hd, HUp.out w' hb4⟩, hb4⟩
  clear hV hL hr hG hok hB1 hB1d
  go_enter Tryz.func43, Tryz.ntmps43
  go_wp2_with fail
  have k0 := HC.out (w.alloc (.cells #[.string nm, .string hp, .string un, vv, cv] 31)) (Below.refl _ _)
  have k1 := HC.out (w.alloc (.cells #[.string nm, .string hp, .string un, vv, cv] 31)).drew (bdr (Below.refl _ _) 1)
  go_region_held3 (fun w' => w'.cell? ⟨w.heap.size, 0, none⟩ = some (.string nm) ∧ w'.cell? ⟨w.heap.size, 1, none⟩ = some (.string hp) ∧ w'.cell? ⟨w.heap.size, 2, none⟩ = some (.string un) ∧ w'.cell? ⟨w.heap.size, 3, none⟩ = some vv ∧ w'.cell? ⟨w.heap.size, 4, none⟩ = some cv) (first | exact k0 | exact k1 | exact k2 | exact k3 | exact k4)
    (first
      | (refine step_of (by rfl) (.const (.slice none 0 0)) (.tmp 10) 22 (by rfl) (w.heap.size + 1) 9 i0 (.string ByteArray.empty) 1 16 Tryz.underlying22 hi hz0 hz1 hz2 rfl (by decide) _ 0 [] (by rfl) HNil.out (c := fun z => [Value.string z]) (fun _ => rfl) HOneV.out V vv (by rfl) (HV.out _ (bdr HB1.out 1)) (by unfold maxLen; omega) (by omega) (by show _ ≤ (w.alloc (.cells #[.string nm, .string hp, .string un, vv, cv] 31)).heap.size; omega) ?_; intro v2 W2 ho2 hg2 hl2; have HA2 := Lib.hid (HAp.out v2 W2 ho2 hg2); have k2 := HC.out W2 HA2.out.1; clear ho2 hg2 hl2)
      | (go_at_call 53; refine (labels_any L cv _ (HL.out _ (HUp.out _ HA2.out.1)) (by omega) HR.out).mono ?_; rintro e W3 ⟨m, rfl, hm3, hb3⟩; have HD3 := Lib.hid (HLb.out v2 W2 m W3 HA2.out.1 HA2.out.2 hm3 hb3); have k3 := HC.out W3 HD3.out.1; clear hm3 hb3)
      | (go_at_call 74; refine HD3.out.2.mono ?_; rintro e w' ⟨⟨d, v3, c, vn, rfl, hd, hb⟩, hb4⟩; have HFin : Hid (DescOut nm hp un V L w (.returned (.pointer (some ⟨d, 0, none⟩))) w') := ⟨d, v3, c, vn, rfl, hd, hb⟩; have k4 := HC.out w' hb4; clear hd hb hb4))
  go_wp2_with fail
  go_ret
  exact HFin.out

end Go.Proofs.YtfcpapbokefdmaaGreatDoor.Nd
