/- Descriptors: the thin package's MetaSame walked. -/
import Derived.Test.YtfcpapbokefdmaaGreatDoorNse
set_option linter.unusedVariables false
set_option linter.unusedSimpArgs false
namespace Go.Proofs.YtfcpapbokefdmaaGreatDoor.Nd
open Go.RowKit Go.Maps Go.WideMaps Go.ChangeShapes Go.WideShapes Go.Deep Fp

set_option maxHeartbeats 8000000 in
set_option maxRecDepth 100000 in
theorem metaSame_any (nm1 hp1 un1 nm2 hp2 un2 : ByteArray) (V1 V2 : List ByteArray) (L1 L2 : List P2) (vv1 cv1 vv2 cv2 : Value) (w : World) (hG : Glob w)
    (hok1 : NewOk nm1 hp1 un1 V1 L1) (hV1 : Sl.Of Value.string w vv1 V1) (hL1 : Ss.Of 2 pc w cv1 L1) (hr1 : ∀ p ∈ L1, p.1.size ≤ 2147483647 ∧ p.2.size ≤ 2147483647)
    (hok2 : NewOk nm2 hp2 un2 V2 L2) (hV2 : Sl.Of Value.string w vv2 V2) (hL2 : Ss.Of 2 pc w cv2 L2) (hr2 : ∀ p ∈ L2, p.1.size ≤ 2147483647 ∧ p.2.size ≤ 2147483647) :
    Calls Tryz.prog 13 #[.agg #[.string nm1, .string hp1, .string un1, vv1, cv1], .agg #[.string nm2, .string hp2, .string un2, vv2, cv2]] w fun e w' => e = .returned (.bool ((mkB (idOf nm1 (fit L1))).toList == (mkB (idOf nm2 (fit L2))).toList)) ∧ Below w.heap.size w w' := by
  have s1 : (w.alloc (.cells #[.string nm1, .string hp1, .string un1, vv1, cv1] 31)).heap.size = w.heap.size + 1 := by simp
  have s2 : ((w.alloc (.cells #[.string nm1, .string hp1, .string un1, vv1, cv1] 31)).alloc (.cells #[.string nm2, .string hp2, .string un2, vv2, cv2] 31)).heap.size = w.heap.size + 1 + 1 := by simp
  have hqb : Below w.heap.size w ((w.alloc (.cells #[.string nm1, .string hp1, .string un1, vv1, cv1] 31)).alloc (.cells #[.string nm2, .string hp2, .string un2, vv2, cv2] 31)) := ((Below.refl _ _).alloc (Nat.le_refl _) _).alloc (by simp) _
  have HUp : Hid (∀ W : World, Below (w.heap.size + 1 + 1) ((w.alloc (.cells #[.string nm1, .string hp1, .string un1, vv1, cv1] 31)).alloc (.cells #[.string nm2, .string hp2, .string un2, vv2, cv2] 31)) W → Below w.heap.size w W) := fun W h => hqb.trans (h.mono (by omega))
  have HC : Hid (∀ w' : World, Below (w.heap.size + 1 + 1) ((w.alloc (.cells #[.string nm1, .string hp1, .string un1, vv1, cv1] 31)).alloc (.cells #[.string nm2, .string hp2, .string un2, vv2, cv2] 31)) w' → w'.cell? ⟨w.heap.size, 0, none⟩ = some (.string nm1) ∧ w'.cell? ⟨w.heap.size, 1, none⟩ = some (.string hp1) ∧ w'.cell? ⟨w.heap.size, 2, none⟩ = some (.string un1) ∧ w'.cell? ⟨w.heap.size, 3, none⟩ = some vv1 ∧ w'.cell? ⟨w.heap.size, 4, none⟩ = some cv1 ∧ w'.cell? ⟨w.heap.size + 1, 0, none⟩ = some (.string nm2) ∧ w'.cell? ⟨w.heap.size + 1, 1, none⟩ = some (.string hp2) ∧ w'.cell? ⟨w.heap.size + 1, 2, none⟩ = some (.string un2) ∧ w'.cell? ⟨w.heap.size + 1, 3, none⟩ = some vv2 ∧ w'.cell? ⟨w.heap.size + 1, 4, none⟩ = some cv2) := fun W h => by
    have e : ∀ j, W.cell? ⟨w.heap.size, j, none⟩ = (#[.string nm1, .string hp1, .string un1, vv1, cv1] : Array Value)[j]? := fun j => ((h.cell (p := ⟨w.heap.size, j, none⟩) (by show w.heap.size < w.heap.size + 1 + 1; omega)).trans (Sl.cell_old (w.alloc (.cells #[.string nm1, .string hp1, .string un1, vv1, cv1] 31)) _ _ _ (by rw [s1]; omega))).trans (Sl.cell_new w _ _ j)
    have e2 : ∀ j, W.cell? ⟨w.heap.size + 1, j, none⟩ = (#[.string nm2, .string hp2, .string un2, vv2, cv2] : Array Value)[j]? := fun j => by
      have h1 := Sl.cell_new (w.alloc (.cells #[.string nm1, .string hp1, .string un1, vv1, cv1] 31)) #[.string nm2, .string hp2, .string un2, vv2, cv2] 31 j
      rw [s1] at h1
      exact (h.cell (p := ⟨w.heap.size + 1, j, none⟩) (by show w.heap.size + 1 < w.heap.size + 1 + 1; omega)).trans h1
    exact ⟨e 0, e 1, e 2, e 3, e 4, e2 0, e2 1, e2 2, e2 3, e2 4⟩
  have HD1 : Hid (∀ W : World, Below (w.heap.size + 1 + 1) ((w.alloc (.cells #[.string nm1, .string hp1, .string un1, vv1, cv1] 31)).alloc (.cells #[.string nm2, .string hp2, .string un2, vv2, cv2] 31)) W → Calls Tryz.prog 43 #[.agg #[.string nm1, .string hp1, .string un1, vv1, cv1]] W (fun e w' => DescOut nm1 hp1 un1 V1 L1 W e w' ∧ Below (w.heap.size + 1 + 1) ((w.alloc (.cells #[.string nm1, .string hp1, .string un1, vv1, cv1] 31)).alloc (.cells #[.string nm2, .string hp2, .string un2, vv2, cv2] 31)) w')) := fun W h => by
    have hw := HUp.out W h
    have hz := h.size
    refine (desc_any nm1 hp1 un1 V1 L1 vv1 cv1 W (hG.below hw) hok1 (hV1.below hw) (hL1.below hw) hr1).mono ?_
    rintro e w' ho
    obtain ⟨d, v3, c, vn, _, _, hb⟩ := id ho
    exact ⟨ho, h.trans (hb.mono (by omega))⟩
  have HD2 : Hid (∀ W : World, Below (w.heap.size + 1 + 1) ((w.alloc (.cells #[.string nm1, .string hp1, .string un1, vv1, cv1] 31)).alloc (.cells #[.string nm2, .string hp2, .string un2, vv2, cv2] 31)) W → Calls Tryz.prog 43 #[.agg #[.string nm2, .string hp2, .string un2, vv2, cv2]] W (fun e w' => DescOut nm2 hp2 un2 V2 L2 W e w' ∧ Below (w.heap.size + 1 + 1) ((w.alloc (.cells #[.string nm1, .string hp1, .string un1, vv1, cv1] 31)).alloc (.cells #[.string nm2, .string hp2, .string un2, vv2, cv2] 31)) w')) := fun W h => by
    have hw := HUp.out W h
    have hz := h.size
    refine (desc_any nm2 hp2 un2 V2 L2 vv2 cv2 W (hG.below hw) hok2 (hV2.below hw) (hL2.below hw) hr2).mono ?_
    rintro e w' ho
    obtain ⟨d, v3, c, vn, _, _, hb⟩ := id ho
    exact ⟨ho, h.trans (hb.mono (by omega))⟩
  have k0 := Lib.hid (HC.out ((w.alloc (.cells #[.string nm1, .string hp1, .string un1, vv1, cv1] 31)).alloc (.cells #[.string nm2, .string hp2, .string un2, vv2, cv2] 31)) (Below.refl _ _))
  have k1 := Lib.hid (HC.out ((w.alloc (.cells #[.string nm1, .string hp1, .string un1, vv1, cv1] 31)).alloc (.cells #[.string nm2, .string hp2, .string un2, vv2, cv2] 31)).drew (bdr (Below.refl _ _) 1))
  have HQ := Lib.hid (bdr (Below.refl (w.heap.size + 1 + 1) ((w.alloc (.cells #[.string nm1, .string hp1, .string un1, vv1, cv1] 31)).alloc (.cells #[.string nm2, .string hp2, .string un2, vv2, cv2] 31))) 1)
  have hNx : Hid (∀ W W' : World, Below (w.heap.size + 1 + 1) ((w.alloc (.cells #[.string nm1, .string hp1, .string un1, vv1, cv1] 31)).alloc (.cells #[.string nm2, .string hp2, .string un2, vv2, cv2] 31)) W → ∀ d1 v3 c vn d2 v32 c2 vn2, DescAt W d1 nm1 hp1 un1 V1 (fit L1) v3 c vn → DescAt W' d2 nm2 hp2 un2 V2 (fit L2) v32 c2 vn2 → Below W.heap.size W W' →
      W'.cell? ⟨d1, 7, none⟩ = some .nilIface ∧ W'.cell? ⟨d2, 7, none⟩ = some .nilIface ∧ W'.cell? ⟨d1, 5, none⟩ = some (.string (mkB (idOf nm1 (fit L1)))) ∧ W'.cell? ⟨d2, 5, none⟩ = some (.string (mkB (idOf nm2 (fit L2))))) := fun W W' _ d1 v3 c vn d2 v32 c2 vn2 h1 h2 hb =>
    ⟨(h1.below hb).c7, h2.c7, (h1.below hb).c5, h2.c5⟩
  clear hG hok1 hok2 hV1 hV2 hL1 hL2 hr1 hr2 hqb
  go_enter Tryz.func13, Tryz.ntmps13
  go_wp2_with fail
  have k0 := k0.out
  have k1 := k1.out
  go_region_held3 (fun w' => w'.cell? ⟨w.heap.size, 0, none⟩ = some (.string nm1) ∧ w'.cell? ⟨w.heap.size, 1, none⟩ = some (.string hp1) ∧ w'.cell? ⟨w.heap.size, 2, none⟩ = some (.string un1) ∧ w'.cell? ⟨w.heap.size, 3, none⟩ = some vv1 ∧ w'.cell? ⟨w.heap.size, 4, none⟩ = some cv1 ∧ w'.cell? ⟨w.heap.size + 1, 0, none⟩ = some (.string nm2) ∧ w'.cell? ⟨w.heap.size + 1, 1, none⟩ = some (.string hp2) ∧ w'.cell? ⟨w.heap.size + 1, 2, none⟩ = some (.string un2) ∧ w'.cell? ⟨w.heap.size + 1, 3, none⟩ = some vv2 ∧ w'.cell? ⟨w.heap.size + 1, 4, none⟩ = some cv2) (first | exact k0 | exact k1 | exact k2 | exact k3)
    (first
      | (go_at_call 43; refine (HD2.out _ HB.out).mono ?_; rintro e W3 ⟨⟨d2, v32, c2, vn2, rfl, hd2, hb3⟩, hb4⟩; have HE := Lib.hid (hNx.out _ _ HB.out _ _ _ _ _ _ _ _ HA.out hd2 hb3); have HF := Lib.hid hb4; have k3 := HC.out W3 hb4; clear hd2 hb3 hb4)
      | (go_at_call 43; refine (HD1.out _ HQ.out).mono ?_; rintro e W2 ⟨⟨d1, v3, c1, vn1, rfl, hd1, hb1⟩, hb2⟩; have HA := Lib.hid hd1; have HB := Lib.hid hb2; have k2 := HC.out W2 hb2; clear hd1 hb1 hb2))
  clear k2 k3
  obtain ⟨m1, m2, m3, m4⟩ := HE.out
  obtain ⟨x, hx⟩ : ∃ x, mkB (idOf nm1 (fit L1)) = x := ⟨_, rfl⟩
  obtain ⟨y, hy⟩ : ∃ y, mkB (idOf nm2 (fit L2)) = y := ⟨_, rfl⟩
  rw [hx] at m3
  rw [hy] at m4
  have HX := Lib.hid hx
  have HY := Lib.hid hy
  clear hx hy
  go_wp2_with (first
    | (go_at_call 44; (with_reducible refine (err_any d1 _ m1).mono ?_); rintro e w' ⟨rfl, rfl⟩)
    | (go_at_call 44; (with_reducible refine (err_any d2 _ m2).mono ?_); rintro e w' ⟨rfl, rfl⟩)
    | (go_at_call 45; (with_reducible refine (id_any d1 _ _ m3).mono ?_); rintro e w' ⟨rfl, rfl⟩)
    | (go_at_call 45; (with_reducible refine (id_any d2 _ _ m4).mono ?_); rintro e w' ⟨rfl, rfl⟩))
  go_ret
  exact ⟨by rw [HX.out, HY.out]; rfl, HUp.out _ HF.out⟩

end Go.Proofs.YtfcpapbokefdmaaGreatDoor.Nd
