/- Descriptors: the thin package's LabelPairs and MetaAlike walked; the reference's question on label values. -/
import Derived.Test.YtfcpapbokefdmaaGreatDoorNlb
import Derived.Test.YtfcpapbokefdmaaGreatDoorNse
set_option linter.unusedVariables false
set_option linter.unusedSimpArgs false
namespace Go.Proofs.YtfcpapbokefdmaaGreatDoor.Nd
open Go.RowKit Go.Maps Go.WideMaps Go.ChangeShapes Go.WideShapes Go.Deep Fp

set_option maxRecDepth 100000 in
theorem dim_any (d : Nat) (s : ByteArray) (w : World) (h : w.cell? ⟨d, 6, none⟩ = some (.string s)) : Calls Tryz.prog 49 #[.pointer (some ⟨d, 0, none⟩)] w fun e w' => e = .returned (.string s) ∧ w' = w := by
  go_enter Tryz.func49, Tryz.ntmps49
  go_wp2_with fail
  go_ret
  exact ⟨rfl, rfl⟩

set_option maxHeartbeats 8000000 in
set_option maxRecDepth 100000 in
theorem metaAlike_any (nm1 hp1 un1 nm2 hp2 un2 : ByteArray) (V1 V2 : List ByteArray) (L1 L2 : List P2) (vv1 cv1 vv2 cv2 : Value) (w : World) (hG : Glob w)
    (hok1 : NewOk nm1 hp1 un1 V1 L1) (hV1 : Sl.Of Value.string w vv1 V1) (hL1 : Ss.Of 2 pc w cv1 L1) (hr1 : ∀ p ∈ L1, p.1.size ≤ 2147483647 ∧ p.2.size ≤ 2147483647)
    (hok2 : NewOk nm2 hp2 un2 V2 L2) (hV2 : Sl.Of Value.string w vv2 V2) (hL2 : Ss.Of 2 pc w cv2 L2) (hr2 : ∀ p ∈ L2, p.1.size ≤ 2147483647 ∧ p.2.size ≤ 2147483647) :
    Calls Tryz.prog 21 #[.agg #[.string nm1, .string hp1, .string un1, vv1, cv1], .agg #[.string nm2, .string hp2, .string un2, vv2, cv2]] w fun e w' => e = .returned (.bool ((mkB (dimOf hp1 un1 V1 (fit L1))).toList == (mkB (dimOf hp2 un2 V2 (fit L2))).toList)) ∧ Below w.heap.size w w' := by
  have s1 : (w.alloc (.cells #[.string nm1, .string hp1, .string un1, vv1, cv1] 31)).heap.size = w.heap.size + 1 := by simp
  have s2 : ((w.alloc (.cells #[.string nm1, .string hp1, .string un1, vv1, cv1] 31)).alloc (.cells #[.string nm2, .string hp2, .string un2, vv2, cv2] 31)).heap.size = w.heap.size + 1 + 1 := by simp
  have hqb : Below w.heap.size w ((w.alloc (.cells #[.string nm1, .string hp1, .string un1, vv1, cv1] 31)).alloc (.cells #[.string nm2, .string hp2, .string un2, vv2, cv2] 31)) := ((Below.refl _ _).alloc (Nat.le_refl _) _).alloc (by simp) _
  have HUp : Hid (∀ W : World, Below (w.heap.size + 1 + 1) ((w.alloc (.cells #[.string nm1, .string hp1, .string un1, vv1, cv1] 31)).alloc (.cells #[.string nm2, .string hp2, .string un2, vv2, cv2] 31)) W → Below w.heap.size w W) := fun W h => hqb.trans (h.mono (by omega))
  have HC : Hid (∀ w' : World, Below (w.heap.size + 1 + 1) ((w.alloc (.cells #[.string nm1, .string hp1, .string un1, vv1, cv1] 31)).alloc (.cells #[.string nm2, .string hp2, .string un2, vv2, cv2] 31)) w' → w'.cell? ⟨w.heap.size, 0, none⟩ = some (.string nm1) ∧ w'.cell? ⟨w.heap.size, 1, none⟩ = some (.string hp1) ∧ w'.cell? ⟨w.heap.size, 2, none⟩ = some (.string un1) ∧ w'.cell? ⟨w.heap.size, 3, none⟩ = some vv1 ∧ w'.cell? ⟨w.heap.size, 4, none⟩ = some cv1 ∧ w'.cell? ⟨w.heap.size + 1, 0, none⟩ = some (.string nm2) ∧ w'.cell? ⟨w.heap.size + 1, 1, none⟩ = some (.string hp2) ∧ w'.cell? ⟨w.heap.size + 1, 2, none⟩ = some (.string un2) ∧ w'.cell? ⟨w.heap.size + 1, 3, none⟩ = some vv2 ∧ w'.cell? ⟨w.heap.size + 1, 4, none⟩ = some cv2) := fun W h => by
    have e : ∀ j, W.cell? ⟨w.heap.size, j, none⟩ = (#[.string nm1, .string hp1, .string un1, vv1, cv1] : Array Value)[j]? := fun j => ((h.cell (p := ⟨w.heap.size, j, none⟩) (by show w.heap.size < w.heap.size + 1 + 1; omega)).trans (Sl.cell_old (w.alloc (.cells #[.string nm1, .string hp1, .string un1, vv1, cv1] 31)) _ _ _ (by rw [s1]; omega))).trans (Sl.cell_new w _ _ j)
    have e2 : ∀ j, W.cell? ⟨w.heap.size + 1, j, none⟩ = (#[.string nm2, .string hp2, .string un2, vv2, cv2] : Array Value)[j]? := fun j => by
      have h1 := Sl.cell_new (w.alloc (.cells #[.string nm1, .string hp1, .string un1, vv1, cv1] 31)) #[.string nm2, .string hp2, .string un2, vv2, cv2] 31 j
      rw [s1] at h1
      exact (h.cell (p := ⟨w.heap.size + 1, j, none⟩) (by show w.heap.size + 1 < w.heap.size + 1 + 1; omega)).trans h1
    exact ⟨e 0, e 1, e 2, e 3, e 4, e2 0, e2 1, e2 2, e2 3, e2 4⟩
  have HD1 : Hid (∀ W : World, Below (w.heap.size + 1 + 1) ((w.alloc (.cells #[.string nm1, .string hp1, .string un1, vv1, cv1] 31)).alloc (.cells #[.string nm2, .string hp2, .string un2, vv2, cv2] 31)) W → Calls Tryz.prog 43 #[.agg #[.string nm1, .string hp1, .string un1, vv1, cv1]] W (fun e w' => DescOut nm1 hp1 un1 V1 L1 W e w' ∧ Below (w.heap.size + 1 + 1) ((w.alloc (.cells #[.string nm1, .string hp1, .string un1, vv1, cv1] 31)).alloc (.cells #[.string nm2, .string hp2, .string un2, vv2, cv2] 31)) w')) := fun W h => by
    have hw := HUp.out W h
    have hz := h.size
    refine (desc_any nm1 hp1 un1 V1 L1 vv1 cv1 W (hG.below hw) hok1 (hV1.below hw) (hL1.below hw) hr1).mono ?_
    rintro e w' ho
    obtain ⟨d, v3, c, vn, _, _, hb⟩ := id ho
    exact ⟨ho, h.trans (hb.mono (by omega))⟩
  have HD2 : Hid (∀ W : World, Below (w.heap.size + 1 + 1) ((w.alloc (.cells #[.string nm1, .string hp1, .string un1, vv1, cv1] 31)).alloc (.cells #[.string nm2, .string hp2, .string un2, vv2, cv2] 31)) W → Calls Tryz.prog 43 #[.agg #[.string nm2, .string hp2, .string un2, vv2, cv2]] W (fun e w' => DescOut nm2 hp2 un2 V2 L2 W e w' ∧ Below (w.heap.size + 1 + 1) ((w.alloc (.cells #[.string nm1, .string hp1, .string un1, vv1, cv1] 31)).alloc (.cells #[.string nm2, .string hp2, .string un2, vv2, cv2] 31)) w')) := fun W h => by
    have hw := HUp.out W h
    have hz := h.size
    refine (desc_any nm2 hp2 un2 V2 L2 vv2 cv2 W (hG.below hw) hok2 (hV2.below hw) (hL2.below hw) hr2).mono ?_
    rintro e w' ho
    obtain ⟨d, v3, c, vn, _, _, hb⟩ := id ho
    exact ⟨ho, h.trans (hb.mono (by omega))⟩
  have k0 := Lib.hid (HC.out ((w.alloc (.cells #[.string nm1, .string hp1, .string un1, vv1, cv1] 31)).alloc (.cells #[.string nm2, .string hp2, .string un2, vv2, cv2] 31)) (Below.refl _ _))
  have k1 := Lib.hid (HC.out ((w.alloc (.cells #[.string nm1, .string hp1, .string un1, vv1, cv1] 31)).alloc (.cells #[.string nm2, .string hp2, .string un2, vv2, cv2] 31)).drew (bdr (Below.refl _ _) 1))
  have HQ := Lib.hid (bdr (Below.refl (w.heap.size + 1 + 1) ((w.alloc (.cells #[.string nm1, .string hp1, .string un1, vv1, cv1] 31)).alloc (.cells #[.string nm2, .string hp2, .string un2, vv2, cv2] 31))) 1)
  have hNx : Hid (∀ W W' : World, Below (w.heap.size + 1 + 1) ((w.alloc (.cells #[.string nm1, .string hp1, .string un1, vv1, cv1] 31)).alloc (.cells #[.string nm2, .string hp2, .string un2, vv2, cv2] 31)) W → ∀ d1 v3 c vn d2 v32 c2 vn2, DescAt W d1 nm1 hp1 un1 V1 (fit L1) v3 c vn → DescAt W' d2 nm2 hp2 un2 V2 (fit L2) v32 c2 vn2 → Below W.heap.size W W' →
      W'.cell? ⟨d1, 7, none⟩ = some .nilIface ∧ W'.cell? ⟨d2, 7, none⟩ = some .nilIface ∧ W'.cell? ⟨d1, 6, none⟩ = some (.string (mkB (dimOf hp1 un1 V1 (fit L1)))) ∧ W'.cell? ⟨d2, 6, none⟩ = some (.string (mkB (dimOf hp2 un2 V2 (fit L2))))) := fun W W' _ d1 v3 c vn d2 v32 c2 vn2 h1 h2 hb =>
    ⟨(h1.below hb).c7, h2.c7, (h1.below hb).c6, h2.c6⟩
  clear hG hok1 hok2 hV1 hV2 hL1 hL2 hr1 hr2 hqb
  go_enter Tryz.func21, Tryz.ntmps21
  go_wp2_with fail
  have k0 := k0.out
  have k1 := k1.out
  go_region_held3 (fun w' => w'.cell? ⟨w.heap.size, 0, none⟩ = some (.string nm1) ∧ w'.cell? ⟨w.heap.size, 1, none⟩ = some (.string hp1) ∧ w'.cell? ⟨w.heap.size, 2, none⟩ = some (.string un1) ∧ w'.cell? ⟨w.heap.size, 3, none⟩ = some vv1 ∧ w'.cell? ⟨w.heap.size, 4, none⟩ = some cv1 ∧ w'.cell? ⟨w.heap.size + 1, 0, none⟩ = some (.string nm2) ∧ w'.cell? ⟨w.heap.size + 1, 1, none⟩ = some (.string hp2) ∧ w'.cell? ⟨w.heap.size + 1, 2, none⟩ = some (.string un2) ∧ w'.cell? ⟨w.heap.size + 1, 3, none⟩ = some vv2 ∧ w'.cell? ⟨w.heap.size + 1, 4, none⟩ = some cv2) (first | exact k0 | exact k1 | exact k2 | exact k3)
    (first
      | (go_at_call 43; refine (HD2.out _ HB.out).mono ?_; rintro e W3 ⟨⟨d2, v32, c2, vn2, rfl, hd2, hb3⟩, hb4⟩; have HE := Lib.hid (hNx.out _ _ HB.out _ _ _ _ _ _ _ _ HA.out hd2 hb3); have HF := Lib.hid hb4; have k3 := HC.out W3 hb4; clear hd2 hb3 hb4)
      | (go_at_call 43; refine (HD1.out _ HQ.out).mono ?_; rintro e W2 ⟨⟨d1, v3, c1, vn1, rfl, hd1, hb1⟩, hb2⟩; have HA := Lib.hid hd1; have HB := Lib.hid hb2; have k2 := HC.out W2 hb2; clear hd1 hb1 hb2))
  clear k2 k3
  obtain ⟨m1, m2, m3, m4⟩ := HE.out
  obtain ⟨x, hx⟩ : ∃ x, mkB (dimOf hp1 un1 V1 (fit L1)) = x := ⟨_, rfl⟩
  obtain ⟨y, hy⟩ : ∃ y, mkB (dimOf hp2 un2 V2 (fit L2)) = y := ⟨_, rfl⟩
  rw [hx] at m3
  rw [hy] at m4
  have HX := Lib.hid hx
  have HY := Lib.hid hy
  clear hx hy
  go_wp2_with (first
    | (go_at_call 44; (with_reducible refine (err_any d1 _ m1).mono ?_); rintro e w' ⟨rfl, rfl⟩)
    | (go_at_call 44; (with_reducible refine (err_any d2 _ m2).mono ?_); rintro e w' ⟨rfl, rfl⟩)
    | (go_at_call 49; (with_reducible refine (dim_any d1 _ _ m3).mono ?_); rintro e w' ⟨rfl, rfl⟩)
    | (go_at_call 49; (with_reducible refine (dim_any d2 _ _ m4).mono ?_); rintro e w' ⟨rfl, rfl⟩))
  go_ret
  exact ⟨by rw [HX.out, HY.out]; rfl, HUp.out _ HF.out⟩


def DoorLOut (V X : List ByteArray) (F : List P2) (w : World) (e : Ending) (w' : World) : Prop := ∃ v, e = .returned (.tuple #[v, .bool true]) ∧ Pairs w' v (labs V X F) ∧ Below w.heap.size w w'
set_option maxHeartbeats 4000000 in
set_option maxRecDepth 100000 in
theorem doorLP_any (d c : Nat) (nm hp un : ByteArray) (V X : List ByteArray) (F : List P2) (v3 vn vx : Value) (w : World) (hG : Glob w) (hd : DescAt w d nm hp un V F v3 c vn) (hx : Sl.Of Value.string w vx X) (hl : X.length = V.length) (hn : (F.map (·.1) ++ V).Nodup) (hs : Srt F)
    (hV : V.length ≤ 1048576) (hF : F.length ≤ 1048576) (ha : ∀ s ∈ X, Asc s ∧ s.size ≤ 9223372036854775807) :
    Calls Tryz.prog 46 #[.pointer (some ⟨d, 0, none⟩), vx] w (DoorLOut V X F w) := by
  obtain ⟨an, cn, rfl, hcn1, hcn2⟩ := sl_slice hd.names
  obtain ⟨ax, cx, rfl, hcx1, hcx2⟩ := sl_slice hx
  have k7 := hd.c7
  have k4 := hd.c4
  have n0 := hd.n0
  have CV : Hid (Calls Tryz.prog 75 #[.slice ax X.length cx, .int .i64 (V.length : Int)] w fun e w' => e = .returned .nilIface ∧ Below w.heap.size w w') := by
    have h := values_any X _ w hx hG (by omega) ha
    rw [hl] at h
    rw [hl]
    exact h
  have CM : Hid (∀ W, Below w.heap.size w W → Calls Tryz.prog 76 #[.pointer (some ⟨d, 0, none⟩), .slice ax X.length cx] W (MakeOut V X F W)) := fun W h => make_any d c nm hp un V X F v3 _ _ W (hd.below h) (hx.below h) hl hn hs hV hF
  clear hd hx hl hn hs ha hG
  go_enter Tryz.func46, Tryz.ntmps46
  go_wp2_with fail
  refine CV.out.mono ?_
  rintro e w1 ⟨rfl, hb1⟩
  have HB1 := Lib.hid hb1
  clear hb1 k7 k4 n0
  go_wp2_with fail
  refine (CM.out w1 HB1.out).mono ?_
  rintro e w2 ⟨v, rfl, hp2, hb2⟩
  have HO : Hid (DoorLOut V X F w (.returned (.tuple #[v, .bool true])) w2) := ⟨v, rfl, hp2, HB1.out.trans (hb2.mono HB1.out.size)⟩
  clear hp2 hb2
  go_wp2_with fail
  go_ret2
  exact HO.out

def LPOut (V X : List ByteArray) (L : List P2) (w : World) (e : Ending) (w' : World) : Prop := ∃ v, e = .returned (.tuple #[v, .bool true]) ∧ Ss.Of 2 pc w' v (labs V X (fit L)) ∧ Below w.heap.size w w'
theorem labs_len {V X : List ByteArray} {F : List P2} : (labs V X F).length ≤ F.length + V.length := by
  unfold labs
  refine Nat.le_trans (fit_le _) ?_
  rw [List.length_append, List.length_zip]
  omega
set_option maxHeartbeats 4000000 in
set_option maxRecDepth 100000 in
theorem labelPairs_any (nm hp un : ByteArray) (V X : List ByteArray) (L : List P2) (vv cv vx : Value) (w : World) (hG : Glob w) (hok : NewOk nm hp un V L) (hV : Sl.Of Value.string w vv V) (hL : Ss.Of 2 pc w cv L) (hr : ∀ p ∈ L, p.1.size ≤ 2147483647 ∧ p.2.size ≤ 2147483647)
    (hx : Sl.Of Value.string w vx X) (hl : X.length = V.length) (ha : ∀ s ∈ X, Asc s ∧ s.size ≤ 9223372036854775807) :
    Calls Tryz.prog 18 #[.agg #[.string nm, .string hp, .string un, vv, cv], vx] w (LPOut V X L w) := by
  have hfl := fit_le L
  have hll := hok.lenL
  have hlv := hok.lenV
  have hb0 : Below w.heap.size w (w.alloc (.cells #[.string nm, .string hp, .string un, vv, cv] 31)) := (Below.refl _ _).alloc (Nat.le_refl _) _
  have CD := Lib.hid (desc_any nm hp un V L vv cv _ (hG.below hb0) hok (hV.below hb0) (hL.below hb0) hr)
  have CL : Hid (∀ (W : World) d v3 c vn, Below w.heap.size w W → DescAt W d nm hp un V (fit L) v3 c vn → Calls Tryz.prog 46 #[.pointer (some ⟨d, 0, none⟩), vx] W (DoorLOut V X (fit L) W)) := fun W d v3 c vn h hd =>
    doorLP_any d c nm hp un V X (fit L) v3 vn vx W (hG.below h) hd (hx.below h) hl hok.apart (fit_srt L) hok.lenV (by omega) ha
  have HB0 := Lib.hid hb0
  have hcs : Hid (∀ j, (w.alloc (.cells #[.string nm, .string hp, .string un, vv, cv] 31)).cell? ⟨w.heap.size, j, none⟩ = (#[.string nm, .string hp, .string un, vv, cv] : Array Value)[j]?) := fun j => Sl.cell_new w _ _ j
  have hlab : Hid ((labs V X (fit L)).length ≤ 2147483647) := by
    have := labs_len (V := V) (X := X) (F := fit L)
    show _ ≤ _
    omega
  clear hG hok hV hL hr hx hl ha hb0 hfl hll hlv
  go_enter Tryz.func18, Tryz.ntmps18
  go_wp2_with fail
  refine CD.out.mono ?_
  rintro e w1 ⟨d, v3, c, vn, rfl, hd, hb1⟩
  have hb2 := HB0.out.trans (hb1.mono HB0.out.size)
  have CE := Lib.hid (CL.out w1 d v3 c vn hb2 hd)
  have HB1 := Lib.hid hb2
  clear hd hb1 hb2
  go_wp2_with fail
  refine CE.out.mono ?_
  rintro e w2 ⟨v, rfl, hp2, hb2⟩
  have hb3 := HB1.out.trans (hb2.mono HB1.out.size)
  have CP := Lib.hid (pairs_own _ v w2 hp2 hlab.out)
  have HB2 := Lib.hid hb3
  clear hp2 hb2 hb3
  go_wp2_with fail
  refine CP.out.mono ?_
  rintro e w3 ⟨v4, rfl, ho, hb3⟩
  have HO : Hid (LPOut V X L w (.returned (.tuple #[v4, .bool true])) w3) := ⟨v4, rfl, Ss.Of.own pc_len ho, HB2.out.trans (hb3.mono HB2.out.size)⟩
  clear ho hb3
  go_wp2_with fail
  go_ret2
  exact HO.out

open Classical in
noncomputable def sayVB (V X : List ByteArray) : Bool := decide ((∀ s ∈ X, asciiB s = true) ∧ X.length = V.length)
theorem sayVB_iff {V X : List ByteArray} : sayVB V X = true ↔ (∀ s ∈ X, asciiB s = true) ∧ X.length = V.length := by classical exact ⟨fun h => of_decide_eq_true h, fun h => decide_eq_true h⟩
theorem sayVB_no {V X : List ByteArray} (h : ¬ ((∀ s ∈ X, asciiB s = true) ∧ X.length = V.length)) : sayVB V X = false := by
  cases hb : sayVB V X with
  | false => rfl
  | true => exact absurd (sayVB_iff.1 hb) h
set_option maxHeartbeats 4000000 in
set_option maxRecDepth 100000 in
theorem sayValues_any (mv : Value) (nm hp un : ByteArray) (V X : List ByteArray) (L : List P2) (vx : Value) (w : World) (hm : MetaAt w mv nm hp un V L) (hx : Sl.Of Value.string w vx X) (hX : X.length ≤ 1048576) (hs : ∀ s ∈ X, s.size ≤ 9223372036854775807) :
    Calls Tryz.prog 17 #[mv, vx] w fun e w' => e = .returned (.bool (sayVB V X)) ∧ Below w.heap.size w w' := by
  obtain ⟨vv, cv, rfl, hvv, hcv⟩ := hm.val
  obtain ⟨av, cv2, rfl, hcn1, hcn2⟩ := sl_slice hvv
  obtain ⟨ax, cx, rfl, hcx1, hcx2⟩ := sl_slice hx
  have HX := Lib.hid hx
  have HSz := Lib.hid hs
  have hb0 : Hid (Below w.heap.size w (w.alloc (.cells #[.string nm, .string hp, .string un, .slice av V.length cv2, cv] 25))) := (Below.refl _ _).alloc (Nat.le_refl _) _
  have hc3 : (w.alloc (.cells #[.string nm, .string hp, .string un, .slice av V.length cv2, cv] 25)).cell? ⟨w.heap.size, 3, none⟩ = some (.slice av V.length cv2) := Sl.cell_new w _ _ 3
  have HYes : Hid ((∀ j (h : j < X.length), asciiB X[j] = true) → X.length = V.length → sayVB V X = true) := fun h1 h2 => sayVB_iff.2 ⟨fun s hs => by obtain ⟨j, hj, rfl⟩ := List.mem_iff_getElem.1 hs; exact h1 j hj, h2⟩
  have HNo : Hid (∀ j (h : j < X.length), asciiB X[j] = false → sayVB V X = false) := fun j h h1 => sayVB_no fun hh => by rw [hh.1 _ (List.getElem_mem h)] at h1; exact Bool.noConfusion h1
  have HNo2 : Hid (X.length ≠ V.length → sayVB V X = false) := fun h => sayVB_no fun hh => h hh.2
  clear hm hx hs hvv hcv
  go_enter Tryz.func17, Tryz.ntmps17
  go_wp2_with fail
  generalize hA : (w.alloc (.cells #[.string nm, .string hp, .string un, .slice av V.length cv2, cv] 25)) = wa at *
  clear hA
  go_loopw [5] (fun vk wr => ∃ k : Nat, k ≤ X.length ∧ vk = .int .i64 (k : Int) ∧ Hid (∀ j (h : j < X.length), j < k → asciiB X[j] = true) ∧ wa = wr) (fun k _ => X.length - (intOf k).toNat)
  case atStart => exact ⟨0, Nat.zero_le _, rfl, fun j _ h => absurd h (Nat.not_lt_zero _), rfl⟩
  case round =>
    obtain ⟨k, hk, rfl, hall, rfl⟩ := hrel
    by_cases hlt : k < X.length
    · obtain ⟨b, off, hax, hbb, c0⟩ := sl_at HX.out hlt
      subst hax
      have hsz := HSz.out _ (List.getElem_mem hlt)
      obtain ⟨s, hs⟩ : ∃ s, X[k] = s := ⟨_, rfl⟩
      rw [hs] at c0 hsz
      have c1 : wa.cell? ⟨b, off + k, none⟩ = some (.string s) := by rw [hb0.out.cell (p := ⟨b, off + k, none⟩) hbb]; exact c0
      have z1 : (0 : Int) ≤ (k : Int) := by omega
      have z2 : (k : Int) < (X.length : Int) := by omega
      have HSk := Lib.hid hs
      have C := Lib.hid (ascii_any s wa hsz)
      clear hs c0
      cases ha : asciiB s with
      | true =>
        have hall2 : Hid (∀ j (h : j < X.length), j < k + 1 → asciiB X[j] = true) := fun j h hj => by
          rcases Nat.lt_or_ge j k with h3 | h3
          · exact hall.out j h h3
          · have : j = k := by omega
            subst this
            rw [HSk.out]; exact ha
        have HA := Lib.hid ha
        clear hall ha
        go_wp2_with (go_at_call 40; refine C.out.mono ?_; rintro e w' ⟨rfl, rfl⟩; rw [HA.out])
        go_roundw
        case rel => exact ⟨k + 1, by omega, by go_num, hall2.out, by first | rfl | trivial⟩
        case measure => simp [intOf]; omega
      | false =>
        have HR : Hid (sayVB V X = false) := HNo.out k hlt (by rw [HSk.out]; exact ha)
        have HA := Lib.hid ha
        clear hall ha
        go_wp2_with (go_at_call 40; refine C.out.mono ?_; rintro e w' ⟨rfl, rfl⟩; rw [HA.out])
        go_ret
        exact ⟨by rw [HR.out]; rfl, hb0.out⟩
    · have hge : ¬ ((k : Int) < (X.length : Int)) := by omega
      have HAll : Hid (∀ j (h : j < X.length), asciiB X[j] = true) := fun j h => hall.out j h (by omega)
      clear hall
      by_cases hl : X.length = V.length
      · have HR : Hid (sayVB V X = true) := HYes.out HAll.out hl
        have hl2 : ((X.length : Int) == (V.length : Int)) = true := by rw [beq_iff_eq]; omega
        have hl3 : decide (X.length = V.length) = true := by simpa using hl
        clear hl
        go_wp2_with fail
        go_ret
        exact ⟨by rw [HR.out]; rfl, hb0.out⟩
      · have HR : Hid (sayVB V X = false) := HNo2.out hl
        have hl2 : ((X.length : Int) == (V.length : Int)) = false := by rw [beq_eq_false_iff_ne]; omega
        go_wp2_with fail
        go_ret
        exact ⟨by rw [HR.out]; rfl, hb0.out⟩

end Go.Proofs.YtfcpapbokefdmaaGreatDoor.Nd
