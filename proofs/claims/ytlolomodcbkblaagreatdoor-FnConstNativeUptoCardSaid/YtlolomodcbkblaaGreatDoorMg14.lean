/- Descriptors: plain data make a valid descriptor (plain Lean). Descriptors: the thin package's door to NewDesc; what a descriptor answers. Descriptors: the thin package's 'desc' walked. Descriptors: the thin package's LabelPairs and MetaAlike walked; the reference's question on label values. Metrics: the reference's constant metric (spec.ConstMetric) walked. -/
import Derived.Test.YtlolomodcbkblaaGreatDoorMg13
import Derived.Test.YtlolomodcbkblaaGreatDoorNde
import Derived.Deep.RegionHeld3
import Derived.Test.YtlolomodcbkblaaGreatDoorMg7
import Derived.Test.YtlolomodcbkblaaGreatDoorMg12
import Derived.Deep.MidRow
import Derived.Laws.ResultCell
set_option linter.unusedVariables false
set_option linter.unusedSimpArgs false
namespace Go.Proofs.YtlolomodcbkblaaGreatDoor.Nd
open Go.RowKit Go.ChangeShapes Go.WideShapes Go.Deep Fp

theorem plain_asc {s : ByteArray} (h : PlainP s) : Asc s := by
  intro b hb
  obtain ⟨j, hj, rfl⟩ := List.mem_iff_getElem.1 hb
  have hj2 : j < s.size := by rw [← dl_len]; exact hj
  have h1 := h.1 j hj2
  have h2 := dl_get s j hj2
  rw [List.getElem?_eq_getElem hj] at h2
  have h3 : (dl s)[j] = s[j] := Option.some.inj h2
  unfold plainC at h1
  rw [decide_eq_true_eq] at h1
  have h5 : s[j].toNat < 128 := by omega
  exact Nat.lt_of_le_of_lt (Nat.le_of_eq (congrArg UInt8.toNat h3)) h5
theorem plain_free {s : ByteArray} (h : PlainP s) : Lib.hasPrefix s.data.toList [95, 95] = false := by
  cases hb : Lib.hasPrefix s.data.toList [95, 95] with
  | false => rfl
  | true =>
    exfalso
    have h2 := h.2.2
    have h3 := Lib.hasPrefix_raw s ⟨#[95, 95]⟩
    have h4 : Lib.hasPrefix s.data.toList (ByteArray.mk #[95, 95]).data.toList = true := hb
    rw [h4, Bool.and_eq_true, decide_eq_true_eq, beq_iff_eq] at h3
    have e3 : (ByteArray.mk #[95, 95]).toList = [95, 95] := by rw [Lib.toList_data]
    have e2 : (ByteArray.mk #[95, 95]).size = 2 := rfl
    rw [e2] at h3
    rcases h2 with h2 | h2
    · omega
    · exact h2 (h3.2.trans e3)
theorem name_ok {s : ByteArray} (h : plainB s = true) (hs : s.size ≤ 2147483647) : NameOk s := by
  have hp := plainB_iff.1 h
  exact ⟨hp.2.1, hs, plain_asc hp, plain_free hp⟩
theorem inB_false {x : ByteArray} {l : List ByteArray} (h : inB x l = false) : x ∉ l := by
  intro hm
  unfold inB at h
  rw [List.any_eq_false] at h
  exact h x hm (by simp)
theorem names_nodup {N : List ByteArray} (h : ∀ k (hk : k < N.length), nameB N N[k] k = true) : N.Nodup := by
  show List.Pairwise _ _
  rw [List.pairwise_iff_getElem]
  intro i j hi hj hij he2
  have h1 := h j hj
  unfold nameB at h1
  simp only [Bool.and_eq_true, Bool.not_eq_true'] at h1
  refine inB_false h1.2 ?_
  rw [← he2]
  exact List.mem_take_iff_getElem.2 ⟨i, by omega, rfl⟩
theorem new_ok {nm hp un : ByteArray} {V : List ByteArray} {L : List P2} (h : sayB nm hp un V L = true) (hs : Small nm hp un V L) : NewOk nm hp un V L := by
  have hp' := sayB_iff.1 h
  have hall := hs.all
  have hnm := plainB_iff.1 hp'.nm
  have hfw := fit_wp L
  have hname : ∀ x ∈ namesOf V L, plainB x = true := fun x hx => by
    obtain ⟨k, hk, rfl⟩ := List.mem_iff_getElem.1 hx
    have h1 := hp'.names k hk
    unfold nameB at h1
    simp only [Bool.and_eq_true] at h1
    exact h1.1.1.1
  have hN := names_nodup hp'.names
  refine ⟨hnm.2.1, plain_asc hnm, by omega, fun p hpm => ⟨name_ok (hname _ ?_) ?_, ?_, ?_⟩, fun v hv => name_ok (hname _ (List.mem_append.2 (Or.inl hv))) ?_, ?_, hs.lenL, hs.lenV, ?_, ?_⟩
  · exact List.mem_append.2 (Or.inr (List.mem_map.2 ⟨p, hpm, rfl⟩))
  · have := mem_wp hpm; omega
  · obtain ⟨k, hk, rfl⟩ := List.mem_iff_getElem.1 hpm
    exact ascii_asc (hp'.vals k hk)
  · have := mem_wp hpm; omega
  · have := mem_wt hv; omega
  · exact (List.perm_append_comm.nodup_iff).1 hN
  · unfold idOf
    rw [seps_wt, wt_cons]
    have := wt_vals (fit L)
    omega
  · unfold dimOf
    simp only [List.length_append, List.length_cons, List.length_nil, seps_wt, dl_len]
    rw [wt_perm (sortB_perm _), wt_app, wt_dollar]
    have := wt_keys (fit L)
    have := hs.lenV
    omega

end Go.Proofs.YtlolomodcbkblaaGreatDoor.Nd

set_option linter.unusedVariables false
set_option linter.unusedSimpArgs false
namespace Go.Proofs.YtlolomodcbkblaaGreatDoor.Nd
open Go.RowKit Go.ChangeShapes Go.WideShapes Go.Deep Fp

set_option maxHeartbeats 8000000 in
set_option maxRecDepth 100000 in
theorem door_any (nm hp un : ByteArray) (V : List ByteArray) (L : List P2) (m : Option Nat) (vn : Value) (w : World) (hG : Glob w) (hok : NewOk nm hp un V L) (hm : Ms w m L) (hV : Sl.Of Value.string w vn V) :
    Calls Tryz.prog 109 #[.string nm, .string hp, .string un, vn, .map m] w fun e w' => ∃ W, Below w.heap.size w W ∧ NewOut nm hp un V L vn W e w' := by
  obtain ⟨avn, cvn, rfl⟩ : ∃ a cap, vn = .slice a V.length cap := by
    rcases hV with ⟨rfl, a, cap, rfl, _⟩ | ⟨b, off, cap, rfl, _⟩
    · exact ⟨_, _, rfl⟩
    · exact ⟨_, _, rfl⟩
  have HNew : Hid (∀ (ob ub : Nat) (W : World), Below w.heap.size w W → W.cell? ⟨ob, 0, none⟩ = some (.func (.func 126) #[] #[.pointer (some ⟨ub, 0, none⟩)]) → W.cell? ⟨ub, 0, none⟩ = some (.string un) → (ob < W.heap.size ∧ ub < W.heap.size) →
      Calls Tryz.prog 82 #[.agg #[], .string nm, .string hp, .iface 180 (.slice avn V.length cvn), .map m, .slice (some ⟨ob, 0, none⟩) 1 1] W (NewOut nm hp un V L (.slice avn V.length cvn) W)) :=
    fun ob ub W hb h1 h2 h3 => new_any nm hp un V L m _ ob ub W (hG.below hb) hok (hm.below hb) (hV.below hb) h1 h2 h3
  have hB : Below w.heap.size w ((w.alloc (.cells #[.string un] 9)).alloc (.cells #[.func (.func 126) #[] #[.pointer (some ⟨w.heap.size, 0, none⟩)]] 182)).drew := bdr (((Below.refl _ _).alloc (Nat.le_refl _) _).alloc (by simp) _) 1
  have HCall : Hid (Calls Tryz.prog 82 #[.agg #[], .string nm, .string hp, .iface 180 (.slice avn V.length cvn), .map m, .slice (some ⟨w.heap.size + 1, 0, none⟩) 1 1] ((w.alloc (.cells #[.string un] 9)).alloc (.cells #[.func (.func 126) #[] #[.pointer (some ⟨w.heap.size, 0, none⟩)]] 182)).drew (fun e w' => ∃ W, Below w.heap.size w W ∧ NewOut nm hp un V L (.slice avn V.length cvn) W e w')) := by
    refine (HNew.out (w.heap.size + 1) w.heap.size _ hB ?_ ?_ ?_).mono ?_
    · have h1 := Sl.cell_new (w.alloc (.cells #[.string un] 9)) #[.func (.func 126) #[] #[.pointer (some ⟨w.heap.size, 0, none⟩)]] 182 0
      have h2 : (w.alloc (.cells #[.string un] 9)).heap.size = w.heap.size + 1 := by simp
      rw [h2] at h1
      exact h1
    · have h2 : (w.alloc (.cells #[.string un] 9)).heap.size = w.heap.size + 1 := by simp
      exact (Sl.cell_old (w.alloc (.cells #[.string un] 9)) _ w.heap.size 0 (by rw [h2]; omega)).trans (Sl.cell_new w #[.string un] 9 0)
    · constructor <;> simp [World.drew] <;> omega
    · rintro e w' h
      exact ⟨_, hB, h⟩
  clear hG hok hm hV hB HNew
  go_enter Tryz.func109, Tryz.ntmps109
  go_wp2_with fail
  go_region_held3 (fun w' => True) (trivial)
    (first
      | (go_at_call 84; refine (unit_any _ _).mono ?_; rintro e w' ⟨rfl, rfl⟩)
      | (go_at_call 82; refine HCall.out.mono ?_; rintro e w' ⟨W, hb, d, v3, c, rfl, hd, hb2⟩; have HR : Hid (∃ W, Below w.heap.size w W ∧ NewOut nm hp un V L (.slice avn V.length cvn) W (.returned (.pointer (some ⟨d, 0, none⟩))) w') := ⟨W, hb, d, v3, c, rfl, hd, hb2⟩; clear hb hd hb2))
  go_wp2_with fail
  go_ret
  exact HR.out

end Go.Proofs.YtlolomodcbkblaaGreatDoor.Nd

set_option linter.unusedVariables false
set_option linter.unusedSimpArgs false
namespace Go.Proofs.YtlolomodcbkblaaGreatDoor.Nd
open Go.RowKit Go.Maps Go.WideMaps Go.ChangeShapes Go.WideShapes Go.Deep Fp

def DescOut (nm hp un : ByteArray) (V : List ByteArray) (L : List P2) (w : World) (e : Ending) (w' : World) : Prop :=
  ∃ d v3 c vn, e = .returned (.pointer (some ⟨d, 0, none⟩)) ∧ DescAt w' d nm hp un V (fit L) v3 c vn ∧ Below w.heap.size w w'

set_option maxHeartbeats 16000000 in
set_option maxRecDepth 100000 in
theorem desc_any (nm hp un : ByteArray) (V : List ByteArray) (L : List P2) (vv cv : Value) (w : World) (hG : Glob w) (hok : NewOk nm hp un V L) (hV : Sl.Of Value.string w vv V) (hL : Ss.Of 2 pc w cv L) (hr : ∀ p ∈ L, p.1.size ≤ 2147483647 ∧ p.2.size ≤ 2147483647) :
    Calls Tryz.prog 66 #[.agg #[.string nm, .string hp, .string un, vv, cv]] w (DescOut nm hp un V L w) := by
  obtain ⟨i0, hi, hz0, hz1, hz2⟩ := info_parts infoS
  have hB1 : Below w.heap.size w (w.alloc (.cells #[.string nm, .string hp, .string un, vv, cv] 74)) := (Below.refl _ _).alloc (Nat.le_refl _) _
  have hB1d := bdr hB1 1
  have HB1 := Lib.hid hB1
  have hs1 : (w.alloc (.cells #[.string nm, .string hp, .string un, vv, cv] 74)).heap.size = w.heap.size + 1 := by simp
  have HC : Hid (∀ W : World, Below (w.heap.size + 1) (w.alloc (.cells #[.string nm, .string hp, .string un, vv, cv] 74)) W → W.cell? ⟨w.heap.size, 0, none⟩ = some (.string nm) ∧ W.cell? ⟨w.heap.size, 1, none⟩ = some (.string hp) ∧ W.cell? ⟨w.heap.size, 2, none⟩ = some (.string un) ∧ W.cell? ⟨w.heap.size, 3, none⟩ = some vv ∧ W.cell? ⟨w.heap.size, 4, none⟩ = some cv) := fun W h => by
    have e : ∀ j, W.cell? ⟨w.heap.size, j, none⟩ = (#[.string nm, .string hp, .string un, vv, cv] : Array Value)[j]? := fun j => (h.cell (p := ⟨w.heap.size, j, none⟩) (by show w.heap.size < w.heap.size + 1; omega)).trans (Sl.cell_new w _ _ j)
    exact ⟨e 0, e 1, e 2, e 3, e 4⟩
  have HV : Hid (∀ W : World, Below w.heap.size w W → Ss.Of 1 (fun z => [Value.string z]) W vv V) := fun W h => (sl_ss hV).below h
  have HL : Hid (∀ W : World, Below w.heap.size w W → Ss.Of 2 pc W cv L) := fun W h => hL.below h
  have HR := Lib.hid hr
  have HG := Lib.hid hG
  have HOk := Lib.hid hok
  have HUp : Hid (∀ W : World, Below (w.heap.size + 1) (w.alloc (.cells #[.string nm, .string hp, .string un, vv, cv] 74)) W → Below w.heap.size w W) := fun W h => hB1.trans (h.mono (by omega))
  have hLV : V.length ≤ 1048576 := hok.lenV
  have hLL : L.length ≤ 1048576 := hok.lenL
  have HOneV : Hid (∀ z : ByteArray, ∀ u ∈ [Value.string z], u.oneCell' = true) := fun z => one_str z
  have HNil : Hid ((w.alloc (.cells #[.string nm, .string hp, .string un, vv, cv] 74)).drew.ownsRow (w.heap.size + 1) 9 1 (.slice none 0 0) 0 []) := World.ownsRow_nil _ _ _ _
  have HAp : Hid (∀ v' W', W'.ownsRow (w.heap.size + 1) 9 1 v' (0 + V.length) ([] ++ V.flatMap fun z => [Value.string z]) → (w.alloc (.cells #[.string nm, .string hp, .string un, vv, cv] 74)).drew.grownBy W' (Value.slice none 0 0).ownBlock → Below (w.heap.size + 1) (w.alloc (.cells #[.string nm, .string hp, .string un, vv, cv] 74)) W' ∧ Sl.Of Value.string W' v' V) := fun v' W' ho hg => by
    have hs1d : (w.alloc (.cells #[.string nm, .string hp, .string un, vv, cv] 74)).drew.heap.size = w.heap.size + 1 := hs1
    refine ⟨(bdr (Below.refl (w.heap.size + 1) (w.alloc (.cells #[.string nm, .string hp, .string un, vv, cv] 74))) 1).grown hg (by show w.heap.size + 1 ≤ (w.alloc (.cells #[.string nm, .string hp, .string un, vv, cv] 74)).heap.size; omega) (fun j hj => by cases hj), ?_⟩
    have e6 : ([] ++ V.flatMap fun z => [Value.string z]) = V.map Value.string := by rw [List.nil_append]; exact flat_one V
    rw [e6, Nat.zero_add] at ho
    exact Sl.Of.own ho
  have HLb : Hid (∀ v2 W2 m W3, Below (w.heap.size + 1) (w.alloc (.cells #[.string nm, .string hp, .string un, vv, cv] 74)) W2 → Sl.Of Value.string W2 v2 V → Ms W3 m L → Below W2.heap.size W2 W3 → Below (w.heap.size + 1) (w.alloc (.cells #[.string nm, .string hp, .string un, vv, cv] 74)) W3 ∧ Calls Tryz.prog 109 #[.string nm, .string hp, .string un, v2, .map m] W3 (fun e w' => DescOut nm hp un V L w e w' ∧ Below (w.heap.size + 1) (w.alloc (.cells #[.string nm, .string hp, .string un, vv, cv] 74)) w')) := fun v2 W2 m W3 hb2 hv2 hm3 hb3 => by
    have hz2 := hb2.size
    have hb13 : Below (w.heap.size + 1) (w.alloc (.cells #[.string nm, .string hp, .string un, vv, cv] 74)) W3 := hb2.trans (hb3.mono (by omega))
    have hw3 := HUp.out W3 hb13
    refine ⟨hb13, (door_any nm hp un V L m v2 W3 (HG.out.below hw3) HOk.out hm3 (hv2.below hb3)).mono ?_⟩
    rintro e w' ⟨W, hbW, d, v3, c, rfl, hd, hbn⟩
    have hz3 := hb13.size
    have hzW := hbW.size
    have hb4 : Below (w.heap.size + 1) (w.alloc (.cells #[.string nm, .string hp, .string un, vv, cv] 74)) w' := (hb13.trans (hbW.mono (by omega))).trans (hbn.mono (by omega))
    exact ⟨⟨d, v3, c, v2, rfl, hd, HUp.out w' hb4⟩, hb4⟩
  clear hV hL hr hG hok hB1 hB1d
  go_enter Tryz.func66, Tryz.ntmps66
  go_wp2_with fail
  have k0 := HC.out (w.alloc (.cells #[.string nm, .string hp, .string un, vv, cv] 74)) (Below.refl _ _)
  have k1 := HC.out (w.alloc (.cells #[.string nm, .string hp, .string un, vv, cv] 74)).drew (bdr (Below.refl _ _) 1)
  go_region_held3 (fun w' => w'.cell? ⟨w.heap.size, 0, none⟩ = some (.string nm) ∧ w'.cell? ⟨w.heap.size, 1, none⟩ = some (.string hp) ∧ w'.cell? ⟨w.heap.size, 2, none⟩ = some (.string un) ∧ w'.cell? ⟨w.heap.size, 3, none⟩ = some vv ∧ w'.cell? ⟨w.heap.size, 4, none⟩ = some cv) (first | exact k0 | exact k1 | exact k2 | exact k3 | exact k4)
    (first
      | (refine step_of (by rfl) (.const (.slice none 0 0)) (.tmp 10) 64 (by rfl) (w.heap.size + 1) 9 i0 (.string ByteArray.empty) 1 16 Tryz.underlying64 hi hz0 hz1 hz2 rfl (by decide) _ 0 [] (by rfl) HNil.out (c := fun z => [Value.string z]) (fun _ => rfl) HOneV.out V vv (by rfl) (HV.out _ (bdr HB1.out 1)) (by unfold maxLen; omega) (by omega) (by show _ ≤ (w.alloc (.cells #[.string nm, .string hp, .string un, vv, cv] 74)).heap.size; omega) ?_; intro v2 W2 ho2 hg2 hl2; have HA2 := Lib.hid (HAp.out v2 W2 ho2 hg2); have k2 := HC.out W2 HA2.out.1; clear ho2 hg2 hl2)
      | (go_at_call 59; refine (labels_any L cv _ (HL.out _ (HUp.out _ HA2.out.1)) (by omega) HR.out).mono ?_; rintro e W3 ⟨m, rfl, hm3, hb3⟩; have HD3 := Lib.hid (HLb.out v2 W2 m W3 HA2.out.1 HA2.out.2 hm3 hb3); have k3 := HC.out W3 HD3.out.1; clear hm3 hb3)
      | (go_at_call 109; refine HD3.out.2.mono ?_; rintro e w' ⟨⟨d, v3, c, vn, rfl, hd, hb⟩, hb4⟩; have HFin : Hid (DescOut nm hp un V L w (.returned (.pointer (some ⟨d, 0, none⟩))) w') := ⟨d, v3, c, vn, rfl, hd, hb⟩; have k4 := HC.out w' hb4; clear hd hb hb4))
  go_wp2_with fail
  go_ret
  exact HFin.out

end Go.Proofs.YtlolomodcbkblaaGreatDoor.Nd

set_option linter.unusedVariables false
set_option linter.unusedSimpArgs false
namespace Go.Proofs.YtlolomodcbkblaaGreatDoor.Nd
open Go.RowKit Go.Maps Go.WideMaps Go.ChangeShapes Go.WideShapes Go.Deep Fp

def DoorLOut (V X : List ByteArray) (F : List P2) (w : World) (e : Ending) (w' : World) : Prop := ∃ v, e = .returned (.tuple #[v, .bool true]) ∧ Pairs w' v (labs V X F) ∧ Below w.heap.size w w'
def LPOut (V X : List ByteArray) (L : List P2) (w : World) (e : Ending) (w' : World) : Prop := ∃ v, e = .returned (.tuple #[v, .bool true]) ∧ Ss.Of 2 pc w' v (labs V X (fit L)) ∧ Below w.heap.size w w'
theorem labs_len {V X : List ByteArray} {F : List P2} : (labs V X F).length ≤ F.length + V.length := by
  unfold labs
  refine Nat.le_trans (fit_le _) ?_
  rw [List.length_append, List.length_zip]
  omega
open Classical in
noncomputable def sayVB (V X : List ByteArray) : Bool := decide ((∀ s ∈ X, asciiB s = true) ∧ X.length = V.length)
theorem sayVB_iff {V X : List ByteArray} : sayVB V X = true ↔ (∀ s ∈ X, asciiB s = true) ∧ X.length = V.length := by classical exact ⟨fun h => of_decide_eq_true h, fun h => decide_eq_true h⟩
theorem sayVB_no {V X : List ByteArray} (h : ¬ ((∀ s ∈ X, asciiB s = true) ∧ X.length = V.length)) : sayVB V X = false := by
  cases hb : sayVB V X with
  | false => rfl
  | true => exact absurd (sayVB_iff.1 hb) h
set_option maxHeartbeats 4000000 in
set_option maxRecDepth 100000 in
theorem sayValues_any (mv : Value) (nm hp un : ByteArray) (V X : List ByteArray) (L : List P2) (vx : Value) (w : World) (hm : MetaAt w mv nm hp un V L) (hx : Sl.Of Value.string w vx X) (hX : X.length ≤ 1048576) (hs : ∀ s ∈ X, s.size ≤ 9223372036854775807) :
    Calls Tryz.prog 32 #[mv, vx] w fun e w' => e = .returned (.bool (sayVB V X)) ∧ Below w.heap.size w w' := by
  obtain ⟨vv, cv, rfl, hvv, hcv⟩ := hm.val
  obtain ⟨av, cv2, rfl, hcn1, hcn2⟩ := sl_slice hvv
  obtain ⟨ax, cx, rfl, hcx1, hcx2⟩ := sl_slice hx
  have HX := Lib.hid hx
  have HSz := Lib.hid hs
  have hb0 : Hid (Below w.heap.size w (w.alloc (.cells #[.string nm, .string hp, .string un, .slice av V.length cv2, cv] 66))) := (Below.refl _ _).alloc (Nat.le_refl _) _
  have hc3 : (w.alloc (.cells #[.string nm, .string hp, .string un, .slice av V.length cv2, cv] 66)).cell? ⟨w.heap.size, 3, none⟩ = some (.slice av V.length cv2) := Sl.cell_new w _ _ 3
  have HYes : Hid ((∀ j (h : j < X.length), asciiB X[j] = true) → X.length = V.length → sayVB V X = true) := fun h1 h2 => sayVB_iff.2 ⟨fun s hs => by obtain ⟨j, hj, rfl⟩ := List.mem_iff_getElem.1 hs; exact h1 j hj, h2⟩
  have HNo : Hid (∀ j (h : j < X.length), asciiB X[j] = false → sayVB V X = false) := fun j h h1 => sayVB_no fun hh => by rw [hh.1 _ (List.getElem_mem h)] at h1; exact Bool.noConfusion h1
  have HNo2 : Hid (X.length ≠ V.length → sayVB V X = false) := fun h => sayVB_no fun hh => h hh.2
  clear hm hx hs hvv hcv
  go_enter Tryz.func32, Tryz.ntmps32
  go_wp2_with fail
  generalize hA : (w.alloc (.cells #[.string nm, .string hp, .string un, .slice av V.length cv2, cv] 66)) = wa at *
  clear hA
  go_loopw [5] (fun vk wr => ∃ k : Nat, k ≤ X.length ∧ vk = .int .i64 (k : Int) ∧ Hid (∀ j (h : j < X.length), j < k → asciiB X[j] = true) ∧ wa = wr) (fun k _ => X.length - (intOf k).toNat)
  case atStart => exact ⟨0, Nat.zero_le _, rfl, fun j _ h => absurd h (Nat.not_lt_zero _), rfl⟩
  case round =>
    obtain ⟨k, hk, rfl, hall, rfl⟩ := hrel
    by_cases hlt : k < X.length
    · obtain ⟨b, off, hax, hbb, c0⟩ := sl_at HX.out hlt
      subst hax
      have hsz := HSz.out _ (List.getElem_mem hlt)
      obtain ⟨s, hs⟩ : ∃ s, X[k] = s := ⟨_, rfl⟩
      rw [hs] at c0 hsz
      have c1 : wa.cell? ⟨b, off + k, none⟩ = some (.string s) := by rw [hb0.out.cell (p := ⟨b, off + k, none⟩) hbb]; exact c0
      have z1 : (0 : Int) ≤ (k : Int) := by omega
      have z2 : (k : Int) < (X.length : Int) := by omega
      have HSk := Lib.hid hs
      have C := Lib.hid (ascii_any s wa hsz)
      clear hs c0
      cases ha : asciiB s with
      | true =>
        have hall2 : Hid (∀ j (h : j < X.length), j < k + 1 → asciiB X[j] = true) := fun j h hj => by
          rcases Nat.lt_or_ge j k with h3 | h3
          · exact hall.out j h h3
          · have : j = k := by omega
            subst this
            rw [HSk.out]; exact ha
        have HA := Lib.hid ha
        clear hall ha
        go_wp2_with (go_at_call 62; refine C.out.mono ?_; rintro e w' ⟨rfl, rfl⟩; rw [HA.out])
        go_roundw
        case rel => exact ⟨k + 1, by omega, by go_num, hall2.out, by first | rfl | trivial⟩
        case measure => simp [intOf]; omega
      | false =>
        have HR : Hid (sayVB V X = false) := HNo.out k hlt (by rw [HSk.out]; exact ha)
        have HA := Lib.hid ha
        clear hall ha
        go_wp2_with (go_at_call 62; refine C.out.mono ?_; rintro e w' ⟨rfl, rfl⟩; rw [HA.out])
        go_ret
        exact ⟨by rw [HR.out]; rfl, hb0.out⟩
    · have hge : ¬ ((k : Int) < (X.length : Int)) := by omega
      have HAll : Hid (∀ j (h : j < X.length), asciiB X[j] = true) := fun j h => hall.out j h (by omega)
      clear hall
      by_cases hl : X.length = V.length
      · have HR : Hid (sayVB V X = true) := HYes.out HAll.out hl
        have hl2 : ((X.length : Int) == (V.length : Int)) = true := by rw [beq_iff_eq]; omega
        have hl3 : decide (X.length = V.length) = true := by simpa using hl
        clear hl
        go_wp2_with fail
        go_ret
        exact ⟨by rw [HR.out]; rfl, hb0.out⟩
      · have HR : Hid (sayVB V X = false) := HNo2.out hl
        have hl2 : ((X.length : Int) == (V.length : Int)) = false := by rw [beq_eq_false_iff_ne]; omega
        go_wp2_with fail
        go_ret
        exact ⟨by rw [HR.out]; rfl, hb0.out⟩

end Go.Proofs.YtlolomodcbkblaaGreatDoor.Nd

set_option linter.unusedVariables false
set_option linter.unusedSimpArgs false
namespace Go.Proofs.YtlolomodcbkblaaGreatDoor.Mt
open Go.RowKit Go.Maps Go.WideMaps Go.ChangeShapes Go.WideShapes Go.Deep Fp Obs _root_.Go.Proofs.YtlolomodcbkblaaGreatDoor.Nd

theorem run_store_float (P : Program) (w : World) (a : Addr) (m : Mode) (k : FloatKind) (b : Nat) : (store a (.float k b) m).run P w = stored P w a (.float k b) m := run_store P w a _ m rfl
theorem own_sets {B e sz n b : Nat} {v : Value} {xs : List Value} (hb : b < B) : ∀ (us : List Value) (j : Nat) (W : World), W.ownsRow B e sz v n xs → (W.setCells b j us).ownsRow B e sz v n xs
  | [], _, _, h => h
  | u :: us, j, W, h => own_sets hb us (j + 1) _ (Nd.own_set h hb)
theorem below_sets {B b : Nat} {A : World} (hb : B ≤ b) : ∀ (us : List Value) (j : Nat) (W : World), Below B A W → Below B A (W.setCells b j us)
  | [], _, _, h => h
  | u :: us, j, W, h => below_sets hb us (j + 1) _ (h.setCell hb _)
theorem far_sets {b b' j' : Nat} (hb : b ≠ b') : ∀ (us : List Value) (j : Nat) (W : World), (W.setCells b j us).cell? ⟨b', j', none⟩ = W.cell? ⟨b', j', none⟩
  | [], _, _ => rfl
  | u :: us, j, W => (far_sets hb us (j + 1) _).trans (World.cell?_setCell_far W _ _ u hb)
theorem wp_store_named {P : Program} {op : Oper} {a : Act} {w : World} {K : Act → World → Prop} {Q : Exit → Act → World → Prop} (ty : TypeId) (x y : Operand) (ho : op.op = .store ty x y)
    (b o : Nat) (cells : Array Value) (hx : a.eval x = .pointer (some ⟨b, o, none⟩)) (hy : a.eval y = .agg cells) (ht : w.there b o cells.size) (hi : (P.info? ty).map (·.size) = some cells.size) (h1 : cells.all (·.oneCell') = true)
    (Wf : World) (hWf : w.setCells b o cells.toList = Wf) (h : K (a.put op.dst undef) Wf) : op.wp P a w K Q := wp_store_mid ty x y ho b o cells hx hy ht hi h1 (by rw [hWf]; exact h)
theorem res2 {fn : Func} {p u : Tmp} {ty : TypeId} (h : fn.results = #[.cell p ty, .tmp u]) (tmps : Array Value) (P : Program) (w : World) (a : Addr) (v r : Value) (hp : tmps.getD p undef = .pointer (some a)) (hl : (loadVar ty a).run P w = .ok v w) (hu : tmps.getD u undef = r) :
    (results fn tmps).run P w = .ok (.tuple #[v, r]) w := by
  rw [results_cell_tmp h, hp, hu]
  simp [asAddr, hl, Result.andThen]
theorem there_whole {W : World} {b : Nat} {T : TypeId} {cs : Array Value} (h : Whole W b T cs) : W.there b 0 cs.size := fun j hj => ⟨by rw [Nat.zero_add, h.cell j]; simp [hj], h.free _⟩
attribute [local go_sem] run_store_float

def ConstOut (V X : List ByteArray) (L : List P2) (kind : Int) (val : Nat) (sb : Bool) (w : World) (e : Ending) (w' : World) : Prop :=
  ∃ lab, e = .returned (.tuple #[.agg #[lab, .int .i64 kind, .float .f64 val, .bool false, .float .f64 0, .slice none 0 0, .int .i64 0, .int .i64 0, .bool false, .int .u64 0, .float .f64 0, .slice none 0 0, .int .i64 0, .bool false, .int .i32 0, .float .f64 0, .int .u64 0, .slice none 0 0, .slice none 0 0, .slice none 0 0, .slice none 0 0, .slice none 0 0, .int .u64 0, .float .f64 0, .slice none 0 0, .bool false, .int .i64 0], .bool sb]) ∧ Ss.Of 2 pc w' lab (labs V X (fit L)) ∧ Below w.heap.size w w'

end Go.Proofs.YtlolomodcbkblaaGreatDoor.Mt
