/- Descriptors: a descriptor's data handed on (laws.metaTo). Descriptors: the reference's equality of descriptors (spec.DescSame) walked. -/
import Derived.Test.YtlolomodcbkblaaGreatDoorNst
import Derived.Test.YtlolomodcbkblaaGreatDoorNdm
import Derived.Deep.RegionHeld3
import Derived.Deep.QuietTactic
import Derived.BigQuiet
set_option linter.unusedVariables false
set_option linter.unusedSimpArgs false
namespace Go.Proofs.YtlolomodcbkblaaGreatDoor.Nd
open Go.RowKit Go.Maps Go.WideMaps Go.ChangeShapes Go.WideShapes Go.Deep Fp

/-- a store into another block leaves an own row -/
theorem own_base {W : World} {B B' e sz n : Nat} {u : Value} {xs : List Value} (h : W.ownsRow B e sz u n xs) (hb : B' ≤ B) : W.ownsRow B' e sz u n xs := by
  refine ⟨h.1, ?_⟩
  rcases h.2 with ⟨h1, h2⟩ | ⟨g, cap, cur, h1, h2, h3⟩
  · exact Or.inl ⟨h1, h2⟩
  · exact Or.inr ⟨g, cap, cur, h1, Nat.le_trans hb h2, h3⟩
theorem own_below {W W' : World} {B e sz n : Nat} {u : Value} {xs : List Value} (h : W.ownsRow B e sz u n xs) (hb : Below W.heap.size W W') : W'.ownsRow B e sz u n xs :=
  h.kept (row := none) ⟨hb.os, hb.tape, hb.output, hb.size, fun i hi _ => hb.block i hi⟩ (by cases u.ownBlock <;> simp)
theorem own_set {W : World} {B e sz n b j : Nat} {v u : Value} {xs : List Value} (h : W.ownsRow B e sz v n xs) (hb : b < B) : (W.setCell ⟨b, j, none⟩ u).ownsRow B e sz v n xs :=
  h.kept (row := some b) ⟨rfl, rfl, rfl, by simp [World.setCell], fun i hi hne => Below.heap_setCell W ⟨b, j, none⟩ u i (fun e => hne (congrArg some e))⟩ (by
    cases hv : v.ownBlock with
    | none => exact Or.inl rfl
    | some g => exact Or.inr (by have := (h.lt g hv).1; intro e; injection e with e; omega))
def MetaOut (nm hp un : ByteArray) (V : List ByteArray) (L : List P2) (w : World) (e : Ending) (w' : World) : Prop :=
  ∃ v2 c2, e = .returned (.agg #[.string nm, .string hp, .string un, v2, c2]) ∧ Sl.Of Value.string w' v2 V ∧ Ss.Of 2 pc w' c2 L ∧ Below w.heap.size w w'

set_option maxHeartbeats 16000000 in
set_option maxRecDepth 100000 in
theorem metaTo_any (mv : Value) (nm hp un : ByteArray) (V : List ByteArray) (L : List P2) (w : World) (hm : MetaAt w mv nm hp un V L) :
    Calls Tryz.prog 23 #[mv] w (MetaOut nm hp un V L w) := by
  obtain ⟨i0, hi, hz0, hz1, hz2⟩ := info_parts infoS
  obtain ⟨vv, cv, rfl, hvv, hcv⟩ := hm.val
  have hLV := hm.lenV
  have hLL := hm.lenL
  have HV : Hid (∀ W : World, Below w.heap.size w W → Ss.Of 1 (fun z => [Value.string z]) W vv V) := fun W h => (sl_ss hvv).below h
  have HL : Hid (∀ W : World, Below w.heap.size w W → Ss.Of 2 pc W cv L) := fun W h => hcv.below h
  have HOneV : Hid (∀ z : ByteArray, ∀ u ∈ [Value.string z], u.oneCell' = true) := fun z => one_str z
  have s1 : (w.alloc (.cells #[.string nm, .string hp, .string un, vv, cv] 66)).heap.size = w.heap.size + 1 := by simp
  have s2 : ((w.alloc (.cells #[.string nm, .string hp, .string un, vv, cv] 66)).alloc (.cells #[.string ⟨#[]⟩, .string ⟨#[]⟩, .string ⟨#[]⟩, .slice none 0 0, .slice none 0 0] 74)).heap.size = w.heap.size + 1 + 1 := by simp
  have s3 : (((w.alloc (.cells #[.string nm, .string hp, .string un, vv, cv] 66)).alloc (.cells #[.string ⟨#[]⟩, .string ⟨#[]⟩, .string ⟨#[]⟩, .slice none 0 0, .slice none 0 0] 74)).alloc (.cells #[] 9)).drew.heap.size = w.heap.size + 1 + 1 + 1 := by simp [World.drew]
  have hqb : Below w.heap.size w ((w.alloc (.cells #[.string nm, .string hp, .string un, vv, cv] 66)).alloc (.cells #[.string ⟨#[]⟩, .string ⟨#[]⟩, .string ⟨#[]⟩, .slice none 0 0, .slice none 0 0] 74)) := ((Below.refl _ _).alloc (Nat.le_refl _) _).alloc (by simp) _
  have hqd : Below (w.heap.size + 1 + 1) ((w.alloc (.cells #[.string nm, .string hp, .string un, vv, cv] 66)).alloc (.cells #[.string ⟨#[]⟩, .string ⟨#[]⟩, .string ⟨#[]⟩, .slice none 0 0, .slice none 0 0] 74)) (((w.alloc (.cells #[.string nm, .string hp, .string un, vv, cv] 66)).alloc (.cells #[.string ⟨#[]⟩, .string ⟨#[]⟩, .string ⟨#[]⟩, .slice none 0 0, .slice none 0 0] 74)).alloc (.cells #[] 9)).drew := bdr ((Below.refl _ _).alloc (by rw [s2]; exact Nat.le_refl _) _) 1
  have HUp : Hid (∀ W : World, Below (w.heap.size + 1 + 1) ((w.alloc (.cells #[.string nm, .string hp, .string un, vv, cv] 66)).alloc (.cells #[.string ⟨#[]⟩, .string ⟨#[]⟩, .string ⟨#[]⟩, .slice none 0 0, .slice none 0 0] 74)) W → Below w.heap.size w W) := fun W h => hqb.trans (h.mono (by omega))
  have hgn := heap_alloc_new ((w.alloc (.cells #[.string nm, .string hp, .string un, vv, cv] 66)).alloc (.cells #[.string ⟨#[]⟩, .string ⟨#[]⟩, .string ⟨#[]⟩, .slice none 0 0, .slice none 0 0] 74)) (.cells #[] 9)
  rw [s2] at hgn
  have HNil : Hid ((((w.alloc (.cells #[.string nm, .string hp, .string un, vv, cv] 66)).alloc (.cells #[.string ⟨#[]⟩, .string ⟨#[]⟩, .string ⟨#[]⟩, .slice none 0 0, .slice none 0 0] 74)).alloc (.cells #[] 9)).drew.ownsRow (w.heap.size + 1 + 1) 9 1 (.slice (some ⟨w.heap.size + 1 + 1, 0, none⟩) 0 0) 0 []) :=
    ⟨rfl, Or.inr ⟨w.heap.size + 1 + 1, 0, #[], rfl, Nat.le_refl _, hgn, Nat.le_refl _, by unfold maxLen; omega, rfl, rfl⟩⟩
  have HC : Hid (∀ W : World, Below (w.heap.size + 1 + 1) ((w.alloc (.cells #[.string nm, .string hp, .string un, vv, cv] 66)).alloc (.cells #[.string ⟨#[]⟩, .string ⟨#[]⟩, .string ⟨#[]⟩, .slice none 0 0, .slice none 0 0] 74)) W → W.cell? ⟨w.heap.size, 0, none⟩ = some (.string nm) ∧ W.cell? ⟨w.heap.size, 1, none⟩ = some (.string hp) ∧ W.cell? ⟨w.heap.size, 2, none⟩ = some (.string un) ∧ W.cell? ⟨w.heap.size, 3, none⟩ = some vv ∧ W.cell? ⟨w.heap.size, 4, none⟩ = some cv) := fun W h => by
    have e : ∀ j, W.cell? ⟨w.heap.size, j, none⟩ = (#[.string nm, .string hp, .string un, vv, cv] : Array Value)[j]? := fun j => ((h.cell (p := ⟨w.heap.size, j, none⟩) (by show w.heap.size < w.heap.size + 1 + 1; omega)).trans (Sl.cell_old (w.alloc (.cells #[.string nm, .string hp, .string un, vv, cv] 66)) _ _ _ (by rw [s1]; omega))).trans (Sl.cell_new w _ _ j)
    exact ⟨e 0, e 1, e 2, e 3, e 4⟩
  have HD : Hid (∀ W : World, Below (w.heap.size + 1 + 1) ((w.alloc (.cells #[.string nm, .string hp, .string un, vv, cv] 66)).alloc (.cells #[.string ⟨#[]⟩, .string ⟨#[]⟩, .string ⟨#[]⟩, .slice none 0 0, .slice none 0 0] 74)) W → W.heap[w.heap.size + 1]? = some (.cells #[.string ⟨#[]⟩, .string ⟨#[]⟩, .string ⟨#[]⟩, .slice none 0 0, .slice none 0 0] 74 (0, 0))) := fun W h => by
    have h1 := heap_alloc_new (w.alloc (.cells #[.string nm, .string hp, .string un, vv, cv] 66)) (.cells #[.string ⟨#[]⟩, .string ⟨#[]⟩, .string ⟨#[]⟩, .slice none 0 0, .slice none 0 0] 74)
    rw [s1] at h1
    exact (h.block (w.heap.size + 1) (by omega)).trans h1
  have HAp : Hid (∀ v' W', W'.ownsRow (w.heap.size + 1 + 1) 9 1 v' (0 + V.length) ([] ++ V.flatMap fun z => [Value.string z]) → (((w.alloc (.cells #[.string nm, .string hp, .string un, vv, cv] 66)).alloc (.cells #[.string ⟨#[]⟩, .string ⟨#[]⟩, .string ⟨#[]⟩, .slice none 0 0, .slice none 0 0] 74)).alloc (.cells #[] 9)).drew.grownBy W' (Value.slice (some ⟨w.heap.size + 1 + 1, 0, none⟩) 0 0).ownBlock → Below (w.heap.size + 1 + 1) ((w.alloc (.cells #[.string nm, .string hp, .string un, vv, cv] 66)).alloc (.cells #[.string ⟨#[]⟩, .string ⟨#[]⟩, .string ⟨#[]⟩, .slice none 0 0, .slice none 0 0] 74)) W' ∧ W'.ownsRow (w.heap.size + 1 + 1) 9 1 v' V.length (V.map Value.string)) := fun v' W' ho hg => by
    refine ⟨hqd.grown hg (by rw [s3]; omega) (fun j hj => by have h9 : some (w.heap.size + 1 + 1) = some j := hj; injection h9 with h9; omega), ?_⟩
    have e6 : ([] ++ V.flatMap fun z => [Value.string z]) = V.map Value.string := by rw [List.nil_append]; exact flat_one V
    rw [e6, Nat.zero_add] at ho
    exact ho
  have k0 := Lib.hid (HC.out ((w.alloc (.cells #[.string nm, .string hp, .string un, vv, cv] 66)).alloc (.cells #[.string ⟨#[]⟩, .string ⟨#[]⟩, .string ⟨#[]⟩, .slice none 0 0, .slice none 0 0] 74)) (Below.refl _ _))
  have k1 := Lib.hid (HC.out (((w.alloc (.cells #[.string nm, .string hp, .string un, vv, cv] 66)).alloc (.cells #[.string ⟨#[]⟩, .string ⟨#[]⟩, .string ⟨#[]⟩, .slice none 0 0, .slice none 0 0] 74)).alloc (.cells #[] 9)).drew hqd)
  have k5 := Lib.hid (HC.out (((w.alloc (.cells #[.string nm, .string hp, .string un, vv, cv] 66)).alloc (.cells #[.string ⟨#[]⟩, .string ⟨#[]⟩, .string ⟨#[]⟩, .slice none 0 0, .slice none 0 0] 74)).alloc (.cells #[] 9)) ((Below.refl _ _).alloc (by rw [s2]; exact Nat.le_refl _) _))
  have k6 := Lib.hid (HC.out ((w.alloc (.cells #[.string nm, .string hp, .string un, vv, cv] 66)).alloc (.cells #[.string ⟨#[]⟩, .string ⟨#[]⟩, .string ⟨#[]⟩, .slice none 0 0, .slice none 0 0] 74)).drew (bdr (Below.refl _ _) 1))
  have HQD := Lib.hid (HUp.out _ hqd)
  have HLb : Hid (∀ v2 W2 c2 W3, Below (w.heap.size + 1 + 1) ((w.alloc (.cells #[.string nm, .string hp, .string un, vv, cv] 66)).alloc (.cells #[.string ⟨#[]⟩, .string ⟨#[]⟩, .string ⟨#[]⟩, .slice none 0 0, .slice none 0 0] 74)) W2 → W2.ownsRow (w.heap.size + 1 + 1) 9 1 v2 V.length (V.map Value.string) → W3.ownsRow W2.heap.size 211 2 c2 L.length (L.flatMap pc) → Below W2.heap.size W2 W3 → Below (w.heap.size + 1 + 1) ((w.alloc (.cells #[.string nm, .string hp, .string un, vv, cv] 66)).alloc (.cells #[.string ⟨#[]⟩, .string ⟨#[]⟩, .string ⟨#[]⟩, .slice none 0 0, .slice none 0 0] 74)) W3 ∧ W3.ownsRow (w.heap.size + 1 + 1) 9 1 v2 V.length (V.map Value.string) ∧ W3.ownsRow (w.heap.size + 1 + 1) 211 2 c2 L.length (L.flatMap pc)) := fun v2 W2 c2 W3 hb2 hv2 hc3 hb3 => by
    have hz2 := hb2.size
    exact ⟨hb2.trans (hb3.mono (by omega)), own_below hv2 hb3, own_base hc3 (by omega)⟩
  have HFn : Hid (∀ v2 c2 W3 u0 u1 u2 u3 u4, Below (w.heap.size + 1 + 1) ((w.alloc (.cells #[.string nm, .string hp, .string un, vv, cv] 66)).alloc (.cells #[.string ⟨#[]⟩, .string ⟨#[]⟩, .string ⟨#[]⟩, .slice none 0 0, .slice none 0 0] 74)) W3 ∧ W3.ownsRow (w.heap.size + 1 + 1) 9 1 v2 V.length (V.map Value.string) ∧ W3.ownsRow (w.heap.size + 1 + 1) 211 2 c2 L.length (L.flatMap pc) →
      MetaOut nm hp un V L w (.returned (.agg #[.string nm, .string hp, .string un, v2, c2])) (((((W3.setCell ⟨w.heap.size + 1, 0, none⟩ u0).setCell ⟨w.heap.size + 1, 1, none⟩ u1).setCell ⟨w.heap.size + 1, 2, none⟩ u2).setCell ⟨w.heap.size + 1, 3, none⟩ u3).setCell ⟨w.heap.size + 1, 4, none⟩ u4)) := fun v2 c2 W3 u0 u1 u2 u3 u4 ⟨hb, h2, h3⟩ => by
    have l1 : w.heap.size + 1 < w.heap.size + 1 + 1 := by omega
    have l2 : w.heap.size ≤ w.heap.size + 1 := by omega
    exact ⟨v2, c2, rfl, Sl.Of.own (own_set (own_set (own_set (own_set (own_set h2 l1) l1) l1) l1) l1), Ss.Of.own pc_len (own_set (own_set (own_set (own_set (own_set h3 l1) l1) l1) l1) l1), (((((hqb.trans (hb.mono (by omega))).setCell l2 _).setCell l2 _).setCell l2 _).setCell l2 _).setCell l2 _⟩
  have HDc : Hid (∀ W : World, Below (w.heap.size + 1 + 1) ((w.alloc (.cells #[.string nm, .string hp, .string un, vv, cv] 66)).alloc (.cells #[.string ⟨#[]⟩, .string ⟨#[]⟩, .string ⟨#[]⟩, .slice none 0 0, .slice none 0 0] 74)) W → W.cell? ⟨w.heap.size + 1, 0, none⟩ = some (.string ⟨#[]⟩) ∧ W.cell? ⟨w.heap.size + 1, 1, none⟩ = some (.string ⟨#[]⟩) ∧ W.cell? ⟨w.heap.size + 1, 2, none⟩ = some (.string ⟨#[]⟩) ∧ W.cell? ⟨w.heap.size + 1, 3, none⟩ = some (.slice none 0 0) ∧ W.cell? ⟨w.heap.size + 1, 4, none⟩ = some (.slice none 0 0)) := fun W h =>
    have hW : Obs.Whole W (w.heap.size + 1) 74 _ := HD.out W h
    ⟨hW.cell 0, hW.cell 1, hW.cell 2, hW.cell 3, hW.cell 4⟩
  have HDf : Hid (∀ W : World, Below (w.heap.size + 1 + 1) ((w.alloc (.cells #[.string nm, .string hp, .string un, vv, cv] 66)).alloc (.cells #[.string ⟨#[]⟩, .string ⟨#[]⟩, .string ⟨#[]⟩, .slice none 0 0, .slice none 0 0] 74)) W → ∀ j, W.frozen? ⟨w.heap.size + 1, j, none⟩ = false) := fun W h j =>
    have hW : Obs.Whole W (w.heap.size + 1) 74 _ := HD.out W h
    hW.free j
  have hFar : Hid (∀ (W : World) (i j : Nat) (u : Value), (W.setCell ⟨w.heap.size + 1, i, none⟩ u).cell? ⟨w.heap.size, j, none⟩ = W.cell? ⟨w.heap.size, j, none⟩) := fun W i j u => World.cell?_setCell_far W _ _ u (by show w.heap.size + 1 ≠ w.heap.size; omega)
  clear hvv hcv hm hqb hqd hgn
  go_enter Tryz.func23, Tryz.ntmps23
  go_wp2_with fail
  go_region_held3 (fun w' => w'.cell? ⟨w.heap.size, 0, none⟩ = some (.string nm) ∧ w'.cell? ⟨w.heap.size, 1, none⟩ = some (.string hp) ∧ w'.cell? ⟨w.heap.size, 2, none⟩ = some (.string un) ∧ w'.cell? ⟨w.heap.size, 3, none⟩ = some vv ∧ w'.cell? ⟨w.heap.size, 4, none⟩ = some cv) (first | (with_reducible exact k0.out) | (with_reducible exact k1.out) | (with_reducible exact k5.out) | (with_reducible exact k6.out) | (with_reducible exact k2) | (with_reducible exact k3) | (simp only [hFar.out]; with_reducible exact k3))
    (first
      | ((fail_if_success (have := HA2.out)); refine step_of (by rfl) (.tmp 9) (.tmp 11) 64 (by rfl) (w.heap.size + 1 + 1) 9 i0 (.string ByteArray.empty) 1 16 Tryz.underlying64 hi hz0 hz1 hz2 rfl (by decide) _ 0 [] (by rfl) HNil.out (c := fun z => [Value.string z]) (fun _ => rfl) HOneV.out V vv (by rfl) (HV.out _ HQD.out) (by unfold maxLen; omega) (by omega) (Nat.le_of_lt (by rw [s3]; omega)) ?_; intro v2 W2 ho2 hg2 hl2; obtain ⟨a2, q2, rfl⟩ := row_slice2 ho2; have HA2 := Lib.hid (HAp.out _ W2 ho2 hg2); have k2 := HC.out W2 HA2.out.1; clear ho2 hg2 hl2)
      | (go_at_call 68; refine (pairsTo_own L cv _ (HL.out _ (HUp.out _ HA2.out.1)) (by omega)).mono ?_; rintro e W3 ⟨c2, rfl, hc3, hb3⟩; obtain ⟨a3, q3, rfl⟩ := row_slice2 hc3; have HD3 := Lib.hid (HLb.out _ W2 _ W3 HA2.out.1 HA2.out.2 hc3 hb3); have k3 := HC.out W3 HD3.out.1; obtain ⟨m0, m1, m2, m3, m4⟩ := HDc.out W3 HD3.out.1; have n0 := HDf.out W3 HD3.out.1 0; have n1 := HDf.out W3 HD3.out.1 1; have n2 := HDf.out W3 HD3.out.1 2; have n3 := HDf.out W3 HD3.out.1 3; have n4 := HDf.out W3 HD3.out.1 4; clear hc3 hb3))
  have HD4 := HD3.out
  rw [Nat.zero_add] at HD4
  have HD5 := Lib.hid HD4
  clear HLb HAp HD4 HD3 HA2 HC HD HDc HDf
  go_wp2_with fail
  refine bodyPost_ret (v := .agg #[.string nm, .string hp, .string un, .slice a2 V.length q2, .slice a3 L.length q3]) (by simp [results, Tryz.results23, go_sem, m0, m1, m2, m3, m4]) rfl ?_
  exact HFn.out _ _ _ _ _ _ _ _ HD5.out

end Go.Proofs.YtlolomodcbkblaaGreatDoor.Nd

set_option linter.unusedVariables false
set_option linter.unusedSimpArgs false
namespace Go.Proofs.YtlolomodcbkblaaGreatDoor.Nd
open Go.RowKit Go.ChangeShapes Go.WideShapes Go.Deep Fp Obs

open Classical in
noncomputable def sameB (n1 n2 : ByteArray) (F1 F2 : List P2) : Bool := decide (n1 = n2 ∧ F1.map (·.2) = F2.map (·.2))
theorem sameB_iff {n1 n2 : ByteArray} {F1 F2 : List P2} : sameB n1 n2 F1 F2 = true ↔ n1 = n2 ∧ F1.map (·.2) = F2.map (·.2) := by classical exact ⟨fun h => of_decide_eq_true h, fun h => decide_eq_true h⟩
theorem sameB_no {n1 n2 : ByteArray} {F1 F2 : List P2} (h : ¬ (n1 = n2 ∧ F1.map (·.2) = F2.map (·.2))) : sameB n1 n2 F1 F2 = false := by
  cases hb : sameB n1 n2 F1 F2 with
  | false => rfl
  | true => exact absurd (sameB_iff.1 hb) h
theorem ba_eq {s t : ByteArray} (h : (s.toList == t.toList) = true) : s = t := by
  have h := eq_of_beq h
  rw [Lib.toList_data, Lib.toList_data] at h
  exact dl_inj h
end Go.Proofs.YtlolomodcbkblaaGreatDoor.Nd
