/- Spans: makeBucketsFromMap walked. -/
import Derived.Test.YtlolomodcbkblaaGreatDoorMg10
import Derived.Deep.RegionLaw
import Derived.Deep.AppendLies
import Derived.Deep.CutRange
import Derived.Deep.QuietTactic
import Derived.BigQuiet
set_option linter.unusedVariables false
set_option linter.unusedSimpArgs false
namespace Go.Proofs.YtlolomodcbkblaaGreatDoor.Sp
open Go.RowKit Go.Maps Go.WideMaps Go.ChangeShapes Go.WideShapes Go.Deep Fp

def Shape (v : Value) (zs : List Int) : Prop := (v = .slice none 0 0 ∧ zs = []) ∨ ∃ b c, v = .slice (some ⟨b, 0, none⟩) zs.length c
theorem shape_of {w : World} {B e : Nat} {v : Value} {zs : List Int} (h : w.ownsRow B e 1 v zs.length (zs.map (Value.int .i64))) : Shape v zs := by
  rcases h.2 with ⟨h1, h2⟩ | ⟨g, cap, cur, h1, _⟩
  · exact Or.inl ⟨h1, List.length_eq_zero_iff.1 h2⟩
  · exact Or.inr ⟨g, cap, h1⟩
def MadeOut (L : List N2) (w : World) (e : Ending) (w' : World) : Prop :=
  ∃ M vs vd, e = .returned (.tuple #[vs, vd]) ∧ Rise M ∧ (∀ q, q ∈ M ↔ lastN L q.1 = some q.2) ∧ Spans w' vs (runsOf 0 (buildX M)) ∧ Sl.Of (Value.int .i64) w' vd (deltasOf 0 (counts (buildX M))) ∧ Shape vd (deltasOf 0 (counts (buildX M))) ∧ Below w.heap.size w w'
theorem last_none {D : DataW Unit} {L : List N2} (hat : AtL D L) (hD : IsMap D) (h0 : Maps.size D = 0) (k : Int) : lastN L k = none := by
  obtain ⟨es, rfl⟩ := hD
  have : es = [] := List.length_eq_zero_iff.1 h0
  subst this
  have h := hat k .nil
  cases e : lastN L k with
  | none => rfl
  | some v => rw [e] at h; cases h
theorem none_out {D : DataW Unit} {L : List N2} {w : World} (hat : AtL D L) (hD : IsMap D) (h0 : Maps.size D = 0) : MadeOut L w (.returned (.tuple #[.slice none 0 0, .slice none 0 0])) w :=
  ⟨[], _, _, rfl, trivial, fun q => by simp [last_none hat hD h0 q.1], ⟨[], rfl, Sl.Of.own (World.ownsRow_nil _ 0 0 1), fun i h => by simp at h⟩, Sl.Of.own (World.ownsRow_nil _ 0 0 1), Or.inl ⟨rfl, rfl⟩, Below.refl _ _⟩
theorem StX.out {B : Nat} {X : List Seg} {w0 w : World} (h : StX B X w0 w) : ∃ vs vd, w.cell? ⟨B, 0, none⟩ = some vs ∧ w.cell? ⟨B + 1, 0, none⟩ = some vd ∧ Spans w vs (runsOf 0 X) ∧ Sl.Of (Value.int .i64) w vd (deltasOf 0 (counts X)) ∧ Shape vd (deltasOf 0 (counts X)) := by
  obtain ⟨qs, vs, vd, h⟩ := h
  refine ⟨vs, vd, h.cs, h.cd, ⟨qs, h.ql, Sl.Of.own (by rw [h.ql]; exact h.rs), h.at_⟩, Sl.Of.own h.rd, shape_of h.rd⟩

set_option maxHeartbeats 8000000 in
set_option maxRecDepth 100000 in
theorem made_any (L : List N2) (b : Nat) (w : World) (hm : Mi w b L) (hL : L.length ≤ 2147483647) (hr : ∀ q : N2, lastN L q.1 = some q.2 → (-1073741824 < q.1 ∧ q.1 < 1073741824) ∧ In64 q.2) :
    Calls Tryz.prog 104 #[.map (some b)] w (MadeOut L w) := by
  obtain ⟨i0, hi, hz0, hz1, hz2⟩ := info_parts infoN
  obtain ⟨p0, hp, hp0, hp1, hp2⟩ := info_parts infoP
  obtain ⟨n, D, hn, hown, hat⟩ := hm
  have hbl := hown.lt
  have hsl := hown.size_le
  have hN := fun h => none_out (w := w) hat hown.isMap h
  obtain ⟨m, hmd⟩ : ∃ m, Maps.size D = m := ⟨_, rfl⟩
  have HM := Lib.hid hmd
  have HO := Lib.hid hown
  have HAt := Lib.hid hat
  have HR := Lib.hid hr
  have HN := Lib.hid hN
  rw [hmd] at hsl
  clear hown hat hr hN hmd
  by_cases h0 : m = 0
  · have hd : ((m : Int) == 0) = true := by rw [h0]; rfl
    have hd2 : decide (m = 0) = true := by rw [h0]; rfl
    have hfin := Lib.hid (HN.out (by rw [HM.out]; exact h0))
    go_enter Tryz.func104, Tryz.ntmps104
    go_wp2_with (first
      | (at_len; refine wpList_len_own _ rfl _ 152 rfl 3 2 Tryz.underlying152 (plainElem Tryz.prog 2) b n D rfl HO.out ?_; rw [HM.out]))
    go_ret2
    exact hfin.out
  · have hd : ((m : Int) == 0) = false := by rw [beq_eq_false_iff_ne]; omega
    have hd2 : decide (m = 0) = false := by rw [decide_eq_false_iff_not]; exact h0
    go_enter Tryz.func104, Tryz.ntmps104
    go_wp2_with (first
      | (at_len; refine wpList_len_own _ rfl _ 152 rfl 3 2 Tryz.underlying152 (plainElem Tryz.prog 2) b n D rfl HO.out ?_; rw [HM.out])
      | (at_range; refine wpList_range_own _ rfl _ 152 rfl 3 2 lawI Tryz.underlying152 (plainElem Tryz.prog 2) b n D rfl HO.out ?_; intro w0 hrg0 hg0 hs0; have HRg0 := Lib.hid hrg0; have HG0 := Lib.hid hg0; have HS0 := Lib.hid hs0; clear hrg0 hg0 hs0))
    go_frame
    go_loopw [4] (fun v wr => Hid (KeysQ L b n D w v wr)) (fun _ wr => wr.rangeLeft b w.heap.size)
    case atStart =>
      refine ⟨[], _, _, HRg0.out, KeysAt.start HAt.out, by simp; rw [HM.out]; exact hsl, World.ownsRow_nil _ _ _ _, ⟨HG0.out.os, HG0.out.tape, HG0.out.output, HG0.out.size, fun i hi => HG0.out.block i hi (by simp)⟩, by rw [HS0.out]; exact Nat.le_refl _⟩
    case round =>
      obtain ⟨ks, left, cnt, hrg, hka, hcn, hrow, hbw, hsz⟩ := hrel.out
      obtain ⟨av, cv, rfl⟩ := row_slice2 hrow
      have HRg := Lib.hid hrg
      have HKa := Lib.hid hka
      have HRow := Lib.hid hrow
      have HBw := Lib.hid hbw
      have HSz := Lib.hid hsz
      clear hrg hka hrow hbw hsz hrel
      go_wp2_with (first
        | (at_next; refine wpList_next_ranges_ii _ rfl _ rfl 3 2 .i64 .i64 lawI Tryz.underlying3 Tryz.underlying2 b w.heap.size n D left cnt rfl HRg.out ?_ ?_))
      · intro hc0 hl0
        have HL0 := Lib.hid (KeysAt.done HKa.out hl0)
        clear hl0
        have hks : ks.length ≤ 2147483647 := by omega
        obtain ⟨W, rfl⟩ : ∃ W : World, W = wr := ⟨_, rfl⟩
        go_wp2_with (first
          | (go_at_call 135; refine (sort_own HRow.out (by omega)).mono ?_; rintro e w2 ⟨rfl, hrow2, hg2⟩; have HRow2 := Lib.hid hrow2; have HG2 := Lib.hid hg2; clear hrow2 hg2))
        have hsorted := sorted_keys HKa.out.nd HL0.out
        have hlen : (ks.mergeSort fun x y => decide (x ≤ y)).length = ks.length := List.length_mergeSort ks
        obtain ⟨ss, hss⟩ : ∃ ss, (ks.mergeSort fun x y => decide (x ≤ y)) = ss := ⟨_, rfl⟩
        rw [hss] at hsorted hlen HRow2
        obtain ⟨M, hM⟩ : ∃ M, ss.map (withCount L) = M := ⟨_, rfl⟩
        rw [hM] at hsorted
        have hMl : M.length = ks.length := by rw [← hM, List.length_map, hlen]
        have hNear : Near M := fun q hq => (HR.out q ((hsorted.2 q).1 hq)).1
        have hMi2 : Mi w2 b L := Mi.kept (⟨n, D, hn, HRg.out.owns, HAt.out⟩ : Mi W b L) HG2.out (by
          intro e
          have := (HRow.out.lt b e.symm).1
          omega)
        have hbw2 : Below w.heap.size w w2 := HBw.out.grown HG2.out (by have := HSz.out; omega) (fun j hj => by have := (HRow.out.lt j hj).1; omega)
        have hget : ∀ (k : Nat) (hk : k < ks.length), ∃ (g : Nat) (i c : Int) (hkM : k < M.length), av = some ⟨g, 0, none⟩ ∧ g < w2.heap.size ∧ w2.cell? ⟨g, k, none⟩ = some (.int .i64 i) ∧ M[k] = (i, c) ∧ lastN L i = some c := by
          intro k hk
          obtain ⟨g, cap, e, hg⟩ := row_addr3 HRow2.out (by omega)
          have hlt := (HRow2.out.lt g (by rw [e]; rfl)).2
          injection e with e1 e2 e3
          have hkM : k < M.length := by omega
          have hks2 : k < ss.length := by omega
          have hmk : M[k] = withCount L ss[k] := by simp only [← hM, List.getElem_map]
          refine ⟨g, ss[k], (lastN L ss[k]).getD 0, hkM, e1, hlt, ?_, hmk, ?_⟩
          · have h2 := HRow2.out
            unfold intsRow at h2
            rw [e1, e2] at h2
            have h3 := h2.cellAt (g := g) k (by rw [Nat.mul_one]; exact hks2)
            rw [h3]
            simp [hks2]
          · have := (hsorted.2 M[k]).1 (List.getElem_mem hkM)
            rw [hmk] at this
            exact this
        have HSo := Lib.hid hsorted
        have HMl := Lib.hid hMl
        have HNe := Lib.hid hNear
        have HMi2 := Lib.hid hMi2
        have HBw2 := Lib.hid hbw2
        have HGet := Lib.hid hget
        have HSt0 := Lib.hid (StX.start w2)
        clear hsorted hMl hNear hMi2 hbw2 hget hlen hss hM
        go_loopw [9, 33] (fun v9 v33 wr => ∃ k : Nat, k ≤ ks.length ∧ v33 = .int .i64 (k : Int) ∧ v9 = .int .i64 (nxt 0 (buildX (M.take k))) ∧ Hid (StX w2.heap.size (buildX (M.take k)) w2 wr)) (fun _ v33 _ => ks.length - (intOf v33).toNat)
        case atStart => exact ⟨0, Nat.zero_le _, rfl, rfl, HSt0.out⟩
        case round =>
          obtain ⟨k, hk, rfl, hv9, hst⟩ := hrel
          by_cases hlt : k < ks.length
          · obtain ⟨g, i, c, hkM, rfl, hgs, hci, hMk, hlc⟩ := HGet.out k hlt
            have hrn := rnd HSo.out.1 HNe.out (by have := HMl.out; omega) hkM hMk
            obtain ⟨X, hX⟩ : ∃ X, buildX (M.take k) = X := ⟨_, rfl⟩
            rw [hX] at hrn hst hv9
            obtain ⟨nx, hnx⟩ : ∃ nx, nxt 0 X = nx := ⟨_, rfl⟩
            rw [hnx] at hrn hv9
            subst hv9
            obtain ⟨i1, i2, n1, n2, hxn, hhere, hnext, hnx2, hfew, hsum, heach, hway⟩ := hrn
            have hbx : Below w2.heap.size w2 wr := hst.out.bel
            have ci : wr.cell? ⟨g, k, none⟩ = some (.int .i64 i) := by rw [hbx.cell (p := ⟨g, k, none⟩) hgs]; exact hci
            obtain ⟨n3, D3, hn3, hown3, hat3⟩ := HMi2.out.below hbx
            have HO3 := Lib.hid hown3
            have HAt3 := Lib.hid hat3
            have HKey : Hid (keyOf Tryz.prog 3 (.int .i64 i) = some (il i)) := keyOf_int_mk Tryz.underlying3 (WalkArith.wf_i64 (by omega))
            have HC : Hid (∀ c2 : Int, D3.atKey (il i) (.lit (.int .i64 0)) = .lit (.int .i64 c2) → c2 = c) := fun c2 h => by
              rw [hat3 i, hlc] at h
              injection h with h
              injection h with _ h
              exact h.symm
            have zz := zeroInt
            have x1 : IntKind.i32.wrap (i - nx) = i - nx := by rw [IntKind.wrap_i32]; omega
            have HNext := Lib.hid hnext
            have HNx2 := Lib.hid hnx2
            have HEach := Lib.hid heach
            have HXn := Lib.hid hxn
            have z1 : (0 : Int) ≤ (k : Int) := by omega
            have z2 : (k : Int) < (ks.length : Int) := by omega
            obtain ⟨qs, vs, vd, hSt⟩ := hst.out
            have c1 := hSt.cs
            obtain ⟨av2, cv2, rfl⟩ := row_slice2 hSt.rs
            have HSt := Lib.hid hSt
            clear hX hnx hhere hnext hnx2 heach hxn hown3 hat3 hci hMk hlc hSt hst
            by_cases hnew : k = 0 ∨ 2 < i - nx
            · have hXnew : X = [] ∨ 2 < i - nx := by
                rcases hnew with h | h
                · left
                  rcases hway with ⟨_, h2⟩ | ⟨h2, _⟩
                  · exact h2
                  · omega
                · exact Or.inr h
              have HXnew := Lib.hid hXnew
              have HWay := Lib.hid hway
              clear hXnew hway
              have hsplit : k = 0 ∨ (0 < k ∧ 2 < i - nx) := by omega
              obtain ⟨k0, hk0⟩ : ∃ k0, k0 = k := ⟨_, rfl⟩
              have Hk0 := Lib.hid hk0
              rw [← hk0] at HNext
              clear hk0
              rcases hsplit with rfl | ⟨b1, b2⟩
              all_goals
                go_wp2_with (first
                  | (at_lookup; refine wpList_lookup_own_int _ rfl _ _ 152 rfl 3 2 .i64 lawI Tryz.underlying152 Tryz.underlying2 (zz _) b n3 D3 rfl HO3.out _ _ rfl HKey.out ?_; intro c2 hc2 hwc2; have e2 := HC.out c2 hc2; subst e2; clear hc2 hwc2))
              all_goals
                have hB0 : w2.heap.size ≤ wr.drew.heap.size := HSt.out.bel.size
                have hStd := HSt.out.kept (w' := wr.drew) (row := none) ⟨rfl, rfl, rfl, Nat.le_refl _, fun i hi _ => rfl⟩ (fun b e => by cases e) (HSt.out.bel.trans (Below.refl _ _).drew)
                have HSpA := Lib.hid (hStd.spanned hB0 HXn.out (new_a wr.drew (i - nx)))
                have HSpB := Lib.hid (hStd.spanned hB0 HXn.out (new_b wr.drew (i - nx)))
                have HRowA : Hid ((spanA wr.drew (i - nx)).ownsRow w2.heap.size 250 1 (.slice av2 (runsOf 0 X).length cv2) (runsOf 0 X).length (qs.map pv)) := (((hStd.rs.alloc _).alloc _).alloc _).alloc _
                have HRowB : Hid ((spanB wr.drew (i - nx)).ownsRow w2.heap.size 250 1 (.slice av2 (runsOf 0 X).length cv2) (runsOf 0 X).length (qs.map pv)) := (((hStd.rs.alloc _).alloc _).alloc _).alloc _
                have HNewsA := Lib.hid (new_four wr.drew (.int .i32 (i - nx)) (.int .u32 0) #[.pointer (some ⟨wr.drew.heap.size, 0, none⟩), .pointer (some ⟨wr.drew.heap.size + 1, 0, none⟩)] (.pointer (some ⟨wr.drew.heap.size + 1 + 1, 0, none⟩)) 21 254 256 250).2.2.2.1
                have HNewsB := Lib.hid (new_four wr.drew (.int .u32 0) (.int .i32 (i - nx)) #[.pointer (some ⟨wr.drew.heap.size + 1, 0, none⟩), .pointer (some ⟨wr.drew.heap.size, 0, none⟩)] (.pointer (some ⟨wr.drew.heap.size + 1 + 1, 0, none⟩)) 254 21 256 250).2.2.2.1
                have HBaseA : Hid (w2.heap.size ≤ (spanA wr.drew (i - nx)).heap.size) := Nat.le_trans hB0 (new_a wr.drew (i - nx)).2.2.1.size
                have HBaseB : Hid (w2.heap.size ≤ (spanB wr.drew (i - nx)).heap.size) := Nat.le_trans hB0 (new_b wr.drew (i - nx)).2.2.1.size
                have HOneP : Hid (∀ u ∈ [Value.pointer (some ⟨wr.heap.size + 1 + 1, 0, none⟩)], u.oneCell' = true) := by
                  show ∀ u ∈ _, _
                  intro u hu; simp at hu; rw [hu]; rfl
                have hrl : (runsOf 0 X).length ≤ 2147483647 := by rw [runsOf_len]; exact hfew
                have l0 : w2.heap.size < wr.heap.size := by have := (StX.size ⟨qs, _, vd, HSt.out⟩); omega
                have l1 : w2.heap.size < wr.heap.size + 1 := by omega
                have l2 : w2.heap.size < wr.heap.size + 1 + 1 := by omega
                have l3 : w2.heap.size < wr.heap.size + 1 + 1 + 1 := by omega
                clear hStd hB0
                go_region_law
                  (first
                    | (refine step_append_lies _ rfl (.tmp 51) (.tmp 57) 232 rfl w2.heap.size 250 p0 (.pointer none) 1 8 Tryz.underlying232 hp hp0 hp1 hp2 rfl (by decide) _ _ _ rfl HRowA.out ⟨wr.heap.size + 1 + 1 + 1, 0, none⟩ 1 1 [.pointer (some ⟨wr.heap.size + 1 + 1, 0, none⟩)] rfl rfl HNewsA.out HOneP.out (by decide) (by unfold maxLen; omega) (by omega) HBaseA.out (wr.heap.size + 1 + 1 + 1 + 1) (by simp) ?_; intro g5 cu5 W5 hown5 hgrow5 hat5 hlt5; obtain ⟨⟨e5, f5⟩, hF⟩ := HSpA.out g5 cu5 W5 hown5 hgrow5 hat5; have HF := Lib.hid hF; clear hown5 hgrow5 hat5 hlt5 hF)
                    | (refine step_append_lies _ rfl (.tmp 51) (.tmp 57) 232 rfl w2.heap.size 250 p0 (.pointer none) 1 8 Tryz.underlying232 hp hp0 hp1 hp2 rfl (by decide) _ _ _ rfl HRowB.out ⟨wr.heap.size + 1 + 1 + 1, 0, none⟩ 1 1 [.pointer (some ⟨wr.heap.size + 1 + 1, 0, none⟩)] rfl rfl HNewsB.out HOneP.out (by decide) (by unfold maxLen; omega) (by omega) HBaseB.out (wr.heap.size + 1 + 1 + 1 + 1) (by simp) ?_; intro g5 cu5 W5 hown5 hgrow5 hat5 hlt5; obtain ⟨⟨e5, f5⟩, hF⟩ := HSpB.out g5 cu5 W5 hown5 hgrow5 hat5; have HF := Lib.hid hF; clear hown5 hgrow5 hat5 hlt5 hF)
                    | (go_simp; go_at_call 107; refine (of32_any _ _).mono ?_; rintro e w' ⟨rfl, rfl⟩)
                    | (go_simp; go_at_call 108; refine (ofu32_any _ _).mono ?_; rintro e w' ⟨rfl, rfl⟩))
                all_goals
                  have hsm : (counts (X ++ [(i, [])])).length ≤ 8589934592 := by rw [counts_new]; omega
                  have HSm := Lib.hid hsm
                  have hFz := HF.out
                  have HRel : Hid (∀ W9, StX w2.heap.size (X ++ [(i, [] ++ [c2])]) w2 W9 → StX w2.heap.size (buildX (M.take (k0 + 1))) w2 W9) := fun W9 h => by rw [HNext.out, step_new X (i, c2) (by rw [HXn.out]; exact HXnew.out)]; exact h
                  have HNx3 : Hid (Value.int .i64 (i + 1) = .int .i64 (nxt 0 (buildX (M.take (k0 + 1))))) := by show _ = _; rw [HNext.out, HNx2.out]
                  clear hsm hFz
                  go_wp2_with (first
                    | (go_at_call 136; refine (delta_X w2.heap.size X (i, []) c2 w2 _ HF.out (by simp) (by omega) HSm.out).mono ?_; rintro e w9 ⟨rfl, h9⟩; have H9 := Lib.hid (HRel.out _ h9); clear h9))
                  go_roundw
                  case rel => exact ⟨k0 + 1, by have := Hk0.out; omega, by first | rfl | (rw [Hk0.out]; go_num), HNx3.out, H9.out⟩
                  case measure => first | (simp [intOf]; omega) | (have := Hk0.out; simp [intOf]; omega)
            · obtain ⟨b1, b2, b3, b4⟩ : 0 < k ∧ X ≠ [] ∧ nx ≤ i ∧ i - nx ≤ 2 := by
                rcases hway with ⟨h1, _⟩ | ⟨h1, h2, h3⟩
                · exact absurd (Or.inl h1) hnew
                · exact ⟨h1, h2, h3, by omega⟩
              obtain ⟨D0, s, hXs⟩ : ∃ D0 s, X = D0 ++ [s] := ⟨X.dropLast, X.getLast b2, (List.dropLast_concat_getLast b2).symm⟩
              obtain ⟨dn, hdn⟩ : ∃ dn : Nat, i - nx = (dn : Int) := ⟨(i - nx).toNat, by omega⟩
              have hsl := HEach.out s (by rw [hXs]; simp)
              have hDl : D0.length ≤ 2147483647 := by rw [hXs] at hfew; simp at hfew; omega
              have HRel : Hid (∀ W9, StX w2.heap.size (D0 ++ [(s.1, (s.2 ++ List.replicate dn 0) ++ [c])]) w2 W9 → StX w2.heap.size (buildX (M.take (k + 1))) w2 W9) := fun W9 h => by
                rw [HNext.out, hXs, step_gap D0 s (i, c) (by rw [← hXs, HXn.out]; simp only; omega)]
                rw [show ((i, c).1 - nxt 0 (D0 ++ [s])).toNat = dn by rw [← hXs, HXn.out]; simp only; omega]
                exact h
              have HNx3 : Hid (Value.int .i64 (i + 1) = .int .i64 (nxt 0 (buildX (M.take (k + 1))))) := by show _ = _; rw [HNext.out, HNx2.out]
              have HS0 : Hid (StX w2.heap.size (D0 ++ [(s.1, s.2 ++ List.replicate 0 0)]) w2 wr) := by
                have : StX w2.heap.size X w2 wr := ⟨qs, _, vd, HSt.out⟩
                rw [hXs] at this
                have e : (s.1, s.2 ++ List.replicate 0 0) = s := by simp
                rw [e]
                exact this
              have HCnt : Hid (∀ j, j ≤ 2 → (counts (D0 ++ [(s.1, s.2 ++ List.replicate j 0)])).length ≤ 8589934592) := fun j hj => by
                rw [hXs, counts_snoc] at hsum
                rw [counts_snoc]
                simp at hsum ⊢
                omega
              have HXs := Lib.hid hXs
              have y1 : ((k : Int) == 0) = false := by rw [beq_eq_false_iff_ne]; omega
              have y2 : decide (k = 0) = false := by rw [decide_eq_false_iff_not]; omega
              have y3 : decide ((2 : Int) < (dn : Int)) = false := by rw [decide_eq_false_iff_not]; omega
              have y4 : (dn : Int) ≤ 2 := by omega
              have x2 : IntKind.i32.wrap (dn : Int) = dn := by rw [IntKind.wrap_i32]; omega
              have hdd : dn ≤ 2 := by omega
              rw [hdn] at x1
              have Hdn := Lib.hid hdn
              clear hXs hway b2 hnew x1
              go_wp2_with (first
                | (at_lookup; refine wpList_lookup_own_int _ rfl _ _ 152 rfl 3 2 .i64 lawI Tryz.underlying152 Tryz.underlying2 (zz _) b n3 D3 rfl HO3.out _ _ rfl HKey.out ?_; intro c2 hc2 hwc2; have e2 := HC.out c2 hc2; subst e2; clear hc2 hwc2))
              obtain ⟨Wz, rfl⟩ : ∃ Wz : World, Wz = wr := ⟨_, rfl⟩
              go_loopw [60] (fun v60 wx => ∃ j : Nat, j ≤ dn ∧ v60 = .int .i32 (j : Int) ∧ Hid (StX w2.heap.size (D0 ++ [(s.1, s.2 ++ List.replicate j 0)]) w2 wx)) (fun v60 _ => dn - (intOf v60).toNat)
              case atStart => exact ⟨0, Nat.zero_le _, rfl, HS0.out⟩
              case round =>
                obtain ⟨j, hj, rfl, hsj⟩ := hrel
                have hj2 : j ≤ 2 := by omega
                have HLen : Hid ((s.2 ++ List.replicate j (0 : Int)).length ≤ 4294967294) := by show _ ≤ _; simp; omega
                by_cases hjl : j < dn
                · have u1 : (j : Int) < (dn : Int) := by omega
                  have HStep : Hid (∀ W9, StX w2.heap.size (D0 ++ [(s.1, (s.2 ++ List.replicate j 0) ++ [0])]) w2 W9 → StX w2.heap.size (D0 ++ [(s.1, s.2 ++ List.replicate (j + 1) 0)]) w2 W9) := fun W9 h => by
                    rw [List.replicate_succ', ← List.append_assoc]; exact h
                  go_wp2_with (first
                    | (go_at_call 136; refine (delta_X w2.heap.size D0 (s.1, s.2 ++ List.replicate j 0) 0 w2 _ hsj.out HLen.out (by omega) (HCnt.out j hj2)).mono ?_; rintro e w9 ⟨rfl, h9⟩; have H9 := Lib.hid (HStep.out _ h9); clear h9))
                  go_roundw
                  case rel => exact ⟨j + 1, by omega, by go_num, H9.out⟩
                  case measure => simp [intOf]; omega
                · obtain rfl : j = dn := by omega
                  go_wp2_with (first
                    | (go_at_call 136; refine (delta_X w2.heap.size D0 (s.1, s.2 ++ List.replicate j 0) c2 w2 _ hsj.out HLen.out (by omega) (HCnt.out j hj2)).mono ?_; rintro e w9 ⟨rfl, h9⟩; have H9 := Lib.hid (HRel.out _ h9); clear h9))
                  go_roundw
                  case rel => exact ⟨k + 1, by omega, by go_num, HNx3.out, H9.out⟩
                  case measure => simp [intOf]; omega
          · obtain rfl : k = ks.length := by omega
            have hbx : Below w2.heap.size w2 wr := hst.out.bel
            obtain ⟨vs, vd, c1, c2, hsp, hde, hsh⟩ := hst.out.out
            have HFin : Hid (∀ nq, MadeOut L w (.returned (.tuple #[vs, vd])) (wr.drewN nq)) := fun nq => by
              have hMt : M.take ks.length = M := by rw [← HMl.out]; exact List.take_length
              rw [hMt] at hsp hde hsh
              have hdr : Below wr.heap.size wr (wr.drewN nq) := below_drewN (Below.refl _ _) nq
              obtain ⟨qs, hq1, hq2, hq3⟩ := hsp
              exact ⟨M, vs, vd, rfl, HSo.out.1, HSo.out.2, ⟨qs, hq1, hq2.below hdr, fun i h h2 => (hq3 i h h2).below hdr⟩, hde.below hdr, hsh, below_drewN (HBw2.out.trans (hbx.mono HBw2.out.size)) nq⟩
            clear hsp hde hsh hbx hst
            go_wp2_with fail
            go_quiet (fail)
            go_wp2_with fail
            go_ret2
            exact HFin.out nq
      · intro x c w1 cnt1 hwx hwc hlx hatx hrg1 hlt1 hg1 hs1 hen
        have hks : ks.length < 2147483647 := by omega
        have HNews := Lib.hid (Sp.cell_box w1 (.int .i64 x) 3)
        have HOne : Hid (∀ u ∈ [Value.int .i64 x], u.oneCell' = true) := by
          show ∀ u ∈ _, _
          intro u hu; simp at hu; rw [hu]; rfl
        have hrow1 : Hid ((w1.alloc (.cells #[.int .i64 x] 3)).ownsRow (w.heap.size + 1) 3 1 (.slice av ks.length cv) ks.length (ks.map (Value.int .i64))) := by
          refine World.ownsRow.alloc (HRow.out.kept hg1 ?_) _
          cases e : Value.ownBlock (.slice av ks.length cv) with
          | none => exact Or.inl rfl
          | some j => exact Or.inr (fun e2 => by injection e2 with e2; have := (HRow.out.lt j e).1; omega)
        have hszb : w.heap.size + 1 ≤ (w1.alloc (.cells #[.int .i64 x] 3)).heap.size := Nat.le_trans HSz.out (Nat.le_trans hg1.size (by simp))
        have HStep : Hid (∀ v2 w2, w2.ownsRow (w.heap.size + 1) 3 1 v2 (ks.length + 1) (ks.map (Value.int .i64) ++ [.int .i64 x]) → (w1.alloc (.cells #[.int .i64 x] 3)).grownBy w2 (Value.ownBlock (.slice av ks.length cv)) → KeysQ L b n D w v2 w2 ∧ w2.rangeLeft b w.heap.size < wr.rangeLeft b w.heap.size) :=
          fun v2 w2 ho hg => KeysQ.next hbl HAt.out HRg.out HKa.out hcn HRow.out HBw.out HSz.out hlx hatx hrg1 hlt1 hg1 ho hg
        have HEn := Lib.hid hen
        clear hwx hwc hlx hatx hrg1 hlt1 hg1 hs1 hen
        have hen := HEn.out
        go_wp2_with (first
          | (at_builtin; refine wpList_append_own_at _ rfl _ _ 329 rfl (w.heap.size + 1) 3 i0 (.int .i64 0) 1 8 Tryz.underlying329 hi hz0 hz1 hz2 rfl (by decide) _ _ _ rfl hrow1.out ⟨w1.heap.size, 0, none⟩ 1 1 [.int .i64 x] rfl rfl HNews.out HOne.out (by unfold maxLen; omega) (by omega) hszb ?_; intro v2 w2 hown2 hgrow2 hnil2 hloc2; have H2 := Lib.hid (HStep.out v2 w2 hown2 hgrow2); clear hown2 hgrow2 hnil2 hloc2))
        go_roundw
        case rel => exact H2.out.1
        case measure => exact H2.out.2

end Go.Proofs.YtlolomodcbkblaaGreatDoor.Sp
