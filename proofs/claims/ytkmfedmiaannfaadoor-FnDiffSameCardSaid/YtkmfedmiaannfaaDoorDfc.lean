/- Differences of two lists: the walk of chainB: where each text stands. -/
import Derived.Test.YtkmfedmiaannfaaDoorDfg
set_option linter.unusedVariables false
set_option linter.unusedSimpArgs false
namespace Go.Proofs.YtkmfedmiaannfaaDoor.Df
open Go.RowKit Go.Maps Go.WideMaps Go.ChangeShapes

theorem infoInt : (Tryd.prog.info? 3).map (fun i => (i.zero, i.size, i.bytes)) = some (some (.int .i64 0), 1, 8) := by kernel_rfl
theorem zeroInts (w : World) : (zeroValue 81).run Tryd.prog w = .ok (.slice none 0 0) w := by kernel_rfl
theorem lawS : Keyed Tryd.prog 9 := string_keyed Tryd.underlying9
theorem cell_one (w : World) (x : Value) (T : TypeId) : ∀ j u, [x][j]? = some u → (w.alloc (.cells #[x] T)).cell? ((⟨w.heap.size, 0, none⟩ : Addr).add j) = some u := by
  intro j u h
  match j, h with
  | 0, h =>
    have h : some x = some u := h
    injection h with h
    subst h
    exact Sl.cell_new w #[x] T 0

theorem nilFunc_neq (w : World) : (binOp .neq 50 .nilFunc .nilFunc).run Tryd.prog w = .ok (.bool false) w := by kernel_rfl
/-- behind k rounds of the first loop -/
def Grouped (w : World) (ys : List ByteArray) (k : Nat) (wr : World) : Prop :=
  ∃ D : DataW Unit, wr.ownsGroups Tryd.prog 9 (w.heap.size + 1) 3 .i64 w.heap.size k D ∧ Says D (idxk ys k) ∧ Below w.heap.size w wr ∧ w.heap.size + 1 ≤ wr.heap.size

/-- a look-up of a text in block bj answers where the text stands in the second list -/
def LookB (w : World) (g bj : Nat) (ys : List ByteArray) : Prop :=
  g < bj ∧ bj < w.heap.size ∧ ∀ s : ByteArray, s.size ≤ 2147483647 → ∃ v, (∀ w' : World, w'.heap[bj]? = w.heap[bj]? → (Instr.lookup 49 (.map (some bj)) (.string s) false).run Tryd.prog w' = .ok v w') ∧ Behind g (Value.int .i64) w v (ofNats (b2j ys s))
theorem LookB.only {w w' : World} {g bj : Nat} {ys : List ByteArray} (h : LookB w g bj ys) (k : w.grownBy w' (some g)) : LookB w' g bj ys := by
  obtain ⟨h1, h2, h3⟩ := h
  have hb := k.block bj h2 (fun e => by injection e with e; omega)
  refine ⟨h1, Nat.lt_of_lt_of_le h2 k.size, fun s hs => ?_⟩
  obtain ⟨v, hr, ho⟩ := h3 s hs
  exact ⟨v, fun w2 hw2 => hr w2 (hw2.trans hb), ho.only k⟩
theorem look_made {W1 w : World} {g b n m base : Nat} {D2 : DataW Unit} {ys : List ByteArray} (h : w.ownsMap Tryd.prog 9 (rowElem W1 base 3 .i64) b n D2) (hs : Says D2 (b2j ys)) (hg : g < base) (hgb : g < b) (hb : b < base) (k : Two W1 w g b) : LookB w g b ys := by
  refine ⟨hgb, h.lt, fun s hsz => ?_⟩
  obtain ⟨v, ps, hrun, hR⟩ := look_any lawS Tryd.underlying49 zeroInts h (rowElem_mk (H := Unit) (World.ownsInts_nil W1 base 3 .i64)) (keyOf_string_mk Tryd.underlying9 (s := s) (by unfold maxLen; omega))
  refine ⟨v, hrun, ?_⟩
  obtain ⟨zs, ho, hz⟩ := rowElem_inv hR
  have hat : D2.atKey (sl s) .nil = rowDatum .i64 v zs := by
    have := congrArg Prod.fst hz
    exact this
  have hzs := says_row hs ho hat
  rw [hzs] at ho
  exact behind_of ho hg hb k

/-- what chainB leaves -/
def ChainOut (ys : List ByteArray) (g : Nat) (va vb x6 x7 x9 : Value) (w : World) (e : Ending) (w' : World) : Prop :=
  e = .returned (.tuple #[]) ∧ ∃ bj jk pp, Whole w' g 55 #[va, vb, .map (some bj), .nilFunc, .bool true, .map (some jk), x6, x7, .map (some pp), x9] ∧
    LookB w' g bj ys ∧ g < jk ∧ w'.heap[jk]? = some (.map #[] 0) ∧ w.grownBy w' (some g)

/-- the loop over all texts, where the popular ones are gathered -/
def Gather (ys : List ByteArray) (g bj r : Nat) (W1 w : World) (cells : Array Value) (D : DataW Unit) (left : Lit → Bool) (cnt : Nat) (wx : World) : Prop :=
  ∃ (m : Nat) (Dp : DataW Unit), wx.ranges Tryd.prog 9 (rowElem W1 (bj + 1) 3 .i64) bj r ys.length D left cnt ∧ wx.ownsMap Tryd.prog 9 unitElem (W1.heap.size + 1) m Dp ∧ m + cnt ≤ ys.length ∧
    PopSays ys Dp left ∧ Two W1 wx g bj ∧ Whole wx g 55 cells ∧ wx.heap[W1.heap.size]? = some (.map #[] 0) ∧ w.grownBy wx (some g)
def mkS (c : Option Addr × Nat × Nat) : Value := .slice c.1 c.2.1 c.2.2
theorem inv_key (key : Value) (kl : Lit) (h : keyOf Tryd.prog 9 key = some kl) : ∃ x, key = Value.string x := by
  obtain ⟨s, h1, _⟩ := string_of_keyOf Tryd.underlying9 h
  exact ⟨s, h1⟩
theorem inv_row {W1 : World} {base : Nat} (v : Value) (y : DataW Unit × List MemPlace) (h : rowElem W1 base 3 .i64 v = some y) : ∃ c, v = mkS c := by
  obtain ⟨zs, ho, _⟩ := rowElem_inv h
  rcases ho.1.2 with ⟨h1, _⟩ | ⟨gq, c, cur, h1, _⟩
  · exact ⟨(none, 0, 0), h1⟩
  · exact ⟨(some _, _, _), h1⟩
theorem row_len {W1 : World} {base : Nat} {c : Option Addr × Nat × Nat} {zs : List Int} (h : W1.ownsInts base 3 .i64 (mkS c) zs) : c.2.1 = zs.length := by
  rcases h.1.2 with ⟨h1, h2⟩ | ⟨gq, cc, cur, h1, _⟩
  · unfold mkS at h1
    injection h1 with _ h3 _
    rw [h3, h2]
  · unfold mkS at h1
    injection h1

def mkU (_ : Unit) : Value := .agg #[]
theorem inv_unit (v : Value) (y : DataW Unit × List MemPlace) (h : unitElem v = some y) : ∃ c, v = mkU c := ⟨(), (unitElem_inv h).1⟩
/-- the loop over the popular texts, which are struck -/
def Strike (ys : List ByteArray) (g bj pp r m : Nat) (W1 w : World) (cells : Array Value) (D Dp : DataW Unit) (left : Lit → Bool) (cnt : Nat) (wx : World) : Prop :=
  ∃ D2 : DataW Unit, wx.ranges Tryd.prog 9 unitElem pp r m Dp left cnt ∧ wx.ownsMap Tryd.prog 9 (rowElem W1 (bj + 1) 3 .i64) bj ys.length D2 ∧ DelSays D2 D Dp left ∧
    Two W1 wx g bj ∧ Whole wx g 55 cells ∧ wx.heap[W1.heap.size]? = some (.map #[] 0) ∧ w.grownBy wx (some g)

set_option maxHeartbeats 8000000 in
set_option maxRecDepth 100000 in
theorem chain_any (ys : List ByteArray) (g : Nat) (va vb x2 x5 x6 x7 x8 x9 : Value) (w : World) (hw : Whole w g 55 #[va, vb, x2, .nilFunc, .bool true, x5, x6, x7, x8, x9])
    (hv : Sl.Of Value.string w vb ys) (hl : ys.length ≤ 2147483647) (hs : ∀ s ∈ ys, s.size ≤ 2147483647) :
    Calls Tryd.prog 32 #[.pointer (some ⟨g, 0, none⟩)] w (ChainOut ys g va vb x6 x7 x9 w) := by
  have hmm := @run_makeMap Tryd.prog
  obtain ⟨i0, hi, hz0, hz1, hz2⟩ := info_parts infoInt
  have hof : ∃ a cap, vb = .slice a ys.length cap := by
    rcases hv with ⟨rfl, a, cap, rfl, _⟩ | ⟨b, off, cap, rfl, _⟩
    · exact ⟨_, _, rfl⟩
    · exact ⟨_, _, rfl⟩
  obtain ⟨a, cap, rfl⟩ := hof
  have c1 : w.cell? ⟨g, 1, none⟩ = some (.slice a ys.length cap) := hw.cell 1
  have hg : g < w.heap.size := hw.lt
  have HW := Lib.hid hw
  have HV := Lib.hid hv
  have HS := Lib.hid hs
  clear hw hv hs
  go_enter Tryd.func32, Tryd.ntmps32
  go_wp2
  go_loopw [21] (fun i wr => ∃ k : Nat, k ≤ ys.length ∧ i = .int .i64 k ∧ Hid (Grouped w ys k wr)) (fun i _ => ys.length - (intOf i).toNat)
  case atStart => exact ⟨0, Nat.zero_le _, rfl, .map [], World.ownsGroups_made _ _ _ _ _, says_start _ (fun s => rfl), (Below.refl _ _).alloc (Nat.le_refl _) _, by simp⟩
  case round =>
    obtain ⟨k, hk, rfl, hgr⟩ := hrel
    obtain ⟨D, hown, hsays, hbw, hws⟩ := hgr.out
    clear hgr
    by_cases hlt : k < ys.length
    · obtain ⟨b, off, haq, hbb, hc⟩ : ∃ b off, a = some ⟨b, off, none⟩ ∧ b < w.heap.size ∧ w.cell? ⟨b, off + k, none⟩ = some (.string (el ys k)) := by
        rcases HV.out with ⟨h, _⟩ | ⟨b, off, cap, h, h0, hcap, hm, hbb, hcell⟩
        · rw [h] at hlt; simp at hlt
        · injection h with h1 h2 h3
          refine ⟨b, off, h1, hbb, ?_⟩
          rw [el_get hlt]
          exact hcell k hlt
      subst haq
      have c0 : wr.cell? ⟨b, off + k, none⟩ = some (.string (el ys k)) := by rw [hbw.cell (p := ⟨b, off + k, none⟩) hbb]; exact hc
      have hsz : (el ys k).size ≤ 2147483647 := by rw [el_get hlt]; exact HS.out _ (List.getElem_mem hlt)
      have hkey := keyOf_string_mk (P := Tryd.prog) (k := 9) Tryd.underlying9 (s := el ys k) (by unfold maxLen; omega)
      have hkn := Lib.hid hkey
      have hstep := says_put hsays (groups_isMap hown)
      have HSays := Lib.hid hsays
      have HStep := Lib.hid hstep
      have HOwn := Lib.hid hown
      have HB := Lib.hid hbw
      have HWs := Lib.hid hws
      obtain ⟨s, hse⟩ : ∃ s, el ys k = s := ⟨_, rfl⟩
      rw [hse] at c0 hsz hkn HStep
      clear hse hkey hc hsays hstep hown hbw hws c1
      go_wp2_with (first
        | (at_lookup; refine wpList_lookup_groups _ rfl _ _ 49 rfl 9 81 3 .i64 lawS Tryd.underlying49 (zeroInts _) (w.heap.size + 1) w.heap.size k D rfl HOwn.out (by unfold maxLen; omega) _ _ rfl hkn.out ?_; intro v zs hat hoi hzl hback; have HAt := Lib.hid hat; have HBack := Lib.hid hback; have HOi := Lib.hid hoi; clear hat hback hoi)
        | (at_builtin; refine wpList_append_own_at _ rfl _ _ 81 rfl (w.heap.size + 1) 3 i0 (.int .i64 0) 1 8 Tryd.underlying81 hi hz0 hz1 hz2 rfl (by decide) _ _ _ rfl (HOi.out.1.alloc _) ⟨wr.heap.size, 0, none⟩ 1 1 [.int .i64 k] rfl rfl (cell_one _ _ _) (ints_oneCell .i64 [(k : Int)]) (by unfold maxLen; omega) (by omega) (by have := HWs.out; simp; omega) ?_; intro v' w1 hown' hgrow hnil hloc; have HOwn' := Lib.hid hown'; have HGrow := Lib.hid hgrow; have HLoc := Lib.hid hloc; clear hown' hgrow hnil hloc)
        | (at_mapUpdate; refine wpList_mapUpdate_back _ rfl _ _ _ 49 rfl HBack.out rfl rfl rfl ((World.grownBy_alloc _ _ _).trans HGrow.out) (HOi.out.appended HOwn'.out (WalkArith.wf_i64 (by omega))) (by simp; omega) (HLoc.out.imp id (fun h => ⟨_, h, by simp⟩)) ?_; intro w2 hown2 hgrow2))
      have hall : wr.grownBy w1 v.ownBlock := (World.grownBy_alloc wr _ _).trans HGrow.out
      have hfin : Hid (Grouped w ys (k + 1) w2) := by
        have hzs := says_row HSays.out HOi.out HAt.out
        have hap := HOi.out.appended HOwn'.out (WalkArith.wf_i64 (by omega))
        have hown3 : w2.ownsGroups (H := Unit) Tryd.prog 9 (w.heap.size + 1) 3 .i64 w.heap.size (k + 1) (D.put (sl s) (rowDatum .i64 v' (zs ++ [(k : Int)]))) := hown2
        refine ⟨_, hown3, ?_, HB.out.groups HOi.out hall hgrow2 HB.out.size (Nat.le_succ _) (Nat.le_refl _), Nat.le_trans HWs.out (Nat.le_trans hall.size hgrow2.size)⟩
        rw [hap.datum_pos (by simp), hzs, ofNats_snoc]
        exact HStep.out
      clear hall hown2 hgrow2
      go_wp2
      go_roundw
      case rel => exact ⟨k + 1, by omega, by go_num, hfin⟩
      case measure => simp [intOf]; omega
    · have hkn : k = ys.length := by omega
      subst hkn
      have hlt : ¬ ys.length < ys.length := by omega
      have hW1 := HW.out.below hbw hg
      have d1 : wr.cell? ⟨g, 1, none⟩ = some (.slice a ys.length cap) := hW1.cell 1
      have d3 : wr.cell? ⟨g, 3, none⟩ = some .nilFunc := hW1.cell 3
      have d4 : wr.cell? ⟨g, 4, none⟩ = some (.bool true) := hW1.cell 4
      have d5 : wr.cell? ⟨g, 5, none⟩ = some x5 := hW1.cell 5
      have fr5 := hW1.free 5
      have hgw := hW1.lt
      have HW1 := Lib.hid hW1
      have HOwn := Lib.hid hown
      have HSays := Lib.hid hsays
      have HB := Lib.hid hbw
      have HWs := Lib.hid hws
      clear hW1 hown hsays hbw hws c1
      have hnn := nilFunc_neq
      have d8 : wr.cell? ⟨g, 8, none⟩ = some x8 := HW1.out.cell 8
      have d2 : wr.cell? ⟨g, 2, none⟩ = some x2 := HW1.out.cell 2
      have fr8 := HW1.out.free 8
      have fr2 := HW1.out.free 2
      by_cases h200 : ys.length < 200
      · have h200' : (ys.length : Int) < 200 := by omega
        have hfin : Hid (ChainOut ys g va (.slice a ys.length cap) x6 x7 x9 w (.returned (.tuple #[])) ((((((wr.setCell ⟨g, 5, none⟩ (.map (some wr.heap.size))).setCell ⟨g, 8, none⟩ (.map (some (wr.heap.size + 1)))).setCell ⟨g, 2, none⟩ (.map (some w.heap.size))).alloc (.map #[] 0)).alloc (.map #[] 0)))) := by
          have hm := groups_map HOwn.out
          have hle := HB.out.size
          have hws := HWs.out
          have hG : w.grownBy wr (some g) := only_below HB.out _
          refine ⟨rfl, w.heap.size, wr.heap.size, wr.heap.size + 1, ?_, ?_, by omega, ?_, ?_⟩
          · exact ((((HW1.out.put 5 _).put 8 _).put 2 _).alloc _).alloc _
          · refine look_made (m := 0) (((((hm.setCell (a := ⟨g, 5, none⟩) (by show w.heap.size ≠ g; omega) _).setCell (a := ⟨g, 8, none⟩) (by show w.heap.size ≠ g; omega) _).setCell (a := ⟨g, 2, none⟩) (by show w.heap.size ≠ g; omega) _).alloc _).alloc _) (says_small HSays.out h200) (by omega) (by omega) (by omega) ?_
            exact (((((Two.refl wr g w.heap.size).put 5 _).put 8 _).put 2 _).alloc _).alloc _
          · rw [Below.heap_alloc _ _ _ (by simp [World.setCell])]
            have := (MapKept.heap_alloc (((wr.setCell ⟨g, 5, none⟩ (.map (some wr.heap.size))).setCell ⟨g, 8, none⟩ (.map (some (wr.heap.size + 1)))).setCell ⟨g, 2, none⟩ (.map (some w.heap.size))) (.map #[] 0)).1
            simpa [World.setCell] using this
          · exact only_alloc (only_alloc (only_put (only_put (only_put hG 5 _) 8 _) 2 _) _) _
        go_wp2
        exact bodyPost_end (by simp [results, Tryd.results32, go_sem]) rfl hfin.out
      · have h200' : (200 : Int) ≤ (ys.length : Int) := by omega
        obtain ⟨Wq, rfl⟩ : ∃ Wq : World, Wq = wr := ⟨_, rfl⟩
        have hm := groups_map HOwn.out
        have hle := HB.out.size
        have hws := HWs.out
        have hmX := ((hm.setCell (a := ⟨g, 5, none⟩) (by show w.heap.size ≠ g; omega) (.map (some Wq.heap.size))).alloc (.map #[] 0)).alloc (.map #[] 0)
        have hsx : (((Wq.setCell ⟨g, 5, none⟩ (.map (some Wq.heap.size))).alloc (.map #[] 0)).alloc (.map #[] 0)).heap.size = Wq.heap.size + 2 := by simp [World.setCell]
        have hpX : (((Wq.setCell ⟨g, 5, none⟩ (.map (some Wq.heap.size))).alloc (.map #[] 0)).alloc (.map #[] 0)).ownsMap Tryd.prog 9 (unitElem (H := Unit)) (Wq.heap.size + 1) 0 (.map []) := by
          have := World.ownsMap_made ((Wq.setCell ⟨g, 5, none⟩ (.map (some Wq.heap.size))).alloc (.map #[] 0)) Tryd.prog 9 (unitElem (H := Unit))
          rw [show ((Wq.setCell ⟨g, 5, none⟩ (.map (some Wq.heap.size))).alloc (.map #[] 0)).heap.size = Wq.heap.size + 1 by simp [World.setCell]] at this
          exact this
        have hjX : (((Wq.setCell ⟨g, 5, none⟩ (.map (some Wq.heap.size))).alloc (.map #[] 0)).alloc (.map #[] 0)).heap[Wq.heap.size]? = some (.map #[] 0) := by
          rw [Below.heap_alloc _ _ _ (by simp [World.setCell])]
          have := (MapKept.heap_alloc (Wq.setCell ⟨g, 5, none⟩ (.map (some Wq.heap.size))) (.map #[] 0)).1
          simpa [World.setCell] using this
        have hWX := ((HW1.out.put 5 (.map (some Wq.heap.size))).alloc (.map #[] 0)).alloc (.map #[] 0)
        have hTX := (((Two.refl Wq g w.heap.size).put 5 (.map (some Wq.heap.size))).alloc (.map #[] 0)).alloc (.map #[] 0)
        have hGX : w.grownBy (((Wq.setCell ⟨g, 5, none⟩ (.map (some Wq.heap.size))).alloc (.map #[] 0)).alloc (.map #[] 0)) (some g) := only_alloc (only_alloc (only_put (only_below HB.out _) 5 _) _) _
        have HMX := Lib.hid hmX
        have HSX := Lib.hid hsx
        have HPX := Lib.hid hpX
        have HJX := Lib.hid hjX
        have HWX := Lib.hid hWX
        have HTX := Lib.hid hTX
        have HGX := Lib.hid hGX
        clear hm hmX hsx hpX hjX hWX hTX hGX
        go_wp2_with (first
          | (at_range; refine wpList_range_own _ rfl _ 49 rfl 9 81 lawS Tryd.underlying49 (rowElem Wq (w.heap.size + 1) 3 .i64) w.heap.size ys.length D rfl HMX.out ?_; intro w0 hrg0 hg0 hs0))
        go_frame
        rw [HSX.out] at hrg0 hs0 ⊢
        have HRg0 := Lib.hid hrg0
        have HG0 := Lib.hid hg0
        have HS0 := Lib.hid hs0
        clear hrg0 hg0 hs0 fr5 fr8 fr2 d1 d2 d3 d4 d5 d8
        go_loopw [12] (fun _ wx => ∃ left cnt, Hid (Gather ys g w.heap.size (Wq.heap.size + 2) Wq w #[va, .slice a ys.length cap, x2, .nilFunc, .bool true, .map (some Wq.heap.size), x6, x7, x8, x9] D left cnt wx)) (fun _ wx => wx.rangeLeft w.heap.size (Wq.heap.size + 2))
        case atStart =>
          refine ⟨_, _, 0, .map [], HRg0.out, HPX.out.kept HG0.out (by simp), ?_, pop_start HSays.out, HTX.out.then_ HG0.out (fun j hj => by cases hj), HWX.out.grown HG0.out (by simp), ?_, HGX.out.andThen HG0.out (fun j hj => by cases hj)⟩
          · have := HMX.out.size_le; omega
          · rw [HG0.out.block _ (by have := HSX.out; omega) (by simp)]; exact HJX.out
        case round =>
          obtain ⟨left, cnt, hga⟩ := hrel
          obtain ⟨m, Dp, hrg, hpm, hmc, hps, htw, hwh, hjk, hgr⟩ := hga.out
          have HRg := Lib.hid hrg
          have HPm := Lib.hid hpm
          have HPs := Lib.hid hps
          have HTw := Lib.hid htw
          have HWh := Lib.hid hwh
          have HJk := Lib.hid hjk
          have HGr := Lib.hid hgr
          clear hrg hpm hps htw hwh hjk hgr hga
          go_wp2_with (first
            | (at_next; refine wpList_next_ranges _ rfl _ rfl 9 lawS (rowElem Wq (w.heap.size + 1) 3 .i64) Value.string mkS inv_key inv_row w.heap.size (Wq.heap.size + 2) ys.length D left cnt rfl HRg.out ?_ ?_))
          · intro hc0 hl0
            have HL0 := Lib.hid hl0
            clear hl0
            obtain ⟨W3, rfl⟩ : ∃ W3 : World, W3 = wr := ⟨_, rfl⟩
            go_wp2_with (first
              | (at_range; refine wpList_range_own _ rfl _ 51 rfl 9 83 lawS Tryd.underlying51 unitElem (Wq.heap.size + 1) m Dp rfl HPm.out ?_; intro w4 hrg4 hg4 hs4))
            go_frame
            have hlt3 := HRg.out.lt
            have hb1 := HRg.out.owns.lt
            have hp1 := HPm.out.lt
            have HRg4 := Lib.hid hrg4
            have HG4 := Lib.hid hg4
            have HS4 := Lib.hid hs4
            clear hrg4 hg4 hs4
            go_loopw [14] (fun _ wx => ∃ left2 cnt2, Hid (Strike ys g w.heap.size (Wq.heap.size + 1) W3.heap.size m Wq w #[va, .slice a ys.length cap, x2, .nilFunc, .bool true, .map (some Wq.heap.size), x6, x7, x8, x9] D Dp left2 cnt2 wx)) (fun _ wx => wx.rangeLeft (Wq.heap.size + 1) W3.heap.size)
            case atStart =>
              refine ⟨_, _, D, HRg4.out, HRg.out.owns.kept HG4.out (by simp), del_start _ _, HTw.out.then_ HG4.out (fun j hj => by cases hj), HWh.out.grown HG4.out (by simp), ?_, HGr.out.andThen HG4.out (fun j hj => by cases hj)⟩
              rw [HG4.out.block _ (by omega) (by simp)]; exact HJk.out
            case round =>
              obtain ⟨left2, cnt2, hst⟩ := hrel
              obtain ⟨D2, hrg5, hbm, hds, htw5, hwh5, hjk5, hgr5⟩ := hst.out
              have HRg5 := Lib.hid hrg5
              have HBm := Lib.hid hbm
              have HDs := Lib.hid hds
              have HTw5 := Lib.hid htw5
              have HWh5 := Lib.hid hwh5
              have HJk5 := Lib.hid hjk5
              have HGr5 := Lib.hid hgr5
              clear hrg5 hbm hds htw5 hwh5 hjk5 hgr5 hst
              go_wp2_with (first
                | (at_next; refine wpList_next_ranges _ rfl _ rfl 9 lawS unitElem Value.string mkU inv_key inv_unit (Wq.heap.size + 1) W3.heap.size m Dp left2 cnt2 rfl HRg5.out ?_ ?_))
              · intro hc2 hl2
                have hfin : Hid (ChainOut ys g va (.slice a ys.length cap) x6 x7 x9 w (.returned (.tuple #[])) ((wr.setCell ⟨g, 8, none⟩ (.map (some (Wq.heap.size + 1)))).setCell ⟨g, 2, none⟩ (.map (some w.heap.size)))) := by
                  refine ⟨rfl, w.heap.size, Wq.heap.size, Wq.heap.size + 1, (HWh5.out.put 8 _).put 2 _, ?_, by omega, ?_, only_put (only_put HGr5.out 8 _) 2 _⟩
                  · exact look_made (m := 0) (((HBm.out.setCell (a := ⟨g, 8, none⟩) (by show w.heap.size ≠ g; omega) _).setCell (a := ⟨g, 2, none⟩) (by show w.heap.size ≠ g; omega) _)) (says_end HSays.out (by omega) HPs.out HL0.out HDs.out hl2) (by omega) (by omega) (by omega) ((HTw5.out.put 8 _).put 2 _)
                  · rw [Below.heap_setCell _ _ _ _ (by show Wq.heap.size ≠ g; omega), Below.heap_setCell _ _ _ _ (by show Wq.heap.size ≠ g; omega)]; exact HJk5.out
                have d8 : wr.cell? ⟨g, 8, none⟩ = some x8 := HWh5.out.cell 8
                have d2 : wr.cell? ⟨g, 2, none⟩ = some x2 := HWh5.out.cell 2
                have fr8 := HWh5.out.free 8
                have fr2 := HWh5.out.free 2
                clear hl2
                go_wp2
                exact bodyPost_end (by simp [results, Tryd.results32, go_sem]) rfl hfin.out
              · intro x c kl y1 y2 w6 cnt6 hkey hlk hRc hat hrg6 hlt6 hg6 hs6 hen
                obtain ⟨x', hx1, hx2, hx3⟩ := string_of_keyOf Tryd.underlying9 hkey
                injection hx1 with hx1
                subst hx1
                have hkl : kl = sl x := hx2
                subst hkl
                have hbm6 := HBm.out.kept hg6 (by intro e; injection e with e; omega)
                have htw6 := HTw5.out.then_ hg6 (fun j hj => by injection hj with hj; have := HG4.out.size; have := HTw.out.1; omega)
                have hwh6 := HWh5.out.grown hg6 (by intro e; injection e with e; have := HWh.out.lt; omega)
                have hjk6 : w6.heap[Wq.heap.size]? = some (.map #[] 0) := by
                  rw [hg6.block _ (by have := HRg5.out.owns.lt; omega) (by intro e; injection e with e; omega)]; exact HJk5.out
                have hgr6 := HGr5.out.andThen hg6 (fun j hj => by injection hj with hj; have := HGr.out.size; omega)
                have hdel := del_step HDs.out hlk
                have HRg6 := Lib.hid hrg6
                have HBm6 := Lib.hid hbm6
                have HTw6 := Lib.hid htw6
                have HWh6 := Lib.hid hwh6
                have HJk6 := Lib.hid hjk6
                have HGr6 := Lib.hid hgr6
                have HDel := Lib.hid hdel
                have HKey := Lib.hid hkey
                have HLt6 := Lib.hid hlt6
                have HEn : Hid ((Instr.entry (.pointer (some ⟨W3.heap.size, 0, none⟩))).run Tryd.prog w6 = .ok (.tuple #[.string x, .agg #[]]) w6) := hen
                clear hrg6 hbm6 htw6 hwh6 hjk6 hgr6 hdel hkey hlt6 hen hat hRc hlk hg6 hs6 hx2
                have hen := HEn.out
                go_wp2_with (first
                  | (at_delete; refine wpList_delete_own _ rfl _ _ 49 9 rfl 81 lawS Tryd.underlying49 (rowElem Wq (w.heap.size + 1) 3 .i64) w.heap.size ys.length D2 rfl HBm6.out (.string x) (sl x) rfl HKey.out ?_; intro w7 hbm7 hturn7))
                go_frame
                have hg7 := hturn7.grown
                have hfin : Hid (Strike ys g w.heap.size (Wq.heap.size + 1) W3.heap.size m Wq w #[va, .slice a ys.length cap, x2, .nilFunc, .bool true, .map (some Wq.heap.size), x6, x7, x8, x9] D Dp (fun z => left2 z && !z.sameKey (sl x)) cnt6 w7) := by
                  refine ⟨_, HRg6.out.kept hg7 (by intro e; injection e with e; omega) (by intro e; injection e with e; omega), hbm7, HDel.out, HTw6.out.then_ hg7 (fun j hj => by injection hj with hj; omega), HWh6.out.grown hg7 (by intro e; injection e with e; omega), ?_, HGr6.out.andThen hg7 (fun j hj => by injection hj with hj; omega)⟩
                  rw [hg7.block _ (by have := HRg6.out.owns.lt; omega) (by intro e; injection e with e; omega)]; exact HJk6.out
                have hmea : w7.rangeLeft (Wq.heap.size + 1) W3.heap.size < wr.rangeLeft (Wq.heap.size + 1) W3.heap.size := by
                  rw [(HRg6.out.kept hg7 (by intro e; injection e with e; omega) (by intro e; injection e with e; omega)).left_eq, HRg5.out.left_eq]; exact HLt6.out
                have HMea := Lib.hid hmea
                clear hg7 hturn7 hbm7 hmea hen
                go_roundw
                case rel => exact ⟨_, cnt6, hfin⟩
                case measure => exact HMea.out
          · intro x ca cn cc kl y1 y2 w1 cnt1 hkey hlk hRc hat hrg1 hlt1 hg1 hs1 hen
            obtain ⟨x', hx1, hx2, hx3⟩ := string_of_keyOf Tryd.underlying9 hkey
            injection hx1 with hx1
            subst hx1
            have hkl : kl = sl x := hx2
            subst hkl
            obtain ⟨zs, ho, hz⟩ := rowElem_inv hRc
            have hat1 : D.atKey (sl x) .nil = rowDatum .i64 (mkS (ca, cn, cc)) zs := by rw [hat .nil]; exact congrArg Prod.fst hz
            have hzs := says_row HSays.out ho hat1
            have hcn : cn = (idxs ys x).length := by
              have := row_len ho
              rw [hzs] at this
              unfold ofNats at this
              rw [List.length_map] at this
              exact this
            have hcl : cn ≤ 2147483647 := by
              rw [hcn]
              have := List.length_filter_le (fun j => eqS (el ys j) x) (List.range ys.length)
              rw [List.length_range] at this
              have : (idxs ys x).length ≤ ys.length := this
              omega
            have hpm1 := HPm.out.kept hg1 (by simp)
            have htw1 := HTw.out.then_ hg1 (fun j hj => by injection hj with hj; omega)
            have hwh1 := HWh.out.grown hg1 (by intro e; injection e with e; omega)
            have hjk1 : w1.heap[Wq.heap.size]? = some (.map #[] 0) := by
              rw [hg1.block _ (by have := HPm.out.lt; omega) (by intro e; injection e with e; omega)]; exact HJk.out
            have hgr1 := HGr.out.andThen hg1 (fun j hj => by injection hj with hj; omega)
            have hbig : big ys x = decide (ys.length / 100 + 1 < cn) := by unfold big; rw [hcn]
            have HEn : Hid ((Instr.entry (.pointer (some ⟨Wq.heap.size + 2, 0, none⟩))).run Tryd.prog w1 = .ok (.tuple #[.string x, .slice ca cn cc]) w1) := hen
            have HRg1 := Lib.hid hrg1
            have HPm1 := Lib.hid hpm1
            have HTw1 := Lib.hid htw1
            have HWh1 := Lib.hid hwh1
            have HJk1 := Lib.hid hjk1
            have HGr1 := Lib.hid hgr1
            have HBig := Lib.hid hbig
            have HKey := Lib.hid hkey
            have HLt1 := Lib.hid hlt1
            clear hrg1 hpm1 htw1 hwh1 hjk1 hgr1 hbig hkey hat hat1 hzs ho hz hcn hRc hx2 hg1 hs1 hen hlk hlt1
            have hen := HEn.out
            by_cases hb : ys.length / 100 + 1 < cn
            · have hb1 : (ys.length : Int) / 100 + 1 < (cn : Int) := by omega
              have hbt : big ys x = true := by rw [HBig.out]; exact decide_eq_true hb
              have HBt := Lib.hid hbt
              clear hbt
              go_wp2_with (first
                | (at_mapUpdate; refine wpList_mapUpdate_own _ rfl _ _ _ 51 rfl 9 83 lawS Tryd.underlying51 unitElem (Wq.heap.size + 1) m Dp rfl HPm1.out (by unfold maxLen; omega) (.string x) (.agg #[]) (sl x) rfl rfl HKey.out (.agg []) [] unitElem_mk ?_; intro w2 hpm2 hg2))
              go_frame
              have hlt2 := HTw1.out.1
              have hrg2 := HRg1.out.kept hg2 (by intro e; injection e with e; omega) (by intro e; injection e with e; omega)
              have hfin : Hid (Gather ys g w.heap.size (Wq.heap.size + 2) Wq w #[va, .slice a ys.length cap, x2, .nilFunc, .bool true, .map (some Wq.heap.size), x6, x7, x8, x9] D (fun z => left z && !z.sameKey (sl x)) cnt1 w2) := by
                refine ⟨m + 1, _, hrg2, hpm2, by have := HLt1.out; omega, pop_put HPs.out HPm1.out.isMap HBt.out, HTw1.out.then_ hg2 (fun j hj => by injection hj with hj; omega), HWh1.out.grown hg2 (by intro e; injection e with e; omega), ?_, HGr1.out.andThen hg2 (fun j hj => by injection hj with hj; omega)⟩
                rw [hg2.block _ (by have := HPm1.out.lt; omega) (by intro e; injection e with e; omega)]; exact HJk1.out
              have hmea : w2.rangeLeft w.heap.size (Wq.heap.size + 2) < wr.rangeLeft w.heap.size (Wq.heap.size + 2) := by
                rw [hrg2.left_eq, HRg.out.left_eq]; exact HLt1.out
              have HMea := Lib.hid hmea
              clear hrg2 hpm2 hg2 hmea hen
              go_roundw
              case rel => exact ⟨_, cnt1, hfin⟩
              case measure => exact HMea.out
            · have hb1 : (cn : Int) ≤ (ys.length : Int) / 100 + 1 := by omega
              have hbt : big ys x = false := by rw [HBig.out]; exact decide_eq_false hb
              have hfin : Hid (Gather ys g w.heap.size (Wq.heap.size + 2) Wq w #[va, .slice a ys.length cap, x2, .nilFunc, .bool true, .map (some Wq.heap.size), x6, x7, x8, x9] D (fun z => left z && !z.sameKey (sl x)) cnt1 w1) :=
                ⟨m, Dp, HRg1.out, HPm1.out, by have := HLt1.out; omega, pop_skip HPs.out hbt, HTw1.out, HWh1.out, HJk1.out, HGr1.out⟩
              clear hbt
              go_wp2
              go_roundw
              case rel => exact ⟨_, cnt1, hfin⟩
              case measure => rw [HRg1.out.left_eq, HRg.out.left_eq]; exact HLt1.out

end Go.Proofs.YtkmfedmiaannfaaDoor.Df
