/- Differences of two lists: the walk of findLongestMatch, joined. -/
import Derived.Test.YtkmfedmiaannfaaDoorDff
set_option linter.unusedVariables false
set_option linter.unusedSimpArgs false
namespace Go.Proofs.YtkmfedmiaannfaaDoor.Df
open Go.RowKit Go.Maps Go.WideMaps Go.ChangeShapes

def FlOut (m : M3) (w : World) (e : Ending) (w' : World) : Prop := e = .returned (.agg #[.int .i64 m.1, .int .i64 m.2.1, .int .i64 m.2.2]) ∧ Below w.heap.size w w'

/-- the head of the outer loop: n rows are done -/
def Rows1 (xs ys : List ByteArray) (alo blo bhi n jk : Nat) (w : World) (vi vj vk vm : Value) (wr : World) : Prop :=
  ∃ (b : Nat) (st : M3), st = best xs ys alo blo bhi n ∧ vi = .int .i64 st.1 ∧ vj = .int .i64 st.2.1 ∧ vk = .int .i64 st.2.2 ∧ vm = .map (some b) ∧ w.heap.size < b ∧ Holds wr b ys.length (old xs ys alo blo bhi n) ∧ Rest w jk wr

/-- the head of the inner loop: m columns of this row are done -/
def Cols (xs ys : List ByteArray) (alo blo bhi n jk : Nat) (w Wo : World) (b : Nat) (js : List Nat) (m : Nat) (s2 : M3) (wx : World) : Prop :=
  row xs ys alo blo bhi n s2 (js.drop m) = best xs ys alo blo bhi (n + 1) ∧ Holds wx Wo.heap.size m (now xs ys alo blo bhi n (js.take m)) ∧ Holds wx b ys.length (old xs ys alo blo bhi n) ∧ Rest w jk wx ∧ Wo.heap.size < wx.heap.size

theorem cols_done {xs ys : List ByteArray} {alo blo bhi n jk : Nat} {w Wo : World} {b : Nat} {js : List Nat} {m : Nat} {s2 : M3} {wx : World} (h : Cols xs ys alo blo bhi n jk w Wo b js m s2 wx) (hjs : b2j ys (el xs (alo + n)) = js)
    (hz : ∀ x ∈ js.drop m, cs xs ys alo blo bhi n x = 0) (hm : m ≤ js.length) (hjl : js.length ≤ ys.length) (hw : w.heap.size < Wo.heap.size) : Rows1 xs ys alo blo bhi (n + 1) jk w (.int .i64 s2.1) (.int .i64 s2.2.1) (.int .i64 s2.2.2) (.map (some Wo.heap.size)) wx := by
  obtain ⟨h1, h2, _, h5, h6⟩ := h
  rw [row_none hz] at h1
  refine ⟨Wo.heap.size, s2, h1, rfl, rfl, rfl, rfl, hw, (h2.more (by omega)).same (fun j => ?_), h5⟩
  have e := now_rest (xs := xs) (ys := ys) (alo := alo) (blo := blo) (bhi := bhi) (n := n) (js := js.take m) (rs := js.drop m) hz j
  rw [List.take_append_drop] at e
  rw [← e, ← hjs]
  exact old_all j

set_option maxHeartbeats 16000000 in
set_option maxRecDepth 100000 in
theorem longest_any (xs ys : List ByteArray) (g : Nat) (mv fv ov : Value) (alo ahi blo bhi : Nat) (w : World) (h : Mat w g xs ys mv fv ov) (hx : xs.length ≤ 2147483647) (hy : ys.length ≤ 2147483647)
    (hsx : ∀ s ∈ xs, s.size ≤ 2147483647) (hsy : ∀ s ∈ ys, s.size ≤ 2147483647) (ha : alo ≤ ahi) (hah : ahi ≤ xs.length) (hb : blo ≤ bhi) (hbh : bhi ≤ ys.length) :
    Calls Tryd.prog 28 #[.pointer (some ⟨g, 0, none⟩), .int .i64 alo, .int .i64 ahi, .int .i64 blo, .int .i64 bhi] w (FlOut (fl xs ys alo ahi blo bhi) w) := by
  have hmm := @run_makeMap Tryd.prog
  obtain ⟨va, vb, bj, jk, pp, hw, hlk, ⟨hgj, hj⟩, hva, hvb⟩ := h
  obtain ⟨aa, ca, rfl⟩ := hva.slice
  obtain ⟨ab, cb, rfl⟩ := hvb.slice
  have hg := hw.lt
  have HW := Lib.hid hw
  have HLk := Lib.hid hlk
  have HJ := Lib.hid hj
  have HVa := Lib.hid hva
  have HVb := Lib.hid hvb
  have HSx := Lib.hid hsx
  have HSy := Lib.hid hsy
  have hjkl := (Array.getElem?_eq_some_iff.1 HJ.out).1
  have hR0 : Rest w jk ((w.alloc (.cells #[.int .i64 0, .int .i64 0, .int .i64 0] 59)).alloc (.map #[] 0)) := by
    refine ⟨?_, ((Below.refl _ _).alloc (Nat.le_refl _) _).alloc (by simp) _, by simp; omega, (Whole.made w _ _).alloc _⟩
    rw [Below.heap_alloc _ _ _ (by simp; omega), Below.heap_alloc _ _ _ hjkl]; exact HJ.out
  have HR0 := Lib.hid hR0
  clear hw hlk hj hva hvb hsx hsy hgj hR0
  go_enter Tryd.func28, Tryd.ntmps28
  go_wp2
  go_loopw [11, 12, 13, 14, 15] (fun vi vj vk vm i wr => ∃ n p : Nat, n ≤ ahi - alo ∧ i = .int .i64 (p : Int) ∧ Hid (alo + n = p) ∧ Hid (Rows1 xs ys alo blo bhi n jk w vi vj vk vm wr)) (fun _ _ _ _ i _ => ahi - (intOf i).toNat)
  case atStart =>
    refine ⟨0, alo, Nat.zero_le _, rfl, rfl, _, _, rfl, rfl, rfl, rfl, rfl, ?_, ?_, HR0.out⟩
    · simp
    · have := Holds.made (w.alloc (.cells #[.int .i64 0, .int .i64 0, .int .i64 0] 59))
      simp at this ⊢
      exact (this.more (Nat.zero_le _)).same (fun j => (old_zero _ _ _ _ _ _).symm)
  case round =>
    obtain ⟨n, p, hn, rfl, hp, hr1⟩ := hrel
    have hp1 : alo + n ≤ p ∧ p ≤ alo + n := by have := hp.out; omega
    obtain ⟨hp1, hp2⟩ := hp1
    obtain ⟨Wo, rfl⟩ : ∃ Wo : World, Wo = wr := ⟨_, rfl⟩
    obtain ⟨b, st, hst, rfl, rfl, rfl, rfl, hwb, hho, hre⟩ := hr1.out
    have hbw := hre.below
    have hws := hre.more
    have HRe := Lib.hid hre
    clear hr1 hre
    by_cases hlt : n < ahi - alo
    · as_aux_lemma =>
      have hne : ((p : Int) != (ahi : Int)) = true := by
        rw [bne_iff_ne]; omega
      have hax : p < xs.length := by omega
      obtain ⟨ba, oa, haa, hba, hca⟩ : ∃ b off, aa = some ⟨b, off, none⟩ ∧ b < g ∧ w.cell? ⟨b, off + p, none⟩ = some (.string (el xs p)) := by
        rcases HVa.out.1 with ⟨h, _⟩ | ⟨b, off, cap, h, h0, hcap, hm, hbb, hcell⟩
        · rw [h] at hax; simp at hax
        · injection h with h1 h2 h3
          refine ⟨b, off, h1, HVa.out.2 b off _ _ (by rw [h1]) h0, ?_⟩
          rw [el_get hax]
          exact hcell _ hax
      subst haa
      have c0 : Wo.cell? ⟨g, 0, none⟩ = some (.slice (some ⟨ba, oa, none⟩) xs.length ca) := by rw [hbw.cell (p := ⟨g, 0, none⟩) hg]; exact HW.out.cell 0
      have c2 : Wo.cell? ⟨g, 2, none⟩ = some (.map (some bj)) := by rw [hbw.cell (p := ⟨g, 2, none⟩) hg]; exact HW.out.cell 2
      have hba' : ba < w.heap.size := by omega
      have hgw : g < Wo.heap.size := by omega
      have hbaw : ba < Wo.heap.size := by omega
      have cx : Wo.cell? ⟨ba, oa + p, none⟩ = some (.string (el xs p)) := by rw [hbw.cell (p := ⟨ba, oa + p, none⟩) hba']; exact hca
      have hsz : (el xs p).size ≤ 2147483647 := by rw [el_get hax]; exact HSx.out _ (List.getElem_mem hax)
      obtain ⟨v, hrun, hbe⟩ := HLk.out.2.2 _ hsz
      have hjb := HLk.out.2.1
      have hlook : ∀ w' : World, w'.heap[bj]? = w.heap[bj]? → (Instr.lookup 49 (.map (some bj)) (.string (el xs p)) false).run Tryd.prog w' = .ok v w' := hrun
      have hl1 : ∀ k, (Instr.lookup 49 (.map (some bj)) (.string (el xs p)) false).run Tryd.prog ((Wo.alloc (.map #[] 0)).drewN k) = .ok v ((Wo.alloc (.map #[] 0)).drewN k) := fun k => hlook _ ((Below.heap_alloc Wo _ bj (by omega)).trans (hbw.block bj hjb))
      obtain ⟨s, hse⟩ : ∃ s, el xs p = s := ⟨_, rfl⟩
      rw [hse] at cx hl1
      have k0 : (0 : Int) ≤ (p : Int) := by omega
      have k1 : (p : Int) < (xs.length : Int) := by omega
      have HHo := Lib.hid hho
      have HB := Lib.hid hbw
      have HBe := Lib.hid hbe
      have HSe := Lib.hid hse
      have HSt := Lib.hid hst
      obtain ⟨av, cv, hvv⟩ : ∃ a c, v = .slice a (b2j ys (el xs p)).length c := by
        rcases hbe.1 with ⟨h, a, c, h1, _⟩ | ⟨b, off, c, h1, _⟩
        · have : b2j ys (el xs p) = [] := by simpa [ofNats] using h
          rw [this]; exact ⟨a, c, h1⟩
        · rw [show (ofNats (b2j ys (el xs p))).length = (b2j ys (el xs p)).length by simp [ofNats]] at h1
          exact ⟨_, _, h1⟩
      obtain ⟨js, hjs⟩ : ∃ js, b2j ys (el xs p) = js := ⟨_, rfl⟩
      rw [hjs] at hvv HBe
      have HJs := Lib.hid hjs
      have hjl : js.length ≤ ys.length := by rw [← hjs]; exact b2j_len _ _
      subst hvv
      clear hho hbw hbe hse hca hrun hlook hjs hst
      go_wp2_with fail
      go_quiet (fail)
      have hbA : Rest w jk ((Wo.alloc (.map #[] 0)).drewN nq) := (HRe.out.alloc _).drewN nq
      have hnew : Holds ((Wo.alloc (.map #[] 0)).drewN nq) Wo.heap.size 0 (fun _ => 0) := Holds.made Wo
      have hold : Holds ((Wo.alloc (.map #[] 0)).drewN nq) b ys.length (old xs ys alo blo bhi n) := HHo.out.kept (r := none) (only_below (below_drewN ((Below.refl Wo.heap.size Wo).alloc (Nat.le_refl _) (.map #[] 0)) nq) none) (by simp)
      have hbl := HHo.out.lt
      have hsz2 : ((Wo.alloc (.map #[] 0)).drewN nq).heap.size = Wo.heap.size + 1 := by
        show (Wo.alloc (.map #[] 0)).heap.size = _
        simp
      have HBA := Lib.hid hbA
      have HNew := Lib.hid hnew
      have HOld := Lib.hid hold
      have HS2 := Lib.hid hsz2
      clear hbA hnew hold hsz2 hl1 c0 c2 cx
      go_wp2_with fail
      go_loopw [11, 12, 13, 43] (fun vi vj vk c wx => ∃ (m : Nat) (s2 : M3), m ≤ js.length ∧ c = .int .i64 m ∧ vi = .int .i64 s2.1 ∧ vj = .int .i64 s2.2.1 ∧ vk = .int .i64 s2.2.2 ∧ Hid (Cols xs ys alo blo bhi n jk w Wo b js m s2 wx)) (fun _ _ _ c _ => js.length - (intOf c).toNat)
      case atStart =>
        refine ⟨0, st, Nat.zero_le _, rfl, rfl, rfl, rfl, ?_, HNew.out.same (fun j => (now_nil j).symm), HOld.out, HBA.out, by have := HS2.out; omega⟩
        rw [List.drop_zero, HSt.out, ← HJs.out, ← hp.out]; rfl
      case round =>
        obtain ⟨m, s2, hm, rfl, rfl, rfl, rfl, hcol⟩ := hrel
        obtain ⟨hrow, hnew, hold, hrx, hsx2⟩ := hcol.out
        have hbx := hrx.below
        clear hcol
        by_cases hmlt : m < js.length
        · obtain ⟨bq, oq, hav, hcj⟩ : ∃ b off, av = some ⟨b, off, none⟩ ∧ wr.cell? ⟨b, off + m, none⟩ = some (.int .i64 ((js[m] : Nat) : Int)) := by
            rcases HBe.out.1.below hbx with ⟨h, _⟩ | ⟨b, off, cap, h, h0, hcap, hm, hbb, hcell⟩
            · have : js = [] := by simpa [ofNats] using h
              rw [this] at hmlt; simp at hmlt
            · injection h with h1 h2 h3
              refine ⟨b, off, h1, ?_⟩
              have := hcell m (by simpa [ofNats] using hmlt)
              rw [this]
              simp [ofNats]
          subst hav
          have hjin : js[m] ∈ b2j ys (el xs p) := by rw [HJs.out]; exact List.getElem_mem hmlt
          have hjy := (b2j_mem.1 hjin).2.1
          have hdrop : js.drop m = js[m] :: js.drop (m + 1) := List.drop_eq_getElem_cons hmlt
          have htake : js.take (m + 1) = js.take m ++ [js[m]] := by rw [List.take_succ_eq_append_getElem hmlt]
          have hsort : ∀ x ∈ js.drop (m + 1), js[m] < x := by
            have hp := b2j_pair ys (el xs p)
            rw [HJs.out] at hp
            have := hp.sublist (List.drop_sublist m js)
            rw [hdrop] at this
            exact (List.pairwise_cons.1 this).1
          obtain ⟨j, hjj⟩ : ∃ j, js[m] = j := ⟨_, rfl⟩
          rw [hjj] at hcj hjin hjy hdrop htake hsort
          rw [hdrop] at hrow
          have hrow : row xs ys alo blo bhi n (upd xs ys alo blo bhi n s2 j) (js.drop (m + 1)) = best xs ys alo blo bhi (n + 1) := hrow
          have HRow := Lib.hid hrow
          have HNew2 := Lib.hid hnew
          have HOld2 := Lib.hid hold
          have HBx := Lib.hid hbx
          have HRx := Lib.hid hrx
          have HTake := Lib.hid htake
          have HSort := Lib.hid hsort
          clear hrow hnew hold hbx hrx htake hsort hdrop
          have hm0 : (m : Int) < (js.length : Int) := by omega
          by_cases hlo : j < blo
          · have hz := cs_far (xs := xs) (ys := ys) (alo := alo) (blo := blo) (bhi := bhi) (n := n) (Or.inl hlo)
            have hfin : Hid (Cols xs ys alo blo bhi n jk w Wo b js (m + 1) s2 wr) := by
              refine ⟨?_, ?_, HOld2.out, HRx.out, hsx2⟩
              · have := HRow.out; rw [upd_none hz] at this; exact this
              · exact (HNew2.out.more (Nat.le_succ m)).same (fun i => by rw [HTake.out, now_skip hz])
            have hlo1 : (j : Int) < (blo : Int) := by omega
            clear hz hjj
            go_wp2
            go_roundw
            case rel => exact ⟨m + 1, s2, by omega, by go_num, rfl, rfl, rfl, hfin⟩
            case measure => simp [intOf]; omega
          · by_cases hhi : bhi ≤ j
            · have hlo1 : (blo : Int) ≤ (j : Int) := by omega
              have hhi1 : (bhi : Int) ≤ (j : Int) := by omega
              have hfin : Hid (Rows1 xs ys alo blo bhi (n + 1) jk w (.int .i64 s2.1) (.int .i64 s2.2.1) (.int .i64 s2.2.2) (.map (some Wo.heap.size)) wr) := by
                refine cols_done (m := m) ⟨?_, HNew2.out, HOld2.out, HRx.out, hsx2⟩ (by rw [hp.out]; exact HJs.out) ?_ hm hjl (by omega)
                · rw [List.drop_eq_getElem_cons hmlt, hjj]; exact HRow.out
                · intro x hx
                  rw [List.drop_eq_getElem_cons hmlt, hjj] at hx
                  rcases List.mem_cons.1 hx with rfl | hx
                  · exact cs_far (Or.inr hhi)
                  · have := HSort.out x hx; exact cs_far (Or.inr (by omega))
              clear hjj
              go_wp2
              go_roundw
              case rel => exact ⟨n + 1, p + 1, by omega, by go_num, by have := hp.out; show alo + (n + 1) = p + 1; omega, hfin⟩
              case measure => simp [intOf]; omega
            · as_aux_lemma =>
              have hlo1 : (blo : Int) ≤ (j : Int) := by omega
              have hhi1 : (j : Int) < (bhi : Int) := by omega
              have hhit : hit xs ys blo bhi (alo + n) j = true := hit_iff.2 ⟨by rw [hp.out]; exact hjin, by omega, by omega⟩
              have hcs := cs_old hhit
              have hob := old_bound xs ys alo blo bhi n ((j : Int) - 1)
              obtain ⟨o, ho⟩ : ∃ o, old xs ys alo blo bhi n ((j : Int) - 1) = o := ⟨_, rfl⟩
              rw [ho] at hcs hob
              obtain ⟨k0, D0, hk0, hown0, hD0⟩ := HOld2.out
              obtain ⟨k1, D1, hk1, hown1, hD1⟩ := HNew2.out
              have hD0j := hD0 ((j : Int) - 1)
              rw [ho] at hD0j
              have HD0 := Lib.hid hD0j
              have HOwn0 := Lib.hid hown0
              have HOwn1 := Lib.hid hown1
              have HD1 := Lib.hid hD1
              have HCs := Lib.hid hcs
              have hcb := cs_bound (xs := xs) (ys := ys) (alo := alo) (blo := blo) (bhi := bhi) n j
              rw [hcs] at hcb
              obtain ⟨hcb1, hcb2, _⟩ := hcb
              clear hhit hcs ho hown0 hown1 hD0 hD1 hD0j hjin hjj
              by_cases hbg : s2.2.2 < o + 1
              · have hupd : upd xs ys alo blo bhi n s2 j = (alo + n + 1 - (o + 1), j + 1 - (o + 1), o + 1) := by
                  unfold upd
                  rw [HCs.out, if_pos hbg]
                have HUpd := Lib.hid hupd
                have hbg1 : (s2.2.2 : Int) < (o : Int) + 1 := by omega
                clear hupd
                go_wp2_with (first
                  | (at_lookup; refine wpList_lookup_own_int _ rfl _ _ 80 rfl 3 3 .i64 lawI Tryd.underlying80 Tryd.underlying3 (zeroInt _) b k0 D0 rfl HOwn0.out _ _ rfl (keyOf_int_mk Tryd.underlying3 (WalkArith.wf_i64 (by omega))) ?_; intro c hat hwc; have HAt := Lib.hid hat; clear hat hwc; obtain rfl : c = (o : Int) := (by have e := HAt.out; rw [HD0.out] at e; injection e with e; injection e with _ e; exact e.symm))
                  | (at_mapUpdate; refine wpList_mapUpdate_own _ rfl _ _ _ 80 rfl 3 3 lawI Tryd.underlying80 (plainElem Tryd.prog 3) Wo.heap.size k1 D1 rfl HOwn1.out (by unfold maxLen; omega) _ _ _ rfl rfl (keyOf_int_mk Tryd.underlying3 (WalkArith.wf_i64 (by omega))) _ [] (plainElem_int Tryd.underlying3 (WalkArith.wf_i64 (by omega))) ?_; intro w2 hown2 hgrow2))
                have hgr2 := hgrow2
                have hfin : Hid (Cols xs ys alo blo bhi n jk w Wo b js (m + 1) ((alo + n + 1 - (o + 1), j + 1 - (o + 1), o + 1)) w2) := by
                  refine ⟨?_, ⟨k1 + 1, _, by omega, hown2, atKey_put_int HOwn1.out.isMap HD1.out (o + 1) (by simp) _ (fun i => by rw [HTake.out, now_put, HCs.out])⟩, HOld2.out.kept hgrow2 (by intro e; injection e with e; omega), HRx.out.grown hgrow2 (by omega) hjkl, by have := hgrow2.size; omega⟩
                  have := HRow.out
                  rw [HUpd.out] at this
                  exact this
                clear hown2 hgrow2 hgr2
                go_wp2
                go_roundw
                case rel => exact ⟨m + 1, (alo + n + 1 - (o + 1), j + 1 - (o + 1), o + 1), by omega, by go_num, by (show _ = Value.int .i64 ((alo + n + 1 - (o + 1) : Nat) : Int)); go_num, by (show _ = Value.int .i64 ((j + 1 - (o + 1) : Nat) : Int)); go_num, by (show _ = Value.int .i64 ((o + 1 : Nat) : Int)); go_num, hfin⟩
                case measure => simp [intOf]; omega
              · have hupd : upd xs ys alo blo bhi n s2 j = s2 := by
                  unfold upd
                  rw [HCs.out, if_neg hbg]
                have HUpd := Lib.hid hupd
                have hbg1 : (o : Int) + 1 ≤ (s2.2.2 : Int) := by omega
                clear hupd
                go_wp2_with (first
                  | (at_lookup; refine wpList_lookup_own_int _ rfl _ _ 80 rfl 3 3 .i64 lawI Tryd.underlying80 Tryd.underlying3 (zeroInt _) b k0 D0 rfl HOwn0.out _ _ rfl (keyOf_int_mk Tryd.underlying3 (WalkArith.wf_i64 (by omega))) ?_; intro c hat hwc; have HAt := Lib.hid hat; clear hat hwc; obtain rfl : c = (o : Int) := (by have e := HAt.out; rw [HD0.out] at e; injection e with e; injection e with _ e; exact e.symm))
                  | (at_mapUpdate; refine wpList_mapUpdate_own _ rfl _ _ _ 80 rfl 3 3 lawI Tryd.underlying80 (plainElem Tryd.prog 3) Wo.heap.size k1 D1 rfl HOwn1.out (by unfold maxLen; omega) _ _ _ rfl rfl (keyOf_int_mk Tryd.underlying3 (WalkArith.wf_i64 (by omega))) _ [] (plainElem_int Tryd.underlying3 (WalkArith.wf_i64 (by omega))) ?_; intro w2 hown2 hgrow2))
                have hgr2 := hgrow2
                have hfin : Hid (Cols xs ys alo blo bhi n jk w Wo b js (m + 1) (s2) w2) := by
                  refine ⟨?_, ⟨k1 + 1, _, by omega, hown2, atKey_put_int HOwn1.out.isMap HD1.out (o + 1) (by simp) _ (fun i => by rw [HTake.out, now_put, HCs.out])⟩, HOld2.out.kept hgrow2 (by intro e; injection e with e; omega), HRx.out.grown hgrow2 (by omega) hjkl, by have := hgrow2.size; omega⟩
                  have := HRow.out
                  rw [HUpd.out] at this
                  exact this
                clear hown2 hgrow2 hgr2
                go_wp2
                go_roundw
                case rel => exact ⟨m + 1, s2, by omega, by go_num, rfl, rfl, rfl, hfin⟩
                case measure => simp [intOf]; omega
        · have hfin : Hid (Rows1 xs ys alo blo bhi (n + 1) jk w (.int .i64 s2.1) (.int .i64 s2.2.1) (.int .i64 s2.2.2) (.map (some Wo.heap.size)) wr) := by
            refine cols_done (m := m) ⟨hrow, hnew, hold, hrx, hsx2⟩ (by rw [hp.out]; exact HJs.out) ?_ hm hjl (by omega)
            intro x hx
            rw [List.drop_of_length_le (by omega)] at hx
            cases hx
          have hm0 : (js.length : Int) ≤ (m : Int) := by omega
          clear hrow hnew hold hbx hrx
          go_wp2
          go_roundw
          case rel => exact ⟨n + 1, p + 1, by omega, by go_num, by have := hp.out; show alo + (n + 1) = p + 1; omega, hfin⟩
          case measure => simp [intOf]; omega
    · as_aux_lemma =>
      have hpe : p = ahi := by omega
      have hne2 : n = ahi - alo := by omega
      subst hpe
      subst hne2
      have hne : ((p : Int) != (p : Int)) = false := by simp
      have hfits := best_fits (xs := xs) (ys := ys) ha hb (n := p - alo) (by omega)
      rw [← hst] at hfits
      have hmid : back xs ys alo blo st.1 st.2.1 st.2.2 = mid xs ys alo p blo bhi := by rw [hst]; rfl
      have HFits := Lib.hid hfits
      have HMid := Lib.hid hmid
      have HB := Lib.hid hbw
      clear hst hfits hmid hbw hho
      go_upto_block 4 with fail
      go_cut [11, 12, 13] (fun vi vj vk wx => ∃ i j k : Nat, vi = .int .i64 (i : Int) ∧ vj = .int .i64 (j : Int) ∧ vk = .int .i64 (k : Int) ∧ Hid ((i, j, k) = mid xs ys alo p blo bhi) ∧ Hid (Rest w jk wx))
      case first => as_aux_lemma =>
        go_wp2_with fail
        go_loopw [11, 12, 13] (fun vi vj vk wx => ∃ i j k : Nat, vi = .int .i64 (i : Int) ∧ vj = .int .i64 (j : Int) ∧ vk = .int .i64 (k : Int) ∧ Hid (back xs ys alo blo i j k = mid xs ys alo p blo bhi) ∧ Hid (Fits xs ys alo p blo bhi (i, j, k)) ∧ Hid (Rest w jk wx)) (fun vi _ _ _ => (intOf vi).toNat)
        case atStart => exact ⟨st.1, st.2.1, st.2.2, rfl, rfl, rfl, HMid.out, HFits.out, HRe.out⟩
        case round =>
          obtain ⟨i, j, k, rfl, rfl, rfl, hbk, hft, hrs⟩ := hrel
          have hrest := hrs.out
          by_cases hi : alo < i
          · by_cases hj1 : blo < j
            · obtain ⟨f1, f2, f3, f4, f5⟩ := hft.out
              simp only at f1 f2 f3 f4 f5
              have q1 : (alo : Int) < (i : Int) := by omega
              have q2 : (blo : Int) < (j : Int) := by omega
              have r5 : (1 : Int) ≤ (i : Int) := by omega
              have r6 : (1 : Int) ≤ (j : Int) := by omega
              have hx1 : i - 1 < xs.length := by omega
              have hy1 : j - 1 < ys.length := by omega
              have hsy1 : (el ys (j - 1)).size ≤ 2147483647 := by rw [el_get hy1]; exact HSy.out _ (List.getElem_mem hy1)
              have c0 : ∀ t : In (Rest w jk), t.w.cell? ⟨g, 0, none⟩ = some (.slice aa xs.length ca) := fun t => by rw [t.ok.below.cell (p := ⟨g, 0, none⟩) hg]; exact HW.out.cell 0
              have c1 : ∀ t : In (Rest w jk), t.w.cell? ⟨g, 1, none⟩ = some (.slice ab ys.length cb) := fun t => by rw [t.ok.below.cell (p := ⟨g, 1, none⟩) hg]; exact HW.out.cell 1
              have c5 : ∀ t : In (Rest w jk), t.w.cell? ⟨g, 5, none⟩ = some (.map (some jk)) := fun t => by rw [t.ok.below.cell (p := ⟨g, 5, none⟩) hg]; exact HW.out.cell 5
              have cj : ∀ t : In (Rest w jk), t.w.heap[jk]? = some (.map #[] 0) := fun t => t.ok.map
              obtain ⟨ba, oa, haa, hba, cx0⟩ := at_w HVa.out (i - 1) hx1
              obtain ⟨bb, ob, hab, hbb, cy0⟩ := at_w HVb.out (j - 1) hy1
              rw [← el_get hx1] at cx0
              rw [← el_get hy1] at cy0
              have cx : ∀ t : In (Rest w jk), t.w.cell? ⟨ba, oa + (i - 1), none⟩ = some (.string (el xs (i - 1))) := fun t => by rw [t.ok.below.cell (p := ⟨ba, oa + (i - 1), none⟩) hba]; exact cx0
              have cy : ∀ t : In (Rest w jk), t.w.cell? ⟨bb, ob + (j - 1), none⟩ = some (.string (el ys (j - 1))) := fun t => by rw [t.ok.below.cell (p := ⟨bb, ob + (j - 1), none⟩) hbb]; exact cy0
              subst haa
              subst hab
              have q3 : (0 : Int) ≤ (i : Int) - 1 := by omega
              have q4 : (i : Int) - 1 < (xs.length : Int) := by omega
              have q5 : (0 : Int) ≤ (j : Int) - 1 := by omega
              have q6 : (j : Int) - 1 < (ys.length : Int) := by omega
              have r1 : IntKind.i64.wrap ((i : Int) - 1) = (i : Int) - 1 := by rw [IntKind.wrap_i64]; omega
              have r2 : IntKind.i64.wrap ((j : Int) - 1) = (j : Int) - 1 := by rw [IntKind.wrap_i64]; omega
              have r3 : ((i : Int) - 1).toNat = i - 1 := by omega
              have r4 : ((j : Int) - 1).toNat = j - 1 := by omega
              clear cx0 cy0
              have hm1 : i - 1 < i := by omega
              have hi0 : ((i - 1 : Nat) : Int) = (i : Int) - 1 := by omega
              have hj0 : ((j - 1 : Nat) : Int) = (j : Int) - 1 := by omega
              have HI0 := Lib.hid hi0
              have HJ0 := Lib.hid hj0
              have hk2 : k ≤ 2147483647 := by omega
              clear f1 f2 f3 f4 f5 hi0 hj0
              cases heq : eqS (el xs (i - 1)) (el ys (j - 1)) with
              | true =>
                have hb2 : Hid (back xs ys alo blo (i - 1) (j - 1) (k + 1) = mid xs ys alo p blo bhi) := by
                  show _ = _
                  rw [← hbk.out, back_step k hi hj1 heq]
                have hf2 : Hid (Fits xs ys alo p blo bhi (i - 1, j - 1, k + 1)) := fits_back hft.out hi hj1 heq
                obtain ⟨x, hxe⟩ : ∃ x, el xs (i - 1) = x := ⟨_, rfl⟩
                obtain ⟨y, hye⟩ : ∃ y, el ys (j - 1) = y := ⟨_, rfl⟩
                rw [hxe] at cx
                rw [hye] at cy hsy1
                have heq1 : (x.toList == y.toList) = true := by rw [← hxe, ← hye]; exact heq
                clear heq hxe hye hbk hft
                go_wp2_with fail
                have hne2 : Nonempty (In (Rest w jk)) := ⟨⟨wr.drew, Rest.drew hrest⟩⟩
                refine region_class (Rest w jk) (by kernel_rfl) (by kernel_rfl) (Rest.drew hrest) ?_
                repeat (go_big_quiet_step ((go_at_call 33; exact (junk_any g jk y hsy1 _ (c5 _) (cj _)).mono fun e w' he => ⟨he.1, ⟨⟨_, Rest.alloc (In.ok _) _⟩, he.2⟩⟩)))
                refine wpQuiet_nil ?_
                intro _ hw'
                obtain ⟨tt, hw''⟩ := hw'
                subst hw''
                have hfin : Hid (Rest w jk tt.w) := tt.ok
                clear r1 r2 r3 r4
                go_wp2
                go_roundw
                case rel => exact ⟨i - 1, j - 1, k + 1, by rw [HI0.out], by rw [HJ0.out], by go_num, hb2, hf2, hfin⟩
                case measure =>
                  show ((i : Int) - 1).toNat < ((i : Int)).toNat
                  omega
              | false =>
                have hme : Hid ((i, j, k) = mid xs ys alo p blo bhi) := by
                  show _ = _
                  rw [← hbk.out, back_stop k (fun _ _ => heq)]
                obtain ⟨x, hxe⟩ : ∃ x, el xs (i - 1) = x := ⟨_, rfl⟩
                obtain ⟨y, hye⟩ : ∃ y, el ys (j - 1) = y := ⟨_, rfl⟩
                rw [hxe] at cx
                rw [hye] at cy hsy1
                have heq1 : (x.toList == y.toList) = false := by rw [← hxe, ← hye]; exact heq
                clear heq hxe hye hbk hft
                go_wp2_with fail
                have hne2 : Nonempty (In (Rest w jk)) := ⟨⟨wr.drew, Rest.drew hrest⟩⟩
                refine region_class (Rest w jk) (by kernel_rfl) (by kernel_rfl) (Rest.drew hrest) ?_
                repeat (go_big_quiet_step ((go_at_call 33; exact (junk_any g jk y hsy1 _ (c5 _) (cj _)).mono fun e w' he => ⟨he.1, ⟨⟨_, Rest.alloc (In.ok _) _⟩, he.2⟩⟩)))
                refine wpQuiet_nil ?_
                intro _ hw'
                obtain ⟨tt, hw''⟩ := hw'
                subst hw''
                have hfin : Hid (Rest w jk tt.w) := tt.ok
                clear r1 r2 r3 r4
                go_wp2_with fail
                go_meet
                exact ⟨i, j, k, rfl, rfl, rfl, hme, hfin⟩
            · have q1 : (alo : Int) < (i : Int) := by omega
              have q2 : (j : Int) ≤ (blo : Int) := by omega
              have hme : Hid ((i, j, k) = mid xs ys alo p blo bhi) := by
                show _ = _
                rw [← hbk.out, back_stop k (fun _ h => absurd h hj1)]
              clear hbk
              go_wp2_with fail
              go_quiet (fail)
              have hfin : Hid (Rest w jk (wr.drewN nq)) := hrest.drewN nq
              go_wp2_with fail
              go_meet
              exact ⟨i, j, k, rfl, rfl, rfl, hme, hfin⟩
          · have q1 : (i : Int) ≤ (alo : Int) := by omega
            have hme : Hid ((i, j, k) = mid xs ys alo p blo bhi) := by
              show _ = _
              rw [← hbk.out, back_stop k (fun h => absurd h hi)]
            clear hbk
            go_wp2_with fail
            go_quiet (fail)
            have hfin : Hid (Rest w jk (wr.drewN nq)) := hrest.drewN nq
            go_wp2_with fail
            go_meet
            exact ⟨i, j, k, rfl, rfl, rfl, hme, hfin⟩
      case rest => as_aux_lemma =>
        obtain ⟨i, j, k, rfl, rfl, rfl, hme, hrs⟩ := hcut
        have hmf := mid_fits (xs := xs) (ys := ys) ha hb
        rw [← hme.out] at hmf
        have hfl : fl xs ys alo p blo bhi = (i, j, k + fwd xs ys p bhi (p - (i + k)) (i + k) (j + k)) := by
          unfold fl
          rw [← hme.out]
        obtain ⟨T, hT⟩ : ∃ T, k + fwd xs ys p bhi (p - (i + k)) (i + k) (j + k) = T := ⟨_, rfl⟩
        rw [hT] at hfl
        have HFl := Lib.hid hfl
        have HT := Lib.hid hT
        obtain ⟨f1, f2, f3, f4, _⟩ := hmf
        simp only at f1 f2 f3 f4
        clear hme hfl hT
        have hrs0 := hrs
        go_upto_block 6 with fail
        go_cut [13] (fun vk wx => vk = .int .i64 (T : Int) ∧ Hid (i + T ≤ p) ∧ Hid (j + T ≤ bhi) ∧ Hid (Rest w jk wx))
        case first => as_aux_lemma =>
          go_wp2_with fail
          go_loopw [13] (fun vk wx => ∃ k : Nat, vk = .int .i64 (k : Int) ∧ Hid (k + fwd xs ys p bhi (p - (i + k)) (i + k) (j + k) = T) ∧ i + k ≤ p ∧ j + k ≤ bhi ∧ Hid (Rest w jk wx)) (fun vk _ => p - (i + (intOf vk).toNat))
          case atStart => exact ⟨k, rfl, HT.out, f2, f4, hrs.out⟩
          case round =>
            obtain ⟨k, rfl, hfw, f2, f4, hrs⟩ := hrel
            have hrest := hrs.out
            have s1 : IntKind.i64.wrap ((i : Int) + (k : Int)) = (i : Int) + (k : Int) := by rw [IntKind.wrap_i64]; omega
            have s2 : IntKind.i64.wrap ((j : Int) + (k : Int)) = (j : Int) + (k : Int) := by rw [IntKind.wrap_i64]; omega
            by_cases hi : i + k < p
            · by_cases hj1 : j + k < bhi
              · have q1 : (i : Int) + (k : Int) < (p : Int) := by omega
                have q2 : (j : Int) + (k : Int) < (bhi : Int) := by omega
                have hx1 : i + k < xs.length := by omega
                have hy1 : j + k < ys.length := by omega
                have hsy1 : (el ys (j + k)).size ≤ 2147483647 := by rw [el_get hy1]; exact HSy.out _ (List.getElem_mem hy1)
                have c0 : ∀ t : In (Rest w jk), t.w.cell? ⟨g, 0, none⟩ = some (.slice aa xs.length ca) := fun t => by rw [t.ok.below.cell (p := ⟨g, 0, none⟩) hg]; exact HW.out.cell 0
                have c1 : ∀ t : In (Rest w jk), t.w.cell? ⟨g, 1, none⟩ = some (.slice ab ys.length cb) := fun t => by rw [t.ok.below.cell (p := ⟨g, 1, none⟩) hg]; exact HW.out.cell 1
                have c5 : ∀ t : In (Rest w jk), t.w.cell? ⟨g, 5, none⟩ = some (.map (some jk)) := fun t => by rw [t.ok.below.cell (p := ⟨g, 5, none⟩) hg]; exact HW.out.cell 5
                have cj : ∀ t : In (Rest w jk), t.w.heap[jk]? = some (.map #[] 0) := fun t => t.ok.map
                obtain ⟨ba, oa, haa, hba, cx0⟩ := at_w HVa.out (i + k) hx1
                obtain ⟨bb, ob, hab, hbb, cy0⟩ := at_w HVb.out (j + k) hy1
                rw [← el_get hx1] at cx0
                rw [← el_get hy1] at cy0
                have cx : ∀ t : In (Rest w jk), t.w.cell? ⟨ba, oa + (i + k), none⟩ = some (.string (el xs (i + k))) := fun t => by rw [t.ok.below.cell (p := ⟨ba, oa + (i + k), none⟩) hba]; exact cx0
                have cy : ∀ t : In (Rest w jk), t.w.cell? ⟨bb, ob + (j + k), none⟩ = some (.string (el ys (j + k))) := fun t => by rw [t.ok.below.cell (p := ⟨bb, ob + (j + k), none⟩) hbb]; exact cy0
                subst haa
                subst hab
                have q3 : (0 : Int) ≤ (i : Int) + (k : Int) := by omega
                have q4 : (i : Int) + (k : Int) < (xs.length : Int) := by omega
                have q5 : (0 : Int) ≤ (j : Int) + (k : Int) := by omega
                have q6 : (j : Int) + (k : Int) < (ys.length : Int) := by omega
                have r1 : IntKind.i64.wrap ((i : Int) + (k : Int)) = (i : Int) + (k : Int) := by rw [IntKind.wrap_i64]; omega
                have r2 : IntKind.i64.wrap ((j : Int) + (k : Int)) = (j : Int) + (k : Int) := by rw [IntKind.wrap_i64]; omega
                have r3 : ((i : Int) + (k : Int)).toNat = i + k := by omega
                have r4 : ((j : Int) + (k : Int)).toNat = j + k := by omega
                clear cx0 cy0
                cases heq : eqS (el xs (i + k)) (el ys (j + k)) with
                | true =>
                  have hf2 : Hid (k + 1 + fwd xs ys p bhi (p - (i + (k + 1))) (i + (k + 1)) (j + (k + 1)) = T) := by
                    show _ = _
                    have := hfw.out
                    rw [fwd_step hi hj1 heq] at this
                    rw [← this, Nat.add_assoc i k 1, Nat.add_assoc j k 1]
                    omega
                  obtain ⟨x, hxe⟩ : ∃ x, el xs (i + k) = x := ⟨_, rfl⟩
                  obtain ⟨y, hye⟩ : ∃ y, el ys (j + k) = y := ⟨_, rfl⟩
                  rw [hxe] at cx
                  rw [hye] at cy hsy1
                  have heq1 : (x.toList == y.toList) = true := by rw [← hxe, ← hye]; exact heq
                  clear heq hxe hye hfw
                  go_wp2_with fail
                  have hne2 : Nonempty (In (Rest w jk)) := ⟨⟨wr.drew, Rest.drew hrest⟩⟩
                  refine region_class (Rest w jk) (by kernel_rfl) (by kernel_rfl) (Rest.drew hrest) ?_
                  repeat (go_big_quiet_step ((go_at_call 33; exact (junk_any g jk y hsy1 _ (c5 _) (cj _)).mono fun e w' he => ⟨he.1, ⟨⟨_, Rest.alloc (In.ok _) _⟩, he.2⟩⟩)))
                  refine wpQuiet_nil ?_
                  intro _ hw'
                  obtain ⟨tt, hw''⟩ := hw'
                  subst hw''
                  have hfin : Hid (Rest w jk tt.w) := tt.ok
                  clear r1 r2 r3 r4 s1 s2
                  go_wp2
                  go_roundw
                  case rel => exact ⟨k + 1, by go_num, hf2, by omega, by omega, hfin⟩
                  case measure => simp [intOf]; omega
                | false =>
                  have hkT : k = T := by
                    have := hfw.out
                    rw [fwd_stop _ (fun _ _ => heq)] at this
                    exact this
                  obtain ⟨x, hxe⟩ : ∃ x, el xs (i + k) = x := ⟨_, rfl⟩
                  obtain ⟨y, hye⟩ : ∃ y, el ys (j + k) = y := ⟨_, rfl⟩
                  rw [hxe] at cx
                  rw [hye] at cy hsy1
                  have heq1 : (x.toList == y.toList) = false := by rw [← hxe, ← hye]; exact heq
                  clear heq hxe hye hfw
                  have HkT := Lib.hid hkT
                  clear hkT
                  go_wp2_with fail
                  have hne2 : Nonempty (In (Rest w jk)) := ⟨⟨wr.drew, Rest.drew hrest⟩⟩
                  refine region_class (Rest w jk) (by kernel_rfl) (by kernel_rfl) (Rest.drew hrest) ?_
                  repeat (go_big_quiet_step ((go_at_call 33; exact (junk_any g jk y hsy1 _ (c5 _) (cj _)).mono fun e w' he => ⟨he.1, ⟨⟨_, Rest.alloc (In.ok _) _⟩, he.2⟩⟩)))
                  refine wpQuiet_nil ?_
                  intro _ hw'
                  obtain ⟨tt, hw''⟩ := hw'
                  subst hw''
                  have hfin : Hid (Rest w jk tt.w) := tt.ok
                  clear r1 r2 r3 r4 s1 s2
                  go_wp2_with fail
                  go_meet
                  exact ⟨by rw [HkT.out], by have := HkT.out; show i + T ≤ p; omega, by have := HkT.out; show j + T ≤ bhi; omega, hfin⟩
              · have q1 : (i : Int) + (k : Int) < (p : Int) := by omega
                have q2 : (bhi : Int) ≤ (j : Int) + (k : Int) := by omega
                have z1 : decide ((i : Int) + (k : Int) < (p : Int)) = true := decide_eq_true q1
                have z2 : decide ((j : Int) + (k : Int) < (bhi : Int)) = false := decide_eq_false (by omega)
                have hkT : k = T := by
                  have := hfw.out
                  rw [fwd_stop _ (fun _ h => absurd h hj1)] at this
                  exact this
                have HkT := Lib.hid hkT
                clear hfw hkT
                go_wp2_with fail
                go_quiet (fail)
                have hfin : Hid (Rest w jk (wr.drewN nq)) := hrest.drewN nq
                clear s1 s2 z1 z2
                go_wp2_with fail
                go_meet
                exact ⟨by rw [HkT.out], by have := HkT.out; show i + T ≤ p; omega, by have := HkT.out; show j + T ≤ bhi; omega, hfin⟩
            · have q1 : (p : Int) ≤ (i : Int) + (k : Int) := by omega
              have z1 : decide ((i : Int) + (k : Int) < (p : Int)) = false := decide_eq_false (by omega)
              have hkT : k = T := by
                have := hfw.out
                rw [fwd_stop _ (fun h => absurd h hi)] at this
                exact this
              have HkT := Lib.hid hkT
              clear hfw hkT
              go_wp2_with fail
              go_quiet (fail)
              have hfin : Hid (Rest w jk (wr.drewN nq)) := hrest.drewN nq
              clear s1 s2
              go_wp2_with fail
              go_meet
              exact ⟨by rw [HkT.out], by have := HkT.out; show i + T ≤ p; omega, by have := HkT.out; show j + T ≤ bhi; omega, hfin⟩
        case rest => as_aux_lemma =>
          obtain ⟨rfl, hiT, hjT, hrs⟩ := hcut
          have f5 := hiT.out
          have f6 := hjT.out
          go_upto_block 8 with fail
          go_cut [11, 12, 13] (fun vi vj vk wx => vi = .int .i64 (i : Int) ∧ vj = .int .i64 (j : Int) ∧ vk = .int .i64 (T : Int) ∧ Hid (Rest w jk wx))
          case first => as_aux_lemma =>
            go_wp2_with fail
            go_loopw [11, 12, 13] (fun vi vj vk wx => vi = .int .i64 (i : Int) ∧ vj = .int .i64 (j : Int) ∧ vk = .int .i64 (T : Int) ∧ Hid (Rest w jk wx)) (fun _ _ _ _ => 0)
            case atStart => exact ⟨rfl, rfl, rfl, hrs⟩
            case round =>
              obtain ⟨rfl, rfl, rfl, hrs⟩ := hrel
              have hrest := hrs.out
              by_cases hi : alo < i
              · by_cases hj1 : blo < j
                · have q1 : (alo : Int) < (i : Int) := by omega
                  have q2 : (blo : Int) < (j : Int) := by omega
                  have r5 : (1 : Int) ≤ (i : Int) := by omega
                  have r6 : (1 : Int) ≤ (j : Int) := by omega
                  have hx1 : i - 1 < xs.length := by omega
                  have hy1 : j - 1 < ys.length := by omega
                  have hsy1 : (el ys (j - 1)).size ≤ 2147483647 := by rw [el_get hy1]; exact HSy.out _ (List.getElem_mem hy1)
                  have c0 : ∀ t : In (Rest w jk), t.w.cell? ⟨g, 0, none⟩ = some (.slice aa xs.length ca) := fun t => by rw [t.ok.below.cell (p := ⟨g, 0, none⟩) hg]; exact HW.out.cell 0
                  have c1 : ∀ t : In (Rest w jk), t.w.cell? ⟨g, 1, none⟩ = some (.slice ab ys.length cb) := fun t => by rw [t.ok.below.cell (p := ⟨g, 1, none⟩) hg]; exact HW.out.cell 1
                  have c5 : ∀ t : In (Rest w jk), t.w.cell? ⟨g, 5, none⟩ = some (.map (some jk)) := fun t => by rw [t.ok.below.cell (p := ⟨g, 5, none⟩) hg]; exact HW.out.cell 5
                  have cj : ∀ t : In (Rest w jk), t.w.heap[jk]? = some (.map #[] 0) := fun t => t.ok.map
                  obtain ⟨ba, oa, haa, hba, cx0⟩ := at_w HVa.out (i - 1) hx1
                  obtain ⟨bb, ob, hab, hbb, cy0⟩ := at_w HVb.out (j - 1) hy1
                  rw [← el_get hx1] at cx0
                  rw [← el_get hy1] at cy0
                  have cx : ∀ t : In (Rest w jk), t.w.cell? ⟨ba, oa + (i - 1), none⟩ = some (.string (el xs (i - 1))) := fun t => by rw [t.ok.below.cell (p := ⟨ba, oa + (i - 1), none⟩) hba]; exact cx0
                  have cy : ∀ t : In (Rest w jk), t.w.cell? ⟨bb, ob + (j - 1), none⟩ = some (.string (el ys (j - 1))) := fun t => by rw [t.ok.below.cell (p := ⟨bb, ob + (j - 1), none⟩) hbb]; exact cy0
                  subst haa
                  subst hab
                  have q3 : (0 : Int) ≤ (i : Int) - 1 := by omega
                  have q4 : (i : Int) - 1 < (xs.length : Int) := by omega
                  have q5 : (0 : Int) ≤ (j : Int) - 1 := by omega
                  have q6 : (j : Int) - 1 < (ys.length : Int) := by omega
                  have r1 : IntKind.i64.wrap ((i : Int) - 1) = (i : Int) - 1 := by rw [IntKind.wrap_i64]; omega
                  have r2 : IntKind.i64.wrap ((j : Int) - 1) = (j : Int) - 1 := by rw [IntKind.wrap_i64]; omega
                  have r3 : ((i : Int) - 1).toNat = i - 1 := by omega
                  have r4 : ((j : Int) - 1).toNat = j - 1 := by omega
                  clear cx0 cy0
                  obtain ⟨x, hxe⟩ : ∃ x, el xs (i - 1) = x := ⟨_, rfl⟩
                  obtain ⟨y, hye⟩ : ∃ y, el ys (j - 1) = y := ⟨_, rfl⟩
                  rw [hxe] at cx
                  rw [hye] at cy hsy1
                  clear hxe hye
                  go_wp2_with fail
                  have hne2 : Nonempty (In (Rest w jk)) := ⟨⟨wr.drew, Rest.drew hrest⟩⟩
                  refine region_class (Rest w jk) (by kernel_rfl) (by kernel_rfl) (Rest.drew hrest) ?_
                  repeat (go_big_quiet_step ((go_at_call 33; exact (junk_any g jk y hsy1 _ (c5 _) (cj _)).mono fun e w' he => ⟨he.1, ⟨⟨_, Rest.alloc (In.ok _) _⟩, he.2⟩⟩)))
                  refine wpQuiet_nil ?_
                  intro _ hw'
                  obtain ⟨tt, hw''⟩ := hw'
                  subst hw''
                  have hfin : Hid (Rest w jk tt.w) := tt.ok
                  clear r1 r2 r3 r4
                  go_wp2_with fail
                  go_meet
                  exact ⟨rfl, rfl, rfl, hfin⟩
                · have q1 : (alo : Int) < (i : Int) := by omega
                  have q2 : (j : Int) ≤ (blo : Int) := by omega
                  go_wp2_with fail
                  go_quiet (fail)
                  have hfin : Hid (Rest w jk (wr.drewN nq)) := hrest.drewN nq
                  go_wp2_with fail
                  go_meet
                  exact ⟨rfl, rfl, rfl, hfin⟩
              · have q1 : (i : Int) ≤ (alo : Int) := by omega
                go_wp2_with fail
                go_quiet (fail)
                have hfin : Hid (Rest w jk (wr.drewN nq)) := hrest.drewN nq
                go_wp2_with fail
                go_meet
                exact ⟨rfl, rfl, rfl, hfin⟩
          case rest => as_aux_lemma =>
            obtain ⟨rfl, rfl, rfl, hrs⟩ := hcut
            go_upto_block 10 with fail
            go_cut [13] (fun vk wx => vk = .int .i64 (T : Int) ∧ Hid (Rest w jk wx))
            case first => as_aux_lemma =>
              go_wp2_with fail
              go_loopw [13] (fun vk wx => vk = .int .i64 (T : Int) ∧ Hid (Rest w jk wx)) (fun _ _ => 0)
              case atStart => exact ⟨rfl, hrs⟩
              case round =>
                obtain ⟨rfl, hrs⟩ := hrel
                have hrest := hrs.out
                have s1 : IntKind.i64.wrap ((i : Int) + (T : Int)) = (i : Int) + (T : Int) := by rw [IntKind.wrap_i64]; omega
                have s2 : IntKind.i64.wrap ((j : Int) + (T : Int)) = (j : Int) + (T : Int) := by rw [IntKind.wrap_i64]; omega
                by_cases hi : i + T < p
                · by_cases hj1 : j + T < bhi
                  · have q1 : (i : Int) + (T : Int) < (p : Int) := by omega
                    have q2 : (j : Int) + (T : Int) < (bhi : Int) := by omega
                    have hx1 : i + T < xs.length := by omega
                    have hy1 : j + T < ys.length := by omega
                    have hsy1 : (el ys (j + T)).size ≤ 2147483647 := by rw [el_get hy1]; exact HSy.out _ (List.getElem_mem hy1)
                    have c0 : ∀ t : In (Rest w jk), t.w.cell? ⟨g, 0, none⟩ = some (.slice aa xs.length ca) := fun t => by rw [t.ok.below.cell (p := ⟨g, 0, none⟩) hg]; exact HW.out.cell 0
                    have c1 : ∀ t : In (Rest w jk), t.w.cell? ⟨g, 1, none⟩ = some (.slice ab ys.length cb) := fun t => by rw [t.ok.below.cell (p := ⟨g, 1, none⟩) hg]; exact HW.out.cell 1
                    have c5 : ∀ t : In (Rest w jk), t.w.cell? ⟨g, 5, none⟩ = some (.map (some jk)) := fun t => by rw [t.ok.below.cell (p := ⟨g, 5, none⟩) hg]; exact HW.out.cell 5
                    have cj : ∀ t : In (Rest w jk), t.w.heap[jk]? = some (.map #[] 0) := fun t => t.ok.map
                    obtain ⟨ba, oa, haa, hba, cx0⟩ := at_w HVa.out (i + T) hx1
                    obtain ⟨bb, ob, hab, hbb, cy0⟩ := at_w HVb.out (j + T) hy1
                    rw [← el_get hx1] at cx0
                    rw [← el_get hy1] at cy0
                    have cx : ∀ t : In (Rest w jk), t.w.cell? ⟨ba, oa + (i + T), none⟩ = some (.string (el xs (i + T))) := fun t => by rw [t.ok.below.cell (p := ⟨ba, oa + (i + T), none⟩) hba]; exact cx0
                    have cy : ∀ t : In (Rest w jk), t.w.cell? ⟨bb, ob + (j + T), none⟩ = some (.string (el ys (j + T))) := fun t => by rw [t.ok.below.cell (p := ⟨bb, ob + (j + T), none⟩) hbb]; exact cy0
                    subst haa
                    subst hab
                    have q3 : (0 : Int) ≤ (i : Int) + (T : Int) := by omega
                    have q4 : (i : Int) + (T : Int) < (xs.length : Int) := by omega
                    have q5 : (0 : Int) ≤ (j : Int) + (T : Int) := by omega
                    have q6 : (j : Int) + (T : Int) < (ys.length : Int) := by omega
                    have r1 : IntKind.i64.wrap ((i : Int) + (T : Int)) = (i : Int) + (T : Int) := by rw [IntKind.wrap_i64]; omega
                    have r2 : IntKind.i64.wrap ((j : Int) + (T : Int)) = (j : Int) + (T : Int) := by rw [IntKind.wrap_i64]; omega
                    have r3 : ((i : Int) + (T : Int)).toNat = i + T := by omega
                    have r4 : ((j : Int) + (T : Int)).toNat = j + T := by omega
                    clear cx0 cy0
                    obtain ⟨x, hxe⟩ : ∃ x, el xs (i + T) = x := ⟨_, rfl⟩
                    obtain ⟨y, hye⟩ : ∃ y, el ys (j + T) = y := ⟨_, rfl⟩
                    rw [hxe] at cx
                    rw [hye] at cy hsy1
                    clear hxe hye
                    go_wp2_with fail
                    have hne2 : Nonempty (In (Rest w jk)) := ⟨⟨wr.drew, Rest.drew hrest⟩⟩
                    refine region_class (Rest w jk) (by kernel_rfl) (by kernel_rfl) (Rest.drew hrest) ?_
                    repeat (go_big_quiet_step ((go_at_call 33; exact (junk_any g jk y hsy1 _ (c5 _) (cj _)).mono fun e w' he => ⟨he.1, ⟨⟨_, Rest.alloc (In.ok _) _⟩, he.2⟩⟩)))
                    refine wpQuiet_nil ?_
                    intro _ hw'
                    obtain ⟨tt, hw''⟩ := hw'
                    subst hw''
                    have hfin : Hid (Rest w jk tt.w) := tt.ok
                    clear r1 r2 r3 r4 s1 s2
                    go_wp2_with fail
                    go_meet
                    exact ⟨rfl, hfin⟩
                  · have q1 : (i : Int) + (T : Int) < (p : Int) := by omega
                    have q2 : (bhi : Int) ≤ (j : Int) + (T : Int) := by omega
                    have z1 : decide ((i : Int) + (T : Int) < (p : Int)) = true := decide_eq_true q1
                    have z2 : decide ((j : Int) + (T : Int) < (bhi : Int)) = false := decide_eq_false (by omega)
                    go_wp2_with fail
                    go_quiet (fail)
                    have hfin : Hid (Rest w jk (wr.drewN nq)) := hrest.drewN nq
                    clear s1 s2
                    go_wp2_with fail
                    go_meet
                    exact ⟨rfl, hfin⟩
                · have q1 : (p : Int) ≤ (i : Int) + (T : Int) := by omega
                  have z1 : decide ((i : Int) + (T : Int) < (p : Int)) = false := decide_eq_false (by omega)
                  go_wp2_with fail
                  go_quiet (fail)
                  have hfin : Hid (Rest w jk (wr.drewN nq)) := hrest.drewN nq
                  clear s1 s2
                  go_wp2_with fail
                  go_meet
                  exact ⟨rfl, hfin⟩
            case rest => as_aux_lemma =>
              obtain ⟨rfl, hrs⟩ := hcut
              have hres := hrs.out.res
              have e0 : wc.cell? ⟨w.heap.size, 0, none⟩ = some (.int .i64 0) := hres.cell 0
              have e1 : wc.cell? ⟨w.heap.size, 1, none⟩ = some (.int .i64 0) := hres.cell 1
              have e2 : wc.cell? ⟨w.heap.size, 2, none⟩ = some (.int .i64 0) := hres.cell 2
              have g0 := hres.free 0
              have g1 := hres.free 1
              have g2 := hres.free 2
              clear hres
              go_wp2
              refine bodyPost_ret (v := .agg #[.int .i64 i, .int .i64 j, .int .i64 T]) (by simp [results, Tryd.results28, go_sem, e0, e1, e2]) rfl ⟨by rw [HFl.out], ?_⟩
              exact ((hrs.out.below.setCell (p := ⟨w.heap.size, 0, none⟩) (Nat.le_refl _) _).setCell (p := ⟨w.heap.size, 1, none⟩) (Nat.le_refl _) _).setCell (p := ⟨w.heap.size, 2, none⟩) (Nat.le_refl _) _

end Go.Proofs.YtkmfedmiaannfaaDoor.Df
