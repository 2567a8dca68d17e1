/- FnSpans: spans and deltas denote the buckets from which they are made; of several buckets with the same key the last one applies; for every list of buckets. -/
import Derived.Test.YtkmfedmiaannfaaSpx
import Derived.Test.YtkmfedmiaannfaaSpw
set_option linter.unusedVariables false
set_option linter.unusedSimpArgs false
namespace Go.Proofs.Ytkmfedmiaannfaa.Spans
open Go.RowKit Go.ChangeShapes Go.WideShapes Go.Deep Fp _root_.Go.Proofs.Ytkmfedmiaannfaa.Sp

def cut (p : N2) : N2 := (p.1.tmod 1073741824, p.2)

theorem one_M {M : List N2} (h1 : Rise M) (h2 : ∀ q : N2, q ∈ M ↔ lastN [(4, 7)] q.1 = some q.2) : M = [(4, 7)] := by
  refine rise_eq h1 ⟨fun q h => by simp at h, trivial⟩ fun q => ?_
  rw [h2 q]
  obtain ⟨a, b⟩ := q
  show (if (4 : Int) = a then some (7 : Int) else none) = some b ↔ (a, b) ∈ [((4 : Int), (7 : Int))]
  by_cases e : (4 : Int) = a
  · rw [if_pos e, List.mem_singleton]
    constructor
    · intro h; injection h with h; rw [← e, ← h]
    · intro h; injection h with _ h; rw [h]
  · rw [if_neg e, List.mem_singleton]
    constructor
    · intro h; cases h
    · intro h; injection h with h; exact absurd h.symm e
theorem one_deltas : deltasOf 0 (counts (buildX [(4, 7)])) = [7] := by decide +kernel
def OneOut (w : World) (e : Ending) (w' : World) : Prop := ∃ v1 g c, e = .returned (.tuple #[v1, .slice (some g) 1 c]) ∧ w'.cell? g = some (.int .i64 7) ∧ g.block < w'.heap.size ∧ Below w.heap.size w w'
theorem one_any (v : Value) (w : World) (hof : Ss.Of 2 cc w v [(4, 7)]) : Calls Try.prog 33 #[v] w (OneOut w) := by
  refine (spans_any [(4, 7)] v w hof (by decide) (fun p hp => by rw [List.mem_singleton.1 hp]; unfold In64; decide)).mono ?_
  rintro e w' ⟨M, v1, v2, rfl, h1, h2, h3, h4, h5⟩
  rw [one_M h1 h2, one_deltas] at h4
  obtain ⟨a, c, rfl⟩ := int_slice h4
  obtain ⟨b, off, rfl, hb, hc⟩ := int_at h4 (k := 0) (by simp)
  exact ⟨v1, ⟨b, off, none⟩, c, rfl, hc, hb, h5⟩
theorem one_in (w : World) : Ss.Of 2 cc (w.alloc (.cells #[.int .i64 4, .int .i64 7] 75)) (.slice (some ⟨w.heap.size, 0, none⟩) 1 1) [((4 : Int), (7 : Int))] :=
  Ss.Of.own (zs := [((4 : Int), (7 : Int))]) (B := 0) (e := 75) cc_len (World.ownsRow_lit w #[.int .i64 4, .int .i64 7] 1 (Nat.zero_le _) (by decide) rfl)
theorem bch {w0 w w' : World} (h : Below w0.heap.size w0 w) (k : Below w.heap.size w w') : Below w0.heap.size w0 w' := h.trans (k.mono h.size)
theorem cut_near (p : N2) : -1073741824 < (cut p).1 ∧ (cut p).1 < 1073741824 := by
  show -1073741824 < p.1.tmod 1073741824 ∧ p.1.tmod 1073741824 < 1073741824
  have q1 := Int.tmod_lt_of_pos p.1 (show (0 : Int) < 1073741824 by decide)
  have q2 := Int.tmod_lt_of_pos (-p.1) (show (0 : Int) < 1073741824 by decide)
  rw [Int.neg_tmod] at q2
  omega

set_option maxHeartbeats 8000000 in
set_option maxRecDepth 100000 in
theorem law_any (v : Value) (w : World) (hv : ∃ L : List N2, Ss.Of 2 cc w v L ∧ ∀ q ∈ L, In64 q.1 ∧ In64 q.2) :
    Calls Try.prog 9 #[v] w fun e w' => e = .returned (.bool true) ∧ Below w.heap.size w w' := by
  obtain ⟨L, hof, hr⟩ := hv
  obtain ⟨i0, hi, hz0, hz1, hz2⟩ := info_parts infoC
  obtain ⟨av, cv, rfl, _, _⟩ := hof.slice
  have HOf := Lib.hid hof
  have HR := Lib.hid hr
  have HG0 : Hid (GotT cc 64 w.heap.size 0 [] (.slice none 0 0) w w) := ⟨Nat.le_refl _, World.ownsRow_nil _ _ _ _, Below.refl _ _⟩
  clear hof hr
  by_cases hL : L.length ≤ 2147483647
  · have l1 : (L.length : Int) ≤ 2147483647 := by omega
    go_enter Try.func9, Try.ntmps9
    go_wp2_with fail
    go_loopw [3, 4] (fun vu vk wr => ∃ (k : Nat) (u : Value), k ≤ L.length ∧ u = vu ∧ vk = .int .i64 (k : Int) ∧ Hid (GotT cc 64 w.heap.size k ((L.take k).map cut) u w wr)) (fun _ k _ => L.length - (intOf k).toNat)
    case atStart => exact ⟨0, _, Nat.zero_le _, rfl, rfl, HG0.out⟩
    case round =>
      obtain ⟨k, u, hk, rfl, rfl, hgot⟩ := hrel
      by_cases hlt : k < L.length
      · obtain ⟨b, off, hav, hb, d0, d1⟩ := cell_at HOf.out hlt
        have htk : (L.take (k + 1)).map cut = (L.take k).map cut ++ [cut L[k]] := by rw [List.take_succ_eq_append_getElem hlt, List.map_append]; rfl
        subst hav
        obtain ⟨x, y, hxy⟩ : ∃ x y, L[k] = (x, y) := ⟨_, _, rfl⟩
        rw [hxy] at d0 d1 htk
        obtain ⟨acc, hacc⟩ : ∃ acc, (L.take k).map cut = acc := ⟨_, rfl⟩
        rw [hacc] at hgot htk
        have hal := hgot.out.1
        have hsz : w.heap.size ≤ wr.heap.size := hgot.out.2.2.size
        obtain ⟨x2, hx2⟩ : ∃ x2, x.tmod 1073741824 = x2 := ⟨_, rfl⟩
        have hcut : cut (x, y) = (x2, y) := by unfold cut; rw [← hx2]
        rw [hcut] at htk
        have HTk := Lib.hid htk
        obtain ⟨au, cu, rfl⟩ := row_slice2 hgot.out.2.1
        have HIn : Hid (∀ W, Below w.heap.size w W → W.cell? ⟨b, off + k * 2, none⟩ = some (.int .i64 x) ∧ W.cell? ⟨b, off + k * 2 + 1, none⟩ = some (.int .i64 y)) := fun W hW =>
          ⟨by rw [hW.cell (p := ⟨b, off + k * 2, none⟩) hb]; exact d0, by rw [hW.cell (p := ⟨b, off + k * 2 + 1, none⟩) hb]; exact d1⟩
        have hbd : Below w.heap.size w wr.drew := hgot.out.2.2.trans (Below.refl _ _).drew
        have HGd : Hid (GotT cc 64 w.heap.size k acc (.slice au acc.length cu) w wr.drew) := hgot.out.below hsz (Below.refl _ _).drew
        have hszd : w.heap.size ≤ wr.drew.heap.size := hsz
        have HNews := Lib.hid (Ss.news_one wr.drew #[.int .i64 x2, .int .i64 y] 64)
        have hSd := HIn.out wr.drew hbd
        have hSa : Hid (∀ ob : Obj, (wr.drew.alloc ob).cell? ⟨b, off + k * 2, none⟩ = some (.int .i64 x) ∧ (wr.drew.alloc ob).cell? ⟨b, off + k * 2 + 1, none⟩ = some (.int .i64 y)) := fun ob => HIn.out _ (hbd.alloc hszd ob)
        have HOne : Hid (∀ u ∈ [Value.int .i64 x2, .int .i64 y], u.oneCell' = true) := ones2 [(x2, y)]
        have H63b : Hid (acc.length + 1 ≤ maxLen) := by show _ ≤ _; unfold maxLen; omega
        have HByb : Hid ((acc.length + 1) * 16 ≤ 140737488355328) := by show _ ≤ _; omega
        have HBase : Hid (w.heap.size ≤ (wr.drew.alloc (.cells #[.int .i64 x2, .int .i64 y] 64)).heap.size) := Nat.le_trans hszd (by simp)
        have HNext : Hid (∀ v2 W2, W2.ownsRow w.heap.size 64 2 v2 (acc.length + 1) (acc.flatMap cc ++ [.int .i64 x2, .int .i64 y]) → (wr.drew.alloc (.cells #[.int .i64 x2, .int .i64 y] 64)).grownBy W2 (Value.slice au acc.length cu).ownBlock → GotT cc 64 w.heap.size (k + 1) ((L.take (k + 1)).map cut) v2 w W2) := fun v2 W2 ho hg => by
          rw [HTk.out]; exact HGd.out.app hszd ho hg
        have z1 : (0 : Int) ≤ (k : Int) := by omega
        have z2 : (k : Int) < (L.length : Int) := by omega
        have x3 : IntKind.i64.wrap x2 = x2 := by
          have hx := (HR.out _ (List.getElem_mem hlt)).1
          rw [hxy] at hx
          have hx : In64 x := hx
          unfold In64 at hx
          refine IntWalk.i64_in _ ?_
          rw [← hx2]
          have q1 := Int.tmod_lt_of_pos x (show (0 : Int) < 1073741824 by decide)
          have q2 := Int.tmod_lt_of_pos (-x) (show (0 : Int) < 1073741824 by decide)
          rw [Int.neg_tmod] at q2
          omega
        clear d0 d1 hxy hacc htk hbd hgot hcut
        go_wp2_with fail
        go_region_held3 (fun w' => w'.cell? ⟨b, off + k * 2, none⟩ = some (.int .i64 x) ∧ w'.cell? ⟨b, off + k * 2 + 1, none⟩ = some (.int .i64 y)) (first | exact hSd | exact hSa.out _ | exact hS1)
          (first | (refine step_append_lies _ (by rfl) (.tmp 20) (.tmp 33) 62 (by rfl) w.heap.size 64 i0 (.agg #[.int .i64 0, .int .i64 0]) 2 16 Try.underlying62 hi hz0 hz1 hz2 rfl (by decide) _ _ _ (by rfl) (HGd.out.2.1.alloc _) ⟨wr.drew.heap.size, 0, none⟩ 1 1 [.int .i64 x2, .int .i64 y] (by rfl) rfl HNews.out HOne.out (by decide) H63b.out HByb.out HBase.out _ rfl ?_; intro g2 cp2 W2 hown2 hgrow2 hat2 hlt2; have hfin := Lib.hid (HNext.out _ W2 hown2 hgrow2); have hS1 := HIn.out W2 hfin.out.2.2; clear hown2 hgrow2 hat2 hlt2))
        go_wp2_with fail
        go_roundw
        case rel => exact ⟨k + 1, _, by omega, rfl, by go_num, hfin.out⟩
        case measure => simp [intOf]; omega
      · obtain rfl : k = L.length := by omega
        obtain ⟨W1, rfl⟩ : ∃ W1 : World, W1 = wr := ⟨_, rfl⟩
        rw [List.take_length] at hgot
        obtain ⟨L2, hL2⟩ : ∃ L2, L.map cut = L2 := ⟨_, rfl⟩
        have hl2 : L2.length ≤ 2147483647 := by rw [← hL2, List.length_map]; exact hL
        have hr2 : ∀ p ∈ L2, (-1073741824 < p.1 ∧ p.1 < 1073741824) ∧ In64 p.2 := fun p hp => by
          rw [← hL2] at hp
          obtain ⟨q, hq, rfl⟩ := List.mem_map.1 hp
          exact ⟨cut_near q, (HR.out q hq).2⟩
        rw [hL2] at hgot
        have HIn0 : Hid (Ss.Of 2 cc W1 u L2) := Ss.Of.own cc_len hgot.out.2.1
        have HB0 : Hid (Below w.heap.size w W1) := hgot.out.2.2
        have HR2 := Lib.hid hr2
        have HIn1 : Hid (∀ w' : World, Below W1.heap.size W1 w' → Ss.Of 2 cc w' u L2) := fun w' h => HIn0.out.below h
        clear hr2 hL2 hgot HG0
        go_wp2_with (first
          | (go_at_call 34; refine (cellsTo_any L2 u W1 HIn0.out hl2).mono ?_; rintro e w2 ⟨v2, rfl, h1, h2⟩; have H1 := Lib.hid h1; have B1 := Lib.hid h2; clear h1 h2)
          | (go_at_call 33; refine (spans_any L2 v2 w2 H1.out hl2 HR2.out).mono ?_; rintro e w3 ⟨M, v3, v4, rfl, h1, h2, h3, h4, h5⟩; have H2 := Lib.hid h1; have H3 := Lib.hid h2; have H4 := Lib.hid h3; have H5 := Lib.hid h4; have B2 := Lib.hid h5; clear h1 h2 h3 h4 h5))
        have hNear : Near M := fun q hq => (HR2.out _ (last_mem ((H3.out q).1 hq))).1
        have hmd := made _ M rfl H2.out hNear
        have hMl := near_len H2.out hNear
        have HCell : Hid (nz (cellsOf (buildX M)) = fitsN L2) := by show _ = _; rw [hmd.cells, fits_eq H2.out H3.out]
        have HWf := Lib.hid hmd.wf
        have HVals : Hid (∀ c ∈ counts (buildX M), -9223372036854775808 ≤ c ∧ c ≤ 9223372036854775807) := fun c hc => by
          rcases hmd.vals c hc with rfl | ⟨q, hq, rfl⟩
          · decide
          · exact (HR2.out _ (last_mem ((H3.out q).1 hq))).2
        have HXl : Hid ((buildX M).length ≤ 2147483647) := Nat.le_trans hmd.few hMl
        have HRl : Hid ((runsOf 0 (buildX M)).length ≤ 2147483647) := by show _ ≤ _; rw [runsOf_len]; exact HXl.out
        have HCl : Hid ((counts (buildX M)).length ≤ 8589934592) := by show _ ≤ _; have := hmd.sum; omega
        clear hNear hmd hMl
        go_wp2_with (first
          | (go_at_call 36; refine (runsTo_any _ v3 w3 H4.out HRl.out).mono ?_; rintro e w4 ⟨v5, rfl, h1, h2⟩; have H6 := Lib.hid h1; have B3 := Lib.hid h2; clear h1 h2)
          | (go_at_call 35; refine (read_any (buildX M) v5 v4 w4 H6.out (H5.out.below B3.out) HWf.out HVals.out (Nat.le_succ_of_le HXl.out) HCl.out).mono ?_; rintro e w5 ⟨v6, rfl, h1, h2⟩; have H7 := Lib.hid h1; have B4 := Lib.hid h2; clear h1 h2)
          | (go_at_call 33; refine (one_any _ _ (one_in w5)).mono ?_; rintro e w6 ⟨v7, g7, c7, rfl, h1, h2, h3⟩; have H8 := Lib.hid h1; have H9 := Lib.hid h2; have B5 := Lib.hid h3; clear h1 h2 h3))
        have hbA := bch (bch (bch B1.out B2.out) B3.out) B4.out
        have hbB := bch (hbA.alloc hbA.size _) B5.out
        have hin7 := HIn1.out w6 hbB
        have HIn7 := Lib.hid hin7
        have h57 : Hid (Ss.Of 2 cc w6 v6 (fitsN L2)) := by
          have h1 : Ss.Of 2 cc w5 v6 (nz (cellsOf (buildX M))) := Ss.Of.own cc_len H7.out
          rw [HCell.out] at h1
          exact h1.below (bch ((Below.refl w5.heap.size w5).alloc (Nat.le_refl _) _) B5.out)
        have HB7 : Hid (Below w.heap.size w w6) := HB0.out.trans (hbB.mono HB0.out.size)
        have HFl : Hid ((fitsN L2).length ≤ 9223372036854775806) := by
          show _ ≤ _
          rw [← HCell.out]
          have h1 : (nz (cellsOf (buildX M))).length ≤ (cellsOf (buildX M)).length := List.length_filter_le _ _
          have h2 : ∀ X : List Seg, (cellsOf X).length = (counts X).length := by
            have he : ∀ (l : List Int) (s : Int), (exp s l).length = l.length := by
              intro l
              induction l with
              | nil => intro s; rfl
              | cons c l ih => intro s; show (exp _ l).length + 1 = _; rw [ih]; rfl
            intro X
            induction X with
            | nil => rfl
            | cons s X ih =>
              unfold cellsOf counts at ih ⊢
              rw [List.flatMap_cons, List.flatMap_cons, List.length_append, List.length_append, ih, he]
          rw [h2] at h1
          have := HCl.out
          omega
        clear hbA hbB hin7
        have y0 : (decide ((1 : Int) = 1)) = true := rfl
        go_wp2_with (first
          | (go_at_call 38; refine (fits_any L2 u w6 HIn7.out hl2).mono ?_; rintro e w7 ⟨v8, rfl, h1, h2⟩; have H10 := Lib.hid h1; have B6 := Lib.hid h2; clear h1 h2)
          | (go_at_call 37; refine (same_any (fitsN L2) v6 v8 w7 (h57.out.below B6.out) (Ss.Of.own cc_len H10.out) HFl.out).mono ?_; rintro e w8 ⟨rfl, h1⟩; have B7 := Lib.hid h1; clear h1; have hg8 : w8.cell? g7 = some (.int .i64 7) := by rw [(bch B6.out B7.out).cell (p := g7) H9.out]; exact H8.out))
        go_ret
        exact ⟨rfl, HB7.out.trans ((bch B6.out B7.out).mono HB7.out.size)⟩
  · have l2 : (2147483647 : Int) < (L.length : Int) := by omega
    go_enter Try.func9, Try.ntmps9
    go_wp2_with fail
    go_ret
    exact ⟨rfl, Below.refl _ _⟩

end Go.Proofs.Ytkmfedmiaannfaa.Spans
