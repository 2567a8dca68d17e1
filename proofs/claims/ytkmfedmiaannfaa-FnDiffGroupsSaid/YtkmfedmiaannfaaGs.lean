/- Groups of edits: the walks of spec.Changes, spec.SameEdits and spec.GroupsRight; printed by wip/gen_gs.py. -/
import Derived.Test.YtkmfedmiaannfaaGi
set_option linter.unusedVariables false
set_option linter.unusedSimpArgs false
namespace Go.Proofs.Ytkmfedmiaannfaa.Df
open Go.RowKit Go.Maps Go.WideMaps Go.ChangeShapes

theorem GotT.apps {T B n : Nat} {acc ms : List E5} {u v : Value} {w w' wy : World} (h : GotT T B n acc u w w') (hs : B ≤ w'.heap.size) (ho : wy.ownsRow B T 5 v (acc.length + ms.length) (acc.flatMap ecells ++ ms.flatMap ecells)) (hg : w'.grownBy wy u.ownBlock) (hn : acc.length + ms.length ≤ n) : GotT T B n (acc ++ ms) v w wy := by
  refine ⟨by rw [List.length_append]; exact hn, ?_, h.2.2.grown hg hs (fun j hj => (h.2.1.lt j hj).1)⟩
  rw [List.length_append, List.flatMap_append]
  exact ho
theorem chs_len (L : List E5) : (chs L).length ≤ L.length := List.length_filter_le ..
theorem small_grp {M n : Nat} : ∀ (C : List E5) (gs : List (List E5)) (g : List E5), Small M C → (∀ x ∈ gs, Small M x) → Small M g → ∀ x ∈ grp n C gs g, Small M x
  | [], gs, g, _, h1, h2, x, hx => by
    unfold grp at hx
    split at hx
    · exact h1 x hx
    · rcases List.mem_append.1 hx with hx | hx
      · exact h1 x hx
      · rw [List.mem_singleton.1 hx]; exact h2
  | c :: r, gs, g, hC, h1, h2, x, hx => by
    have hc := hC c (by simp)
    have hr : Small M r := fun d hd => hC d (by simp [hd])
    have hcut : Small M [cutE n c] := fun d hd => by
      rw [List.mem_singleton.1 hd]; unfold cutE; simp only; omega
    have hend : Small M [endE n c] := fun d hd => by
      rw [List.mem_singleton.1 hd]; unfold endE; simp only; omega
    have happ : ∀ a b : List E5, Small M a → Small M b → Small M (a ++ b) := fun a b ha hb d hd => by
      rcases List.mem_append.1 hd with hd | hd
      · exact ha d hd
      · exact hb d hd
    unfold grp at hx
    split at hx
    · refine small_grp r _ _ hr (fun y hy => ?_) hend x hx
      rcases List.mem_append.1 hy with hy | hy
      · exact h1 y hy
      · rw [List.mem_singleton.1 hy]; exact happ _ _ h2 hcut
    · exact small_grp r _ _ hr h1 (happ _ _ h2 (fun d hd => by rw [List.mem_singleton.1 hd]; exact hc)) x hx
theorem small_grps {M n : Nat} {L : List E5} (h : Small M L) (hM : 1 ≤ M) : ∀ x ∈ grps n L, Small M x := by
  refine small_grp _ _ _ (small_trimB (small_trimF ?_)) (fun x hx => absurd hx (by simp)) (fun c hc => absurd hc (by simp))
  unfold some1
  split
  · intro c hc; rw [List.mem_singleton.1 hc]; simp only; omega
  · exact h
/-- neighbours in a linked list -/
theorem link_at : ∀ {g : List E5} (_ : Link g) (i : Nat) (h : i + 1 < g.length), (g[i + 1]).2.1 = (g[i]).2.2.1 ∧ (g[i + 1]).2.2.2.1 = (g[i]).2.2.2.2
  | [], _, i, h => absurd h (by simp)
  | [_], _, i, h => absurd h (by simp)
  | c :: d :: r, hl, 0, _ => ⟨hl.1, hl.2.1⟩
  | c :: d :: r, hl, i + 1, h => link_at (g := d :: r) hl.2.2 i (by simpa using h)
theorem Of_at5 {w : World} {a : Option Addr} {n cap : Nat} {zs : List E5} (h : Ss.Of 5 ecells w (.slice a n cap) zs) {k : Nat} (hk : k < zs.length) : ∃ b off, a = some ⟨b, off, none⟩ ∧ b < w.heap.size ∧
    ∀ i (hi : i < zs.length), w.cell? ⟨b, off + i * 5, none⟩ = some (.int .u8 (zs[i]).1) ∧ w.cell? ⟨b, off + i * 5 + 1, none⟩ = some (.int .i64 (zs[i]).2.1) ∧ w.cell? ⟨b, off + i * 5 + 2, none⟩ = some (.int .i64 (zs[i]).2.2.1) ∧ w.cell? ⟨b, off + i * 5 + 3, none⟩ = some (.int .i64 (zs[i]).2.2.2.1) ∧ w.cell? ⟨b, off + i * 5 + 4, none⟩ = some (.int .i64 (zs[i]).2.2.2.2) := by
  rcases h with ⟨rfl, _⟩ | ⟨b, off, cap, h, h0, hcap, hm, hbb, hcell⟩
  · simp at hk
  · injection h with h1 h2 h3
    exact ⟨b, off, h1, hbb, fun i hi => ⟨hcell i hi 0 _ rfl, by rw [Nat.add_assoc]; exact hcell i hi 1 _ rfl, by rw [Nat.add_assoc]; exact hcell i hi 2 _ rfl, by rw [Nat.add_assoc]; exact hcell i hi 3 _ rfl, by rw [Nat.add_assoc]; exact hcell i hi 4 _ rfl⟩⟩
/-- the cells of an owned row, behind its address -/
theorem own_news {w : World} {B T m cap : Nat} {ad : Addr} {zs : List E5} (h : w.ownsRow B T 5 (.slice (some ad) m cap) zs.length (zs.flatMap ecells)) : ∀ j u, (zs.flatMap ecells)[j]? = some u → w.cell? (ad.add j) = some u := by
  rcases h.2 with ⟨h', _⟩ | ⟨g', cap', cur, h', _⟩
  · simp at h'
  · injection h' with h1 _ _
    injection h1 with h1
    subst h1
    exact h.cells rfl
theorem own_addr {w : World} {B T : Nat} {v : Value} {zs : List E5} (h : w.ownsRow B T 5 v zs.length (zs.flatMap ecells)) (h0 : zs ≠ []) : ∃ g cap, v = .slice (some ⟨g, 0, none⟩) zs.length cap := by
  rcases h.2 with ⟨_, h'⟩ | ⟨g', cap', cur, h', _⟩
  · exact absurd (List.length_eq_zero_iff.1 h') h0
  · exact ⟨_, _, h'⟩
theorem ones5 (zs : List E5) : ∀ u ∈ zs.flatMap ecells, u.oneCell' = true := by
  intro u hu
  obtain ⟨c, _, hc⟩ := List.mem_flatMap.1 hu
  exact one5 _ _ _ _ _ u hc

set_option maxHeartbeats 16000000 in
set_option maxRecDepth 100000 in
theorem changes_any (T : List E5) (v : Value) (W2 : World) (hof : Ss.Of 5 ecells W2 v T) (hTl : T.length ≤ 4294967300) :
    Calls Try.prog 48 #[v] W2 (RowOut 96 (chs T) W2) := by
  obtain ⟨i0, hi, hz0, hz1, hz2⟩ := info_parts infoSE
  obtain ⟨av, cv, rfl, _, _⟩ := hof.slice
  have HOf := Lib.hid hof
  have HG0 : Hid (GotT 96 W2.heap.size 0 [] (.slice none 0 0) W2 W2) := ⟨Nat.le_refl _, World.ownsRow_nil _ _ _ _, Below.refl _ _⟩
  clear hof
  go_enter Try.func48, Try.ntmps48
  go_wp2_with fail
  go_loopw [3, 4] (fun vu vn wr => ∃ (n : Nat) (u : Value), n ≤ T.length ∧ u = vu ∧ vn = .int .i64 (n : Int) ∧ Hid (GotT 96 W2.heap.size n (chs (T.take n)) u W2 wr)) (fun _ n _ => T.length - (intOf n).toNat)
  case atStart =>
    exact ⟨0, _, Nat.zero_le _, rfl, rfl, HG0.out⟩
  case round =>
    obtain ⟨n, u, hn, rfl, rfl, hgot⟩ := hrel
    by_cases hlt : n < T.length
    · have htk : chs (T.take (n + 1)) = chs (T.take n) ++ chs [T[n]] := by
        rw [List.take_succ_eq_append_getElem hlt, chs_app]
      obtain ⟨bq, oq, hav, hbq, hcl⟩ := Of_at5 HOf.out hlt
      obtain ⟨d0, d1, d2, d3, d4⟩ := hcl n hlt
      obtain ⟨t, i1, i2, j1, j2, hb⟩ : ∃ t i1 i2 j1 j2, T[n] = (t, i1, i2, j1, j2) := ⟨_, _, _, _, _, rfl⟩
      rw [hb] at htk d0 d1 d2 d3 d4
      simp only at d0 d1 d2 d3 d4
      obtain ⟨acc, hacc⟩ : ∃ acc, chs (T.take n) = acc := ⟨_, rfl⟩
      rw [hacc] at hgot htk
      subst hav
      have hbw := hgot.out.2.2
      have c0 : wr.cell? ⟨bq, oq + n * 5, none⟩ = some (.int .u8 t) := by rw [hbw.cell (p := ⟨bq, oq + n * 5, none⟩) hbq]; exact d0
      have c1 : wr.cell? ⟨bq, oq + n * 5 + 1, none⟩ = some (.int .i64 i1) := by rw [hbw.cell (p := ⟨bq, oq + n * 5 + 1, none⟩) hbq]; exact d1
      have c2 : wr.cell? ⟨bq, oq + n * 5 + 2, none⟩ = some (.int .i64 i2) := by rw [hbw.cell (p := ⟨bq, oq + n * 5 + 2, none⟩) hbq]; exact d2
      have c3 : wr.cell? ⟨bq, oq + n * 5 + 3, none⟩ = some (.int .i64 j1) := by rw [hbw.cell (p := ⟨bq, oq + n * 5 + 3, none⟩) hbq]; exact d3
      have c4 : wr.cell? ⟨bq, oq + n * 5 + 4, none⟩ = some (.int .i64 j2) := by rw [hbw.cell (p := ⟨bq, oq + n * 5 + 4, none⟩) hbq]; exact d4
      have hsz : W2.heap.size ≤ wr.heap.size := hbw.size
      have z1 : (0 : Int) ≤ (n : Int) := by omega
      have z2 : (n : Int) < (T.length : Int) := by omega
      have hal := hgot.out.1
      obtain ⟨au, cu, rfl⟩ := row_slice hgot.out.2.1
      clear d0 d1 d2 d3 d4 hbw hb hacc hcl
      by_cases ht : t = 101
      · have hb : ((t : Int) != 101) = false := by rw [bne_eq_false_iff_eq]; omega
        have e0 : chs [((t, i1, i2, j1, j2) : E5)] = [] := by unfold chs; simp [ht]
        rw [e0, List.append_nil] at htk
        have hg3 : Hid (GotT 96 W2.heap.size (n + 1) (chs (T.take (n + 1))) (.slice au acc.length cu) W2 wr) := by
          show GotT _ _ _ _ _ _ _
          rw [htk]
          exact ⟨by omega, hgot.out.2⟩
        clear htk e0 ht hgot
        go_wp2_with fail
        go_roundw
        case rel => exact ⟨n + 1, _, by omega, rfl, by go_num, hg3⟩
        case measure => simp [intOf]; omega
      · have hb : ((t : Int) != 101) = true := by rw [bne_iff_ne]; omega
        have e0 : chs [((t, i1, i2, j1, j2) : E5)] = [(t, i1, i2, j1, j2)] := by unfold chs; simp [ht]
        rw [e0] at htk
        have HTk := Lib.hid htk
        have HNews := Lib.hid (Ss.news_one wr #[.int .u8 t, .int .i64 i1, .int .i64 i2, .int .i64 j1, .int .i64 j2] 96)
        clear htk e0 ht
        go_wp2_with (first
          | (at_builtin; refine wpList_append_own_at _ rfl _ _ 48 rfl W2.heap.size 96 i0 (.agg #[.int .u8 0, .int .i64 0, .int .i64 0, .int .i64 0, .int .i64 0]) 5 40 Try.underlying48 hi hz0 hz1 hz2 rfl (by decide) _ _ _ rfl (hgot.out.2.1.alloc _) ⟨wr.heap.size, 0, none⟩ 1 1 [.int .u8 t, .int .i64 i1, .int .i64 i2, .int .i64 j1, .int .i64 j2] rfl rfl (by simpa using HNews.out) (one5 _ _ _ _ _) (by unfold maxLen; omega) (by omega) (by simp; omega) ?_; intro v2 W4 hown2 hgrow2 hnil2 hloc2; have hg3 : Hid (GotT 96 W2.heap.size (n + 1) (chs (T.take (n + 1))) v2 W2 W4) := (by show GotT _ _ _ _ _ _ _; rw [HTk.out]; exact hgot.out.app hsz hown2 hgrow2); clear hown2 hgrow2 hnil2 hloc2))
        go_roundw
        case rel => exact ⟨n + 1, _, by omega, rfl, by go_num, hg3⟩
        case measure => simp [intOf]; omega
    · obtain rfl : n = T.length := by omega
      have hg2 := hgot.out
      rw [List.take_length] at hg2
      have hfin : Hid (RowOut 96 (chs T) W2 (.returned u) wr) := ⟨u, rfl, hg2.2.1, hg2.2.2⟩
      clear hg2 hgot
      go_wp2_with fail
      go_ret
      exact hfin.out

def TrueQ (w : World) (e : Ending) (w' : World) : Prop := e = .returned (.bool true) ∧ ∃ m, w' = w.drewN m
set_option maxHeartbeats 16000000 in
set_option maxRecDepth 100000 in
theorem sameEdits_any (L : List E5) (v v1 : Value) (w : World) (h : Ss.Of 5 ecells w v L) (h1 : Ss.Of 5 ecells w v1 L) :
    Calls Try.prog 49 #[v, v1] w (TrueQ w) := by
  obtain ⟨a, ca, rfl, hca, hcb⟩ := h.slice
  obtain ⟨a1, c1, rfl, hc1, hc2⟩ := h1.slice
  have H := Lib.hid h
  have H1 := Lib.hid h1
  have hll : L.length ≤ 9223372036854775807 := by omega
  have hne : ((L.length : Int) != (L.length : Int)) = false := bne_self_eq_false _
  clear h h1
  go_enter Try.func49, Try.ntmps49
  go_wp2_with fail
  go_loopw [5] (fun vi wr => ∃ k m : Nat, k ≤ L.length ∧ vi = .int .i64 (k : Int) ∧ Hid (wr = w.drewN m)) (fun k _ => L.length - (intOf k).toNat)
  case atStart => exact ⟨0, 0, Nat.zero_le _, rfl, rfl⟩
  case round =>
    obtain ⟨k, m, hk, rfl, hwr⟩ := hrel
    by_cases hlt : k < L.length
    · obtain ⟨b, off, hav, _, hcl⟩ := Of_at5 H.out hlt
      obtain ⟨b1, off1, hav1, _, hcl1⟩ := Of_at5 H1.out hlt
      obtain ⟨d0, d1, d2, d3, d4⟩ := hcl k hlt
      obtain ⟨e0, e1, e2, e3, e4⟩ := hcl1 k hlt
      subst hav hav1
      obtain ⟨t, i1, i2, j1, j2, hb⟩ : ∃ t i1 i2 j1 j2, L[k] = (t, i1, i2, j1, j2) := ⟨_, _, _, _, _, rfl⟩
      rw [hb] at d0 d1 d2 d3 d4 e0 e1 e2 e3 e4
      simp only at d0 d1 d2 d3 d4 e0 e1 e2 e3 e4
      have f0 : wr.cell? ⟨b, off + k * 5, none⟩ = some (.int .u8 t) := by rw [hwr.out]; exact d0
      have f1 : wr.cell? ⟨b, off + k * 5 + 1, none⟩ = some (.int .i64 i1) := by rw [hwr.out]; exact d1
      have f2 : wr.cell? ⟨b, off + k * 5 + 2, none⟩ = some (.int .i64 i2) := by rw [hwr.out]; exact d2
      have f3 : wr.cell? ⟨b, off + k * 5 + 3, none⟩ = some (.int .i64 j1) := by rw [hwr.out]; exact d3
      have f4 : wr.cell? ⟨b, off + k * 5 + 4, none⟩ = some (.int .i64 j2) := by rw [hwr.out]; exact d4
      have g0 : wr.cell? ⟨b1, off1 + k * 5, none⟩ = some (.int .u8 t) := by rw [hwr.out]; exact e0
      have g1 : wr.cell? ⟨b1, off1 + k * 5 + 1, none⟩ = some (.int .i64 i1) := by rw [hwr.out]; exact e1
      have g2 : wr.cell? ⟨b1, off1 + k * 5 + 2, none⟩ = some (.int .i64 i2) := by rw [hwr.out]; exact e2
      have g3 : wr.cell? ⟨b1, off1 + k * 5 + 3, none⟩ = some (.int .i64 j1) := by rw [hwr.out]; exact e3
      have g4 : wr.cell? ⟨b1, off1 + k * 5 + 4, none⟩ = some (.int .i64 j2) := by rw [hwr.out]; exact e4
      have z1 : (0 : Int) ≤ (k : Int) := by omega
      have z2 : (k : Int) < (L.length : Int) := by omega
      clear d0 d1 d2 d3 d4 e0 e1 e2 e3 e4 hcl hcl1 hb
      go_wp2_with fail
      go_quiet (fail)
      have hw2 : Hid (wr.drewN nq = w.drewN (m + nq)) := by show _ = _; rw [hwr.out, World.drewN_drewN]
      go_wp2_with fail
      go_roundw
      case rel => exact ⟨k + 1, m + nq, by omega, by go_num, hw2.out⟩
      case measure => simp [intOf]; omega
    · obtain rfl : k = L.length := by omega
      go_wp2_with fail
      go_ret
      exact ⟨rfl, m, hwr.out⟩

set_option maxHeartbeats 16000000 in
set_option maxRecDepth 100000 in
theorem right_any (L : List E5) (gs : List (List E5)) (n : Nat) (v v1 : Value) (w : World) (h : Ss.Of 5 ecells w v L) (h1 : Of2 5 ecells w v1 gs) (hn : n ≤ 255) (hLl : L.length ≤ 4294967300) (hgl : ∀ x ∈ gs, x.length ≤ 4294967300)
    (hsm : ∀ x ∈ gs, Small 2147483647 x) (hgood : ∀ x ∈ gs, GoodG n x) (hch : gs.flatMap chs = chs L) :
    Calls Try.prog 23 #[v, v1, .int .i64 (n : Int)] w fun e w' => e = .returned (.bool true) ∧ Below w.heap.size w w' := by
  obtain ⟨i0, hi, hz0, hz1, hz2⟩ := info_parts infoSE
  obtain ⟨a, ca, rfl, hca, hcb⟩ := h.slice
  obtain ⟨a1, c1, rfl, hc1, hc2⟩ := h1.slice
  have H := Lib.hid h
  have H1 := Lib.hid h1
  have HGl := Lib.hid hgl
  have HSm := Lib.hid hsm
  have HGood := Lib.hid hgood
  have HCh := Lib.hid hch
  have hcl := chs_len L
  have hgll : gs.length ≤ 9223372036854775807 := by omega
  have HG0 : Hid (GotT 96 w.heap.size L.length [] (.slice none 0 0) w w) := ⟨Nat.zero_le _, World.ownsRow_nil _ _ _ _, Below.refl _ _⟩
  clear h h1 hgl hsm hgood hch
  go_enter Try.func23, Try.ntmps23
  go_wp2_with fail
  go_loopw [7, 8] (fun vu vk wr => ∃ (k : Nat) (u : Value), k ≤ gs.length ∧ u = vu ∧ vk = .int .i64 (k : Int) ∧ Hid (GotT 96 w.heap.size L.length ((gs.take k).flatMap chs) u w wr)) (fun _ k _ => gs.length - (intOf k).toNat)
  case atStart => exact ⟨0, _, Nat.zero_le _, rfl, rfl, HG0.out⟩
  case round =>
    obtain ⟨k, u, hk, rfl, rfl, hgot⟩ := hrel
    by_cases hlt : k < gs.length
    · have htk : (gs.take (k + 1)).flatMap chs = (gs.take k).flatMap chs ++ chs gs[k] := by
        rw [List.take_succ_eq_append_getElem hlt, List.flatMap_append]; simp
      have hpre : ((gs.take k).flatMap chs).length + (chs gs[k]).length ≤ L.length := by
        have e : (gs.take (k + 1)).flatMap chs ++ (gs.drop (k + 1)).flatMap chs = chs L := by rw [← List.flatMap_append, List.take_append_drop]; exact HCh.out
        have := congrArg List.length e
        rw [htk, List.length_append, List.length_append] at this
        omega
      have hxl := HGl.out _ (List.getElem_mem hlt)
      have hxs := HSm.out _ (List.getElem_mem hlt)
      have hxg := HGood.out _ (List.getElem_mem hlt)
      obtain ⟨bq, oq, hv, hav, hbq, d0, hrd⟩ := H1.out.at_ hlt
      obtain ⟨x, hx⟩ : ∃ x, gs[k] = x := ⟨_, rfl⟩
      obtain ⟨acc, hacc⟩ : ∃ acc, (gs.take k).flatMap chs = acc := ⟨_, rfl⟩
      rw [hx] at htk hpre hxl hxs hxg hrd
      rw [hacc] at hgot htk hpre
      subst hav
      have hbw := hgot.out.2.2
      have hsz : w.heap.size ≤ wr.heap.size := hbw.size
      have e0 : wr.cell? ⟨bq, oq + k, none⟩ = some hv := by rw [hbw.cell (p := ⟨bq, oq + k, none⟩) hbq]; exact d0
      have HRd := Lib.hid (hrd.below hbw)
      have CC := Lib.hid (changes_any x hv wr HRd.out hxl)
      obtain ⟨ax, cx, rfl, _, _⟩ := hrd.slice
      obtain ⟨au, cu, rfl⟩ := row_slice hgot.out.2.1
      have HTk := Lib.hid htk
      have HXs := Lib.hid hxs
      obtain ⟨g1, g2, g3, g4, g5⟩ := hxg
      have hnz : (((chs x).length : Int) == 0) = false := by
        rw [beq_eq_false_iff_ne]
        intro e
        exact g1 (List.length_eq_zero_iff.1 (by omega))
      have z1 : (0 : Int) ≤ (k : Int) := by omega
      have z2 : (k : Int) < (gs.length : Int) := by omega
      have HG1 := Lib.hid g1
      have HG2 := Lib.hid g2
      have HG3 := Lib.hid g3
      have HG4 := Lib.hid g4
      have HG5 := Lib.hid g5
      have HGot := Lib.hid hgot.out
      clear d0 hrd hbw htk hxs hx hacc g1 g2 g3 g4 g5 hgot
      go_wp2_with fail
      refine CC.out.mono ?_
      rintro e W3 ⟨v3, rfl, hown3, hb3⟩
      obtain ⟨a3, c3, rfl⟩ := row_slice hown3
      have hs3 : wr.heap.size ≤ W3.heap.size := hb3.size
      have HGot3 := Lib.hid (HGot.out.then hsz hb3)
      have HRd3 := Lib.hid (HRd.out.below hb3)
      clear hown3 hb3 CC HRd HGot e0
      go_wp2_with fail
      go_loopw [10] (fun vi wy => ∃ i : Nat, i ≤ x.length ∧ vi = .int .i64 (i : Int) ∧ Hid (Below W3.heap.size W3 wy)) (fun i _ => x.length - (intOf i).toNat)
      case atStart => exact ⟨0, Nat.zero_le _, rfl, Below.refl _ _⟩
      case round =>
        obtain ⟨i, hi2, rfl, hby⟩ := hrel
        obtain ⟨wy, rfl⟩ : ∃ W, W = wr := ⟨_, rfl⟩
        by_cases hlti : i < x.length
        · obtain ⟨b, off, hav, hbb, hcl2⟩ := Of_at5 HRd3.out hlti
          subst hav
          have hcell := fun j (hj : j < x.length) (o : Nat) => hby.out.cell (p := ⟨b, off + j * 5 + o, none⟩) hbb
          obtain ⟨d0, d1, d2, d3, d4⟩ := hcl2 i hlti
          have hc0 := hby.out.cell (p := ⟨b, off + i * 5, none⟩) hbb
          obtain ⟨s0, s1, s2, s3, s4⟩ := HXs.out _ (List.getElem_mem hlti)
          have hle5 := HG5.out _ (List.getElem_mem hlti)
          have hlast : i = x.length - 1 → Le n x[i] := fun e => HG4.out _ (by rw [List.getLast?_eq_getElem?, List.getElem?_eq_getElem (by omega)]; subst e; rfl)
          have hhead : i = 0 → Le n x[i] := fun e => HG3.out _ (by rw [List.head?_eq_getElem?, List.getElem?_eq_getElem (by omega)]; subst e; rfl)
          have hprev : ∀ (h0 : 0 < i), wy.cell? ⟨b, off + (i - 1) * 5 + 2, none⟩ = some (.int .i64 (x[i]).2.1) ∧ wy.cell? ⟨b, off + (i - 1) * 5 + 4, none⟩ = some (.int .i64 (x[i]).2.2.2.1) := fun h0 => by
            have hl := link_at HG2.out (i - 1) (by omega)
            have e1 : i - 1 + 1 = i := by omega
            simp only [e1] at hl
            obtain ⟨_, _, q2, _, q4⟩ := hcl2 (i - 1) (by omega)
            rw [hcell (i - 1) (by omega) 2, hcell (i - 1) (by omega) 4, hl.1, hl.2]
            exact ⟨q2, q4⟩
          obtain ⟨t, p1, p2, q1, q2, hel⟩ : ∃ t p1 p2 q1 q2, x[i] = (t, p1, p2, q1, q2) := ⟨_, _, _, _, _, rfl⟩
          rw [hel] at d0 d1 d2 d3 d4 s0 s1 s2 s3 s4 hle5 hlast hhead hprev
          simp only at d0 d1 d2 d3 d4 s0 s1 s2 s3 s4 hprev
          have c0 : wy.cell? ⟨b, off + i * 5, none⟩ = some (.int .u8 t) := hc0.trans d0
          have c1 : wy.cell? ⟨b, off + i * 5 + 1, none⟩ = some (.int .i64 p1) := (hcell i hlti 1).trans d1
          have c2 : wy.cell? ⟨b, off + i * 5 + 2, none⟩ = some (.int .i64 p2) := (hcell i hlti 2).trans d2
          have c3 : wy.cell? ⟨b, off + i * 5 + 3, none⟩ = some (.int .i64 q1) := (hcell i hlti 3).trans d3
          have c4 : wy.cell? ⟨b, off + i * 5 + 4, none⟩ = some (.int .i64 q2) := (hcell i hlti 4).trans d4
          have y1 : (0 : Int) ≤ (i : Int) := by omega
          have y2 : (i : Int) < (x.length : Int) := by omega
          clear d0 d1 d2 d3 d4 hc0 hcell hcl2 hel

          by_cases hi0 : i = 0
          · have hz0' : ((i : Int) == 0) = true := beq_iff_eq.2 (by omega)
            have hz00 : decide ((0 : Int) < (i : Int)) = false := by rw [decide_eq_false_iff_not]; omega
            have hz0n : decide (0 < i) = false := by rw [decide_eq_false_iff_not]; omega
            have hle := hhead hi0
            clear hi0
            by_cases ht : t = 101
            · have hle := hle ht
              simp only at hle
              have hb : ((t : Int) == 101) = true := beq_iff_eq.2 (by omega)
              have hd : decide ((n : Int) < (p2 : Int) - (p1 : Int)) = false := by rw [decide_eq_false_iff_not]; omega
              clear hle5 hlast hhead hprev
              go_wp2_with fail
              go_quiet (fail)
              have hby2 : Hid (Below W3.heap.size W3 (wy.drewN nq)) := below_drewN hby.out nq
              go_wp2_with fail
              go_roundw
              case rel => exact ⟨i + 1, by omega, by go_num, hby2.out⟩
              case measure => simp [intOf]; omega
            · have hb : ((t : Int) == 101) = false := beq_eq_false_iff_ne.2 (by omega)
              clear hle5 hlast hhead hprev
              go_wp2_with fail
              go_quiet (fail)
              have hby2 : Hid (Below W3.heap.size W3 (wy.drewN nq)) := below_drewN hby.out nq
              go_wp2_with fail
              go_roundw
              case rel => exact ⟨i + 1, by omega, by go_num, hby2.out⟩
              case measure => simp [intOf]; omega
          · have hz0' : ((i : Int) == 0) = false := beq_eq_false_iff_ne.2 (by omega)
            have hz00 : decide ((0 : Int) < (i : Int)) = true := by rw [decide_eq_true_eq]; omega
            have hz01 : (0 : Int) ≤ (i : Int) - 1 := by omega
            have hz0n : decide (0 < i) = true := by rw [decide_eq_true_eq]; omega
            have hz02 : (i : Int) - 1 < (x.length : Int) := by omega
            have hz03 : 0 < i := by omega
            obtain ⟨k2, k4⟩ := hprev (by omega)
            have n1 : ((p1 : Int) != (p1 : Int)) = false := bne_self_eq_false _
            have n2 : ((q1 : Int) != (q1 : Int)) = false := bne_self_eq_false _
            by_cases hil : i = x.length - 1
            · have hz1' : ((i : Int) == (x.length : Int) - 1) = true := beq_iff_eq.2 (by omega)
              have hle := hlast hil
              clear hil
              by_cases ht : t = 101
              · have hle := hle ht
                simp only at hle
                have hb : ((t : Int) == 101) = true := beq_iff_eq.2 (by omega)
                have hd : decide ((n : Int) < (p2 : Int) - (p1 : Int)) = false := by rw [decide_eq_false_iff_not]; omega
                clear hle5 hlast hhead hprev
                go_wp2_with fail
                go_quiet (fail)
                have hby2 : Hid (Below W3.heap.size W3 (wy.drewN nq)) := below_drewN hby.out nq
                go_wp2_with fail
                go_roundw
                case rel => exact ⟨i + 1, by omega, by go_num, hby2.out⟩
                case measure => simp [intOf]; omega
              · have hb : ((t : Int) == 101) = false := beq_eq_false_iff_ne.2 (by omega)
                clear hle5 hlast hhead hprev
                go_wp2_with fail
                go_quiet (fail)
                have hby2 : Hid (Below W3.heap.size W3 (wy.drewN nq)) := below_drewN hby.out nq
                go_wp2_with fail
                go_roundw
                case rel => exact ⟨i + 1, by omega, by go_num, hby2.out⟩
                case measure => simp [intOf]; omega
            · have hz1' : ((i : Int) == (x.length : Int) - 1) = false := beq_eq_false_iff_ne.2 (by omega)
              by_cases ht : t = 101
              · have hle := hle5 ht
                simp only at hle
                have hb : ((t : Int) == 101) = true := beq_iff_eq.2 (by omega)
                have hd : decide (2 * (n : Int) < (p2 : Int) - (p1 : Int)) = false := by rw [decide_eq_false_iff_not]; omega
                clear hle5 hlast hhead hprev
                go_wp2_with fail
                go_quiet (fail)
                have hby2 : Hid (Below W3.heap.size W3 (wy.drewN nq)) := below_drewN hby.out nq
                go_wp2_with fail
                go_roundw
                case rel => exact ⟨i + 1, by omega, by go_num, hby2.out⟩
                case measure => simp [intOf]; omega
              · have hb : ((t : Int) == 101) = false := beq_eq_false_iff_ne.2 (by omega)
                clear hle5 hlast hhead hprev
                go_wp2_with fail
                go_quiet (fail)
                have hby2 : Hid (Below W3.heap.size W3 (wy.drewN nq)) := below_drewN hby.out nq
                go_wp2_with fail
                go_roundw
                case rel => exact ⟨i + 1, by omega, by go_num, hby2.out⟩
                case measure => simp [intOf]; omega
        · obtain rfl : i = x.length := by omega
          have CC2 := Lib.hid (changes_any x _ wy (HRd3.out.below hby.out) hxl)
          have HGot4 := Lib.hid (HGot3.out.then (Nat.le_trans hsz hs3) hby.out)
          have hs4 : W3.heap.size ≤ wy.heap.size := hby.out.size
          clear hby
          go_wp2_with fail
          refine CC2.out.mono ?_
          rintro e W5 ⟨v5, rfl, hown5, hb5⟩
          obtain ⟨g5, cap5, rfl⟩ := own_addr hown5 HG1.out
          have HNews := Lib.hid (own_news hown5)
          have hm : 0 < (chs x).length := List.length_pos_iff.2 HG1.out
          have HGot5 := Lib.hid (HGot4.out.then (Nat.le_trans hsz (Nat.le_trans hs3 hs4)) hb5)
          have hs5 : w.heap.size ≤ W5.heap.size := HGot5.out.2.2.size
          have HFl := Lib.hid (Ss.flat_len ecells_len (chs x))
          have HPre := Lib.hid hpre
          have hb63 : Hid (acc.length + (chs x).length ≤ maxLen) := by show _ ≤ _; unfold maxLen; omega
          have hbyy : Hid ((acc.length + (chs x).length) * 40 ≤ 140737488355328) := by show _ ≤ _; omega
          clear hown5 hb5 CC2 HGot3 HGot4 HRd3 hpre
          go_wp2_with (first
            | (at_builtin; refine wpList_append_own_at _ rfl _ _ 48 rfl w.heap.size 96 i0 (.agg #[.int .u8 0, .int .i64 0, .int .i64 0, .int .i64 0, .int .i64 0]) 5 40 Try.underlying48 hi hz0 hz1 hz2 rfl (by decide) _ _ _ rfl HGot5.out.2.1 ⟨g5, 0, none⟩ (chs x).length cap5 ((chs x).flatMap ecells) rfl HFl.out HNews.out (ones5 _) hb63.out hbyy.out hs5 ?_; intro v6 W6 hown6 hgrow6 hnil6 hloc6; have hg6 : Hid (GotT 96 w.heap.size L.length ((gs.take (k + 1)).flatMap chs) v6 w W6) := (by show GotT _ _ _ _ _ _ _; rw [HTk.out]; exact HGot5.out.apps hs5 hown6 hgrow6 HPre.out); clear hown6 hgrow6 hnil6 hloc6))
          go_roundw
          case rel => exact ⟨k + 1, _, by omega, rfl, by go_num, hg6⟩
          case measure => simp [intOf]; omega
    · obtain rfl : k = gs.length := by omega
      have hg2 := hgot.out
      rw [List.take_length, HCh.out] at hg2
      have CC := Lib.hid (changes_any L _ wr (H.out.below hg2.2.2) hLl)
      have hsz : w.heap.size ≤ wr.heap.size := hg2.2.2.size
      have HG2 := Lib.hid hg2
      obtain ⟨au, cu, rfl⟩ := row_slice hg2.2.1
      clear hg2 hgot
      go_wp2_with fail
      refine CC.out.mono ?_
      rintro e W3 ⟨v3, rfl, hown3, hb3⟩
      have hg3 := HG2.out.then hsz hb3
      have CS := Lib.hid (sameEdits_any (chs L) _ v3 W3 (Ss.Of.own ecells_len hg3.2.1) (Ss.Of.own ecells_len hown3))
      have HG3 := Lib.hid hg3.2.2
      clear hown3 hb3 hg3
      go_wp2_with fail
      refine CS.out.mono ?_
      rintro e W4 ⟨rfl, m, rfl⟩
      have hfin := below_drewN HG3.out m
      go_wp2_with fail
      go_ret
      exact ⟨rfl, hfin⟩

end Go.Proofs.Ytkmfedmiaannfaa.Df
