/- Differences of two lists: the thin package's edits and Edits. -/
import Derived.Test.YtkmfedmiaannfaaDoorDfo
set_option linter.unusedVariables false
set_option linter.unusedSimpArgs false
namespace Go.Proofs.YtkmfedmiaannfaaDoor.Df
open Go.RowKit Go.Maps Go.WideMaps Go.ChangeShapes

set_option maxHeartbeats 16000000 in
set_option maxRecDepth 100000 in
theorem edits_any (T : List E5) (v : Value) (W2 : World) (hof : Ss.Of 5 ecells W2 v T) (hTl : T.length ≤ 4294967296) :
    Calls Tryd.prog 14 #[v] W2 (ImplOut T W2) := by
  obtain ⟨i0, hi, hz0, hz1, hz2⟩ := info_parts infoE
  obtain ⟨av, cv, rfl, _, _⟩ := hof.slice
  have HOf := Lib.hid hof
  have HG0 : Hid (GotE W2.heap.size 0 [] (.slice none 0 0) W2 W2) := ⟨Nat.le_refl _, World.ownsRow_nil _ _ _ _, Below.refl _ _⟩
  clear hof
  go_enter Tryd.func14, Tryd.ntmps14
  go_wp2_with fail
  go_loopw [3, 8] (fun vu vn wr => ∃ (n : Nat) (u : Value), n ≤ T.length ∧ u = vu ∧ vn = .int .i64 (n : Int) ∧ Hid (GotE W2.heap.size n (T.take n) u W2 wr)) (fun _ n _ => T.length - (intOf n).toNat)
  case atStart =>
    exact ⟨0, _, Nat.zero_le _, rfl, rfl, HG0.out⟩
  case round =>
    obtain ⟨n, u, hn, rfl, rfl, hgot⟩ := hrel
    by_cases hlt : n < T.length
    · obtain ⟨t, i1, i2, j1, j2, hb⟩ : ∃ t i1 i2 j1 j2, T[n] = (t, i1, i2, j1, j2) := ⟨_, _, _, _, _, rfl⟩
      have htk : T.take (n + 1) = T.take n ++ [(t, i1, i2, j1, j2)] := by
        rw [← hb, List.take_succ_eq_append_getElem hlt]
      obtain ⟨acc, hacc⟩ : ∃ acc, T.take n = acc := ⟨_, rfl⟩
      rw [hacc] at hgot htk
      obtain ⟨bq, oq, hav, hbq, d0, d1, d2, d3, d4⟩ : ∃ b off, av = some ⟨b, off, none⟩ ∧ b < W2.heap.size ∧ W2.cell? ⟨b, off + n * 5, none⟩ = some (.int .u8 t) ∧ W2.cell? ⟨b, off + n * 5 + 1, none⟩ = some (.int .i64 i1) ∧ W2.cell? ⟨b, off + n * 5 + 2, none⟩ = some (.int .i64 i2) ∧ W2.cell? ⟨b, off + n * 5 + 3, none⟩ = some (.int .i64 j1) ∧ W2.cell? ⟨b, off + n * 5 + 4, none⟩ = some (.int .i64 j2) := by
        rcases HOf.out with ⟨h, _⟩ | ⟨b, off, cap, h, h0, hcap, hm, hbb, hcell⟩
        · rw [h] at hlt; simp at hlt
        · injection h with h1 h2 h3
          exact ⟨b, off, h1, hbb, hcell n hlt 0 _ (by rw [hb]; rfl), by rw [Nat.add_assoc]; exact hcell n hlt 1 _ (by rw [hb]; rfl), by rw [Nat.add_assoc]; exact hcell n hlt 2 _ (by rw [hb]; rfl), by rw [Nat.add_assoc]; exact hcell n hlt 3 _ (by rw [hb]; rfl), by rw [Nat.add_assoc]; exact hcell n hlt 4 _ (by rw [hb]; rfl)⟩
      subst hav
      have hbw := hgot.out.2.2
      have c0 : wr.cell? ⟨bq, oq + n * 5, none⟩ = some (.int .u8 t) := by rw [hbw.cell (p := ⟨bq, oq + n * 5, none⟩) hbq]; exact d0
      have c1 : wr.cell? ⟨bq, oq + n * 5 + 1, none⟩ = some (.int .i64 i1) := by rw [hbw.cell (p := ⟨bq, oq + n * 5 + 1, none⟩) hbq]; exact d1
      have c2 : wr.cell? ⟨bq, oq + n * 5 + 2, none⟩ = some (.int .i64 i2) := by rw [hbw.cell (p := ⟨bq, oq + n * 5 + 2, none⟩) hbq]; exact d2
      have c3 : wr.cell? ⟨bq, oq + n * 5 + 3, none⟩ = some (.int .i64 j1) := by rw [hbw.cell (p := ⟨bq, oq + n * 5 + 3, none⟩) hbq]; exact d3
      have c4 : wr.cell? ⟨bq, oq + n * 5 + 4, none⟩ = some (.int .i64 j2) := by rw [hbw.cell (p := ⟨bq, oq + n * 5 + 4, none⟩) hbq]; exact d4
      have hsz : W2.heap.size ≤ wr.heap.size := hbw.size
      have z1 : (0 : Int) ≤ (n : Int) := by omega
      have z2 : (n : Int) < (T.length : Int) := by omega
      have hg2 : Hid (GotE W2.heap.size n acc u W2 (wr.alloc (.cells #[.int .u8 t, .int .i64 i1, .int .i64 i2, .int .i64 j1, .int .i64 j2] 64))) := hgot.out.alloc hsz _
      have HTk := Lib.hid htk
      have hal := hgot.out.1
      have HNews := Lib.hid (Ss.news_one (wr.alloc (.cells #[.int .u8 t, .int .i64 i1, .int .i64 i2, .int .i64 j1, .int .i64 j2] 64)) #[.int .u8 t, .int .i64 i1, .int .i64 i2, .int .i64 j1, .int .i64 j2] 48)
      obtain ⟨au, cu, rfl⟩ := row_slice hgot.out.2.1
      have hsa : W2.heap.size ≤ (wr.alloc (.cells #[.int .u8 t, .int .i64 i1, .int .i64 i2, .int .i64 j1, .int .i64 j2] 64)).heap.size := hg2.out.2.2.size
      clear d0 d1 d2 d3 d4 hbw hb htk hgot hacc
      go_wp2_with (first
        | (at_builtin; refine wpList_append_own_at _ rfl _ _ 38 rfl W2.heap.size 48 i0 (.agg #[.int .u8 0, .int .i64 0, .int .i64 0, .int .i64 0, .int .i64 0]) 5 40 Tryd.underlying38 hi hz0 hz1 hz2 rfl (by decide) _ _ _ rfl (hg2.out.2.1.alloc _) ⟨wr.heap.size + 1, 0, none⟩ 1 1 [.int .u8 t, .int .i64 i1, .int .i64 i2, .int .i64 j1, .int .i64 j2] rfl rfl (by simpa using HNews.out) (one5 _ _ _ _ _) (by unfold maxLen; omega) (by omega) (by simp; omega) ?_; intro v2 W4 hown2 hgrow2 hnil2 hloc2; have hg3 : Hid (GotE W2.heap.size (n + 1) (T.take (n + 1)) v2 W2 W4) := (by show GotE _ _ _ _ _ _; rw [HTk.out]; exact hg2.out.app hsa hown2 hgrow2); clear hown2 hgrow2 hnil2 hloc2))
      go_roundw
      case rel => exact ⟨n + 1, _, by omega, rfl, by go_num, hg3⟩
      case measure => simp [intOf]; omega
    · obtain rfl : n = T.length := by omega
      have hg2 := hgot.out
      rw [List.take_length] at hg2
      have hfin : Hid (ImplOut T W2 (.returned u) wr) := ⟨u, rfl, Ss.Of.own ecells_len hg2.2.1, hg2.2.2⟩
      clear hg2 hgot
      go_wp2_with fail
      go_ret
      exact hfin.out

theorem ops_len (xs ys : List ByteArray) : (ops xs ys).length ≤ 2 * (xs.length + 1) := by
  have := opc_len (blocks xs ys) 0 0
  have := blocks_len (xs := xs) (ys := ys)
  unfold ops
  omega

set_option maxHeartbeats 4000000 in
set_option maxRecDepth 100000 in
theorem implEdits_any (xs ys : List ByteArray) (va vb : Value) (w : World) (hv : Sl.Of Value.string w va xs) (hv1 : Sl.Of Value.string w vb ys) (hx : xs.length ≤ 2147483647) (hy : ys.length ≤ 2147483647) (hsx : ∀ s ∈ xs, s.size ≤ 2147483647) (hsy : ∀ s ∈ ys, s.size ≤ 2147483647) :
    Calls Tryd.prog 16 #[va, vb] w (ImplOut (ops xs ys) w) := by
  have CN := new_any xs ys va vb w hv hv1 hy hsy
  have CM := fun (w1 : World) (hm : Mat w1 w.heap.size xs ys (.slice none 0 0) (.map none) (.slice none 0 0)) => ops_any xs ys w.heap.size _ w1 hm hx hy hsx hsy
  have HCN := Lib.hid CN
  have HCM := Lib.hid CM
  have hol := ops_len xs ys
  clear CN CM hv hv1 hsx hsy
  go_enter Tryd.func16, Tryd.ntmps16
  go_wp2_with fail
  refine HCN.out.mono ?_
  rintro e W1 ⟨rfl, hm1, hb1⟩
  have HCM1 := Lib.hid (HCM.out W1 hm1)
  have HB1 := Lib.hid hb1
  clear hm1 hb1
  go_wp2_with fail
  refine HCM1.out.mono ?_
  rintro e W2 ⟨v, mv, rfl, hm2, hg2, hown⟩
  have hb2 : Below w.heap.size w W2 := HB1.out.grown hg2 HB1.out.size (fun j hj => by cases hj; exact Nat.le_refl _)
  have HCE := Lib.hid (edits_any (ops xs ys) v W2 (Ss.Of.own ecells_len hown) (by omega))
  have HB2 := Lib.hid hb2
  clear hm2 hg2 hown hb2
  go_wp2_with fail
  refine HCE.out.mono ?_
  rintro e W3 ⟨v3, rfl, hof, hb3⟩
  have hfin : Hid (ImplOut (ops xs ys) w (.returned v3) W3) := ⟨v3, rfl, hof, HB2.out.trans (hb3.mono HB2.out.size)⟩
  clear hof hb3
  go_wp2_with fail
  go_ret
  exact hfin.out

end Go.Proofs.YtkmfedmiaannfaaDoor.Df
