/- Differences of two lists: the thin package's Blocks. -/
import Derived.Test.YtkmfedmiaannfaaDfb
set_option linter.unusedVariables false
set_option linter.unusedSimpArgs false
namespace Go.Proofs.Ytkmfedmiaannfaa.Df
open Go.RowKit Go.Maps Go.WideMaps Go.ChangeShapes

/-- an edit: its tag, and its four bounds -/
abbrev E5 := Nat × Nat × Nat × Nat × Nat
def ecells (e : E5) : List Value := [.int .u8 e.1, .int .i64 e.2.1, .int .i64 e.2.2.1, .int .i64 e.2.2.2.1, .int .i64 e.2.2.2.2]
theorem ecells_len (e : E5) : (ecells e).length = 5 := rfl
def blk (m : M3) : E5 := (0, m.1, m.1 + m.2.2, m.2.1, m.2.1 + m.2.2)
theorem infoE : (Try.prog.info? 44).map (fun i => (i.zero, i.size, i.bytes)) = some (some (.agg #[.int .u8 0, .int .i64 0, .int .i64 0, .int .i64 0, .int .i64 0]), 5, 40) := by kernel_rfl

/-- the edits so far: a row of our own -/
def GotE (B n : Nat) (acc : List E5) (u : Value) (w w' : World) : Prop :=
  acc.length ≤ n ∧ w'.ownsRow B 44 5 u acc.length (acc.flatMap ecells) ∧ Below B w w'
theorem GotE.alloc {B n : Nat} {acc : List E5} {u : Value} {w w' : World} (h : GotE B n acc u w w') (hs : B ≤ w'.heap.size) (o : Obj) : GotE B n acc u w (w'.alloc o) :=
  ⟨h.1, h.2.1.alloc _, h.2.2.alloc hs _⟩
theorem GotE.drew {B n : Nat} {acc : List E5} {u : Value} {w w' : World} (h : GotE B n acc u w w') (k : Nat) : GotE B n acc u w (w'.drewN k) :=
  ⟨h.1, h.2.1.kept (only_below (below_drewN (Below.refl _ _) k) none) (by cases u.ownBlock <;> simp), below_drewN h.2.2 k⟩
theorem GotE.app {B n : Nat} {acc : List E5} {u v : Value} {m : E5} {w w' wy : World} {o : Obj} (h : GotE B n acc u w w') (hs : B ≤ w'.heap.size) (ho : wy.ownsRow B 44 5 v (acc.length + 1) (acc.flatMap ecells ++ ecells m)) (hg : (w'.alloc o).grownBy wy u.ownBlock) : GotE B (n + 1) (acc ++ [m]) v w wy := by
  refine ⟨by have := h.1; simp; omega, ?_, (h.2.2.alloc hs o).grown hg (by simp; omega) (fun j hj => (h.2.1.lt j hj).1)⟩
  rw [List.length_append, List.flatMap_append]
  simpa using ho

theorem chain_mem {xs ys : List ByteArray} {I J : Nat} : ∀ {L : List M3} {i j : Nat}, Chain xs ys i j I J L → ∀ m ∈ L, m.1 + m.2.2 ≤ I ∧ m.2.1 + m.2.2 ≤ J
  | [], _, _, _, m, hm => absurd hm (by simp)
  | b :: r, i, j, h, m, hm => by
    obtain ⟨h1, h2, h3, h4, h5⟩ := h
    rcases List.mem_cons.1 hm with rfl | hm
    · exact chain_le h5
    · exact chain_mem h5 m hm
theorem blocks_mem {xs ys : List ByteArray} : ∀ m ∈ blocks xs ys, m.1 + m.2.2 ≤ xs.length ∧ m.2.1 + m.2.2 ≤ ys.length := by
  intro m hm
  unfold blocks at hm
  rcases List.mem_append.1 hm with hm | hm
  · exact chain_mem blocks_chain m hm
  · rw [List.mem_singleton.1 hm]
    exact ⟨Nat.le_refl _, Nat.le_refl _⟩
theorem blocks_len {xs ys : List ByteArray} : (blocks xs ys).length ≤ xs.length + 1 := by
  unfold blocks
  have := chain_len (blocks_chain (xs := xs) (ys := ys))
  rw [List.length_append, List.length_singleton]
  omega

def ImplOut (L : List E5) (w : World) (e : Ending) (w' : World) : Prop :=
  ∃ v, e = .returned v ∧ Ss.Of 5 ecells w' v L ∧ Below w.heap.size w w'

set_option maxHeartbeats 16000000 in
set_option maxRecDepth 100000 in
theorem implBlocks_any (xs ys : List ByteArray) (va vb : Value) (w : World) (hv : Sl.Of Value.string w va xs) (hv1 : Sl.Of Value.string w vb ys) (hx : xs.length ≤ 2147483647) (hy : ys.length ≤ 2147483647) (hsx : ∀ s ∈ xs, s.size ≤ 2147483647) (hsy : ∀ s ∈ ys, s.size ≤ 2147483647) :
    Calls Try.prog 18 #[va, vb] w (ImplOut ((blocks xs ys).map blk) w) := by
  obtain ⟨i0, hi, hz0, hz1, hz2⟩ := info_parts infoE
  have CN := new_any xs ys va vb w hv hv1 hy hsy
  have CM := fun (w1 : World) (hm : Mat w1 w.heap.size xs ys (.slice none 0 0) (.map none) (.slice none 0 0)) => blocks_any xs ys w.heap.size _ _ w1 hm hx hy hsx hsy
  have HCN := Lib.hid CN
  have HCM := Lib.hid CM
  have hbm := blocks_mem (xs := xs) (ys := ys)
  have hbl := blocks_len (xs := xs) (ys := ys)
  obtain ⟨T, hT⟩ : ∃ T, blocks xs ys = T := ⟨_, rfl⟩
  rw [hT] at hbm hbl ⊢
  have HT := Lib.hid hT
  have HBm := Lib.hid hbm
  clear CN CM hv hv1 hsx hsy hT hbm
  go_enter Try.func18, Try.ntmps18
  go_wp2_with fail
  refine HCN.out.mono ?_
  rintro e W1 ⟨rfl, hm1, hb1⟩
  have CM := HCM.out W1 hm1
  have HCM1 := Lib.hid CM
  have HB1 := Lib.hid hb1
  clear CM hm1 hb1
  go_wp2_with fail
  refine HCM1.out.mono ?_
  rintro e W2 ⟨v, rfl, hm2, hg2, hof, hfar⟩
  rw [HT.out] at hof
  obtain ⟨av, cv, rfl, _, _⟩ := hof.slice
  have hb2 : Below w.heap.size w W2 := HB1.out.grown hg2 HB1.out.size (fun j hj => by cases hj; exact Nat.le_refl _)
  have HOf := Lib.hid hof
  have HB2 := Lib.hid hb2
  have HG0 : Hid (GotE W2.heap.size 0 [] (.slice none 0 0) W2 W2) := ⟨Nat.le_refl _, World.ownsRow_nil _ _ _ _, Below.refl _ _⟩
  clear hm2 hg2 hof hfar hb2
  go_wp2_with fail
  go_loopw [5, 13] (fun vu vn wr => ∃ (n : Nat) (u : Value), n ≤ T.length ∧ u = vu ∧ vn = .int .i64 (n : Int) ∧ Hid (GotE W2.heap.size n ((T.take n).map blk) u W2 wr)) (fun _ n _ => T.length - (intOf n).toNat)
  case atStart =>
    exact ⟨0, _, Nat.zero_le _, rfl, rfl, HG0.out⟩
  case round =>
    obtain ⟨n, u, hn, rfl, rfl, hgot⟩ := hrel
    by_cases hlt : n < T.length
    · obtain ⟨i2, j2, k2, hb⟩ : ∃ i2 j2 k2, T[n] = (i2, j2, k2) := ⟨_, _, _, rfl⟩
      obtain ⟨q1, q2⟩ := HBm.out T[n] (List.getElem_mem hlt)
      rw [hb] at q1 q2
      simp only at q1 q2
      have htk : (T.take (n + 1)).map blk = (T.take n).map blk ++ [blk (i2, j2, k2)] := by
        rw [← hb, List.take_succ_eq_append_getElem hlt, List.map_append]
        rfl
      obtain ⟨acc, hacc⟩ : ∃ acc, (T.take n).map blk = acc := ⟨_, rfl⟩
      rw [hacc] at hgot htk
      obtain ⟨bq, oq, hav, hbq, d0, d1, d2⟩ : ∃ b off, av = some ⟨b, off, none⟩ ∧ b < W2.heap.size ∧ W2.cell? ⟨b, off + n * 3, none⟩ = some (.int .i64 i2) ∧ W2.cell? ⟨b, off + n * 3 + 1, none⟩ = some (.int .i64 j2) ∧ W2.cell? ⟨b, off + n * 3 + 2, none⟩ = some (.int .i64 k2) := by
        rcases HOf.out with ⟨h, _⟩ | ⟨b, off, cap, h, h0, hcap, hm, hbb, hcell⟩
        · rw [h] at hlt; simp at hlt
        · injection h with h1 h2 h3
          exact ⟨b, off, h1, hbb, hcell n hlt 0 _ (by rw [hb]; rfl), by rw [Nat.add_assoc]; exact hcell n hlt 1 _ (by rw [hb]; rfl), by rw [Nat.add_assoc]; exact hcell n hlt 2 _ (by rw [hb]; rfl)⟩
      subst hav
      have hbw := hgot.out.2.2
      have c0 : wr.cell? ⟨bq, oq + n * 3, none⟩ = some (.int .i64 i2) := by rw [hbw.cell (p := ⟨bq, oq + n * 3, none⟩) hbq]; exact d0
      have c1 : wr.cell? ⟨bq, oq + n * 3 + 1, none⟩ = some (.int .i64 j2) := by rw [hbw.cell (p := ⟨bq, oq + n * 3 + 1, none⟩) hbq]; exact d1
      have c2 : wr.cell? ⟨bq, oq + n * 3 + 2, none⟩ = some (.int .i64 k2) := by rw [hbw.cell (p := ⟨bq, oq + n * 3 + 2, none⟩) hbq]; exact d2
      have hsz : W2.heap.size ≤ wr.heap.size := hbw.size
      have z1 : (0 : Int) ≤ (n : Int) := by omega
      have z2 : (n : Int) < (T.length : Int) := by omega
      have hg2 : Hid (GotE W2.heap.size n acc u W2 (wr.alloc (.cells #[.int .i64 i2, .int .i64 j2, .int .i64 k2] 94))) := hgot.out.alloc hsz _
      have HTk := Lib.hid htk
      have hal := hgot.out.1
      have hec : ecells (blk (i2, j2, k2)) = [.int .u8 0, .int .i64 i2, .int .i64 ((i2 : Int) + (k2 : Int)), .int .i64 j2, .int .i64 ((j2 : Int) + (k2 : Int))] := by
        unfold ecells blk
        simp
      have HEc := Lib.hid hec
      have HNews := Lib.hid (Ss.news_one (wr.alloc (.cells #[.int .i64 i2, .int .i64 j2, .int .i64 k2] 94)) #[.int .u8 0, .int .i64 i2, .int .i64 ((i2 : Int) + (k2 : Int)), .int .i64 j2, .int .i64 ((j2 : Int) + (k2 : Int))] 44)
      have HOne : Hid (∀ u ∈ [Value.int .u8 0, .int .i64 (i2 : Int), .int .i64 ((i2 : Int) + (k2 : Int)), .int .i64 (j2 : Int), .int .i64 ((j2 : Int) + (k2 : Int))], u.oneCell' = true) := by
        show ∀ u ∈ _, _
        intro u hu; simp at hu; rcases hu with rfl | rfl | rfl | rfl | rfl <;> rfl
      obtain ⟨au, cu, rfl⟩ := row_slice hgot.out.2.1
      have hsa : W2.heap.size ≤ (wr.alloc (.cells #[.int .i64 i2, .int .i64 j2, .int .i64 k2] 94)).heap.size := hg2.out.2.2.size
      clear d0 d1 d2 hbw hb htk hgot hec hacc
      go_wp2_with (first
        | (at_builtin; refine wpList_append_own_at _ rfl _ _ 41 rfl W2.heap.size 44 i0 (.agg #[.int .u8 0, .int .i64 0, .int .i64 0, .int .i64 0, .int .i64 0]) 5 40 Try.underlying41 hi hz0 hz1 hz2 rfl (by decide) _ _ _ rfl (hg2.out.2.1.alloc _) ⟨wr.heap.size + 1, 0, none⟩ 1 1 [.int .u8 0, .int .i64 i2, .int .i64 ((i2 : Int) + (k2 : Int)), .int .i64 j2, .int .i64 ((j2 : Int) + (k2 : Int))] rfl rfl (by simpa using HNews.out) HOne.out (by unfold maxLen; omega) (by omega) (by simp; omega) ?_; intro v2 W4 hown2 hgrow2 hnil2 hloc2; have hg3 : Hid (GotE W2.heap.size (n + 1) ((T.take (n + 1)).map blk) v2 W2 W4) := (by show GotE _ _ _ _ _ _; rw [HTk.out]; exact hg2.out.app hsa (by rw [HEc.out]; exact hown2) hgrow2); clear hown2 hgrow2 hnil2 hloc2))
      go_roundw
      case rel => exact ⟨n + 1, _, by omega, rfl, by go_num, hg3⟩
      case measure => simp [intOf]; omega
    · obtain rfl : n = T.length := by omega
      have hg2 := hgot.out
      rw [List.take_length] at hg2
      have hfin : Hid (ImplOut (T.map blk) w (.returned u) wr) := ⟨u, rfl, Ss.Of.own ecells_len hg2.2.1, HB2.out.trans (hg2.2.2.mono HB2.out.size)⟩
      clear hg2 hgot
      go_wp2_with fail
      go_ret
      exact hfin.out

end Go.Proofs.Ytkmfedmiaannfaa.Df
