/- Differences of two lists: the walk of GetOpCodes. -/
import Derived.Test.YtkmfedmiaannfaaDoorDfi
import Derived.Deep.Onto
set_option linter.unusedVariables false
set_option linter.unusedSimpArgs false
namespace Go.Proofs.YtkmfedmiaannfaaDoor.Df
open Go.RowKit Go.Maps Go.WideMaps Go.ChangeShapes

theorem infoO : (Tryd.prog.info? 64).map (fun i => (i.zero, i.size, i.bytes)) = some (some (.agg #[.int .u8 0, .int .i64 0, .int .i64 0, .int .i64 0, .int .i64 0]), 5, 40) := by kernel_rfl
/-- the change between (i, j) and a block, and the block -/
def chg (i j : Nat) (m : M3) : List E5 := if i < m.1 ∧ j < m.2.1 then [(114, i, m.1, j, m.2.1)] else if i < m.1 then [(100, i, m.1, j, m.2.1)] else if j < m.2.1 then [(105, i, m.1, j, m.2.1)] else []
def eqe (m : M3) : List E5 := if 0 < m.2.2 then [(101, m.1, m.1 + m.2.2, m.2.1, m.2.1 + m.2.2)] else []
def opc : List M3 → Nat → Nat → List E5
  | [], _, _ => []
  | m :: r, i, j => chg i j m ++ (eqe m ++ opc r (m.1 + m.2.2) (m.2.1 + m.2.2))
def ops (xs ys : List ByteArray) : List E5 := opc (blocks xs ys) 0 0
theorem chg_len (i j : Nat) (m : M3) : (chg i j m).length ≤ 1 := by
  unfold chg
  split
  · simp
  · split
    · simp
    · split <;> simp
theorem eqe_len (m : M3) : (eqe m).length ≤ 1 := by unfold eqe; split <;> simp
theorem opc_len : ∀ (L : List M3) (i j : Nat), (opc L i j).length ≤ 2 * L.length
  | [], _, _ => by simp [opc]
  | m :: r, i, j => by
    unfold opc
    have := opc_len r (m.1 + m.2.2) (m.2.1 + m.2.2)
    have := chg_len i j m
    have := eqe_len m
    simp only [List.length_append, List.length_cons]
    omega

/-- the steps so far: a row of our own -/
def GotO (B n : Nat) (acc : List E5) (u : Value) (w w' : World) : Prop :=
  acc.length ≤ n ∧ w'.ownsRow B 64 5 u acc.length (acc.flatMap ecells) ∧ Below B w w'
theorem GotO.alloc {B n : Nat} {acc : List E5} {u : Value} {w w' : World} (h : GotO B n acc u w w') (hs : B ≤ w'.heap.size) (o : Obj) : GotO B n acc u w (w'.alloc o) :=
  ⟨h.1, h.2.1.alloc _, h.2.2.alloc hs _⟩
theorem GotO.drew {B n : Nat} {acc : List E5} {u : Value} {w w' : World} (h : GotO B n acc u w w') (k : Nat) : GotO B n acc u w (w'.drewN k) :=
  ⟨h.1, h.2.1.kept (only_below (below_drewN (Below.refl _ _) k) none) (by cases u.ownBlock <;> simp), below_drewN h.2.2 k⟩
theorem GotO.app {B n : Nat} {acc : List E5} {u v : Value} {m : E5} {w w' wy : World} {o : Obj} (h : GotO B n acc u w w') (hs : B ≤ w'.heap.size) (ho : wy.ownsRow B 64 5 v (acc.length + 1) (acc.flatMap ecells ++ ecells m)) (hg : (w'.alloc o).grownBy wy u.ownBlock) : GotO B (n + 1) (acc ++ [m]) v w wy := by
  refine ⟨by have := h.1; simp; omega, ?_, (h.2.2.alloc hs o).grown hg (by simp; omega) (fun j hj => (h.2.1.lt j hj).1)⟩
  rw [List.length_append, List.flatMap_append]
  simpa using ho
theorem GotO.more {B n n' : Nat} {acc : List E5} {u : Value} {w w' : World} (h : GotO B n acc u w w') (hn : n ≤ n') : GotO B n' acc u w w' := ⟨by have := h.1; omega, h.2⟩

/-- the steps are there, in a row of their own, and the matcher keeps them -/
def OpsOut (xs ys : List ByteArray) (g : Nat) (fv : Value) (w : World) (e : Ending) (w' : World) : Prop :=
  ∃ v mv, e = .returned v ∧ Mat w' g xs ys mv fv v ∧ w.grownBy w' (some g) ∧ w'.ownsRow w.heap.size 64 5 v (ops xs ys).length ((ops xs ys).flatMap ecells)
theorem ops_fin {xs ys : List ByteArray} {g n : Nat} {mv fv ov v : Value} {L : List E5} {w W2 W5 : World} (hg2 : w.grownBy W2 (some g)) (hm : Mat W2 g xs ys mv fv ov) (hg : g < w.heap.size) (hL : ops xs ys = L) (h : GotO W2.heap.size n L v W2 W5) :
    OpsOut xs ys g fv w (.returned v) (W5.setCell ⟨g, 9, none⟩ v) := by
  have hs := hg2.size
  have ho := only_put (only_refl W5 (some g)) 9 v
  have hlt := h.2.1.lt
  refine ⟨v, mv, rfl, (hm.below h.2.2).put9 v, only_put (only_then hg2 h.2.2) 9 v, ?_⟩
  rw [hL]
  exact (World.ownsRow.kept (World.ownsRow.mono h.2.1 hs) ho (by
    cases hv : v.ownBlock with
    | none => simp
    | some j =>
      have := (hlt j hv).1
      simp
      omega))

theorem one5 (t a b c d : Int) : ∀ u ∈ [Value.int .u8 t, .int .i64 a, .int .i64 b, .int .i64 c, .int .i64 d], u.oneCell' = true := by
  intro u hu; simp at hu; rcases hu with rfl | rfl | rfl | rfl | rfl <;> rfl
theorem ecells_eqe (i j k : Nat) : ecells (101, i, i + k, j, j + k) = [.int .u8 101, .int .i64 i, .int .i64 ((i : Int) + (k : Int)), .int .i64 j, .int .i64 ((j : Int) + (k : Int))] := by
  unfold ecells
  simp

set_option maxHeartbeats 16000000 in
set_option maxRecDepth 100000 in
theorem ops_any (xs ys : List ByteArray) (g : Nat) (fv : Value) (w : World) (hm : Mat w g xs ys (.slice none 0 0) fv (.slice none 0 0)) (hx : xs.length ≤ 2147483647) (hy : ys.length ≤ 2147483647) (hsx : ∀ s ∈ xs, s.size ≤ 2147483647) (hsy : ∀ s ∈ ys, s.size ≤ 2147483647) :
    Calls Tryd.prog 21 #[.pointer (some ⟨g, 0, none⟩)] w (OpsOut xs ys g fv w) := by
  obtain ⟨i0, hi, hz0, hz1, hz2⟩ := info_parts infoO
  have hg : g < w.heap.size := by obtain ⟨_, _, _, _, _, h, _⟩ := hm; exact h.lt
  have CB := blocks_any xs ys g fv _ w hm hx hy hsx hsy
  obtain ⟨d9, _⟩ := hm.at9
  have hbm := blocks_mem (xs := xs) (ys := ys)
  have hbl := blocks_len (xs := xs) (ys := ys)
  have hN : opc (blocks xs ys) 0 0 = ops xs ys := rfl
  obtain ⟨N, hNN⟩ : ∃ N, ops xs ys = N := ⟨_, rfl⟩
  rw [hNN] at hN
  obtain ⟨T, hT⟩ : ∃ T, blocks xs ys = T := ⟨_, rfl⟩
  rw [hT] at hbm hbl hN
  have HCB := Lib.hid CB
  have HT := Lib.hid hT
  have HBm := Lib.hid hbm
  have HN := Lib.hid hN
  have HNN := Lib.hid hNN
  clear CB hsx hsy hT hbm hN hNN hm
  go_enter Tryd.func21, Tryd.ntmps21
  go_wp2_with fail
  refine HCB.out.mono ?_
  rintro e W2 ⟨v, rfl, hm2, hg2, hof, hfar⟩
  rw [HT.out] at hof
  obtain ⟨av, cv, rfl, _, _⟩ := hof.slice
  have hgW : g < W2.heap.size := by have := hg2.size; omega
  have HOf := Lib.hid hof
  have HG2 := Lib.hid hg2
  have HM2 := Lib.hid hm2
  clear hm2 hg2 hof hfar d9
  go_wp2_with (first
    | (at_make; refine wpList_make_own _ rfl _ _ 37 rfl W2.heap.size 64 i0 (.agg #[.int .u8 0, .int .i64 0, .int .i64 0, .int .i64 0, .int .i64 0]) 5 Tryd.underlying37 hi hz0 hz1 _ _ _ T.length rfl rfl rfl (by rw [hz2]; omega) (by unfold maxLen; omega) (Nat.le_refl _) ?_; intro wm hownm hgrowm; have HG0 : Hid (GotO W2.heap.size 0 [] (.slice (some ⟨W2.heap.size, 0, none⟩) 0 T.length) W2 wm) := ⟨Nat.le_refl _, hownm, (Below.refl _ _).grown hgrowm (Nat.le_refl _) (fun j hj => by cases hj)⟩; clear hownm hgrowm))
  go_loopw [3, 4, 6, 29] (fun vi vj vu vn wr => ∃ (n i1 j1 : Nat) (acc : List E5) (u : Value), n ≤ T.length ∧ u = vu ∧ vi = .int .i64 (i1 : Int) ∧ vj = .int .i64 (j1 : Int) ∧ vn = .int .i64 (n : Int) ∧ Hid (acc ++ opc (T.drop n) i1 j1 = N) ∧ Hid (GotO W2.heap.size (2 * n) acc u W2 wr)) (fun _ _ _ n _ => T.length - (intOf n).toNat)
  case atStart =>
    refine ⟨0, 0, 0, [], _, Nat.zero_le _, rfl, rfl, rfl, rfl, ?_, HG0.out⟩
    show _ = _
    rw [List.nil_append, List.drop_zero]; exact HN.out
  case round =>
    obtain ⟨n, i1, j1, acc, u, hn, rfl, rfl, rfl, rfl, hN, hgot⟩ := hrel
    by_cases hlt : n < T.length
    · obtain ⟨i2, j2, k2, hb⟩ : ∃ i2 j2 k2, T[n] = (i2, j2, k2) := ⟨_, _, _, rfl⟩
      obtain ⟨q1, q2⟩ := HBm.out T[n] (List.getElem_mem hlt)
      rw [hb] at q1 q2
      simp only at q1 q2
      have hdr : T.drop n = (i2, j2, k2) :: T.drop (n + 1) := by rw [← hb]; exact List.drop_eq_getElem_cons hlt
      obtain ⟨bq, oq, hav, hbq, d0, d1, d2⟩ : ∃ b off, av = some ⟨b, off, none⟩ ∧ b < W2.heap.size ∧ W2.cell? ⟨b, off + n * 3, none⟩ = some (.int .i64 i2) ∧ W2.cell? ⟨b, off + n * 3 + 1, none⟩ = some (.int .i64 j2) ∧ W2.cell? ⟨b, off + n * 3 + 2, none⟩ = some (.int .i64 k2) := by
        rcases HOf.out with ⟨h, _⟩ | ⟨b, off, cap, h, h0, hcap, hm, hbb, hcell⟩
        · rw [h] at hlt; simp at hlt
        · injection h with h1 h2 h3
          exact ⟨b, off, h1, hbb, hcell n hlt 0 _ (by rw [hb]; rfl), by rw [Nat.add_assoc]; exact hcell n hlt 1 _ (by rw [hb]; rfl), by rw [Nat.add_assoc]; exact hcell n hlt 2 _ (by rw [hb]; rfl)⟩
      subst hav
      have hbw := hgot.out.2.2
      have c0 : wr.cell? ⟨bq, oq + n * 3, none⟩ = some (.int .i64 i2) := by rw [hbw.cell (p := ⟨bq, oq + n * 3, none⟩) hbq]; exact d0
      have c1 : wr.cell? ⟨bq, oq + n * 3 + 1, none⟩ = some (.int .i64 j2) := by rw [hbw.cell (p := ⟨bq, oq + n * 3 + 1, none⟩) hbq]; exact d1
      have c2 : wr.cell? ⟨bq, oq + n * 3 + 2, none⟩ = some (.int .i64 k2) := by rw [hbw.cell (p := ⟨bq, oq + n * 3 + 2, none⟩) hbq]; exact d2
      have hsz : W2.heap.size ≤ wr.heap.size := hbw.size
      have z1 : (0 : Int) ≤ (n : Int) := by omega
      have z2 : (n : Int) < (T.length : Int) := by omega
      have hN1 : Hid (acc ++ (chg i1 j1 (i2, j2, k2) ++ (eqe (i2, j2, k2) ++ opc (T.drop (n + 1)) (i2 + k2) (j2 + k2))) = N) := by
        show _ = _
        rw [← hN.out, hdr]
        rfl
      clear d0 d1 d2 hbw hdr hb hN
      rcases (show ((i1 < i2 ∧ j1 < j2) ∨ (i1 < i2 ∧ j2 ≤ j1) ∨ (i2 ≤ i1 ∧ j1 < j2) ∨ (i2 ≤ i1 ∧ j2 ≤ j1)) by omega) with ⟨e1, e2⟩ | ⟨e1, e2⟩ | ⟨e1, e2⟩ | ⟨e1, e2⟩
      · rcases Nat.eq_zero_or_pos k2 with e3 | e3
        · have s1 : (i1 : Int) < (i2 : Int) := by omega
          have s2 : (j1 : Int) < (j2 : Int) := by omega
          have s3 : (k2 : Int) ≤ 0 := by omega
          have hcg : chg i1 j1 (i2, j2, k2) = [(114, i1, i2, j1, j2)] := by unfold chg; simp only; rw [if_pos (show i1 < i2 ∧ j1 < j2 by omega)]
          have hce : eqe (i2, j2, k2) = [] := by unfold eqe; simp only; rw [if_neg (show ¬ 0 < k2 by omega)]
          have hN2 : Hid ((acc ++ [(114, i1, i2, j1, j2)]) ++ opc (T.drop (n + 1)) (i2 + k2) (j2 + k2) = N) := by
            show _ = _
            rw [← hN1.out, hcg, hce]
            simp only [List.append_assoc, List.cons_append, List.nil_append]
          clear hN1 hcg hce e3
          go_wp2_with fail
          go_quiet (fail)
          have hg2 : Hid (GotO W2.heap.size (2 * n) acc u W2 ((wr.alloc (.cells #[.int .i64 i2, .int .i64 j2, .int .i64 k2] 59)).drewN nq)) := (hgot.out.alloc hsz (.cells #[.int .i64 i2, .int .i64 j2, .int .i64 k2] 59)).drew nq
          obtain ⟨Wa, hWa⟩ : ∃ Wa, (wr.alloc (.cells #[.int .i64 i2, .int .i64 j2, .int .i64 k2] 59)).drewN nq = Wa := ⟨_, rfl⟩
          rw [hWa] at hg2 ⊢
          have hsa : W2.heap.size ≤ Wa.heap.size := hg2.out.2.2.size
          have hal := hg2.out.1
          clear hWa hgot c0 c1 c2
          obtain ⟨au, cu, rfl⟩ := row_slice hg2.out.2.1
          go_wp2_with (first
            | (at_builtin; refine wpList_append_own_at _ rfl _ _ 37 rfl W2.heap.size 64 i0 (.agg #[.int .u8 0, .int .i64 0, .int .i64 0, .int .i64 0, .int .i64 0]) 5 40 Tryd.underlying37 hi hz0 hz1 hz2 rfl (by decide) _ _ _ rfl (hg2.out.2.1.alloc _) ⟨Wa.heap.size, 0, none⟩ 1 1 [.int .u8 114, .int .i64 i1, .int .i64 i2, .int .i64 j1, .int .i64 j2] rfl rfl (Ss.news_one Wa #[.int .u8 114, .int .i64 i1, .int .i64 i2, .int .i64 j1, .int .i64 j2] 64) (one5 _ _ _ _ _) (by unfold maxLen; omega) (by omega) (by simp; omega) ?_; intro v3 W3 hown3 hgrow3 hnil3 hloc3; have hg3 : Hid (GotO W2.heap.size (2 * n + 1) (acc ++ [(114, i1, i2, j1, j2)]) v3 W2 W3) := hg2.out.app hsa hown3 hgrow3; have hs3 : W2.heap.size ≤ W3.heap.size := hg3.out.2.2.size; have hal3 := hg3.out.1; clear hown3 hgrow3 hnil3 hloc3))
          go_roundw
          case rel => exact ⟨n + 1, i2 + k2, j2 + k2, _, _, by omega, rfl, by go_num, by go_num, by go_num, hN2, hg3.out.more (by omega)⟩
          case measure => simp [intOf]; omega
        · have s1 : (i1 : Int) < (i2 : Int) := by omega
          have s2 : (j1 : Int) < (j2 : Int) := by omega
          have s3 : (0 : Int) < (k2 : Int) := by omega
          have hcg : chg i1 j1 (i2, j2, k2) = [(114, i1, i2, j1, j2)] := by unfold chg; simp only; rw [if_pos (show i1 < i2 ∧ j1 < j2 by omega)]
          have hce : eqe (i2, j2, k2) = [(101, i2, i2 + k2, j2, j2 + k2)] := by unfold eqe; simp only; rw [if_pos (show 0 < k2 by omega)]
          have hN2 : Hid (((acc ++ [(114, i1, i2, j1, j2)]) ++ [(101, i2, i2 + k2, j2, j2 + k2)]) ++ opc (T.drop (n + 1)) (i2 + k2) (j2 + k2) = N) := by
            show _ = _
            rw [← hN1.out, hcg, hce]
            simp only [List.append_assoc, List.cons_append, List.nil_append]
          clear hN1 hcg hce e3
          go_wp2_with fail
          go_quiet (fail)
          have hg2 : Hid (GotO W2.heap.size (2 * n) acc u W2 ((wr.alloc (.cells #[.int .i64 i2, .int .i64 j2, .int .i64 k2] 59)).drewN nq)) := (hgot.out.alloc hsz (.cells #[.int .i64 i2, .int .i64 j2, .int .i64 k2] 59)).drew nq
          obtain ⟨Wa, hWa⟩ : ∃ Wa, (wr.alloc (.cells #[.int .i64 i2, .int .i64 j2, .int .i64 k2] 59)).drewN nq = Wa := ⟨_, rfl⟩
          rw [hWa] at hg2 ⊢
          have hsa : W2.heap.size ≤ Wa.heap.size := hg2.out.2.2.size
          have hal := hg2.out.1
          clear hWa hgot c0 c1 c2
          obtain ⟨au, cu, rfl⟩ := row_slice hg2.out.2.1
          go_wp2_with (first
            | (at_builtin; refine wpList_append_own_at _ rfl _ _ 37 rfl W2.heap.size 64 i0 (.agg #[.int .u8 0, .int .i64 0, .int .i64 0, .int .i64 0, .int .i64 0]) 5 40 Tryd.underlying37 hi hz0 hz1 hz2 rfl (by decide) _ _ _ rfl (hg2.out.2.1.alloc _) ⟨Wa.heap.size, 0, none⟩ 1 1 [.int .u8 114, .int .i64 i1, .int .i64 i2, .int .i64 j1, .int .i64 j2] rfl rfl (Ss.news_one Wa #[.int .u8 114, .int .i64 i1, .int .i64 i2, .int .i64 j1, .int .i64 j2] 64) (one5 _ _ _ _ _) (by unfold maxLen; omega) (by omega) (by simp; omega) ?_; intro v3 W3 hown3 hgrow3 hnil3 hloc3; have hg3 : Hid (GotO W2.heap.size (2 * n + 1) (acc ++ [(114, i1, i2, j1, j2)]) v3 W2 W3) := hg2.out.app hsa hown3 hgrow3; have hs3 : W2.heap.size ≤ W3.heap.size := hg3.out.2.2.size; have hal3 := hg3.out.1; obtain ⟨au3, cu3, rfl⟩ := row_slice hown3; clear hown3 hgrow3 hnil3 hloc3)
            | (at_builtin; refine wpList_append_own_at _ rfl _ _ 37 rfl W2.heap.size 64 i0 (.agg #[.int .u8 0, .int .i64 0, .int .i64 0, .int .i64 0, .int .i64 0]) 5 40 Tryd.underlying37 hi hz0 hz1 hz2 rfl (by decide) _ _ _ rfl (hg3.out.2.1.alloc _) ⟨W3.heap.size, 0, none⟩ 1 1 [.int .u8 101, .int .i64 i2, .int .i64 ((i2 : Int) + (k2 : Int)), .int .i64 j2, .int .i64 ((j2 : Int) + (k2 : Int))] rfl rfl (Ss.news_one W3 #[.int .u8 101, .int .i64 i2, .int .i64 ((i2 : Int) + (k2 : Int)), .int .i64 j2, .int .i64 ((j2 : Int) + (k2 : Int))] 64) (one5 _ _ _ _ _) (by unfold maxLen; omega) (by omega) (by simp; omega) ?_; intro v4 W4 hown4 hgrow4 hnil4 hloc4; have hg4 : Hid (GotO W2.heap.size (2 * n + 1 + 1) ((acc ++ [(114, i1, i2, j1, j2)]) ++ [(101, i2, i2 + k2, j2, j2 + k2)]) v4 W2 W4) := hg3.out.app hs3 (by rw [ecells_eqe]; exact hown4) hgrow4; have hs4 : W2.heap.size ≤ W4.heap.size := hg4.out.2.2.size; have hal4 := hg4.out.1; clear hown4 hgrow4 hnil4 hloc4))
          go_roundw
          case rel => exact ⟨n + 1, i2 + k2, j2 + k2, _, _, by omega, rfl, by go_num, by go_num, by go_num, hN2, hg4.out.more (by omega)⟩
          case measure => simp [intOf]; omega
      · rcases Nat.eq_zero_or_pos k2 with e3 | e3
        · have s1 : (i1 : Int) < (i2 : Int) := by omega
          have s2 : (j2 : Int) ≤ (j1 : Int) := by omega
          have s3 : (k2 : Int) ≤ 0 := by omega
          have hcg : chg i1 j1 (i2, j2, k2) = [(100, i1, i2, j1, j2)] := by unfold chg; simp only; rw [if_neg (show ¬ (i1 < i2 ∧ j1 < j2) by omega), if_pos (show i1 < i2 by omega)]
          have hce : eqe (i2, j2, k2) = [] := by unfold eqe; simp only; rw [if_neg (show ¬ 0 < k2 by omega)]
          have hN2 : Hid ((acc ++ [(100, i1, i2, j1, j2)]) ++ opc (T.drop (n + 1)) (i2 + k2) (j2 + k2) = N) := by
            show _ = _
            rw [← hN1.out, hcg, hce]
            simp only [List.append_assoc, List.cons_append, List.nil_append]
          clear hN1 hcg hce e3
          go_wp2_with fail
          go_quiet (fail)
          have hg2 : Hid (GotO W2.heap.size (2 * n) acc u W2 ((wr.alloc (.cells #[.int .i64 i2, .int .i64 j2, .int .i64 k2] 59)).drewN nq)) := (hgot.out.alloc hsz (.cells #[.int .i64 i2, .int .i64 j2, .int .i64 k2] 59)).drew nq
          obtain ⟨Wa, hWa⟩ : ∃ Wa, (wr.alloc (.cells #[.int .i64 i2, .int .i64 j2, .int .i64 k2] 59)).drewN nq = Wa := ⟨_, rfl⟩
          rw [hWa] at hg2 ⊢
          have hsa : W2.heap.size ≤ Wa.heap.size := hg2.out.2.2.size
          have hal := hg2.out.1
          clear hWa hgot c0 c1 c2
          obtain ⟨au, cu, rfl⟩ := row_slice hg2.out.2.1
          go_wp2_with (first
            | (at_builtin; refine wpList_append_own_at _ rfl _ _ 37 rfl W2.heap.size 64 i0 (.agg #[.int .u8 0, .int .i64 0, .int .i64 0, .int .i64 0, .int .i64 0]) 5 40 Tryd.underlying37 hi hz0 hz1 hz2 rfl (by decide) _ _ _ rfl (hg2.out.2.1.alloc _) ⟨Wa.heap.size, 0, none⟩ 1 1 [.int .u8 100, .int .i64 i1, .int .i64 i2, .int .i64 j1, .int .i64 j2] rfl rfl (Ss.news_one Wa #[.int .u8 100, .int .i64 i1, .int .i64 i2, .int .i64 j1, .int .i64 j2] 64) (one5 _ _ _ _ _) (by unfold maxLen; omega) (by omega) (by simp; omega) ?_; intro v3 W3 hown3 hgrow3 hnil3 hloc3; have hg3 : Hid (GotO W2.heap.size (2 * n + 1) (acc ++ [(100, i1, i2, j1, j2)]) v3 W2 W3) := hg2.out.app hsa hown3 hgrow3; have hs3 : W2.heap.size ≤ W3.heap.size := hg3.out.2.2.size; have hal3 := hg3.out.1; clear hown3 hgrow3 hnil3 hloc3))
          go_roundw
          case rel => exact ⟨n + 1, i2 + k2, j2 + k2, _, _, by omega, rfl, by go_num, by go_num, by go_num, hN2, hg3.out.more (by omega)⟩
          case measure => simp [intOf]; omega
        · have s1 : (i1 : Int) < (i2 : Int) := by omega
          have s2 : (j2 : Int) ≤ (j1 : Int) := by omega
          have s3 : (0 : Int) < (k2 : Int) := by omega
          have hcg : chg i1 j1 (i2, j2, k2) = [(100, i1, i2, j1, j2)] := by unfold chg; simp only; rw [if_neg (show ¬ (i1 < i2 ∧ j1 < j2) by omega), if_pos (show i1 < i2 by omega)]
          have hce : eqe (i2, j2, k2) = [(101, i2, i2 + k2, j2, j2 + k2)] := by unfold eqe; simp only; rw [if_pos (show 0 < k2 by omega)]
          have hN2 : Hid (((acc ++ [(100, i1, i2, j1, j2)]) ++ [(101, i2, i2 + k2, j2, j2 + k2)]) ++ opc (T.drop (n + 1)) (i2 + k2) (j2 + k2) = N) := by
            show _ = _
            rw [← hN1.out, hcg, hce]
            simp only [List.append_assoc, List.cons_append, List.nil_append]
          clear hN1 hcg hce e3
          go_wp2_with fail
          go_quiet (fail)
          have hg2 : Hid (GotO W2.heap.size (2 * n) acc u W2 ((wr.alloc (.cells #[.int .i64 i2, .int .i64 j2, .int .i64 k2] 59)).drewN nq)) := (hgot.out.alloc hsz (.cells #[.int .i64 i2, .int .i64 j2, .int .i64 k2] 59)).drew nq
          obtain ⟨Wa, hWa⟩ : ∃ Wa, (wr.alloc (.cells #[.int .i64 i2, .int .i64 j2, .int .i64 k2] 59)).drewN nq = Wa := ⟨_, rfl⟩
          rw [hWa] at hg2 ⊢
          have hsa : W2.heap.size ≤ Wa.heap.size := hg2.out.2.2.size
          have hal := hg2.out.1
          clear hWa hgot c0 c1 c2
          obtain ⟨au, cu, rfl⟩ := row_slice hg2.out.2.1
          go_wp2_with (first
            | (at_builtin; refine wpList_append_own_at _ rfl _ _ 37 rfl W2.heap.size 64 i0 (.agg #[.int .u8 0, .int .i64 0, .int .i64 0, .int .i64 0, .int .i64 0]) 5 40 Tryd.underlying37 hi hz0 hz1 hz2 rfl (by decide) _ _ _ rfl (hg2.out.2.1.alloc _) ⟨Wa.heap.size, 0, none⟩ 1 1 [.int .u8 100, .int .i64 i1, .int .i64 i2, .int .i64 j1, .int .i64 j2] rfl rfl (Ss.news_one Wa #[.int .u8 100, .int .i64 i1, .int .i64 i2, .int .i64 j1, .int .i64 j2] 64) (one5 _ _ _ _ _) (by unfold maxLen; omega) (by omega) (by simp; omega) ?_; intro v3 W3 hown3 hgrow3 hnil3 hloc3; have hg3 : Hid (GotO W2.heap.size (2 * n + 1) (acc ++ [(100, i1, i2, j1, j2)]) v3 W2 W3) := hg2.out.app hsa hown3 hgrow3; have hs3 : W2.heap.size ≤ W3.heap.size := hg3.out.2.2.size; have hal3 := hg3.out.1; obtain ⟨au3, cu3, rfl⟩ := row_slice hown3; clear hown3 hgrow3 hnil3 hloc3)
            | (at_builtin; refine wpList_append_own_at _ rfl _ _ 37 rfl W2.heap.size 64 i0 (.agg #[.int .u8 0, .int .i64 0, .int .i64 0, .int .i64 0, .int .i64 0]) 5 40 Tryd.underlying37 hi hz0 hz1 hz2 rfl (by decide) _ _ _ rfl (hg3.out.2.1.alloc _) ⟨W3.heap.size, 0, none⟩ 1 1 [.int .u8 101, .int .i64 i2, .int .i64 ((i2 : Int) + (k2 : Int)), .int .i64 j2, .int .i64 ((j2 : Int) + (k2 : Int))] rfl rfl (Ss.news_one W3 #[.int .u8 101, .int .i64 i2, .int .i64 ((i2 : Int) + (k2 : Int)), .int .i64 j2, .int .i64 ((j2 : Int) + (k2 : Int))] 64) (one5 _ _ _ _ _) (by unfold maxLen; omega) (by omega) (by simp; omega) ?_; intro v4 W4 hown4 hgrow4 hnil4 hloc4; have hg4 : Hid (GotO W2.heap.size (2 * n + 1 + 1) ((acc ++ [(100, i1, i2, j1, j2)]) ++ [(101, i2, i2 + k2, j2, j2 + k2)]) v4 W2 W4) := hg3.out.app hs3 (by rw [ecells_eqe]; exact hown4) hgrow4; have hs4 : W2.heap.size ≤ W4.heap.size := hg4.out.2.2.size; have hal4 := hg4.out.1; clear hown4 hgrow4 hnil4 hloc4))
          go_roundw
          case rel => exact ⟨n + 1, i2 + k2, j2 + k2, _, _, by omega, rfl, by go_num, by go_num, by go_num, hN2, hg4.out.more (by omega)⟩
          case measure => simp [intOf]; omega
      · rcases Nat.eq_zero_or_pos k2 with e3 | e3
        · have s1 : (i2 : Int) ≤ (i1 : Int) := by omega
          have s2 : (j1 : Int) < (j2 : Int) := by omega
          have s3 : (k2 : Int) ≤ 0 := by omega
          have hcg : chg i1 j1 (i2, j2, k2) = [(105, i1, i2, j1, j2)] := by unfold chg; simp only; rw [if_neg (show ¬ (i1 < i2 ∧ j1 < j2) by omega), if_neg (show ¬ i1 < i2 by omega), if_pos (show j1 < j2 by omega)]
          have hce : eqe (i2, j2, k2) = [] := by unfold eqe; simp only; rw [if_neg (show ¬ 0 < k2 by omega)]
          have hN2 : Hid ((acc ++ [(105, i1, i2, j1, j2)]) ++ opc (T.drop (n + 1)) (i2 + k2) (j2 + k2) = N) := by
            show _ = _
            rw [← hN1.out, hcg, hce]
            simp only [List.append_assoc, List.cons_append, List.nil_append]
          clear hN1 hcg hce e3
          go_wp2_with fail
          go_quiet (fail)
          have hg2 : Hid (GotO W2.heap.size (2 * n) acc u W2 ((wr.alloc (.cells #[.int .i64 i2, .int .i64 j2, .int .i64 k2] 59)).drewN nq)) := (hgot.out.alloc hsz (.cells #[.int .i64 i2, .int .i64 j2, .int .i64 k2] 59)).drew nq
          obtain ⟨Wa, hWa⟩ : ∃ Wa, (wr.alloc (.cells #[.int .i64 i2, .int .i64 j2, .int .i64 k2] 59)).drewN nq = Wa := ⟨_, rfl⟩
          rw [hWa] at hg2 ⊢
          have hsa : W2.heap.size ≤ Wa.heap.size := hg2.out.2.2.size
          have hal := hg2.out.1
          clear hWa hgot c0 c1 c2
          obtain ⟨au, cu, rfl⟩ := row_slice hg2.out.2.1
          go_wp2_with (first
            | (at_builtin; refine wpList_append_own_at _ rfl _ _ 37 rfl W2.heap.size 64 i0 (.agg #[.int .u8 0, .int .i64 0, .int .i64 0, .int .i64 0, .int .i64 0]) 5 40 Tryd.underlying37 hi hz0 hz1 hz2 rfl (by decide) _ _ _ rfl (hg2.out.2.1.alloc _) ⟨Wa.heap.size, 0, none⟩ 1 1 [.int .u8 105, .int .i64 i1, .int .i64 i2, .int .i64 j1, .int .i64 j2] rfl rfl (Ss.news_one Wa #[.int .u8 105, .int .i64 i1, .int .i64 i2, .int .i64 j1, .int .i64 j2] 64) (one5 _ _ _ _ _) (by unfold maxLen; omega) (by omega) (by simp; omega) ?_; intro v3 W3 hown3 hgrow3 hnil3 hloc3; have hg3 : Hid (GotO W2.heap.size (2 * n + 1) (acc ++ [(105, i1, i2, j1, j2)]) v3 W2 W3) := hg2.out.app hsa hown3 hgrow3; have hs3 : W2.heap.size ≤ W3.heap.size := hg3.out.2.2.size; have hal3 := hg3.out.1; clear hown3 hgrow3 hnil3 hloc3))
          go_roundw
          case rel => exact ⟨n + 1, i2 + k2, j2 + k2, _, _, by omega, rfl, by go_num, by go_num, by go_num, hN2, hg3.out.more (by omega)⟩
          case measure => simp [intOf]; omega
        · have s1 : (i2 : Int) ≤ (i1 : Int) := by omega
          have s2 : (j1 : Int) < (j2 : Int) := by omega
          have s3 : (0 : Int) < (k2 : Int) := by omega
          have hcg : chg i1 j1 (i2, j2, k2) = [(105, i1, i2, j1, j2)] := by unfold chg; simp only; rw [if_neg (show ¬ (i1 < i2 ∧ j1 < j2) by omega), if_neg (show ¬ i1 < i2 by omega), if_pos (show j1 < j2 by omega)]
          have hce : eqe (i2, j2, k2) = [(101, i2, i2 + k2, j2, j2 + k2)] := by unfold eqe; simp only; rw [if_pos (show 0 < k2 by omega)]
          have hN2 : Hid (((acc ++ [(105, i1, i2, j1, j2)]) ++ [(101, i2, i2 + k2, j2, j2 + k2)]) ++ opc (T.drop (n + 1)) (i2 + k2) (j2 + k2) = N) := by
            show _ = _
            rw [← hN1.out, hcg, hce]
            simp only [List.append_assoc, List.cons_append, List.nil_append]
          clear hN1 hcg hce e3
          go_wp2_with fail
          go_quiet (fail)
          have hg2 : Hid (GotO W2.heap.size (2 * n) acc u W2 ((wr.alloc (.cells #[.int .i64 i2, .int .i64 j2, .int .i64 k2] 59)).drewN nq)) := (hgot.out.alloc hsz (.cells #[.int .i64 i2, .int .i64 j2, .int .i64 k2] 59)).drew nq
          obtain ⟨Wa, hWa⟩ : ∃ Wa, (wr.alloc (.cells #[.int .i64 i2, .int .i64 j2, .int .i64 k2] 59)).drewN nq = Wa := ⟨_, rfl⟩
          rw [hWa] at hg2 ⊢
          have hsa : W2.heap.size ≤ Wa.heap.size := hg2.out.2.2.size
          have hal := hg2.out.1
          clear hWa hgot c0 c1 c2
          obtain ⟨au, cu, rfl⟩ := row_slice hg2.out.2.1
          go_wp2_with (first
            | (at_builtin; refine wpList_append_own_at _ rfl _ _ 37 rfl W2.heap.size 64 i0 (.agg #[.int .u8 0, .int .i64 0, .int .i64 0, .int .i64 0, .int .i64 0]) 5 40 Tryd.underlying37 hi hz0 hz1 hz2 rfl (by decide) _ _ _ rfl (hg2.out.2.1.alloc _) ⟨Wa.heap.size, 0, none⟩ 1 1 [.int .u8 105, .int .i64 i1, .int .i64 i2, .int .i64 j1, .int .i64 j2] rfl rfl (Ss.news_one Wa #[.int .u8 105, .int .i64 i1, .int .i64 i2, .int .i64 j1, .int .i64 j2] 64) (one5 _ _ _ _ _) (by unfold maxLen; omega) (by omega) (by simp; omega) ?_; intro v3 W3 hown3 hgrow3 hnil3 hloc3; have hg3 : Hid (GotO W2.heap.size (2 * n + 1) (acc ++ [(105, i1, i2, j1, j2)]) v3 W2 W3) := hg2.out.app hsa hown3 hgrow3; have hs3 : W2.heap.size ≤ W3.heap.size := hg3.out.2.2.size; have hal3 := hg3.out.1; obtain ⟨au3, cu3, rfl⟩ := row_slice hown3; clear hown3 hgrow3 hnil3 hloc3)
            | (at_builtin; refine wpList_append_own_at _ rfl _ _ 37 rfl W2.heap.size 64 i0 (.agg #[.int .u8 0, .int .i64 0, .int .i64 0, .int .i64 0, .int .i64 0]) 5 40 Tryd.underlying37 hi hz0 hz1 hz2 rfl (by decide) _ _ _ rfl (hg3.out.2.1.alloc _) ⟨W3.heap.size, 0, none⟩ 1 1 [.int .u8 101, .int .i64 i2, .int .i64 ((i2 : Int) + (k2 : Int)), .int .i64 j2, .int .i64 ((j2 : Int) + (k2 : Int))] rfl rfl (Ss.news_one W3 #[.int .u8 101, .int .i64 i2, .int .i64 ((i2 : Int) + (k2 : Int)), .int .i64 j2, .int .i64 ((j2 : Int) + (k2 : Int))] 64) (one5 _ _ _ _ _) (by unfold maxLen; omega) (by omega) (by simp; omega) ?_; intro v4 W4 hown4 hgrow4 hnil4 hloc4; have hg4 : Hid (GotO W2.heap.size (2 * n + 1 + 1) ((acc ++ [(105, i1, i2, j1, j2)]) ++ [(101, i2, i2 + k2, j2, j2 + k2)]) v4 W2 W4) := hg3.out.app hs3 (by rw [ecells_eqe]; exact hown4) hgrow4; have hs4 : W2.heap.size ≤ W4.heap.size := hg4.out.2.2.size; have hal4 := hg4.out.1; clear hown4 hgrow4 hnil4 hloc4))
          go_roundw
          case rel => exact ⟨n + 1, i2 + k2, j2 + k2, _, _, by omega, rfl, by go_num, by go_num, by go_num, hN2, hg4.out.more (by omega)⟩
          case measure => simp [intOf]; omega
      · rcases Nat.eq_zero_or_pos k2 with e3 | e3
        · have s1 : (i2 : Int) ≤ (i1 : Int) := by omega
          have s2 : (j2 : Int) ≤ (j1 : Int) := by omega
          have s3 : (k2 : Int) ≤ 0 := by omega
          have hcg : chg i1 j1 (i2, j2, k2) = [] := by unfold chg; simp only; rw [if_neg (show ¬ (i1 < i2 ∧ j1 < j2) by omega), if_neg (show ¬ i1 < i2 by omega), if_neg (show ¬ j1 < j2 by omega)]
          have hce : eqe (i2, j2, k2) = [] := by unfold eqe; simp only; rw [if_neg (show ¬ 0 < k2 by omega)]
          have hN2 : Hid (acc ++ opc (T.drop (n + 1)) (i2 + k2) (j2 + k2) = N) := by
            show _ = _
            rw [← hN1.out, hcg, hce]
            simp only [List.append_assoc, List.cons_append, List.nil_append]
          clear hN1 hcg hce e3
          go_wp2_with fail
          go_quiet (fail)
          have hg2 : Hid (GotO W2.heap.size (2 * n) acc u W2 ((wr.alloc (.cells #[.int .i64 i2, .int .i64 j2, .int .i64 k2] 59)).drewN nq)) := (hgot.out.alloc hsz (.cells #[.int .i64 i2, .int .i64 j2, .int .i64 k2] 59)).drew nq
          obtain ⟨Wa, hWa⟩ : ∃ Wa, (wr.alloc (.cells #[.int .i64 i2, .int .i64 j2, .int .i64 k2] 59)).drewN nq = Wa := ⟨_, rfl⟩
          rw [hWa] at hg2 ⊢
          have hsa : W2.heap.size ≤ Wa.heap.size := hg2.out.2.2.size
          have hal := hg2.out.1
          clear hWa hgot c0 c1 c2
          go_wp2_with fail
          go_roundw
          case rel => exact ⟨n + 1, i2 + k2, j2 + k2, _, _, by omega, rfl, by go_num, by go_num, by go_num, hN2, hg2.out.more (by omega)⟩
          case measure => simp [intOf]; omega
        · have s1 : (i2 : Int) ≤ (i1 : Int) := by omega
          have s2 : (j2 : Int) ≤ (j1 : Int) := by omega
          have s3 : (0 : Int) < (k2 : Int) := by omega
          have hcg : chg i1 j1 (i2, j2, k2) = [] := by unfold chg; simp only; rw [if_neg (show ¬ (i1 < i2 ∧ j1 < j2) by omega), if_neg (show ¬ i1 < i2 by omega), if_neg (show ¬ j1 < j2 by omega)]
          have hce : eqe (i2, j2, k2) = [(101, i2, i2 + k2, j2, j2 + k2)] := by unfold eqe; simp only; rw [if_pos (show 0 < k2 by omega)]
          have hN2 : Hid ((acc ++ [(101, i2, i2 + k2, j2, j2 + k2)]) ++ opc (T.drop (n + 1)) (i2 + k2) (j2 + k2) = N) := by
            show _ = _
            rw [← hN1.out, hcg, hce]
            simp only [List.append_assoc, List.cons_append, List.nil_append]
          clear hN1 hcg hce e3
          go_wp2_with fail
          go_quiet (fail)
          have hg2 : Hid (GotO W2.heap.size (2 * n) acc u W2 ((wr.alloc (.cells #[.int .i64 i2, .int .i64 j2, .int .i64 k2] 59)).drewN nq)) := (hgot.out.alloc hsz (.cells #[.int .i64 i2, .int .i64 j2, .int .i64 k2] 59)).drew nq
          obtain ⟨Wa, hWa⟩ : ∃ Wa, (wr.alloc (.cells #[.int .i64 i2, .int .i64 j2, .int .i64 k2] 59)).drewN nq = Wa := ⟨_, rfl⟩
          rw [hWa] at hg2 ⊢
          have hsa : W2.heap.size ≤ Wa.heap.size := hg2.out.2.2.size
          have hal := hg2.out.1
          clear hWa hgot c0 c1 c2
          obtain ⟨au, cu, rfl⟩ := row_slice hg2.out.2.1
          go_wp2_with (first
            | (at_builtin; refine wpList_append_own_at _ rfl _ _ 37 rfl W2.heap.size 64 i0 (.agg #[.int .u8 0, .int .i64 0, .int .i64 0, .int .i64 0, .int .i64 0]) 5 40 Tryd.underlying37 hi hz0 hz1 hz2 rfl (by decide) _ _ _ rfl (hg2.out.2.1.alloc _) ⟨Wa.heap.size, 0, none⟩ 1 1 [.int .u8 101, .int .i64 i2, .int .i64 ((i2 : Int) + (k2 : Int)), .int .i64 j2, .int .i64 ((j2 : Int) + (k2 : Int))] rfl rfl (Ss.news_one Wa #[.int .u8 101, .int .i64 i2, .int .i64 ((i2 : Int) + (k2 : Int)), .int .i64 j2, .int .i64 ((j2 : Int) + (k2 : Int))] 64) (one5 _ _ _ _ _) (by unfold maxLen; omega) (by omega) (by simp; omega) ?_; intro v3 W3 hown3 hgrow3 hnil3 hloc3; have hg3 : Hid (GotO W2.heap.size (2 * n + 1) (acc ++ [(101, i2, i2 + k2, j2, j2 + k2)]) v3 W2 W3) := hg2.out.app hsa (by rw [ecells_eqe]; exact hown3) hgrow3; have hs3 : W2.heap.size ≤ W3.heap.size := hg3.out.2.2.size; have hal3 := hg3.out.1; clear hown3 hgrow3 hnil3 hloc3))
          go_roundw
          case rel => exact ⟨n + 1, i2 + k2, j2 + k2, _, _, by omega, rfl, by go_num, by go_num, by go_num, hN2, hg3.out.more (by omega)⟩
          case measure => simp [intOf]; omega
    · obtain rfl : n = T.length := by omega
      have hN2 : acc = N := by
        have := hN.out
        rw [List.drop_length] at this
        simpa [opc] using this
      subst hN2
      obtain ⟨au, cu, rfl⟩ := row_slice hgot.out.2.1
      have hm5 := HM2.out.below (hgot.out.2.2.mono (Nat.le_refl _))
      obtain ⟨z9, zf9⟩ := hm5.at9
      have zz9 := (hm5.put9 (.slice au acc.length cu)).at9.1
      have hfin : Hid (OpsOut xs ys g fv w (.returned (.slice au acc.length cu)) (wr.setCell ⟨g, 9, none⟩ (.slice au acc.length cu))) := ops_fin HG2.out HM2.out hg HNN.out hgot.out
      clear hm5 hgot hN
      go_wp2_with fail
      go_ret
      exact hfin.out

end Go.Proofs.YtkmfedmiaannfaaDoor.Df
