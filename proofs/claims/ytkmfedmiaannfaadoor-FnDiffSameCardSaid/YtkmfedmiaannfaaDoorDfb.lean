/- Differences of two lists: the walk of GetMatchingBlocks. -/
import Derived.Test.YtkmfedmiaannfaaDoorDfm
import Derived.StillTailTactics
import Derived.Deep.RegionHeldLaw
import Derived.Deep.AppendLies
set_option linter.unusedVariables false
set_option linter.unusedSimpArgs false
namespace Go.Proofs.YtkmfedmiaannfaaDoor.Df
open Go.RowKit Go.Maps Go.WideMaps Go.ChangeShapes

/-- the blocks are there, and the matcher keeps them -/
def BlocksOut (xs ys : List ByteArray) (g : Nat) (fv ov : Value) (w : World) (e : Ending) (w' : World) : Prop :=
  ∃ v, e = .returned v ∧ Mat w' g xs ys v fv ov ∧ w.grownBy w' (some g) ∧ Ss.Of 3 mcells w' v (blocks xs ys) ∧ (∀ b off n c, v = .slice (some ⟨b, off, none⟩) n c → w.heap.size ≤ b)

/-- the loop that puts adjacent blocks together: the values so far -/
def Got (B n : Nat) (acc : List M3) (u : Value) (w w' : World) : Prop :=
  acc.length ≤ n ∧ w'.ownsRow B 59 3 u acc.length (acc.flatMap mcells) ∧ Below B w w'
theorem Got.alloc {B n : Nat} {acc : List M3} {u : Value} {w w' : World} (h : Got B n acc u w w') (hs : B ≤ w'.heap.size) (o : Obj) : Got B n acc u w (w'.alloc o) :=
  ⟨h.1, h.2.1.alloc _, h.2.2.alloc hs _⟩
theorem Got.drew {B n : Nat} {acc : List M3} {u : Value} {w w' : World} (h : Got B n acc u w w') (hs : B ≤ w'.heap.size) (k : Nat) : Got B n acc u w (w'.drewN k) :=
  ⟨h.1, row_kept h.2.1 (below_drewN (Below.refl _ _) k), below_drewN h.2.2 k⟩
theorem Got.app {B n : Nat} {acc : List M3} {u v : Value} {m : M3} {w w' wy : World} {o : Obj} (h : Got B n acc u w w') (hs : B ≤ w'.heap.size) (ho : wy.ownsRow B 59 3 v (acc.length + 1) (acc.flatMap mcells ++ mcells m)) (hg : (w'.alloc o).grownBy wy u.ownBlock) : Got B (n + 1) (acc ++ [m]) v w wy := by
  refine ⟨by have := h.1; simp; omega, ?_, (h.2.2.alloc hs o).grown hg (by simp; omega) (fun j hj => (h.2.1.lt j hj).1)⟩
  rw [List.length_append, List.flatMap_append]
  simpa using ho

theorem Mat.at6 {w : World} {g : Nat} {xs ys : List ByteArray} {mv fv ov : Value} (h : Mat w g xs ys mv fv ov) : w.cell? ⟨g, 6, none⟩ = some mv ∧ w.frozen? ⟨g, 6, none⟩ = false := by
  obtain ⟨va, vb, bj, jk, pp, h1, _⟩ := h
  exact ⟨h1.cell 6, h1.free 6⟩
theorem Mat.put6 {w : World} {g : Nat} {xs ys : List ByteArray} {mv fv ov : Value} (h : Mat w g xs ys mv fv ov) (u : Value) : Mat (w.setCell ⟨g, 6, none⟩ u) g xs ys u fv ov := by
  obtain ⟨va, vb, bj, jk, pp, h1, h2, ⟨h3, h4⟩, h5, h6⟩ := h
  have ho := only_put (only_refl w (some g)) 6 u
  refine ⟨va, vb, bj, jk, pp, h1.put 6 u, h2.only ho, ⟨h3, ?_⟩, h5.only ho, h6.only ho⟩
  rw [ho.block jk (Array.getElem?_eq_some_iff.1 h4).1 (by intro e; injection e with e; omega)]; exact h4
theorem Mat.at9 {w : World} {g : Nat} {xs ys : List ByteArray} {mv fv ov : Value} (h : Mat w g xs ys mv fv ov) : w.cell? ⟨g, 9, none⟩ = some ov ∧ w.frozen? ⟨g, 9, none⟩ = false := by
  obtain ⟨va, vb, bj, jk, pp, h1, _⟩ := h
  exact ⟨h1.cell 9, h1.free 9⟩
theorem Mat.put9 {w : World} {g : Nat} {xs ys : List ByteArray} {mv fv ov : Value} (h : Mat w g xs ys mv fv ov) (u : Value) : Mat (w.setCell ⟨g, 9, none⟩ u) g xs ys mv fv u := by
  obtain ⟨va, vb, bj, jk, pp, h1, h2, ⟨h3, h4⟩, h5, h6⟩ := h
  have ho := only_put (only_refl w (some g)) 9 u
  refine ⟨va, vb, bj, jk, pp, h1.put 9 u, h2.only ho, ⟨h3, ?_⟩, h5.only ho, h6.only ho⟩
  rw [ho.block jk (Array.getElem?_eq_some_iff.1 h4).1 (by intro e; injection e with e; omega)]; exact h4
theorem Got.drew1 {B n : Nat} {acc : List M3} {u : Value} {w w' : World} (h : Got B n acc u w w') : Got B n acc u w w'.drew :=
  ⟨h.1, row_kept h.2.1 (Below.refl _ _).drew, h.2.2.drew⟩

theorem blocks_fin {xs ys : List ByteArray} {g n : Nat} {mv fv ov v : Value} {L : List M3} {w W3 W5 : World} (hX : Below w.heap.size w W3) (hm : Mat w g xs ys mv fv ov) (hg : g < w.heap.size) (hL : blocks xs ys = L) (h : Got W3.heap.size n L v W3 W5) :
    BlocksOut xs ys g fv ov w (.returned v) (W5.setCell ⟨g, 6, none⟩ v) := by
  have hs := hX.size
  have hb : Below w.heap.size w W5 := hX.trans (h.2.2.mono hs)
  have ho := only_put (only_refl W5 (some g)) 6 v
  have hlt := h.2.1.lt
  refine ⟨v, rfl, (hm.below hb).put6 v, only_put (only_below hb _) 6 v, ?_, ?_⟩
  · rw [hL]
    refine Ss.Of.own mcells_len (h.2.1.kept ho ?_)
    cases hv : v.ownBlock with
    | none => simp
    | some j =>
      have := (hlt j hv).1
      simp
      omega
  · rintro b off n c rfl
    have := (hlt b (by simp [Value.ownBlock])).1
    omega
theorem blocks_five {B n a b : Nat} {L : List M3} {v u x : Value} {W3 W5 : World} (h : Got B n L v W3 W5) (hb : b < B) (d : W3.cell? ⟨b, 0, none⟩ = some x) (hne : b ≠ a) : W5.cell? ⟨b, 0, none⟩ = some x ∧ (W5.setCell ⟨a, 6, none⟩ u).cell? ⟨b, 0, none⟩ = some x := by
  have h1 : W5.cell? ⟨b, 0, none⟩ = some x := by rw [h.2.2.cell (p := ⟨b, 0, none⟩) hb]; exact d
  exact ⟨h1, by rw [World.cell?_of_block (w := W5) (Below.heap_setCell W5 ⟨a, 6, none⟩ u b hne)]; exact h1⟩

set_option maxHeartbeats 16000000 in
set_option maxRecDepth 100000 in
theorem blocks_any (xs ys : List ByteArray) (g : Nat) (fv ov : Value) (w : World) (hm : Mat w g xs ys (.slice none 0 0) fv ov) (hx : xs.length ≤ 2147483647) (hy : ys.length ≤ 2147483647) (hsx : ∀ s ∈ xs, s.size ≤ 2147483647) (hsy : ∀ s ∈ ys, s.size ≤ 2147483647) :
    Calls Tryd.prog 18 #[.pointer (some ⟨g, 0, none⟩)] w (BlocksOut xs ys g fv ov w) := by
  have hmf : ∀ (fn : Fn) (first cap : Array Value) (w : World), (Instr.makeFunc fn first cap).run Tryd.prog w = .ok (.func fn first cap) w := fun _ _ _ _ => rfl
  obtain ⟨i0, hi, hz0, hz1, hz2⟩ := info_parts infoM
  have HM := Lib.hid hm
  obtain ⟨va, vb, bj, jk, pp, hw, hlk, hjk, hva, hvb⟩ := hm
  obtain ⟨aa, ca, rfl⟩ := hva.slice
  obtain ⟨ab, cb, rfl⟩ := hvb.slice
  have hg := hw.lt
  have d6 : w.cell? ⟨g, 6, none⟩ = some (.slice none 0 0) := hw.cell 6
  have d0 : w.cell? ⟨g, 0, none⟩ = some (.slice aa xs.length ca) := hw.cell 0
  have d1 : w.cell? ⟨g, 1, none⟩ = some (.slice ab ys.length cb) := hw.cell 1
  have HW := Lib.hid hw
  clear hw hlk hjk hva hvb
  obtain ⟨W2, hW2, hX, hxs, x5, x6⟩ : ∃ W2, ((w.alloc (.cells #[.pointer (some ⟨g, 0, none⟩)] 32)).alloc (.cells #[(.func (.func 27) #[] #[.pointer (some ⟨w.heap.size, 0, none⟩), .pointer (some ⟨w.heap.size + 1, 0, none⟩)])] 72)) = W2 ∧ Below w.heap.size w W2 ∧ W2.heap.size = w.heap.size + 2 ∧ W2.cell? ⟨w.heap.size, 0, none⟩ = some (.pointer (some ⟨g, 0, none⟩)) ∧ W2.cell? ⟨w.heap.size + 1, 0, none⟩ = some (.func (.func 27) #[] #[.pointer (some ⟨w.heap.size, 0, none⟩), .pointer (some ⟨w.heap.size + 1, 0, none⟩)]) := by
    refine ⟨_, rfl, ((Below.refl _ _).alloc (Nat.le_refl _) _).alloc (by simp) _, by simp, ?_, ?_⟩
    · rw [Sl.cell_old _ _ _ _ (by simp), Sl.cell_new]; rfl
    · have := Sl.cell_new (w.alloc (.cells #[.pointer (some ⟨g, 0, none⟩)] 32)) #[(.func (.func 27) #[] #[.pointer (some ⟨w.heap.size, 0, none⟩), .pointer (some ⟨w.heap.size + 1, 0, none⟩)])] 72 0
      rw [show (w.alloc (.cells #[.pointer (some ⟨g, 0, none⟩)] 32)).heap.size = w.heap.size + 1 by simp] at this
      rw [this]; rfl
  have y0 : W2.cell? ⟨g, 0, none⟩ = some (.slice aa xs.length ca) := by rw [hX.cell (p := ⟨g, 0, none⟩) hg]; exact d0
  have y1 : W2.cell? ⟨g, 1, none⟩ = some (.slice ab ys.length cb) := by rw [hX.cell (p := ⟨g, 1, none⟩) hg]; exact d1
  obtain ⟨T, hT⟩ : ∃ T, mb xs ys (xs.length + 1) 0 xs.length 0 ys.length = T := ⟨_, rfl⟩
  have CM := mb_any xs ys g w.heap.size (w.heap.size + 1) (w.heap.size + 2) (.slice none 0 0) fv ov hx hy hsx hsy (xs.length + 1) 0 xs.length 0 ys.length (.slice none 0 0) [] W2.drew W2 (by omega) (Nat.zero_le _) (Nat.le_refl _) (Nat.zero_le _) (Nat.le_refl _)
    (HM.out.below hX) x5 x6 hxs (Below.refl _ _).drew (World.ownsRow_nil _ _ _ _) (by simp; omega)
  rw [List.nil_append, hT] at CM
  have hch : Chain xs ys 0 0 xs.length ys.length T := by rw [← hT]; exact mb_chain _ _ _ _ _ (Nat.zero_le _) (Nat.zero_le _)
  have hTl := chain_len hch
  obtain ⟨N, hN⟩ : ∃ N, nadj T (0, 0, 0) = N := ⟨_, rfl⟩
  have hbl : blocks xs ys = N ++ [(xs.length, ys.length, 0)] := by unfold blocks; rw [hT, hN]
  have HCM := Lib.hid CM
  have HX := Lib.hid hX
  have HXs := Lib.hid hxs
  have HW2 := Lib.hid hW2
  have HCh := Lib.hid hch
  have HN := Lib.hid hN
  have HBl := Lib.hid hbl
  clear CM hX hch hN hbl hT hxs hsx hsy hW2
  go_enter Tryd.func18, Tryd.ntmps18
  go_wp2_with fail
  rw [HW2.out]
  refine wp_region_still_tail 11 (by kernel_rfl) (by kernel_rfl) ?_
  simp only [List.take_succ_cons, List.take_zero, List.drop_succ_cons, List.drop_zero]
  repeat still_step
  refine wpStill_nil ?_
  change wpList _ _ _ _ _ (World.drew _)
  go_wp2_with fail
  refine HCM.out.mono ?_
  rintro e W3 ⟨v, rfl, hown, hgr, hnear⟩
  obtain ⟨av, cv, rfl⟩ := row_slice hown
  have hgot0 := World.ownsRow_made (size := 3) (e := 59) (base := W3.heap.size) W3 #[] 0 (Nat.le_refl _) (by unfold maxLen; omega) (by simp)
  have hB3 : Hid (Ss.Of 3 mcells W3 (.slice av T.length cv) T) := Ss.Of.own mcells_len hown
  have HOwn := Lib.hid hown
  have HGr := Lib.hid hgr
  have HG0 : Hid (Got W3.heap.size 0 [] (.slice (some ⟨W3.heap.size, 0, none⟩) 0 0) W3 (W3.alloc (.cells #[] 59))) := ⟨Nat.le_refl _, hgot0, (Below.refl _ _).alloc (Nat.le_refl _) _⟩
  have hTT : T.length ≤ 2147483647 := by omega
  clear hgot0 hown hgr hnear
  go_wp2_with fail
  go_loopw [5, 6, 7, 8, 39] (fun vu vi vj vk vn wr => ∃ (n i1 j1 k1 : Nat) (acc : List M3) (u : Value), n ≤ T.length ∧ u = vu ∧ vi = .int .i64 (i1 : Int) ∧ vj = .int .i64 (j1 : Int) ∧ vk = .int .i64 (k1 : Int) ∧ vn = .int .i64 (n : Int) ∧ Hid (acc ++ nadj (T.drop n) (i1, j1, k1) = N) ∧ Hid (Chain xs ys (i1 + k1) (j1 + k1) xs.length ys.length (T.drop n)) ∧ Hid (Got W3.heap.size n acc u W3 wr)) (fun _ _ _ _ n _ => T.length - (intOf n).toNat)
  case atStart =>
    refine ⟨0, 0, 0, 0, [], _, Nat.zero_le _, rfl, rfl, rfl, rfl, rfl, ?_, ?_, HG0.out⟩
    · show _ = _
      rw [List.nil_append, List.drop_zero]; exact HN.out
    · show Chain _ _ _ _ _ _ _
      rw [List.drop_zero]; exact HCh.out
  case round =>
    obtain ⟨n, i1, j1, k1, acc, u, hn, rfl, rfl, rfl, rfl, rfl, hN, hch, hgot⟩ := hrel
    by_cases hlt : n < T.length
    · obtain ⟨i2, j2, k2, hb⟩ : ∃ i2 j2 k2, T[n] = (i2, j2, k2) := ⟨_, _, _, rfl⟩
      have hdr : T.drop n = (i2, j2, k2) :: T.drop (n + 1) := by rw [← hb]; exact List.drop_eq_getElem_cons hlt
      have hch1 := hch.out
      rw [hdr] at hch1
      obtain ⟨q1, q2, q3, q4, q5⟩ := hch1
      simp only at q1 q2 q3 q4 q5
      have q6 := chain_le q5
      obtain ⟨bq, oq, hav, hbq, d0, d1, d2⟩ : ∃ b off, av = some ⟨b, off, none⟩ ∧ b < W3.heap.size ∧ W3.cell? ⟨b, off + n * 3, none⟩ = some (.int .i64 i2) ∧ W3.cell? ⟨b, off + n * 3 + 1, none⟩ = some (.int .i64 j2) ∧ W3.cell? ⟨b, off + n * 3 + 2, none⟩ = some (.int .i64 k2) := by
        rcases hB3.out with ⟨h, _⟩ | ⟨b, off, cap, h, h0, hcap, hm, hbb, hcell⟩
        · rw [h] at hlt; simp at hlt
        · injection h with h1 h2 h3
          exact ⟨b, off, h1, hbb, hcell n hlt 0 _ (by rw [hb]; rfl), by rw [Nat.add_assoc]; exact hcell n hlt 1 _ (by rw [hb]; rfl), by rw [Nat.add_assoc]; exact hcell n hlt 2 _ (by rw [hb]; rfl)⟩
      subst hav
      have hbw := hgot.out.2.2
      have c0 : wr.cell? ⟨bq, oq + n * 3, none⟩ = some (.int .i64 i2) := by rw [hbw.cell (p := ⟨bq, oq + n * 3, none⟩) hbq]; exact d0
      have c1 : wr.cell? ⟨bq, oq + n * 3 + 1, none⟩ = some (.int .i64 j2) := by rw [hbw.cell (p := ⟨bq, oq + n * 3 + 1, none⟩) hbq]; exact d1
      have c2 : wr.cell? ⟨bq, oq + n * 3 + 2, none⟩ = some (.int .i64 k2) := by rw [hbw.cell (p := ⟨bq, oq + n * 3 + 2, none⟩) hbq]; exact d2
      have hsz : W3.heap.size ≤ wr.heap.size := hbw.size
      have z1 : (0 : Int) ≤ (n : Int) := by omega
      have z2 : (n : Int) < (T.length : Int) := by omega
      have HQ4 := Lib.hid q4
      have HQ5 := Lib.hid q5
      have hN1 : Hid (acc ++ (if i1 + k1 = i2 ∧ j1 + k1 = j2 then nadj (T.drop (n + 1)) (i1, j1, k1 + k2) else (if 0 < k1 then [(i1, j1, k1)] else []) ++ nadj (T.drop (n + 1)) (i2, j2, k2)) = N) := by
        show _ = _
        rw [← hN.out, hdr]
        rfl
      clear d0 d1 d2 hbw hdr hb hch hN q4 q5
      rcases (show (i1 + k1 = i2 ∧ j1 + k1 = j2) ∨ ((i1 + k1 = i2 ∧ j1 + k1 ≠ j2) ∧ 0 < k1) ∨ ((i1 + k1 = i2 ∧ j1 + k1 ≠ j2) ∧ k1 = 0) ∨ (i1 + k1 ≠ i2 ∧ 0 < k1) ∨ (i1 + k1 ≠ i2 ∧ k1 = 0) by omega) with ⟨e1, e2⟩ | ⟨⟨e1, e2⟩, e3⟩ | ⟨⟨e1, e2⟩, e3⟩ | ⟨e1, e3⟩ | ⟨e1, e3⟩
      · have f1 : decide ((i1 : Int) + (k1 : Int) = (i2 : Int)) = true := by rw [decide_eq_true_eq]; omega
        have f2 : decide ((j1 : Int) + (k1 : Int) = (j2 : Int)) = true := by rw [decide_eq_true_eq]; omega
        have hN2 : Hid (acc ++ nadj (T.drop (n + 1)) (i1, j1, k1 + k2) = N) := by
          show _ = _
          rw [← hN1.out, if_pos ⟨e1, e2⟩]
        have hC2 : Hid (Chain xs ys (i1 + (k1 + k2)) (j1 + (k1 + k2)) xs.length ys.length (T.drop (n + 1))) := by
          show Chain _ _ _ _ _ _ _
          rw [show i1 + (k1 + k2) = i2 + k2 by omega, show j1 + (k1 + k2) = j2 + k2 by omega]; exact HQ5.out
        clear hN1
        go_wp2_with fail
        go_quiet (fail)
        have hg2 : Hid (Got W3.heap.size (n + 1) acc u W3 ((wr.alloc (.cells #[.int .i64 i2, .int .i64 j2, .int .i64 k2] 59)).drewN nq)) := by
          have := (hgot.out.alloc hsz (.cells #[.int .i64 i2, .int .i64 j2, .int .i64 k2] 59)).drew (by simp; omega) nq
          exact ⟨by have := this.1; omega, this.2⟩
        go_wp2_with fail
        go_roundw
        case rel => exact ⟨n + 1, i1, j1, k1 + k2, acc, _, by omega, rfl, rfl, rfl, by go_num, by go_num, hN2, hC2, hg2⟩
        case measure => simp [intOf]; omega
      · have f1 : decide ((i1 : Int) + (k1 : Int) = (i2 : Int)) = true := by rw [decide_eq_true_eq]; omega
        have f2 : decide ((j1 : Int) + (k1 : Int) = (j2 : Int)) = false := by rw [decide_eq_false_iff_not]; omega
        have f3 : (0 : Int) < (k1 : Int) := by omega
        have hN2 : Hid ((acc ++ [(i1, j1, k1)]) ++ nadj (T.drop (n + 1)) (i2, j2, k2) = N) := by
          show _ = _
          rw [← hN1.out, if_neg (show ¬ (i1 + k1 = i2 ∧ j1 + k1 = j2) by omega), if_pos e3, List.append_assoc]
        clear hN1
        go_wp2_with fail
        go_quiet (fail)
        have hg2 : Hid (Got W3.heap.size n acc u W3 ((wr.alloc (.cells #[.int .i64 i2, .int .i64 j2, .int .i64 k2] 59)).drewN nq)) :=
          (hgot.out.alloc hsz (.cells #[.int .i64 i2, .int .i64 j2, .int .i64 k2] 59)).drew (by simp; omega) nq
        obtain ⟨Wa, hWa⟩ : ∃ Wa, (wr.alloc (.cells #[.int .i64 i2, .int .i64 j2, .int .i64 k2] 59)).drewN nq = Wa := ⟨_, rfl⟩
        rw [hWa] at hg2 ⊢
        have hsa : W3.heap.size ≤ Wa.heap.size := hg2.out.2.2.size
        obtain ⟨au, cu, rfl⟩ := row_slice hg2.out.2.1
        have HNews := Lib.hid (Ss.news_one Wa #[.int .i64 i1, .int .i64 j1, .int .i64 k1] 59)
        have HOne : Hid (∀ u ∈ [Value.int .i64 (i1 : Int), .int .i64 (j1 : Int), .int .i64 (k1 : Int)], u.oneCell' = true) := by
          show ∀ u ∈ _, _
          intro u hu; simp at hu; rcases hu with rfl | rfl | rfl <;> rfl
        have hal := hg2.out.1
        clear hWa hgot c0 c1 c2
        go_wp2_with (first
          | (at_builtin; refine wpList_append_own_at _ rfl _ _ 52 rfl W3.heap.size 59 i0 (.agg #[.int .i64 0, .int .i64 0, .int .i64 0]) 3 24 Tryd.underlying52 hi hz0 hz1 hz2 rfl (by decide) _ _ _ rfl (hg2.out.2.1.alloc _) ⟨Wa.heap.size, 0, none⟩ 1 1 [.int .i64 i1, .int .i64 j1, .int .i64 k1] rfl rfl HNews.out HOne.out (by unfold maxLen; omega) (by omega) (by simp; omega) ?_; intro v2 W4 hown2 hgrow2 hnil2 hloc2; have hg3 : Hid (Got W3.heap.size (n + 1) (acc ++ [(i1, j1, k1)]) v2 W3 W4) := hg2.out.app hsa hown2 hgrow2; clear hown2 hgrow2 hnil2 hloc2))
        go_roundw
        case rel => exact ⟨n + 1, i2, j2, k2, _, _, by omega, rfl, rfl, rfl, rfl, by go_num, hN2, HQ5.out, hg3⟩
        case measure => simp [intOf]; omega
      · have f1 : decide ((i1 : Int) + (k1 : Int) = (i2 : Int)) = true := by rw [decide_eq_true_eq]; omega
        have f2 : decide ((j1 : Int) + (k1 : Int) = (j2 : Int)) = false := by rw [decide_eq_false_iff_not]; omega
        have f3 : (k1 : Int) ≤ 0 := by omega
        have hN2 : Hid (acc ++ nadj (T.drop (n + 1)) (i2, j2, k2) = N) := by
          show _ = _
          rw [← hN1.out, if_neg (show ¬ (i1 + k1 = i2 ∧ j1 + k1 = j2) by omega), if_neg (show ¬ 0 < k1 by omega), List.nil_append]
        clear hN1
        go_wp2_with fail
        go_quiet (fail)
        have hg2 : Hid (Got W3.heap.size (n + 1) acc u W3 ((wr.alloc (.cells #[.int .i64 i2, .int .i64 j2, .int .i64 k2] 59)).drewN nq)) := by
          have := (hgot.out.alloc hsz (.cells #[.int .i64 i2, .int .i64 j2, .int .i64 k2] 59)).drew (by simp; omega) nq
          exact ⟨by have := this.1; omega, this.2⟩
        go_wp2_with fail
        go_roundw
        case rel => exact ⟨n + 1, i2, j2, k2, acc, _, by omega, rfl, rfl, rfl, rfl, by go_num, hN2, HQ5.out, hg2⟩
        case measure => simp [intOf]; omega
      · have f1 : decide ((i1 : Int) + (k1 : Int) = (i2 : Int)) = false := by rw [decide_eq_false_iff_not]; omega
        have f3 : (0 : Int) < (k1 : Int) := by omega
        have hN2 : Hid ((acc ++ [(i1, j1, k1)]) ++ nadj (T.drop (n + 1)) (i2, j2, k2) = N) := by
          show _ = _
          rw [← hN1.out, if_neg (show ¬ (i1 + k1 = i2 ∧ j1 + k1 = j2) by omega), if_pos e3, List.append_assoc]
        clear hN1
        go_wp2_with fail
        go_quiet (fail)
        have hg2 : Hid (Got W3.heap.size n acc u W3 ((wr.alloc (.cells #[.int .i64 i2, .int .i64 j2, .int .i64 k2] 59)).drewN nq)) :=
          (hgot.out.alloc hsz (.cells #[.int .i64 i2, .int .i64 j2, .int .i64 k2] 59)).drew (by simp; omega) nq
        obtain ⟨Wa, hWa⟩ : ∃ Wa, (wr.alloc (.cells #[.int .i64 i2, .int .i64 j2, .int .i64 k2] 59)).drewN nq = Wa := ⟨_, rfl⟩
        rw [hWa] at hg2 ⊢
        have hsa : W3.heap.size ≤ Wa.heap.size := hg2.out.2.2.size
        obtain ⟨au, cu, rfl⟩ := row_slice hg2.out.2.1
        have HNews := Lib.hid (Ss.news_one Wa #[.int .i64 i1, .int .i64 j1, .int .i64 k1] 59)
        have HOne : Hid (∀ u ∈ [Value.int .i64 (i1 : Int), .int .i64 (j1 : Int), .int .i64 (k1 : Int)], u.oneCell' = true) := by
          show ∀ u ∈ _, _
          intro u hu; simp at hu; rcases hu with rfl | rfl | rfl <;> rfl
        have hal := hg2.out.1
        clear hWa hgot c0 c1 c2
        go_wp2_with (first
          | (at_builtin; refine wpList_append_own_at _ rfl _ _ 52 rfl W3.heap.size 59 i0 (.agg #[.int .i64 0, .int .i64 0, .int .i64 0]) 3 24 Tryd.underlying52 hi hz0 hz1 hz2 rfl (by decide) _ _ _ rfl (hg2.out.2.1.alloc _) ⟨Wa.heap.size, 0, none⟩ 1 1 [.int .i64 i1, .int .i64 j1, .int .i64 k1] rfl rfl HNews.out HOne.out (by unfold maxLen; omega) (by omega) (by simp; omega) ?_; intro v2 W4 hown2 hgrow2 hnil2 hloc2; have hg3 : Hid (Got W3.heap.size (n + 1) (acc ++ [(i1, j1, k1)]) v2 W3 W4) := hg2.out.app hsa hown2 hgrow2; clear hown2 hgrow2 hnil2 hloc2))
        go_roundw
        case rel => exact ⟨n + 1, i2, j2, k2, _, _, by omega, rfl, rfl, rfl, rfl, by go_num, hN2, HQ5.out, hg3⟩
        case measure => simp [intOf]; omega
      · have f1 : decide ((i1 : Int) + (k1 : Int) = (i2 : Int)) = false := by rw [decide_eq_false_iff_not]; omega
        have f3 : (k1 : Int) ≤ 0 := by omega
        have hN2 : Hid (acc ++ nadj (T.drop (n + 1)) (i2, j2, k2) = N) := by
          show _ = _
          rw [← hN1.out, if_neg (show ¬ (i1 + k1 = i2 ∧ j1 + k1 = j2) by omega), if_neg (show ¬ 0 < k1 by omega), List.nil_append]
        clear hN1
        go_wp2_with fail
        go_quiet (fail)
        have hg2 : Hid (Got W3.heap.size (n + 1) acc u W3 ((wr.alloc (.cells #[.int .i64 i2, .int .i64 j2, .int .i64 k2] 59)).drewN nq)) := by
          have := (hgot.out.alloc hsz (.cells #[.int .i64 i2, .int .i64 j2, .int .i64 k2] 59)).drew (by simp; omega) nq
          exact ⟨by have := this.1; omega, this.2⟩
        go_wp2_with fail
        go_roundw
        case rel => exact ⟨n + 1, i2, j2, k2, acc, _, by omega, rfl, rfl, rfl, rfl, by go_num, hN2, HQ5.out, hg2⟩
        case measure => simp [intOf]; omega
    · obtain rfl : n = T.length := by omega
      have hch1 := hch.out
      rw [List.drop_length] at hch1
      have q1 : i1 + k1 ≤ xs.length ∧ j1 + k1 ≤ ys.length := hch1
      have hN1 : Hid (acc ++ (if 0 < k1 then [(i1, j1, k1)] else []) = N) := by
        show _ = _
        rw [← hN.out, List.drop_length]
        rfl
      have hX3 : Below w.heap.size w W3 := by
        refine (HX.out.drew).grown HGr.out ?_ (fun j hj => by simp [Value.ownBlock] at hj)
        have := HXs.out
        show w.heap.size ≤ W2.heap.size
        omega
      have hs3 : W2.heap.size ≤ W3.heap.size := HGr.out.size
      have w5 : W3.cell? ⟨w.heap.size, 0, none⟩ = some (.pointer (some ⟨g, 0, none⟩)) := by
        rw [World.cell?_of_block (w := W2) (HGr.out.block w.heap.size (by have := HXs.out; show w.heap.size < W2.heap.size; omega) (by simp [Value.ownBlock]))]; exact x5
      have hs3' : w.heap.size + 2 ≤ W3.heap.size := by have := HXs.out; omega
      have HX3 := Lib.hid hX3
      have hm3 : Hid (Mat W3 g xs ys (.slice none 0 0) fv ov) := HM.out.below hX3
      have w0 : W3.cell? ⟨g, 0, none⟩ = some (.slice aa xs.length ca) := by rw [hX3.cell (p := ⟨g, 0, none⟩) hg]; exact d0
      have w1 : W3.cell? ⟨g, 1, none⟩ = some (.slice ab ys.length cb) := by rw [hX3.cell (p := ⟨g, 1, none⟩) hg]; exact d1
      clear hch hch1 hN hX3 x5 x6 y0 y1 d0 d1 d6
      by_cases hk : 0 < k1
      · have f3 : (0 : Int) < (k1 : Int) := by omega
        have hN2 : acc ++ [(i1, j1, k1)] = N := by rw [← hN1.out, if_pos hk]
        have hg2 := hgot
        have hsa : W3.heap.size ≤ wr.heap.size := hg2.out.2.2.size
        obtain ⟨au, cu, rfl⟩ := row_slice hg2.out.2.1
        have HNews := Lib.hid (Ss.news_one wr #[.int .i64 i1, .int .i64 j1, .int .i64 k1] 59)
        have HOne : Hid (∀ u ∈ [Value.int .i64 (i1 : Int), .int .i64 (j1 : Int), .int .i64 (k1 : Int)], u.oneCell' = true) := by
          show ∀ u ∈ _, _
          intro u hu; simp at hu; rcases hu with rfl | rfl | rfl <;> rfl
        have hal := hg2.out.1
        clear hgot
        go_upto_block 1 with (first
          | (at_builtin; refine wpList_append_own_at _ rfl _ _ 52 rfl W3.heap.size 59 i0 (.agg #[.int .i64 0, .int .i64 0, .int .i64 0]) 3 24 Tryd.underlying52 hi hz0 hz1 hz2 rfl (by decide) _ _ _ rfl (hg2.out.2.1.alloc _) ⟨wr.heap.size, 0, none⟩ 1 1 [.int .i64 i1, .int .i64 j1, .int .i64 k1] rfl rfl HNews.out HOne.out (by unfold maxLen; omega) (by omega) (by simp; omega) ?_; intro v2 W4 hown2 hgrow2 hnil2 hloc2; have hgE : Got W3.heap.size (T.length + 1) (acc ++ [(i1, j1, k1)]) v2 W3 W4 := hg2.out.app hsa hown2 hgrow2; rw [hN2] at hgE; have HGE := Lib.hid hgE; clear hown2 hgrow2 hnil2 hloc2 hgE))
        obtain ⟨au2, cu2, rfl⟩ := row_slice HGE.out.2.1
        have hbE : Below w.heap.size w W4 := HX3.out.trans (HGE.out.2.2.mono (by omega))
        have hsE : W3.heap.size ≤ W4.heap.size := HGE.out.2.2.size
        have x5 : W4.cell? ⟨w.heap.size, 0, none⟩ = some (.pointer (some ⟨g, 0, none⟩)) := by rw [HGE.out.2.2.cell (p := ⟨w.heap.size, 0, none⟩) (by simp only; omega)]; exact w5
        have y0 : W4.cell? ⟨g, 0, none⟩ = some (.slice aa xs.length ca) := by rw [HGE.out.2.2.cell (p := ⟨g, 0, none⟩) (by simp only; omega)]; exact w0
        have y1 : W4.cell? ⟨g, 1, none⟩ = some (.slice ab ys.length cb) := by rw [HGE.out.2.2.cell (p := ⟨g, 1, none⟩) (by simp only; omega)]; exact w1
        have hNl : N.length ≤ T.length + 1 := HGE.out.1
        clear hbE
        have hgD : Hid (Got W3.heap.size (T.length + 1) N (.slice au2 N.length cu2) W3 W4.drew) := HGE.out.drew1
        have HNews2 := Lib.hid (Ss.news_one W4.drew #[.int .i64 xs.length, .int .i64 ys.length, .int .i64 0] 59)
        have HOne2 : Hid (∀ u ∈ [Value.int .i64 (xs.length : Int), .int .i64 (ys.length : Int), .int .i64 0], u.oneCell' = true) := by
          show ∀ u ∈ _, _
          intro u hu; simp at hu; rcases hu with rfl | rfl | rfl <;> rfl
        have hsd : W3.heap.size ≤ W4.drew.heap.size := hsE
        have HH : Hid (∀ o : Obj, (W4.drew.alloc o).cell? ⟨w.heap.size, 0, none⟩ = some (.pointer (some ⟨g, 0, none⟩)) ∧ (W4.drew.alloc o).cell? ⟨g, 0, none⟩ = some (.slice aa xs.length ca) ∧ (W4.drew.alloc o).cell? ⟨g, 1, none⟩ = some (.slice ab ys.length cb)) := by
          intro o
          have e1 : w.heap.size < W4.drew.heap.size := by omega
          have e2 : g < W4.drew.heap.size := by omega
          exact ⟨(Sl.cell_old _ o _ _ e1).trans x5, (Sl.cell_old _ o _ _ e2).trans y0, (Sl.cell_old _ o _ _ e2).trans y1⟩
        go_region_held_law (fun w' => w'.cell? ⟨w.heap.size, 0, none⟩ = some (.pointer (some ⟨g, 0, none⟩)) ∧ w'.cell? ⟨g, 0, none⟩ = some (.slice aa xs.length ca) ∧ w'.cell? ⟨g, 1, none⟩ = some (.slice ab ys.length cb))
          (first | exact HH.out _ | exact ⟨x5, y0, y1⟩ | exact ⟨z5, z0, z1⟩)
          (first
            | (refine step_append_lies _ rfl _ _ 52 rfl W3.heap.size 59 i0 (.agg #[.int .i64 0, .int .i64 0, .int .i64 0]) 3 24 Tryd.underlying52 hi hz0 hz1 hz2 rfl (by decide) _ _ _ rfl (hgD.out.2.1.alloc _) ⟨W4.drew.heap.size, 0, none⟩ 1 1 [.int .i64 xs.length, .int .i64 ys.length, .int .i64 0] rfl rfl HNews2.out HOne2.out (by omega) (by unfold maxLen; omega) (by omega) (by simp; omega) _ rfl ?_; intro g5 cu3 W5 hown3 hgrow3 hat3 hlt3; have hgF : Hid (Got W3.heap.size (T.length + 2) (N ++ [(xs.length, ys.length, 0)]) (.slice (some ⟨g5, 0, none⟩) (N.length + 1) cu3) W3 W5) := hgD.out.app hsd hown3 hgrow3; obtain ⟨z5, zz5⟩ := blocks_five (a := g) (u := .slice (some ⟨g5, 0, none⟩) (N.length + 1) cu3) hgF.out (show w.heap.size < W3.heap.size by omega) w5 (by omega); have hm5 := hm3.out.below hgF.out.2.2; obtain ⟨z6, zf6⟩ := hm5.at6; have zz6 := (hm5.put6 (.slice (some ⟨g5, 0, none⟩) (N.length + 1) cu3)).at6.1; have z0 : W5.cell? ⟨g, 0, none⟩ = some (.slice aa xs.length ca) := (by rw [hgF.out.2.2.cell (p := ⟨g, 0, none⟩) (by simp only; omega)]; exact w0); have z1 : W5.cell? ⟨g, 1, none⟩ = some (.slice ab ys.length cb) := (by rw [hgF.out.2.2.cell (p := ⟨g, 1, none⟩) (by simp only; omega)]; exact w1); clear hown3 hgrow3 hm5 hat3 hlt3))
        go_wp2_with fail
        go_ret
        have hfin := blocks_fin HX3.out HM.out hg HBl.out hgF.out
        exact hfin
      · have f3 : (k1 : Int) ≤ 0 := by omega
        have hN2 : acc = N := by rw [← hN1.out, if_neg hk, List.append_nil]
        have hgE : Got W3.heap.size (T.length + 1) acc u W3 wr := ⟨by have := hgot.out.1; omega, hgot.out.2⟩
        rw [hN2] at hgE
        have HGE := Lib.hid hgE
        clear hgE hgot hN2
        obtain ⟨W4, rfl⟩ : ∃ W4, W4 = wr := ⟨_, rfl⟩
        obtain ⟨v2, rfl⟩ : ∃ v2, v2 = u := ⟨_, rfl⟩
        go_upto_block 1 with fail
        obtain ⟨au2, cu2, rfl⟩ := row_slice HGE.out.2.1
        have hbE : Below w.heap.size w W4 := HX3.out.trans (HGE.out.2.2.mono (by omega))
        have hsE : W3.heap.size ≤ W4.heap.size := HGE.out.2.2.size
        have x5 : W4.cell? ⟨w.heap.size, 0, none⟩ = some (.pointer (some ⟨g, 0, none⟩)) := by rw [HGE.out.2.2.cell (p := ⟨w.heap.size, 0, none⟩) (by simp only; omega)]; exact w5
        have y0 : W4.cell? ⟨g, 0, none⟩ = some (.slice aa xs.length ca) := by rw [HGE.out.2.2.cell (p := ⟨g, 0, none⟩) (by simp only; omega)]; exact w0
        have y1 : W4.cell? ⟨g, 1, none⟩ = some (.slice ab ys.length cb) := by rw [HGE.out.2.2.cell (p := ⟨g, 1, none⟩) (by simp only; omega)]; exact w1
        have hNl : N.length ≤ T.length + 1 := HGE.out.1
        clear hbE
        have hgD : Hid (Got W3.heap.size (T.length + 1) N (.slice au2 N.length cu2) W3 W4.drew) := HGE.out.drew1
        have HNews2 := Lib.hid (Ss.news_one W4.drew #[.int .i64 xs.length, .int .i64 ys.length, .int .i64 0] 59)
        have HOne2 : Hid (∀ u ∈ [Value.int .i64 (xs.length : Int), .int .i64 (ys.length : Int), .int .i64 0], u.oneCell' = true) := by
          show ∀ u ∈ _, _
          intro u hu; simp at hu; rcases hu with rfl | rfl | rfl <;> rfl
        have hsd : W3.heap.size ≤ W4.drew.heap.size := hsE
        have HH : Hid (∀ o : Obj, (W4.drew.alloc o).cell? ⟨w.heap.size, 0, none⟩ = some (.pointer (some ⟨g, 0, none⟩)) ∧ (W4.drew.alloc o).cell? ⟨g, 0, none⟩ = some (.slice aa xs.length ca) ∧ (W4.drew.alloc o).cell? ⟨g, 1, none⟩ = some (.slice ab ys.length cb)) := by
          intro o
          have e1 : w.heap.size < W4.drew.heap.size := by omega
          have e2 : g < W4.drew.heap.size := by omega
          exact ⟨(Sl.cell_old _ o _ _ e1).trans x5, (Sl.cell_old _ o _ _ e2).trans y0, (Sl.cell_old _ o _ _ e2).trans y1⟩
        go_region_held_law (fun w' => w'.cell? ⟨w.heap.size, 0, none⟩ = some (.pointer (some ⟨g, 0, none⟩)) ∧ w'.cell? ⟨g, 0, none⟩ = some (.slice aa xs.length ca) ∧ w'.cell? ⟨g, 1, none⟩ = some (.slice ab ys.length cb))
          (first | exact HH.out _ | exact ⟨x5, y0, y1⟩ | exact ⟨z5, z0, z1⟩)
          (first
            | (refine step_append_lies _ rfl _ _ 52 rfl W3.heap.size 59 i0 (.agg #[.int .i64 0, .int .i64 0, .int .i64 0]) 3 24 Tryd.underlying52 hi hz0 hz1 hz2 rfl (by decide) _ _ _ rfl (hgD.out.2.1.alloc _) ⟨W4.drew.heap.size, 0, none⟩ 1 1 [.int .i64 xs.length, .int .i64 ys.length, .int .i64 0] rfl rfl HNews2.out HOne2.out (by omega) (by unfold maxLen; omega) (by omega) (by simp; omega) _ rfl ?_; intro g5 cu3 W5 hown3 hgrow3 hat3 hlt3; have hgF : Hid (Got W3.heap.size (T.length + 2) (N ++ [(xs.length, ys.length, 0)]) (.slice (some ⟨g5, 0, none⟩) (N.length + 1) cu3) W3 W5) := hgD.out.app hsd hown3 hgrow3; obtain ⟨z5, zz5⟩ := blocks_five (a := g) (u := .slice (some ⟨g5, 0, none⟩) (N.length + 1) cu3) hgF.out (show w.heap.size < W3.heap.size by omega) w5 (by omega); have hm5 := hm3.out.below hgF.out.2.2; obtain ⟨z6, zf6⟩ := hm5.at6; have zz6 := (hm5.put6 (.slice (some ⟨g5, 0, none⟩) (N.length + 1) cu3)).at6.1; have z0 : W5.cell? ⟨g, 0, none⟩ = some (.slice aa xs.length ca) := (by rw [hgF.out.2.2.cell (p := ⟨g, 0, none⟩) (by simp only; omega)]; exact w0); have z1 : W5.cell? ⟨g, 1, none⟩ = some (.slice ab ys.length cb) := (by rw [hgF.out.2.2.cell (p := ⟨g, 1, none⟩) (by simp only; omega)]; exact w1); clear hown3 hgrow3 hm5 hat3 hlt3))
        go_wp2_with fail
        go_ret
        have hfin := blocks_fin HX3.out HM.out hg HBl.out hgF.out
        exact hfin

end Go.Proofs.YtkmfedmiaannfaaDoor.Df
