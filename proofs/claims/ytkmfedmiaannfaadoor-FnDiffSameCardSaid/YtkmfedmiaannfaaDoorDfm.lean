/- Differences of two lists: the walk of the closure that gathers the matching blocks. -/
import Derived.Test.YtkmfedmiaannfaaDoorDfw
set_option linter.unusedVariables false
set_option linter.unusedSimpArgs false
namespace Go.Proofs.YtkmfedmiaannfaaDoor.Df
open Go.RowKit Go.Maps Go.WideMaps Go.ChangeShapes

def mcells (m : M3) : List Value := [.int .i64 m.1, .int .i64 m.2.1, .int .i64 m.2.2]
theorem mcells_len (m : M3) : (mcells m).length = 3 := rfl
theorem infoM : (Tryd.prog.info? 59).map (fun i => (i.zero, i.size, i.bytes)) = some (some (.agg #[.int .i64 0, .int .i64 0, .int .i64 0]), 3, 24) := by kernel_rfl
theorem Mat.below {w w' : World} {g : Nat} {xs ys : List ByteArray} {mv fv ov : Value} (h : Mat w g xs ys mv fv ov) (hb : Below w.heap.size w w') : Mat w' g xs ys mv fv ov := by
  obtain ⟨va, vb, bj, jk, pp, h1, h2, ⟨h3, h4⟩, h5, h6⟩ := h
  refine ⟨va, vb, bj, jk, pp, h1.below hb h1.lt, h2.only (only_below hb _), ⟨h3, ?_⟩, h5.only (only_below hb _), h6.only (only_below hb _)⟩
  rw [hb.block jk (Array.getElem?_eq_some_iff.1 h4).1]; exact h4
theorem chain_len {xs ys : List ByteArray} {I J : Nat} : ∀ {L : List M3} {i j : Nat}, Chain xs ys i j I J L → L.length ≤ I - i
  | [], i, j, h => Nat.zero_le _
  | b :: r, i, j, h => by
    obtain ⟨h1, h2, h3, _, h5⟩ := h
    have := chain_len h5
    have := (chain_le h5).1
    rw [List.length_cons]
    omega
theorem mb_len {xs ys : List ByteArray} {f alo ahi blo bhi : Nat} (h1 : alo ≤ ahi) (h2 : blo ≤ bhi) : (mb xs ys f alo ahi blo bhi).length ≤ ahi - alo := chain_len (mb_chain f alo ahi blo bhi h1 h2)
theorem row_kept {w w' : World} {B e n : Nat} {v : Value} {xs : List Value} (h : w.ownsRow B e 3 v n xs) (hb : Below w.heap.size w w') : w'.ownsRow B e 3 v n xs :=
  h.kept (only_below hb none) (by cases v.ownBlock <;> simp)

/-- a row lies where an elder one lay, or in a new block -/
def Near (u v : Value) (w : World) : Prop := v.ownBlock = u.ownBlock ∨ ∃ g, v.ownBlock = some g ∧ w.heap.size ≤ g
theorem Near.refl (u : Value) (w : World) : Near u u w := Or.inl rfl
theorem Near.trans {u v x : Value} {w w1 : World} (h : Near u v w) (k : Near v x w1) (hs : w.heap.size ≤ w1.heap.size) : Near u x w := by
  rcases k with k | ⟨g, k1, k2⟩
  · rcases h with h | ⟨g, h1, h2⟩
    · exact Or.inl (k.trans h)
    · exact Or.inr ⟨g, k.trans h1, h2⟩
  · exact Or.inr ⟨g, k1, by omega⟩
theorem grow_then {u v : Value} {a w w' : World} (h : a.grownBy w u.ownBlock) (k : w.grownBy w' v.ownBlock) (n : Near u v a) : a.grownBy w' u.ownBlock :=
  h.andThen k (fun j hj => by
    rcases n with n | ⟨g, n1, n2⟩
    · exact Or.inr (n ▸ hj)
    · rw [n1] at hj; injection hj with hj; exact Or.inl (by omega))
/-- the blocks, behind the values so far -/
def MbOut (B : Nat) (L : List M3) (u : Value) (w : World) (e : Ending) (w' : World) : Prop :=
  ∃ v, e = .returned v ∧ w'.ownsRow B 59 3 v L.length (L.flatMap mcells) ∧ w.grownBy w' u.ownBlock ∧ Near u v w

def fnv (b5 b6 : Nat) : Value := .func (.func 27) #[] #[.pointer (some ⟨b5, 0, none⟩), .pointer (some ⟨b6, 0, none⟩)]

theorem row_slice {w : World} {B e n k : Nat} {v : Value} {xs : List Value} (h : w.ownsRow B e k v n xs) : ∃ a c, v = .slice a n c := by
  rcases h.2 with ⟨rfl, h0⟩ | ⟨g, c, cur, hv, _⟩
  · exact ⟨none, 0, by rw [h0]⟩
  · exact ⟨_, _, hv⟩

theorem row_ge {w : World} {B e n k : Nat} {v : Value} {xs : List Value} (h : w.ownsRow B e k v n xs) : ∀ j, v.ownBlock = some j → B ≤ j ∧ j < w.heap.size := fun j hj => h.lt j hj
/-- what is known where a block is put behind the values so far -/
def Put (B : Nat) (L1 : List M3) (u v : Value) (bm : Nat) (m : M3) (w wx : World) : Prop :=
  wx.ownsRow B 59 3 v L1.length (L1.flatMap mcells) ∧ w.grownBy wx u.ownBlock ∧ Near u v w ∧ Whole wx bm 59 #[.int .i64 m.1, .int .i64 m.2.1, .int .i64 m.2.2] ∧ v.ownBlock ≠ some bm

theorem below_of_put {B bm : Nat} {L1 : List M3} {u v : Value} {m : M3} {w w0 wx : World} (h : Put B L1 u v bm m w wx) (hs : B ≤ w.heap.size) (hb : Below B w0 w) (hg : ∀ j, u.ownBlock = some j → B ≤ j ∧ j < w.heap.size) : Below B w0 wx :=
  hb.grown h.2.1 hs (fun j hj => (hg j hj).1)

theorem put_then {B bm : Nat} {L1 L2 : List M3} {u v v2 : Value} {m : M3} {w wx wy : World} (h : Put B L1 u v bm m w wx) (ho : wy.ownsRow B 59 3 v2 L2.length (L2.flatMap mcells)) (hg : wx.grownBy wy v.ownBlock) (hn : Near v v2 wx) : Put B L2 u v2 bm m w wy := by
  obtain ⟨h1, h2, h3, h4, h5⟩ := h
  refine ⟨ho, grow_then h2 hg h3, h3.trans hn h2.size, h4.grown hg (fun e => h5 e.symm), ?_⟩
  rcases hn with hn | ⟨q, n1, n2⟩
  · rw [hn]; exact h5
  · rw [n1]; intro e; injection e with e; have := h4.lt; omega
theorem near_alloc {u v : Value} {w : World} {o : Obj} (h : v.ownBlock = u.ownBlock ∨ v.ownBlock = some (w.alloc o).heap.size) : Near u v w := by
  rcases h with h | h
  · exact Or.inl h
  · exact Or.inr ⟨_, h, by simp⟩

theorem put_b6 {B bm b5 b6 : Nat} {L1 : List M3} {u v : Value} {m : M3} {w w0 wx : World} (h : Put B L1 u v bm m w wx) (hs : B ≤ w.heap.size) (hb : Below B w0 w) (hg : ∀ j, u.ownBlock = some j → B ≤ j ∧ j < w.heap.size) (h6 : b6 < B) (d : w0.cell? ⟨b6, 0, none⟩ = some (fnv b5 b6)) : wx.cell? ⟨b6, 0, none⟩ = some (fnv b5 b6) := by
  rw [(below_of_put h hs hb hg).cell (p := ⟨b6, 0, none⟩) h6]; exact d
theorem put_app {B bm : Nat} {L1 : List M3} {u v v2 : Value} {m : M3} {w wx wy : World} (h : Put B L1 u v bm m w wx) (ho : wy.ownsRow B 59 3 v2 (L1.length + 1) (L1.flatMap mcells ++ mcells m)) {o : Obj} (hg : (wx.alloc o).grownBy wy v.ownBlock)
    (hl : v2.ownBlock = v.ownBlock ∨ v2.ownBlock = some (wx.alloc o).heap.size) : Put B (L1 ++ [m]) u v2 bm m w wy := by
  refine put_then h ?_ ((World.grownBy_alloc wx o _).trans hg) (near_alloc hl)
  rw [List.length_append, List.flatMap_append]
  simpa using ho

set_option maxHeartbeats 16000000 in
set_option maxRecDepth 100000 in
theorem mb_any (xs ys : List ByteArray) (g b5 b6 B : Nat) (mv fv ov : Value) (hx : xs.length ≤ 2147483647) (hy : ys.length ≤ 2147483647) (hsx : ∀ s ∈ xs, s.size ≤ 2147483647) (hsy : ∀ s ∈ ys, s.size ≤ 2147483647) (f : Nat) :
    ∀ (alo ahi blo bhi : Nat) (u : Value) (L : List M3) (w w0 : World), ahi - alo < f → alo ≤ ahi → ahi ≤ xs.length → blo ≤ bhi → bhi ≤ ys.length → Mat w0 g xs ys mv fv ov →
      w0.cell? ⟨b5, 0, none⟩ = some (.pointer (some ⟨g, 0, none⟩)) → w0.cell? ⟨b6, 0, none⟩ = some (fnv b5 b6) → w0.heap.size = B → Below B w0 w → w.ownsRow B 59 3 u L.length (L.flatMap mcells) → L.length + (ahi - alo) ≤ 2147483648 →
      Calls Tryd.prog 27 #[.int .i64 alo, .int .i64 ahi, .int .i64 blo, .int .i64 bhi, u, .pointer (some ⟨b5, 0, none⟩), .pointer (some ⟨b6, 0, none⟩)] w (MbOut B (L ++ mb xs ys f alo ahi blo bhi) u w) := by
  induction f with
  | zero => intro alo ahi blo bhi u L w w0 hf; omega
  | succ f ih =>
    intro alo ahi blo bhi u L w w0 hf ha hah hb hbh hm h5 h6 hB hbw hown hlen
    obtain ⟨i0, hi, hz0, hz1, hz2⟩ := info_parts infoM
    have hb5 := World.block_lt_of_cell? w0 _ h5
    have hb6 := World.block_lt_of_cell? w0 _ h6
    simp only at hb5 hb6
    have d5 : w.cell? ⟨b5, 0, none⟩ = some (.pointer (some ⟨g, 0, none⟩)) := by rw [hbw.cell (p := ⟨b5, 0, none⟩) (by simp only; omega)]; exact h5
    have hmw : Mat w g xs ys mv fv ov := hm.below (by rw [hB]; exact hbw)
    have CL := longest_any xs ys g mv fv ov alo ahi blo bhi w hmw hx hy hsx hsy ha hah hb hbh
    have hft := fl_fits (xs := xs) (ys := ys) ha hb
    have hml := mb_len (xs := xs) (ys := ys) (f := f + 1) ha hb
    obtain ⟨T, hT⟩ : ∃ T, mb xs ys (f + 1) alo ahi blo bhi = T := ⟨_, rfl⟩
    rw [hT] at hml ⊢
    unfold mb at hT
    obtain ⟨m, hme⟩ : ∃ m, fl xs ys alo ahi blo bhi = m := ⟨_, rfl⟩
    rw [hme] at CL hft hT
    obtain ⟨i, j, k⟩ := m
    simp only at hT
    obtain ⟨f1, f2, f3, f4, _⟩ := hft
    simp only at f1 f2 f3 f4
    have hbsz : B ≤ w.heap.size := by rw [← hB]; have := hbw.size; omega
    have hge := row_ge hown
    have HCL := Lib.hid CL
    have HT := Lib.hid hT
    have HOwn := Lib.hid hown
    have HBw := Lib.hid hbw
    have HM := Lib.hid hm
    have H5 := Lib.hid h5
    have H6 := Lib.hid h6
    have HIh := Lib.hid ih
    have HSx := Lib.hid hsx
    have HSy := Lib.hid hsy
    have HBB := Lib.hid hB
    have HGe := Lib.hid hge
    clear CL hT hown hbw hm h5 h6 ih hsx hsy hmw hme hB hge
    go_enter Tryd.func27, Tryd.ntmps27
    go_wp2_with fail
    refine HCL.out.mono ?_
    rintro e w1 ⟨rfl, hb1⟩
    have hz1' : w.heap.size ≤ w1.heap.size := hb1.size
    have HB1 := Lib.hid hb1
    clear hb1
    go_wp2_with fail
    go_quiet (fail)
    have hP0 : Hid (Put B L u u w1.heap.size (i, j, k) w ((w1.alloc (.cells #[.int .i64 i, .int .i64 j, .int .i64 k] 59)).drewN nq)) := by
      have hbb : Below w.heap.size w ((w1.alloc (.cells #[.int .i64 i, .int .i64 j, .int .i64 k] 59)).drewN nq) := below_drewN (HB1.out.alloc HB1.out.size _) nq
      exact ⟨row_kept HOwn.out hbb, only_below hbb _, Near.refl _ _, Whole.made w1 _ _, fun e => by have := HGe.out _ e; omega⟩
    have e2 : ((w1.alloc (.cells #[.int .i64 i, .int .i64 j, .int .i64 k] 59)).drewN nq).cell? ⟨w1.heap.size, 2, none⟩ = some (.int .i64 k) := hP0.out.2.2.2.1.cell 2
    obtain ⟨W2, hW2⟩ : ∃ W2, (w1.alloc (.cells #[.int .i64 i, .int .i64 j, .int .i64 k] 59)).drewN nq = W2 := ⟨_, rfl⟩
    rw [hW2] at hP0 e2 ⊢
    clear hW2 d5
    by_cases hk : k = 0
    · have hT0 : T = [] := by rw [← HT.out, if_pos hk]
      have hfin : Hid (MbOut B (L ++ T) u w (.returned u) W2) := by
        rw [hT0, List.append_nil]
        exact ⟨u, rfl, hP0.out.1, hP0.out.2.1, Near.refl _ _⟩
      have hk1 : (k : Int) ≤ 0 := by omega
      clear hT0
      go_wp2
      go_ret
      exact hfin.out
    · have hk1 : (0 : Int) < (k : Int) := by omega
      have HP0 := hP0
      rcases (show (alo < i ∧ blo < j) ∨ (alo < i ∧ j ≤ blo) ∨ i ≤ alo by omega) with ⟨l1, l2⟩ | ⟨l1, l2⟩ | l1
      · have d6 : W2.cell? ⟨b6, 0, none⟩ = some (fnv b5 b6) := by
          rw [(below_of_put HP0.out hbsz HBw.out HGe.out).cell (p := ⟨b6, 0, none⟩) (by simp only; have := HBB.out; omega)]; exact H6.out
        unfold fnv at d6
        have CI := HIh.out alo i blo j u L W2 w0 (by omega) (by omega) (by omega) (by omega) (by omega) HM.out H5.out H6.out HBB.out (below_of_put HP0.out hbsz HBw.out HGe.out) HP0.out.1 (by omega)
        have HCI := Lib.hid CI
        have l1' : (alo : Int) < (i : Int) := by omega
        have l2' : (blo : Int) < (j : Int) := by omega
        clear CI
        go_wp2_with fail
        refine HCI.out.mono ?_
        rintro e W3 ⟨v1, rfl, hown1, hg1, hn1⟩
        have hP1 : Hid (Put B (L ++ (if alo < i ∧ blo < j then mb xs ys f alo i blo j else [])) u v1 w1.heap.size (i, j, k) w W3) := by
          rw [if_pos ⟨l1, l2⟩]
          exact put_then HP0.out hown1 hg1 hn1
        clear d6 hP0 e2 hown1 hg1 hn1
        obtain ⟨L1, hL1⟩ : ∃ L1, L ++ (if alo < i ∧ blo < j then mb xs ys f alo i blo j else []) = L1 := ⟨_, rfl⟩
        rw [hL1] at hP1
        have hlen1 : L1.length + 1 + (if i + k < ahi ∧ j + k < bhi then mb xs ys f (i + k) ahi (j + k) bhi else []).length = L.length + T.length := by
          rw [← hL1, ← HT.out, if_neg hk]
          simp only [List.length_append, List.length_cons]
          omega
        have HL1 := Lib.hid hL1
        have hnews := Ss.news_one W3 #[.int .i64 i, .int .i64 j, .int .i64 k] 59
        have hone : ∀ u ∈ [Value.int .i64 (i : Int), .int .i64 (j : Int), .int .i64 (k : Int)], u.oneCell' = true := by intro u hu; simp at hu; rcases hu with rfl | rfl | rfl <;> rfl
        have hgb := below_of_put hP1.out hbsz HBw.out HGe.out
        have hBs3 : B ≤ W3.heap.size := by have := hP1.out.2.1.size; omega
        have m0 : W3.cell? ⟨w1.heap.size, 0, none⟩ = some (.int .i64 i) := hP1.out.2.2.2.1.cell 0
        have m1 : W3.cell? ⟨w1.heap.size, 1, none⟩ = some (.int .i64 j) := hP1.out.2.2.2.1.cell 1
        have m2 : W3.cell? ⟨w1.heap.size, 2, none⟩ = some (.int .i64 k) := hP1.out.2.2.2.1.cell 2
        have HNews := Lib.hid hnews
        have HOne := Lib.hid hone
        have hl1 : L1.length + 1 ≤ 2147483648 := by
          have := hlen1
          omega
        clear hL1 hnews hone hgb
        rcases (show (i + k < ahi ∧ j + k < bhi) ∨ (i + k < ahi ∧ bhi ≤ j + k) ∨ ahi ≤ i + k by omega) with ⟨s1, s2⟩ | ⟨s1, s2⟩ | s1
        · have s1' : (i : Int) + (k : Int) < (ahi : Int) := by omega
          have s2' : (j : Int) + (k : Int) < (bhi : Int) := by omega
          have hT1 : L ++ T = (L1 ++ [(i, j, k)]) ++ mb xs ys f (i + k) ahi (j + k) bhi := by
            rw [← HL1.out, ← HT.out, if_neg hk, if_pos (show i + k < ahi ∧ j + k < bhi from ⟨s1, s2⟩)]
            simp
          have hl2 : (L1 ++ [(i, j, k)]).length + (ahi - (i + k)) ≤ 2147483648 := by
            rw [List.length_append, List.length_singleton]
            have := mb_len (xs := xs) (ys := ys) (f := f) f1 f3
            have h7 : L1.length ≤ L.length + (i - alo) := by
              rw [← HL1.out, List.length_append]
              split
              · omega
              · simp
            omega
          have HT1 := Lib.hid hT1
          clear hlen1 hT1
          go_wp2_with (first
            | (at_builtin; refine wpList_append_own_at _ rfl _ _ 52 rfl B 59 i0 (.agg #[.int .i64 0, .int .i64 0, .int .i64 0]) 3 24 Tryd.underlying52 hi hz0 hz1 hz2 rfl (by decide) _ _ _ rfl (hP1.out.1.alloc _) ⟨W3.heap.size, 0, none⟩ 1 1 [.int .i64 i, .int .i64 j, .int .i64 k] rfl rfl HNews.out HOne.out (by unfold maxLen; omega) (by omega) (by simp; omega) ?_; intro v2 W4 hown2 hgrow2 hnil2 hloc2; have hP2 : Hid (Put B (L1 ++ [(i, j, k)]) u v2 w1.heap.size (i, j, k) w W4) := put_app hP1.out hown2 hgrow2 hloc2; clear hown2 hgrow2 hnil2 hloc2; have d6 := put_b6 hP2.out hbsz HBw.out HGe.out (by have := HBB.out; omega) H6.out; unfold fnv at d6))
          have CI := HIh.out (i + k) ahi (j + k) bhi v2 (L1 ++ [(i, j, k)]) W4 w0 (by omega) (by omega) (by omega) (by omega) (by omega) HM.out H5.out H6.out HBB.out (below_of_put hP2.out hbsz HBw.out HGe.out) hP2.out.1 hl2
          rw [Int.natCast_add, Int.natCast_add] at CI
          have HCI2 := Lib.hid CI
          clear CI
          go_wp2_with fail
          refine HCI2.out.mono ?_
          rintro e W5 ⟨v3, rfl, hown3, hg3, hn3⟩
          have hP3 := put_then hP2.out hown3 hg3 hn3
          have hfin : Hid (MbOut B (L ++ T) u w (.returned v3) W5) := by
            rw [HT1.out]
            exact ⟨v3, rfl, hP3.1, hP3.2.1, hP3.2.2.1⟩
          clear hP3 hown3 hg3 hn3 d6
          go_wp2
          go_ret
          exact hfin.out
        · have s1' : (i : Int) + (k : Int) < (ahi : Int) := by omega
          have s2' : (bhi : Int) ≤ (j : Int) + (k : Int) := by omega
          have hT1 : L ++ T = L1 ++ [(i, j, k)] := by
            rw [← HL1.out, ← HT.out, if_neg hk, if_neg (show ¬ (i + k < ahi ∧ j + k < bhi) by omega)]
            simp
          have HT1 := Lib.hid hT1
          clear hlen1 hT1
          go_wp2_with (first
            | (at_builtin; refine wpList_append_own_at _ rfl _ _ 52 rfl B 59 i0 (.agg #[.int .i64 0, .int .i64 0, .int .i64 0]) 3 24 Tryd.underlying52 hi hz0 hz1 hz2 rfl (by decide) _ _ _ rfl (hP1.out.1.alloc _) ⟨W3.heap.size, 0, none⟩ 1 1 [.int .i64 i, .int .i64 j, .int .i64 k] rfl rfl HNews.out HOne.out (by unfold maxLen; omega) (by omega) (by simp; omega) ?_; intro v2 W4 hown2 hgrow2 hnil2 hloc2; have hP2 : Hid (Put B (L1 ++ [(i, j, k)]) u v2 w1.heap.size (i, j, k) w W4) := put_app hP1.out hown2 hgrow2 hloc2; clear hown2 hgrow2 hnil2 hloc2; have d6 := put_b6 hP2.out hbsz HBw.out HGe.out (by have := HBB.out; omega) H6.out; unfold fnv at d6))
          have hfin : Hid (MbOut B (L ++ T) u w (.returned v2) W4) := by
            rw [HT1.out]
            exact ⟨v2, rfl, hP2.out.1, hP2.out.2.1, hP2.out.2.2.1⟩
          clear d6
          go_wp2
          go_ret
          exact hfin.out
        · have s1' : (ahi : Int) ≤ (i : Int) + (k : Int) := by omega
          have hT1 : L ++ T = L1 ++ [(i, j, k)] := by
            rw [← HL1.out, ← HT.out, if_neg hk, if_neg (show ¬ (i + k < ahi ∧ j + k < bhi) by omega)]
            simp
          have HT1 := Lib.hid hT1
          clear hlen1 hT1
          go_wp2_with (first
            | (at_builtin; refine wpList_append_own_at _ rfl _ _ 52 rfl B 59 i0 (.agg #[.int .i64 0, .int .i64 0, .int .i64 0]) 3 24 Tryd.underlying52 hi hz0 hz1 hz2 rfl (by decide) _ _ _ rfl (hP1.out.1.alloc _) ⟨W3.heap.size, 0, none⟩ 1 1 [.int .i64 i, .int .i64 j, .int .i64 k] rfl rfl HNews.out HOne.out (by unfold maxLen; omega) (by omega) (by simp; omega) ?_; intro v2 W4 hown2 hgrow2 hnil2 hloc2; have hP2 : Hid (Put B (L1 ++ [(i, j, k)]) u v2 w1.heap.size (i, j, k) w W4) := put_app hP1.out hown2 hgrow2 hloc2; clear hown2 hgrow2 hnil2 hloc2; have d6 := put_b6 hP2.out hbsz HBw.out HGe.out (by have := HBB.out; omega) H6.out; unfold fnv at d6))
          have hfin : Hid (MbOut B (L ++ T) u w (.returned v2) W4) := by
            rw [HT1.out]
            exact ⟨v2, rfl, hP2.out.1, hP2.out.2.1, hP2.out.2.2.1⟩
          clear d6
          go_wp2
          go_ret
          exact hfin.out
      · have l1' : (alo : Int) < (i : Int) := by omega
        have l2' : (j : Int) ≤ (blo : Int) := by omega
        obtain ⟨W3, rfl⟩ : ∃ W3, W3 = W2 := ⟨_, rfl⟩
        have hP1 : Hid (Put B (L ++ (if alo < i ∧ blo < j then mb xs ys f alo i blo j else [])) u u w1.heap.size (i, j, k) w W3) := by
          rw [if_neg (show ¬ (alo < i ∧ blo < j) by omega), List.append_nil]
          exact HP0.out
        clear hP0
        obtain ⟨L1, hL1⟩ : ∃ L1, L ++ (if alo < i ∧ blo < j then mb xs ys f alo i blo j else []) = L1 := ⟨_, rfl⟩
        rw [hL1] at hP1
        have hlen1 : L1.length + 1 + (if i + k < ahi ∧ j + k < bhi then mb xs ys f (i + k) ahi (j + k) bhi else []).length = L.length + T.length := by
          rw [← hL1, ← HT.out, if_neg hk]
          simp only [List.length_append, List.length_cons]
          omega
        have HL1 := Lib.hid hL1
        have hnews := Ss.news_one W3 #[.int .i64 i, .int .i64 j, .int .i64 k] 59
        have hone : ∀ u ∈ [Value.int .i64 (i : Int), .int .i64 (j : Int), .int .i64 (k : Int)], u.oneCell' = true := by intro u hu; simp at hu; rcases hu with rfl | rfl | rfl <;> rfl
        have hgb := below_of_put hP1.out hbsz HBw.out HGe.out
        have hBs3 : B ≤ W3.heap.size := by have := hP1.out.2.1.size; omega
        have m0 : W3.cell? ⟨w1.heap.size, 0, none⟩ = some (.int .i64 i) := hP1.out.2.2.2.1.cell 0
        have m1 : W3.cell? ⟨w1.heap.size, 1, none⟩ = some (.int .i64 j) := hP1.out.2.2.2.1.cell 1
        have m2 : W3.cell? ⟨w1.heap.size, 2, none⟩ = some (.int .i64 k) := hP1.out.2.2.2.1.cell 2
        have HNews := Lib.hid hnews
        have HOne := Lib.hid hone
        have hl1 : L1.length + 1 ≤ 2147483648 := by
          have := hlen1
          omega
        clear hL1 hnews hone hgb
        rcases (show (i + k < ahi ∧ j + k < bhi) ∨ (i + k < ahi ∧ bhi ≤ j + k) ∨ ahi ≤ i + k by omega) with ⟨s1, s2⟩ | ⟨s1, s2⟩ | s1
        · have s1' : (i : Int) + (k : Int) < (ahi : Int) := by omega
          have s2' : (j : Int) + (k : Int) < (bhi : Int) := by omega
          have hT1 : L ++ T = (L1 ++ [(i, j, k)]) ++ mb xs ys f (i + k) ahi (j + k) bhi := by
            rw [← HL1.out, ← HT.out, if_neg hk, if_pos (show i + k < ahi ∧ j + k < bhi from ⟨s1, s2⟩)]
            simp
          have hl2 : (L1 ++ [(i, j, k)]).length + (ahi - (i + k)) ≤ 2147483648 := by
            rw [List.length_append, List.length_singleton]
            have := mb_len (xs := xs) (ys := ys) (f := f) f1 f3
            have h7 : L1.length ≤ L.length + (i - alo) := by
              rw [← HL1.out, List.length_append]
              split
              · omega
              · simp
            omega
          have HT1 := Lib.hid hT1
          clear hlen1 hT1
          go_wp2_with (first
            | (at_builtin; refine wpList_append_own_at _ rfl _ _ 52 rfl B 59 i0 (.agg #[.int .i64 0, .int .i64 0, .int .i64 0]) 3 24 Tryd.underlying52 hi hz0 hz1 hz2 rfl (by decide) _ _ _ rfl (hP1.out.1.alloc _) ⟨W3.heap.size, 0, none⟩ 1 1 [.int .i64 i, .int .i64 j, .int .i64 k] rfl rfl HNews.out HOne.out (by unfold maxLen; omega) (by omega) (by simp; omega) ?_; intro v2 W4 hown2 hgrow2 hnil2 hloc2; have hP2 : Hid (Put B (L1 ++ [(i, j, k)]) u v2 w1.heap.size (i, j, k) w W4) := put_app hP1.out hown2 hgrow2 hloc2; clear hown2 hgrow2 hnil2 hloc2; have d6 := put_b6 hP2.out hbsz HBw.out HGe.out (by have := HBB.out; omega) H6.out; unfold fnv at d6))
          have CI := HIh.out (i + k) ahi (j + k) bhi v2 (L1 ++ [(i, j, k)]) W4 w0 (by omega) (by omega) (by omega) (by omega) (by omega) HM.out H5.out H6.out HBB.out (below_of_put hP2.out hbsz HBw.out HGe.out) hP2.out.1 hl2
          rw [Int.natCast_add, Int.natCast_add] at CI
          have HCI2 := Lib.hid CI
          clear CI
          go_wp2_with fail
          refine HCI2.out.mono ?_
          rintro e W5 ⟨v3, rfl, hown3, hg3, hn3⟩
          have hP3 := put_then hP2.out hown3 hg3 hn3
          have hfin : Hid (MbOut B (L ++ T) u w (.returned v3) W5) := by
            rw [HT1.out]
            exact ⟨v3, rfl, hP3.1, hP3.2.1, hP3.2.2.1⟩
          clear hP3 hown3 hg3 hn3 d6
          go_wp2
          go_ret
          exact hfin.out
        · have s1' : (i : Int) + (k : Int) < (ahi : Int) := by omega
          have s2' : (bhi : Int) ≤ (j : Int) + (k : Int) := by omega
          have hT1 : L ++ T = L1 ++ [(i, j, k)] := by
            rw [← HL1.out, ← HT.out, if_neg hk, if_neg (show ¬ (i + k < ahi ∧ j + k < bhi) by omega)]
            simp
          have HT1 := Lib.hid hT1
          clear hlen1 hT1
          go_wp2_with (first
            | (at_builtin; refine wpList_append_own_at _ rfl _ _ 52 rfl B 59 i0 (.agg #[.int .i64 0, .int .i64 0, .int .i64 0]) 3 24 Tryd.underlying52 hi hz0 hz1 hz2 rfl (by decide) _ _ _ rfl (hP1.out.1.alloc _) ⟨W3.heap.size, 0, none⟩ 1 1 [.int .i64 i, .int .i64 j, .int .i64 k] rfl rfl HNews.out HOne.out (by unfold maxLen; omega) (by omega) (by simp; omega) ?_; intro v2 W4 hown2 hgrow2 hnil2 hloc2; have hP2 : Hid (Put B (L1 ++ [(i, j, k)]) u v2 w1.heap.size (i, j, k) w W4) := put_app hP1.out hown2 hgrow2 hloc2; clear hown2 hgrow2 hnil2 hloc2; have d6 := put_b6 hP2.out hbsz HBw.out HGe.out (by have := HBB.out; omega) H6.out; unfold fnv at d6))
          have hfin : Hid (MbOut B (L ++ T) u w (.returned v2) W4) := by
            rw [HT1.out]
            exact ⟨v2, rfl, hP2.out.1, hP2.out.2.1, hP2.out.2.2.1⟩
          clear d6
          go_wp2
          go_ret
          exact hfin.out
        · have s1' : (ahi : Int) ≤ (i : Int) + (k : Int) := by omega
          have hT1 : L ++ T = L1 ++ [(i, j, k)] := by
            rw [← HL1.out, ← HT.out, if_neg hk, if_neg (show ¬ (i + k < ahi ∧ j + k < bhi) by omega)]
            simp
          have HT1 := Lib.hid hT1
          clear hlen1 hT1
          go_wp2_with (first
            | (at_builtin; refine wpList_append_own_at _ rfl _ _ 52 rfl B 59 i0 (.agg #[.int .i64 0, .int .i64 0, .int .i64 0]) 3 24 Tryd.underlying52 hi hz0 hz1 hz2 rfl (by decide) _ _ _ rfl (hP1.out.1.alloc _) ⟨W3.heap.size, 0, none⟩ 1 1 [.int .i64 i, .int .i64 j, .int .i64 k] rfl rfl HNews.out HOne.out (by unfold maxLen; omega) (by omega) (by simp; omega) ?_; intro v2 W4 hown2 hgrow2 hnil2 hloc2; have hP2 : Hid (Put B (L1 ++ [(i, j, k)]) u v2 w1.heap.size (i, j, k) w W4) := put_app hP1.out hown2 hgrow2 hloc2; clear hown2 hgrow2 hnil2 hloc2; have d6 := put_b6 hP2.out hbsz HBw.out HGe.out (by have := HBB.out; omega) H6.out; unfold fnv at d6))
          have hfin : Hid (MbOut B (L ++ T) u w (.returned v2) W4) := by
            rw [HT1.out]
            exact ⟨v2, rfl, hP2.out.1, hP2.out.2.1, hP2.out.2.2.1⟩
          clear d6
          go_wp2
          go_ret
          exact hfin.out
      · have l1' : (i : Int) ≤ (alo : Int) := by omega
        obtain ⟨W3, rfl⟩ : ∃ W3, W3 = W2 := ⟨_, rfl⟩
        have hP1 : Hid (Put B (L ++ (if alo < i ∧ blo < j then mb xs ys f alo i blo j else [])) u u w1.heap.size (i, j, k) w W3) := by
          rw [if_neg (show ¬ (alo < i ∧ blo < j) by omega), List.append_nil]
          exact HP0.out
        clear hP0
        obtain ⟨L1, hL1⟩ : ∃ L1, L ++ (if alo < i ∧ blo < j then mb xs ys f alo i blo j else []) = L1 := ⟨_, rfl⟩
        rw [hL1] at hP1
        have hlen1 : L1.length + 1 + (if i + k < ahi ∧ j + k < bhi then mb xs ys f (i + k) ahi (j + k) bhi else []).length = L.length + T.length := by
          rw [← hL1, ← HT.out, if_neg hk]
          simp only [List.length_append, List.length_cons]
          omega
        have HL1 := Lib.hid hL1
        have hnews := Ss.news_one W3 #[.int .i64 i, .int .i64 j, .int .i64 k] 59
        have hone : ∀ u ∈ [Value.int .i64 (i : Int), .int .i64 (j : Int), .int .i64 (k : Int)], u.oneCell' = true := by intro u hu; simp at hu; rcases hu with rfl | rfl | rfl <;> rfl
        have hgb := below_of_put hP1.out hbsz HBw.out HGe.out
        have hBs3 : B ≤ W3.heap.size := by have := hP1.out.2.1.size; omega
        have m0 : W3.cell? ⟨w1.heap.size, 0, none⟩ = some (.int .i64 i) := hP1.out.2.2.2.1.cell 0
        have m1 : W3.cell? ⟨w1.heap.size, 1, none⟩ = some (.int .i64 j) := hP1.out.2.2.2.1.cell 1
        have m2 : W3.cell? ⟨w1.heap.size, 2, none⟩ = some (.int .i64 k) := hP1.out.2.2.2.1.cell 2
        have HNews := Lib.hid hnews
        have HOne := Lib.hid hone
        have hl1 : L1.length + 1 ≤ 2147483648 := by
          have := hlen1
          omega
        clear hL1 hnews hone hgb
        rcases (show (i + k < ahi ∧ j + k < bhi) ∨ (i + k < ahi ∧ bhi ≤ j + k) ∨ ahi ≤ i + k by omega) with ⟨s1, s2⟩ | ⟨s1, s2⟩ | s1
        · have s1' : (i : Int) + (k : Int) < (ahi : Int) := by omega
          have s2' : (j : Int) + (k : Int) < (bhi : Int) := by omega
          have hT1 : L ++ T = (L1 ++ [(i, j, k)]) ++ mb xs ys f (i + k) ahi (j + k) bhi := by
            rw [← HL1.out, ← HT.out, if_neg hk, if_pos (show i + k < ahi ∧ j + k < bhi from ⟨s1, s2⟩)]
            simp
          have hl2 : (L1 ++ [(i, j, k)]).length + (ahi - (i + k)) ≤ 2147483648 := by
            rw [List.length_append, List.length_singleton]
            have := mb_len (xs := xs) (ys := ys) (f := f) f1 f3
            have h7 : L1.length ≤ L.length + (i - alo) := by
              rw [← HL1.out, List.length_append]
              split
              · omega
              · simp
            omega
          have HT1 := Lib.hid hT1
          clear hlen1 hT1
          go_wp2_with (first
            | (at_builtin; refine wpList_append_own_at _ rfl _ _ 52 rfl B 59 i0 (.agg #[.int .i64 0, .int .i64 0, .int .i64 0]) 3 24 Tryd.underlying52 hi hz0 hz1 hz2 rfl (by decide) _ _ _ rfl (hP1.out.1.alloc _) ⟨W3.heap.size, 0, none⟩ 1 1 [.int .i64 i, .int .i64 j, .int .i64 k] rfl rfl HNews.out HOne.out (by unfold maxLen; omega) (by omega) (by simp; omega) ?_; intro v2 W4 hown2 hgrow2 hnil2 hloc2; have hP2 : Hid (Put B (L1 ++ [(i, j, k)]) u v2 w1.heap.size (i, j, k) w W4) := put_app hP1.out hown2 hgrow2 hloc2; clear hown2 hgrow2 hnil2 hloc2; have d6 := put_b6 hP2.out hbsz HBw.out HGe.out (by have := HBB.out; omega) H6.out; unfold fnv at d6))
          have CI := HIh.out (i + k) ahi (j + k) bhi v2 (L1 ++ [(i, j, k)]) W4 w0 (by omega) (by omega) (by omega) (by omega) (by omega) HM.out H5.out H6.out HBB.out (below_of_put hP2.out hbsz HBw.out HGe.out) hP2.out.1 hl2
          rw [Int.natCast_add, Int.natCast_add] at CI
          have HCI2 := Lib.hid CI
          clear CI
          go_wp2_with fail
          refine HCI2.out.mono ?_
          rintro e W5 ⟨v3, rfl, hown3, hg3, hn3⟩
          have hP3 := put_then hP2.out hown3 hg3 hn3
          have hfin : Hid (MbOut B (L ++ T) u w (.returned v3) W5) := by
            rw [HT1.out]
            exact ⟨v3, rfl, hP3.1, hP3.2.1, hP3.2.2.1⟩
          clear hP3 hown3 hg3 hn3 d6
          go_wp2
          go_ret
          exact hfin.out
        · have s1' : (i : Int) + (k : Int) < (ahi : Int) := by omega
          have s2' : (bhi : Int) ≤ (j : Int) + (k : Int) := by omega
          have hT1 : L ++ T = L1 ++ [(i, j, k)] := by
            rw [← HL1.out, ← HT.out, if_neg hk, if_neg (show ¬ (i + k < ahi ∧ j + k < bhi) by omega)]
            simp
          have HT1 := Lib.hid hT1
          clear hlen1 hT1
          go_wp2_with (first
            | (at_builtin; refine wpList_append_own_at _ rfl _ _ 52 rfl B 59 i0 (.agg #[.int .i64 0, .int .i64 0, .int .i64 0]) 3 24 Tryd.underlying52 hi hz0 hz1 hz2 rfl (by decide) _ _ _ rfl (hP1.out.1.alloc _) ⟨W3.heap.size, 0, none⟩ 1 1 [.int .i64 i, .int .i64 j, .int .i64 k] rfl rfl HNews.out HOne.out (by unfold maxLen; omega) (by omega) (by simp; omega) ?_; intro v2 W4 hown2 hgrow2 hnil2 hloc2; have hP2 : Hid (Put B (L1 ++ [(i, j, k)]) u v2 w1.heap.size (i, j, k) w W4) := put_app hP1.out hown2 hgrow2 hloc2; clear hown2 hgrow2 hnil2 hloc2; have d6 := put_b6 hP2.out hbsz HBw.out HGe.out (by have := HBB.out; omega) H6.out; unfold fnv at d6))
          have hfin : Hid (MbOut B (L ++ T) u w (.returned v2) W4) := by
            rw [HT1.out]
            exact ⟨v2, rfl, hP2.out.1, hP2.out.2.1, hP2.out.2.2.1⟩
          clear d6
          go_wp2
          go_ret
          exact hfin.out
        · have s1' : (ahi : Int) ≤ (i : Int) + (k : Int) := by omega
          have hT1 : L ++ T = L1 ++ [(i, j, k)] := by
            rw [← HL1.out, ← HT.out, if_neg hk, if_neg (show ¬ (i + k < ahi ∧ j + k < bhi) by omega)]
            simp
          have HT1 := Lib.hid hT1
          clear hlen1 hT1
          go_wp2_with (first
            | (at_builtin; refine wpList_append_own_at _ rfl _ _ 52 rfl B 59 i0 (.agg #[.int .i64 0, .int .i64 0, .int .i64 0]) 3 24 Tryd.underlying52 hi hz0 hz1 hz2 rfl (by decide) _ _ _ rfl (hP1.out.1.alloc _) ⟨W3.heap.size, 0, none⟩ 1 1 [.int .i64 i, .int .i64 j, .int .i64 k] rfl rfl HNews.out HOne.out (by unfold maxLen; omega) (by omega) (by simp; omega) ?_; intro v2 W4 hown2 hgrow2 hnil2 hloc2; have hP2 : Hid (Put B (L1 ++ [(i, j, k)]) u v2 w1.heap.size (i, j, k) w W4) := put_app hP1.out hown2 hgrow2 hloc2; clear hown2 hgrow2 hnil2 hloc2; have d6 := put_b6 hP2.out hbsz HBw.out HGe.out (by have := HBB.out; omega) H6.out; unfold fnv at d6))
          have hfin : Hid (MbOut B (L ++ T) u w (.returned v2) W4) := by
            rw [HT1.out]
            exact ⟨v2, rfl, hP2.out.1, hP2.out.2.1, hP2.out.2.2.1⟩
          clear d6
          go_wp2
          go_ret
          exact hfin.out

end Go.Proofs.YtkmfedmiaannfaaDoor.Df
