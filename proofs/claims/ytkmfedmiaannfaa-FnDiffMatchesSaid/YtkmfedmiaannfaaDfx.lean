/- Differences of two lists: the walk of FnDiffMatches. -/
import Derived.Test.YtkmfedmiaannfaaDft
set_option linter.unusedVariables false
set_option linter.unusedSimpArgs false
namespace Go.Proofs.Ytkmfedmiaannfaa.Df
open Go.RowKit Go.Maps Go.WideMaps Go.ChangeShapes

/-- what is left of the blocks: they follow one another, and the last one is empty, at the ends -/
def Left (xs ys : List ByteArray) (i j : Nat) (L : List M3) : Prop := L = [] ∨ ∃ R, L = R ++ [(xs.length, ys.length, 0)] ∧ Chain xs ys i j xs.length ys.length R
theorem left_start (xs ys : List ByteArray) : Left xs ys 0 0 (blocks xs ys) := Or.inr ⟨_, rfl, blocks_chain⟩
theorem left_step {xs ys : List ByteArray} {i j : Nat} {m : M3} {L : List M3} (h : Left xs ys i j (m :: L)) :
    i ≤ m.1 ∧ j ≤ m.2.1 ∧ m.1 + m.2.2 ≤ xs.length ∧ m.2.1 + m.2.2 ≤ ys.length ∧ (m.2.2 = 0 → L = []) ∧ (∀ t, t < m.2.2 → el xs (m.1 + t) = el ys (m.2.1 + t)) ∧ Left xs ys (m.1 + m.2.2) (m.2.1 + m.2.2) L := by
  rcases h with h | ⟨R, h, hc⟩
  · cases h
  · cases R with
    | nil =>
      simp only [List.nil_append, List.cons.injEq] at h
      obtain ⟨rfl, rfl⟩ := h
      have hc1 : i ≤ xs.length ∧ j ≤ ys.length := hc
      exact ⟨hc1.1, hc1.2, Nat.le_refl _, Nat.le_refl _, fun _ => rfl, fun t h => absurd h (Nat.not_lt_zero _), Or.inl rfl⟩
    | cons b R =>
      simp only [List.cons_append, List.cons.injEq] at h
      obtain ⟨rfl, rfl⟩ := h
      obtain ⟨h1, h2, h3, h4, h5⟩ := hc
      have := chain_le h5
      exact ⟨h1, h2, this.1, this.2, fun e => by omega, h4, Or.inr ⟨R, rfl, h5⟩⟩
theorem parts_same {xs ys : List ByteArray} {a b k : Nat} (h1 : a + k ≤ xs.length) (h2 : b + k ≤ ys.length) (h : ∀ t, t < k → el xs (a + t) = el ys (b + t)) : (xs.drop a).take k = (ys.drop b).take k := by
  apply List.ext_getElem
  · simp; omega
  · intro i hi hi'
    simp only [List.length_take, List.length_drop] at hi
    have := h i (by omega)
    rw [el_get (by omega), el_get (by omega)] at this
    simpa using this
theorem blocks_last (xs ys : List ByteArray) : 0 < (blocks xs ys).length ∧ ∀ h : (blocks xs ys).length - 1 < (blocks xs ys).length, (blocks xs ys)[(blocks xs ys).length - 1] = (xs.length, ys.length, 0) := by
  unfold blocks
  refine ⟨by simp, fun h => ?_⟩
  simp

theorem same_true (v v1 : Value) (xs : List ByteArray) (w : World) (hv : Sl.Of Value.string w v xs) (hv1 : Sl.Of Value.string w v1 xs) :
    Calls Try.prog 19 #[v, v1] w fun e w' => e = .returned (.bool true) ∧ ∃ m, w' = w.drewN m := by
  have := same_any v v1 xs xs w hv hv1
  rw [show decide (xs = xs) = true by simp] at this
  exact this
theorem add_none (b o l : Nat) : (⟨b, o, none⟩ : Addr).add l = ⟨b, o + l, none⟩ := by unfold Addr.add; split <;> simp_all
theorem none_of {w : World} {c : Nat} (hc : c ≤ 9223372036854775807) (a : Option Addr) : Sl.Of Value.string w (.slice a 0 c) [] := Or.inl ⟨rfl, a, c, rfl, hc⟩
/-- a part of a slice, as the walk writes it -/
theorem part_of {w : World} {aa : Option Addr} {ca a k : Nat} {xs : List ByteArray} (h : Sl.Of Value.string w (.slice aa xs.length ca) xs) (h1 : a + k ≤ xs.length) (hc : xs.length ≤ ca) (hc2 : ca ≤ 9223372036854775807) :
    Sl.Of Value.string w (.slice (if ca = a then aa else aa.map (·.add a)) k (ca - a)) ((xs.drop a).take k) := by
  have := Of_part h a (a + k) (by omega) h1 (if ca = a then aa else aa.map (·.add a)) (ca - a) (by
    intro b off e hlt
    rw [if_neg (by omega), e]
    simp [add_none]) (by omega) (by omega)
  rw [show a + k - a = k by omega] at this
  exact this

set_option maxHeartbeats 16000000 in
set_option maxRecDepth 100000 in
theorem matches_any (xs ys : List ByteArray) (va vb : Value) (w : World) (hv : Sl.Of Value.string w va xs) (hv1 : Sl.Of Value.string w vb ys) (hsx : ∀ s ∈ xs, s.size ≤ 9223372036854775807) (hsy : ∀ s ∈ ys, s.size ≤ 9223372036854775807) :
    Calls Try.prog 5 #[va, vb] w (fun e w' => e = .returned (.bool true) ∧ Below w.heap.size w w') := by
  have CF1 := fits3_any va xs w hv hsx
  have CF2 := fits3_any vb ys w hv1 hsy
  obtain ⟨aa, ca, rfl, hca, hca2⟩ := Of_slice hv
  obtain ⟨ab, cb, rfl, hcb, hcb2⟩ := Of_slice hv1
  have HV := Lib.hid hv
  have HV1 := Lib.hid hv1
  have HF1 := Lib.hid CF1
  have HF2 := Lib.hid CF2
  clear hv hv1 CF1 CF2 hsx hsy
  go_enter Try.func5, Try.ntmps5
  go_wp2_with fail
  refine HF1.out.mono ?_
  rintro e w1 ⟨rfl, rfl⟩
  cases hf1 : fitsB xs with
  | false =>
    go_wp2_with fail
    go_ret
    exact ⟨rfl, Below.refl _ _⟩
  | true =>
    go_wp2_with fail
    refine HF2.out.mono ?_
    rintro e w1 ⟨rfl, rfl⟩
    cases hf2 : fitsB ys with
    | false =>
      go_wp2_with fail
      go_ret
      exact ⟨rfl, Below.refl _ _⟩
    | true =>
      obtain ⟨hx, hsx⟩ := fitsB_iff.1 hf1
      obtain ⟨hy, hsy⟩ := fitsB_iff.1 hf2
      have HCB := Lib.hid (implBlocks_any xs ys _ _ w HV.out HV1.out hx hy hsx hsy)
      have hbl := blocks_len (xs := xs) (ys := ys)
      obtain ⟨hl0, hlast⟩ := blocks_last xs ys
      have hls := left_start xs ys
      obtain ⟨T, hT⟩ : ∃ T, blocks xs ys = T := ⟨_, rfl⟩
      rw [hT] at HCB hbl hls
      have hl0' : 0 < T.length := by rw [← hT]; exact hl0
      have hlast' : ∀ h : T.length - 1 < T.length, T[T.length - 1] = (xs.length, ys.length, 0) := by subst hT; exact hlast
      have HLs := Lib.hid hls
      have HLast := Lib.hid hlast'
      clear hls hlast hlast' hl0 hT hsx hsy hf1 hf2
      go_wp2_with fail
      refine HCB.out.mono ?_
      rintro e W2 ⟨v, rfl, hof, hb2⟩
      obtain ⟨av, cv, rfl, hcv, hcv2⟩ := hof.slice
      rw [List.length_map] at *
      have HOf := Lib.hid hof
      have HB2 := Lib.hid hb2
      clear hof hb2
      go_wp2_with fail
      go_loopw [6, 7, 8] (fun vi vj vn wr => ∃ n i j : Nat, n ≤ T.length ∧ vi = .int .i64 (i : Int) ∧ vj = .int .i64 (j : Int) ∧ vn = .int .i64 (n : Int) ∧ Hid (Left xs ys i j (T.drop n)) ∧ Hid (Below W2.heap.size W2 wr)) (fun _ _ n _ => T.length - (intOf n).toNat)
      case atStart => exact ⟨0, 0, 0, Nat.zero_le _, rfl, rfl, rfl, by show Left _ _ _ _ _; rw [List.drop_zero]; exact HLs.out, Below.refl _ _⟩
      case round =>
        obtain ⟨n, i, j, hn, rfl, rfl, rfl, hleft, hbw⟩ := hrel
        by_cases hlt : n < T.length
        · obtain ⟨a, b, k, hb⟩ : ∃ a b k, T[n] = (a, b, k) := ⟨_, _, _, rfl⟩
          have hdr : T.drop n = (a, b, k) :: T.drop (n + 1) := by rw [← hb]; exact List.drop_eq_getElem_cons hlt
          have hl1 := hleft.out
          rw [hdr] at hl1
          obtain ⟨q1, q2, q3, q4, q5, q6, q7⟩ := left_step hl1
          simp only at q1 q2 q3 q4 q5 q6 q7
          have hnl : (T.map blk).length = T.length := List.length_map _
          have q5' : k = 0 → T.length ≤ n + 1 := fun e => by have := q5 e; rwa [List.drop_eq_nil_iff] at this
          obtain ⟨bq, oq, hav, hbq, d1, d2, d3, d4⟩ : ∃ b' off, av = some ⟨b', off, none⟩ ∧ b' < W2.heap.size ∧ W2.cell? ⟨b', off + n * 5 + 1, none⟩ = some (.int .i64 a) ∧ W2.cell? ⟨b', off + n * 5 + 2, none⟩ = some (.int .i64 (a + k : Nat)) ∧ W2.cell? ⟨b', off + n * 5 + 3, none⟩ = some (.int .i64 b) ∧ W2.cell? ⟨b', off + n * 5 + 4, none⟩ = some (.int .i64 (b + k : Nat)) := by
            rcases HOf.out with ⟨h, _⟩ | ⟨b', off, cap, h, h0, hcap, hm, hbb, hcell⟩
            · have h9 := congrArg List.length h
              rw [hnl, List.length_nil] at h9
              omega
            · injection h with h1 h2 h3
              have hg : (T.map blk)[n]'(by rw [hnl]; exact hlt) = (0, a, a + k, b, b + k) := by rw [List.getElem_map, hb]; rfl
              have hc := fun q u hu => hcell n (by rw [hnl]; exact hlt) q u hu
              rw [hg] at hc
              exact ⟨b', off, h1, hbb, by rw [Nat.add_assoc]; exact hc 1 _ rfl, by rw [Nat.add_assoc]; exact hc 2 _ rfl, by rw [Nat.add_assoc]; exact hc 3 _ rfl, by rw [Nat.add_assoc]; exact hc 4 _ rfl⟩
          subst hav
          have c1 : wr.cell? ⟨bq, oq + n * 5 + 1, none⟩ = some (.int .i64 a) := by rw [hbw.out.cell (p := ⟨bq, oq + n * 5 + 1, none⟩) hbq]; exact d1
          have c2 : wr.cell? ⟨bq, oq + n * 5 + 2, none⟩ = some (.int .i64 (a + k : Nat)) := by rw [hbw.out.cell (p := ⟨bq, oq + n * 5 + 2, none⟩) hbq]; exact d2
          have c3 : wr.cell? ⟨bq, oq + n * 5 + 3, none⟩ = some (.int .i64 b) := by rw [hbw.out.cell (p := ⟨bq, oq + n * 5 + 3, none⟩) hbq]; exact d3
          have c4 : wr.cell? ⟨bq, oq + n * 5 + 4, none⟩ = some (.int .i64 (b + k : Nat)) := by rw [hbw.out.cell (p := ⟨bq, oq + n * 5 + 4, none⟩) hbq]; exact d4
          rw [Int.natCast_add] at c2 c4
          have HQ6 := Lib.hid q6
          have HQ7 := Lib.hid q7
          have z1 : (0 : Int) ≤ (n : Int) := by omega
          have z2 : (n : Int) < (T.length : Int) := by omega
          have f1 : (i : Int) ≤ (a : Int) := by omega
          have f2 : (j : Int) ≤ (b : Int) := by omega
          have f3 : (0 : Int) ≤ (k : Int) := by omega
          have f4 : (a : Int) + (k : Int) ≤ (xs.length : Int) := by omega
          have f5 : (b : Int) + (k : Int) ≤ (ys.length : Int) := by omega
          have f6 : (a : Int) + (k : Int) - (a : Int) = (k : Int) := by omega
          clear d1 d2 d3 d4 hb hdr hl1 hleft q5 q6 q7 hnl
          by_cases hk : k = 0
          · have f8 : (T.length : Int) - 1 ≤ (n : Int) := by have := q5' hk; omega
            subst hk
            rw [Int.natCast_zero, Int.add_zero] at c2 c4 f4 f5
            rw [Int.natCast_zero] at f3
            rw [Nat.add_zero, Nat.add_zero] at HQ7
            clear q5' HQ6 f6
            go_wp2_with fail
            go_quiet (fail)
            have hb1 : Hid (Below W2.heap.size W2 (wr.drewN nq)) := below_drewN hbw.out nq
            have e1 : (wr.drewN nq).cell? ⟨bq, oq + n * 5 + 1, none⟩ = some (.int .i64 a) := c1
            have e3 : (wr.drewN nq).cell? ⟨bq, oq + n * 5 + 3, none⟩ = some (.int .i64 b) := c3
            clear c1 c2 c3 c4 hbw
            generalize wr.drewN nq = Wa at *
            go_wp2_with fail
            go_quiet (fail)
            have hb2 : Hid (Below W2.heap.size W2 (Wa.drewN nq)) := below_drewN hb1.out _
            have g1 : (Wa.drewN nq).cell? ⟨bq, oq + n * 5 + 1, none⟩ = some (.int .i64 a) := e1
            have g3 : (Wa.drewN nq).cell? ⟨bq, oq + n * 5 + 3, none⟩ = some (.int .i64 b) := e3
            clear e1 e3 hb1
            generalize Wa.drewN nq = Wb at *
            have y1 : (0 : Int) ≤ (a : Int) := by omega
            have y3 : (a : Int) ≤ (ca : Int) := by omega
            have y4 : (0 : Int) ≤ (b : Int) := by omega
            have y6 : (b : Int) ≤ (cb : Int) := by omega
            have y9 : a - a = 0 := by omega
            have y0 : b - b = 0 := by omega
            go_wp2_with fail
            go_quiet ((go_at_call 19; go_loud (refine Calls.quiet_of (same_true _ _ ([] : List ByteArray) _ ?_ ?_); (first | exact none_of (by omega) _ | simpa [y9, y0] using none_of (by omega) _); (first | exact none_of (by omega) _ | simpa [y9, y0] using none_of (by omega) _))))
            have hb3 : Hid (Below W2.heap.size W2 (Wb.drewN nq)) := below_drewN hb2.out nq
            clear g1 g3 hb2
            generalize Wb.drewN nq = Wc at *
            go_wp2_with fail
            go_roundw
            case rel => exact ⟨n + 1, a, b, by omega, rfl, rfl, by go_num, HQ7.out, hb3.out⟩
            case measure => simp [intOf]; omega
          · have f7 : decide ((k : Int) = 0) = false := by rw [decide_eq_false_iff_not]; omega
            have f9 : decide (k = 0) = false := by rw [decide_eq_false_iff_not]; exact hk
            clear q5'
            go_wp2_with fail
            go_quiet (fail)
            have hb1 : Hid (Below W2.heap.size W2 (wr.drewN nq)) := below_drewN hbw.out nq
            have e1 : (wr.drewN nq).cell? ⟨bq, oq + n * 5 + 1, none⟩ = some (.int .i64 a) := c1
            have e3 : (wr.drewN nq).cell? ⟨bq, oq + n * 5 + 3, none⟩ = some (.int .i64 b) := c3
            have e2 : (wr.drewN nq).cell? ⟨bq, oq + n * 5 + 2, none⟩ = some (.int .i64 ((a : Int) + (k : Int))) := c2
            clear c1 c2 c3 c4 hbw
            generalize wr.drewN nq = Wa at *
            go_wp2_with fail
            go_quiet (fail)
            have hb2 : Hid (Below W2.heap.size W2 (Wa.drewN nq)) := below_drewN hb1.out _
            have g1 : (Wa.drewN nq).cell? ⟨bq, oq + n * 5 + 1, none⟩ = some (.int .i64 a) := e1
            have g3 : (Wa.drewN nq).cell? ⟨bq, oq + n * 5 + 3, none⟩ = some (.int .i64 b) := e3
            clear e1 e2 e3 hb1
            generalize Wa.drewN nq = Wb at *
            have hbb : Below w.heap.size w Wb := HB2.out.trans (hb2.out.mono HB2.out.size)
            have HP1 : Hid (∀ m, Sl.Of Value.string (Wb.drewN m) (.slice (aa.map (·.add a)) k (ca - a)) ((xs.drop a).take k)) := fun m => by
              have := part_of (HV.out.below (below_drewN hbb m)) q3 hca hca2
              rw [if_neg (by omega)] at this
              exact this
            have HP2 : Hid (∀ m, Sl.Of Value.string (Wb.drewN m) (.slice (ab.map (·.add b)) k (cb - b)) ((xs.drop a).take k)) := fun m => by
              rw [parts_same q3 q4 HQ6.out]
              have := part_of (HV1.out.below (below_drewN hbb m)) q4 hcb hcb2
              rw [if_neg (by omega)] at this
              exact this
            have y1 : (0 : Int) ≤ (a : Int) := by omega
            have y2 : (a : Int) ≤ (a : Int) + (k : Int) := by omega
            have y3 : (a : Int) + (k : Int) ≤ (ca : Int) := by omega
            have y4 : (0 : Int) ≤ (b : Int) := by omega
            have y5 : (b : Int) ≤ (b : Int) + (k : Int) := by omega
            have y6 : (b : Int) + (k : Int) ≤ (cb : Int) := by omega
            have y7 : ((a : Int) + (k : Int)).toNat = a + k := by omega
            have y8 : ((b : Int) + (k : Int)).toNat = b + k := by omega
            have y9 : a + k - a = k := by omega
            have y0 : b + k - b = k := by omega
            clear hbb
            go_wp2_with fail
            go_quiet ((go_at_call 19; go_loud (refine Calls.quiet_of (same_true _ _ ((xs.drop a).take k) _ ?_ ?_); (first | exact HP1.out _ | simpa [y7, y8, y9, y0] using HP1.out _); (first | exact HP2.out _ | simpa [y7, y8, y9, y0] using HP2.out _))))
            have hb3 : Hid (Below W2.heap.size W2 (Wb.drewN nq)) := below_drewN hb2.out nq
            clear g1 g3 hb2 HP1 HP2
            generalize Wb.drewN nq = Wc at *
            go_wp2_with fail
            go_roundw
            case rel => exact ⟨n + 1, a + k, b + k, by omega, by go_num, by go_num, by go_num, HQ7.out, hb3.out⟩
            case measure => simp [intOf]; omega
        · obtain rfl : n = T.length := by omega
          obtain ⟨bq, oq, hav, hbq, d1, d2, d3⟩ : ∃ b' off, av = some ⟨b', off, none⟩ ∧ b' < W2.heap.size ∧ W2.cell? ⟨b', off + (T.length - 1) * 5 + 1, none⟩ = some (.int .i64 xs.length) ∧ W2.cell? ⟨b', off + (T.length - 1) * 5 + 2, none⟩ = some (.int .i64 xs.length) ∧ W2.cell? ⟨b', off + (T.length - 1) * 5 + 3, none⟩ = some (.int .i64 ys.length) := by
            have hnl : (T.map blk).length = T.length := List.length_map _
            rcases HOf.out with ⟨h, _⟩ | ⟨b', off, cap, h, h0, hcap, hm, hbb, hcell⟩
            · have h9 := congrArg List.length h
              rw [hnl, List.length_nil] at h9
              omega
            · injection h with h1 h2 h3
              have hb := HLast.out (by omega)
              have hl9 : T.length - 1 < (T.map blk).length := by rw [hnl]; omega
              have hg : (T.map blk)[T.length - 1]'hl9 = (0, xs.length, xs.length, ys.length, ys.length) := by rw [List.getElem_map, hb]; rfl
              have hc := fun q u hu => hcell (T.length - 1) hl9 q u hu
              rw [hg] at hc
              exact ⟨b', off, h1, hbb, by rw [Nat.add_assoc]; exact hc 1 _ rfl, by rw [Nat.add_assoc]; exact hc 2 _ rfl, by rw [Nat.add_assoc]; exact hc 3 _ rfl⟩
          subst hav
          have c1 : wr.cell? ⟨bq, oq + (T.length - 1) * 5 + 1, none⟩ = some (.int .i64 xs.length) := by rw [hbw.out.cell (p := ⟨bq, oq + (T.length - 1) * 5 + 1, none⟩) hbq]; exact d1
          have c2 : wr.cell? ⟨bq, oq + (T.length - 1) * 5 + 2, none⟩ = some (.int .i64 xs.length) := by rw [hbw.out.cell (p := ⟨bq, oq + (T.length - 1) * 5 + 2, none⟩) hbq]; exact d2
          have c3 : wr.cell? ⟨bq, oq + (T.length - 1) * 5 + 3, none⟩ = some (.int .i64 ys.length) := by rw [hbw.out.cell (p := ⟨bq, oq + (T.length - 1) * 5 + 3, none⟩) hbq]; exact d3
          have HBw := Lib.hid (HB2.out.trans (hbw.out.mono HB2.out.size))
          have z1 : (0 : Int) ≤ (T.length : Int) - 1 := by omega
          have z2 : (T.length : Int) - 1 < (T.length : Int) := by omega
          have z3 : 1 ≤ T.length := by omega
          have HAw := Lib.hid (awake_any wr)
          clear d1 d2 d3 hbw hleft hlt
          go_wp2_with fail
          refine HAw.out.mono ?_
          rintro e w5 ⟨rfl, hb5⟩
          have hfin := HBw.out.trans (hb5.mono HBw.out.size)
          clear hb5
          go_wp2_with fail
          go_ret
          exact ⟨rfl, hfin⟩

end Go.Proofs.Ytkmfedmiaannfaa.Df
