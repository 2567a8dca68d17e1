/- The walks of the thin package's Negotiate and of spec's. -/
import Derived.Test.YtkmfedmiaannfaaNegA
import Derived.Deep.QuietTactic
import Derived.BigQuiet
set_option linter.unusedVariables false
set_option linter.unusedSimpArgs false
namespace Go.Proofs.Ytkmfedmiaannfaa.Acc
open Go.RowKit Plf Oct

set_option maxHeartbeats 1000000 in
set_option maxRecDepth 100000 in
theorem thin_any (v v1 : Value) (lines offers : List ByteArray) (w : World) (hv : Sl.Of Value.string w v lines)
    (hs : ∀ s ∈ lines, s.size ≤ 9223372036854775807) (hT : (restOf lines 0).length * 24 ≤ 140737488355328) (ho : Sl.Of Value.string w v1 offers) :
    Calls Try.prog 12 #[v, v1] w (StrB (finalE (restOf lines 0) offers) w) := by
  have hmm := @run_makeMap Try.prog
  have hins := One.insert_one ⟨#[65, 99, 99, 101, 112, 116, 45, 69, 110, 99, 111, 100, 105, 110, 103]⟩ v w
  have hbe := (Below.refl w.heap.size w).alloc (Nat.le_refl _) (.map #[One.entryOf ⟨#[65, 99, 99, 101, 112, 116, 45, 69, 110, 99, 111, 100, 105, 110, 103]⟩ v] 1)
  have hP := Lib.hid (pack_any (some w.heap.size) v v1 lines offers (w.alloc (.map #[One.entryOf ⟨#[65, 99, 99, 101, 112, 116, 45, 69, 110, 99, 111, 100, 105, 110, 103]⟩ v] 1)) (One.lookup_one _ _ _) (hv.below hbe) hs hT (ho.below hbe))
  have HBe := Lib.hid hbe
  clear hv hs hT ho hbe
  go_enter Try.func12, Try.ntmps12
  go_wp2_with fail
  clear hmm hins
  refine hP.out.mono ?_
  rintro e W ⟨rfl, hb⟩
  have hbW := HBe.out.trans (hb.mono HBe.out.size)
  clear hb
  go_wp2
  go_ret
  exact ⟨rfl, hbW⟩

set_option maxHeartbeats 8000000 in
set_option maxRecDepth 100000 in
theorem spec_any (v v1 : Value) (qs : List M) (offers : List ByteArray) (w : World) (hq : Ss.Of 2 cells w v qs) (ho : Sl.Of Value.string w v1 offers) :
    Calls Try.prog 13 #[v, v1] w (StrB (finalE (qs.map den) offers) w) := by
  have hlen : qs.length ≤ 9223372036854775807 := hq.len
  have hol : offers.length ≤ 9223372036854775807 := ho.len
  obtain ⟨aq, cq, hv', _, _⟩ := hq.slice
  subst hv'
  have hof : ∃ a cap, v1 = .slice a offers.length cap := by
    rcases ho with ⟨rfl, a, cap, rfl, _⟩ | ⟨b, off, cap, rfl, _⟩
    · exact ⟨_, _, rfl⟩
    · exact ⟨_, _, rfl⟩
  obtain ⟨ao, co, rfl⟩ := hof
  have HOf := Lib.hid hq
  have HO2 := Lib.hid ho
  obtain ⟨R, hR⟩ : ∃ R, allE (qs.map den) start offers = R := ⟨_, rfl⟩
  have HR := Lib.hid hR
  clear hq ho hR
  go_enter Try.func13, Try.ntmps13
  go_wp2
  go_loopw [5, 6, 7] (fun b q i wr => ∃ (k : Nat) (st : St), k ≤ offers.length ∧ i = .int .i64 k ∧ b = .string st.1 ∧ q = .float .f64 st.2 ∧ Hid (allE (qs.map den) st (offers.drop k) = R) ∧ Below w.heap.size w wr) (fun _ _ i _ => offers.length - (intOf i).toNat)
  case atStart => exact ⟨0, start, Nat.zero_le _, rfl, rfl, rfl, HR.out, Below.refl _ _⟩
  case round =>
    obtain ⟨k, st, hk, rfl, rfl, rfl, hall, hbw⟩ := hrel
    by_cases hlt : k < offers.length
    · obtain ⟨b, off, hao, hbb, hco⟩ : ∃ b off, ao = some ⟨b, off, none⟩ ∧ b < w.heap.size ∧ w.cell? ⟨b, off + k, none⟩ = some (.string offers[k]) := by
        rcases HO2.out with ⟨h, _⟩ | ⟨b, off, cap, h, h0, hcap, hm, hbb, hcell⟩
        · rw [h] at hlt; simp at hlt
        · injection h with h1 h2 h3
          exact ⟨b, off, h1, hbb, hcell k hlt⟩
      subst hao
      have hdo : offers.drop k = offers[k] :: offers.drop (k + 1) := List.drop_eq_getElem_cons hlt
      obtain ⟨o, hoo⟩ : ∃ o, offers[k] = o := ⟨_, rfl⟩
      rw [hoo] at hco hdo
      have HCO := Lib.hid hco
      obtain ⟨tgt, htgt⟩ : ∃ tgt, rowE (qs.map den) st o = tgt := ⟨_, rfl⟩
      have hnextO : Hid (allE (qs.map den) tgt (offers.drop (k + 1)) = R) := by
        show _ = _
        rw [← hall.out, hdo, all_cons, htgt]
      have hstart : Hid (rowE ((qs.drop 0).map den) st o = tgt) := by
        show _ = _
        rw [List.drop_zero, htgt]
      clear hdo hoo htgt hall hco
      have HK1 := Lib.hid (show k + 1 ≤ offers.length ∧ offers.length - (k + 1) < offers.length - k by omega)
      have z1 : (0 : Int) ≤ (k : Int) := by omega
      have z2 : (k : Int) < (offers.length : Int) := by omega
      go_wp2
      go_loopw [5, 6, 8] (fun bb qq i wx => ∃ (j : Nat) (st : St), j ≤ qs.length ∧ i = .int .i64 j ∧ bb = .string st.1 ∧ qq = .float .f64 st.2 ∧ Hid (rowE ((qs.drop j).map den) st o = tgt) ∧ Below w.heap.size w wx) (fun _ _ i _ => qs.length - (intOf i).toNat)
      case atStart => exact ⟨0, st, Nat.zero_le _, rfl, rfl, rfl, hstart, hbw⟩
      case round =>
        obtain ⟨j, st, hj, rfl, rfl, rfl, hrow, hb2⟩ := hrel
        by_cases hlt2 : j < qs.length
        · obtain ⟨b3, off3, haq, hbb3, d0, d1⟩ : ∃ b off, aq = some ⟨b, off, none⟩ ∧ b < w.heap.size ∧ w.cell? ⟨b, off + j * 2, none⟩ = some (.string qs[j].1) ∧ w.cell? ⟨b, off + j * 2 + 1, none⟩ = some (.float .f64 qs[j].2) := by
            rcases HOf.out with ⟨h, _⟩ | ⟨b, off, cap, h, h0, hcap, hm, hbb, hcell⟩
            · rw [h] at hlt2; simp at hlt2
            · injection h with h1 h2 h3
              exact ⟨b, off, h1, hbb, hcell j hlt2 0 _ rfl, by rw [Nat.add_assoc]; exact hcell j hlt2 1 _ rfl⟩
          subst haq
          have c0 : wr.cell? ⟨b3, off3 + j * 2, none⟩ = some (.string qs[j].1) := by rw [hb2.cell (p := ⟨b3, off3 + j * 2, none⟩) hbb3]; exact d0
          have c1 : wr.cell? ⟨b3, off3 + j * 2 + 1, none⟩ = some (.float .f64 qs[j].2) := by rw [hb2.cell (p := ⟨b3, off3 + j * 2 + 1, none⟩) hbb3]; exact d1
          have co0 : wr.cell? ⟨b, off + k, none⟩ = some (.string o) := by rw [hb2.cell (p := ⟨b, off + k, none⟩) hbb]; exact HCO.out
          clear d0 d1 hstart hbw
          have hstep := step_den o st qs[j]
          rw [fits_den] at hstep
          have hdrop : (qs.drop j).map den = den qs[j] :: (qs.drop (j + 1)).map den := by rw [List.drop_eq_getElem_cons hlt2, List.map_cons]
          have hnext : ∀ st', stepE o st (den qs[j]) = st' → Hid (rowE ((qs.drop (j + 1)).map den) st' o = tgt) := by
            intro st' hs
            show _ = _
            rw [← hrow.out, hdrop, row_cons, hs]
          obtain ⟨y, hy⟩ : ∃ y, qs[j].1 = y := ⟨_, rfl⟩
          obtain ⟨q, hq⟩ : ∃ q, qs[j].2 = q := ⟨_, rfl⟩
          rw [hy] at c0 hstep
          rw [hq] at c1 hstep
          have HNext := Lib.hid hnext
          have HStep := Lib.hid hstep
          clear hdrop hnext hstep hy hq hrow
          cases hgt : gtW q st.2 with
          | false =>
            have hg1 : (FloatKind.f64.format.order q st.2 == some Ordering.gt) = false := hgt
            have hn := HNext.out st (by rw [HStep.out, hgt]; rfl)
            clear hgt
            go_wp2
            go_quiet (fail)
            have hb3 := below_drewN hb2 nq
            go_wp2
            go_roundw
            case rel => exact ⟨j + 1, st, by omega, by go_num, rfl, rfl, hn, hb3⟩
            case measure => simp [intOf]; omega
          | true =>
            have hg1 : (FloatKind.f64.format.order q st.2 == some Ordering.gt) = true := hgt
            cases hstar : (y.toList == [42]) with
            | true =>
              have hn := HNext.out (o, q) (by rw [HStep.out, hgt, hstar]; rfl)
              clear hgt
              go_wp2
              go_quiet (fail)
              have hb3 := below_drewN hb2 nq
              have c1' : (wr.drewN nq).cell? ⟨b3, off3 + j * 2 + 1, none⟩ = some (.float .f64 q) := c1
              have co0' : (wr.drewN nq).cell? ⟨b, off + k, none⟩ = some (.string o) := co0
              clear c0 c1 co0 hb2
              generalize wr.drewN nq = W3 at *
              go_wp2
              go_quiet (fail)
              have hb4 := below_drewN hb3 nq
              go_wp2
              go_roundw
              case rel => exact ⟨j + 1, (o, q), by omega, by go_num, rfl, rfl, hn, hb4⟩
              case measure => simp [intOf]; omega
            | false =>
              cases heq : (y.toList == o.toList) with
              | true =>
                have hn := HNext.out (o, q) (by rw [HStep.out, hgt, hstar, heq]; rfl)
                clear hgt
                go_wp2
                go_quiet (fail)
                have hb3 := below_drewN hb2 nq
                have c1' : (wr.drewN nq).cell? ⟨b3, off3 + j * 2 + 1, none⟩ = some (.float .f64 q) := c1
                have co0' : (wr.drewN nq).cell? ⟨b, off + k, none⟩ = some (.string o) := co0
                clear c0 c1 co0 hb2
                generalize wr.drewN nq = W3 at *
                go_wp2
                go_quiet (fail)
                have hb4 := below_drewN hb3 nq
                go_wp2
                go_roundw
                case rel => exact ⟨j + 1, (o, q), by omega, by go_num, rfl, rfl, hn, hb4⟩
                case measure => simp [intOf]; omega
              | false =>
                have hn := HNext.out st (by rw [HStep.out, hgt, hstar, heq]; rfl)
                clear hgt
                go_wp2
                go_quiet (fail)
                have hb3 := below_drewN hb2 nq
                go_wp2
                go_roundw
                case rel => exact ⟨j + 1, st, by omega, by go_num, rfl, rfl, hn, hb3⟩
                case measure => simp [intOf]; omega
        · have hfin : st = tgt := by
            have := hrow.out
            rw [List.drop_of_length_le (by omega)] at this
            exact this
          subst hfin
          clear hrow
          go_wp2
          go_roundw
          case rel => exact ⟨k + 1, st, HK1.out.1, by go_num, rfl, rfl, hnextO, hb2⟩
          case measure =>
            have := HK1.out.2
            simp [intOf]; omega
    · have hfin : st = R := by
        have := hall.out
        rw [List.drop_of_length_le (by omega)] at this
        exact this
      subst hfin
      clear hall
      cases hz : zeroW st.2 with
      | true =>
        have hz1 : (FloatKind.f64.format.order st.2 0 == some Ordering.eq) = true := hz
        have hres : finalE (qs.map den) offers = ⟨#[]⟩ := by unfold finalE; rw [HR.out, hz]; rfl
        have HRes := Lib.hid hres
        clear hz hres
        go_wp2
        go_ret
        exact ⟨by rw [HRes.out]; rfl, hbw⟩
      | false =>
        have hz1 : (FloatKind.f64.format.order st.2 0 == some Ordering.eq) = false := hz
        have hres : finalE (qs.map den) offers = st.1 := by unfold finalE; rw [HR.out, hz]; rfl
        have HRes := Lib.hid hres
        clear hz hres
        go_wp2
        go_ret
        exact ⟨by rw [HRes.out]; rfl, hbw⟩

end Go.Proofs.Ytkmfedmiaannfaa.Acc
