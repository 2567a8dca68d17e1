/- The walk of the package's own NegotiateContentEncoding, and of the thin package's Negotiate. -/
import Derived.Test.YtkmfedmiaannfaaNeg
set_option linter.unusedVariables false
set_option linter.unusedSimpArgs false
namespace Go.Proofs.Ytkmfedmiaannfaa.Acc
open Go.RowKit Plf Oct

def StrB (s : ByteArray) (w : World) (e : Ending) (w' : World) : Prop := e = .returned (.string s) ∧ Below w.heap.size w w'

set_option maxHeartbeats 8000000 in
set_option maxRecDepth 100000 in
theorem pack_any (m : Option Nat) (v v1 : Value) (lines offers : List ByteArray) (w : World)
    (hl : (Instr.lookup 81 (.map m) (.string ⟨#[65, 99, 99, 101, 112, 116, 45, 69, 110, 99, 111, 100, 105, 110, 103]⟩) false).run Try.prog w = .ok v w) (hv : Sl.Of Value.string w v lines)
    (hs : ∀ s ∈ lines, s.size ≤ 9223372036854775807) (hT : (restOf lines 0).length * 24 ≤ 140737488355328) (ho : Sl.Of Value.string w v1 offers) :
    Calls Try.prog 40 #[.map m, v1] w (StrB (finalE (restOf lines 0) offers) w) := by
  have hP := Lib.hid (parse_any m _ v lines w hl hv hs hT)
  have HO := Lib.hid ho
  obtain ⟨T, hTe⟩ : ∃ T, restOf lines 0 = T := ⟨_, rfl⟩
  rw [hTe] at hP ⊢
  have hof : ∃ a cap, v1 = .slice a offers.length cap := by
    rcases ho with ⟨rfl, a, cap, rfl, _⟩ | ⟨b, off, cap, rfl, _⟩
    · exact ⟨_, _, rfl⟩
    · exact ⟨_, _, rfl⟩
  obtain ⟨ao, co, rfl⟩ := hof
  have hol : offers.length ≤ 9223372036854775807 := ho.len
  clear hl hv hs hT ho hTe
  go_enter Try.func40, Try.ntmps40
  go_wp2_with fail
  refine hP.out.mono ?_
  rintro e W ⟨v', qs, rfl, hof, hden, hb⟩
  have HB := Lib.hid hb
  have HOf := Lib.hid hof
  have HDen := Lib.hid hden
  have HO2 := Lib.hid (HO.out.below hb)
  obtain ⟨aq, cq, hv', _, _⟩ := hof.slice
  subst hv'
  have hlen : qs.length ≤ 9223372036854775807 := HOf.out.len
  obtain ⟨R, hR⟩ : ∃ R, allE T start offers = R := ⟨_, rfl⟩
  have HR := Lib.hid hR
  clear hb hof hden hR
  go_wp2
  go_loopw [5, 6, 16] (fun b q i wr => ∃ (k : Nat) (st : St), k ≤ offers.length ∧ i = .int .i64 k ∧ b = .string st.1 ∧ q = .float .f64 st.2 ∧ Hid (allE T st (offers.drop k) = R) ∧ Below W.heap.size W wr) (fun _ _ i _ => offers.length - (intOf i).toNat)
  case atStart => exact ⟨0, start, Nat.zero_le _, rfl, rfl, rfl, HR.out, Below.refl _ _⟩
  case round =>
    obtain ⟨k, st, hk, rfl, rfl, rfl, hall, hbw⟩ := hrel
    by_cases hlt : k < offers.length
    · obtain ⟨b, off, hao, hbb, hco⟩ : ∃ b off, ao = some ⟨b, off, none⟩ ∧ b < W.heap.size ∧ W.cell? ⟨b, off + k, none⟩ = some (.string offers[k]) := by
        rcases HO2.out with ⟨h, _⟩ | ⟨b, off, cap, h, h0, hcap, hm, hbb, hcell⟩
        · rw [h] at hlt; simp at hlt
        · injection h with h1 h2 h3
          exact ⟨b, off, h1, hbb, hcell k hlt⟩
      subst hao
      have co0 : wr.cell? ⟨b, off + k, none⟩ = some (.string offers[k]) := by rw [hbw.cell (p := ⟨b, off + k, none⟩) hbb]; exact hco
      have hdo : offers.drop k = offers[k] :: offers.drop (k + 1) := List.drop_eq_getElem_cons hlt
      obtain ⟨o, hoo⟩ : ∃ o, offers[k] = o := ⟨_, rfl⟩
      rw [hoo] at co0 hdo
      obtain ⟨tgt, htgt⟩ : ∃ tgt, rowE T st o = tgt := ⟨_, rfl⟩
      have hnextO : Hid (allE T tgt (offers.drop (k + 1)) = R) := by
        show _ = _
        rw [← hall.out, hdo, all_cons, htgt]
      have hstart : Hid (rowE ((qs.drop 0).map den) st o = tgt) := by
        show _ = _
        rw [List.drop_zero, HDen.out, htgt]
      clear hdo hoo htgt hall hco
      have HK1 := Lib.hid (show k + 1 ≤ offers.length ∧ offers.length - (k + 1) < offers.length - k by omega)
      go_wp2
      go_loopw [5, 6, 22] (fun bb qq i wx => ∃ (j : Nat) (st : St), j ≤ qs.length ∧ i = .int .i64 j ∧ bb = .string st.1 ∧ qq = .float .f64 st.2 ∧ Hid (rowE ((qs.drop j).map den) st o = tgt) ∧ Below W.heap.size W wx) (fun _ _ i _ => qs.length - (intOf i).toNat)
      case atStart => exact ⟨0, st, Nat.zero_le _, rfl, rfl, rfl, hstart, hbw⟩
      case round =>
        obtain ⟨j, st, hj, rfl, rfl, rfl, hrow, hb2⟩ := hrel
        by_cases hlt2 : j < qs.length
        · obtain ⟨b3, off3, haq, hbb3, d0, d1⟩ : ∃ b off, aq = some ⟨b, off, none⟩ ∧ b < W.heap.size ∧ W.cell? ⟨b, off + j * 2, none⟩ = some (.string qs[j].1) ∧ W.cell? ⟨b, off + j * 2 + 1, none⟩ = some (.float .f64 qs[j].2) := by
            rcases HOf.out with ⟨h, _⟩ | ⟨b, off, cap, h, h0, hcap, hm, hbb, hcell⟩
            · rw [h] at hlt2; simp at hlt2
            · injection h with h1 h2 h3
              exact ⟨b, off, h1, hbb, hcell j hlt2 0 _ rfl, by rw [Nat.add_assoc]; exact hcell j hlt2 1 _ rfl⟩
          subst haq
          have c0 : wr.cell? ⟨b3, off3 + j * 2, none⟩ = some (.string qs[j].1) := by rw [hb2.cell (p := ⟨b3, off3 + j * 2, none⟩) hbb3]; exact d0
          have c1 : wr.cell? ⟨b3, off3 + j * 2 + 1, none⟩ = some (.float .f64 qs[j].2) := by rw [hb2.cell (p := ⟨b3, off3 + j * 2 + 1, none⟩) hbb3]; exact d1
          clear d0 d1 co0 hstart hbw
          have hsf := @Flo.run_store_float Try.prog
          have hstep := step_den o st qs[j]
          rw [fits_den] at hstep
          have hdrop : (qs.drop j).map den = den qs[j] :: (qs.drop (j + 1)).map den := by rw [List.drop_eq_getElem_cons hlt2, List.map_cons]
          have hnext : ∀ st', stepE o st (den qs[j]) = st' → Hid (rowE ((qs.drop (j + 1)).map den) st' o = tgt) := by
            intro st' hs
            show _ = _
            rw [← hrow.out, hdrop, row_cons, hs]
          obtain ⟨y, hy⟩ : ∃ y, qs[j].1 = y := ⟨_, rfl⟩
          obtain ⟨q, hq⟩ : ∃ q, qs[j].2 = q := ⟨_, rfl⟩
          rw [hy] at c0 hstep
          rw [hq] at c1 hstep
          have HNext := Lib.hid hnext
          have HStep := Lib.hid hstep
          clear hdrop hnext hstep hy hq hrow
          cases hgt : gtW q st.2 with
          | false =>
            have hg1 : (FloatKind.f64.format.order q st.2 == some Ordering.gt) = false := hgt
            have hn := HNext.out st (by rw [HStep.out, hgt]; rfl)
            clear hgt
            go_wp2
            go_roundw
            case rel => exact ⟨j + 1, st, by omega, by go_num, rfl, rfl, hn, (hb2.alloc hb2.size _)⟩
            case measure => simp [intOf]; omega
          | true =>
            have hg1 : (FloatKind.f64.format.order q st.2 == some Ordering.gt) = true := hgt
            cases hstar : (y.toList == [42]) with
            | true =>
              have hn := HNext.out (o, q) (by rw [HStep.out, hgt, hstar]; rfl)
              clear hgt
              go_wp2
              go_roundw
              case rel => exact ⟨j + 1, (o, q), by omega, by go_num, rfl, rfl, hn, (hb2.alloc hb2.size _)⟩
              case measure => simp [intOf]; omega
            | false =>
              cases heq : (y.toList == o.toList) with
              | true =>
                have hn := HNext.out (o, q) (by rw [HStep.out, hgt, hstar, heq]; rfl)
                clear hgt
                go_wp2
                go_roundw
                case rel => exact ⟨j + 1, (o, q), by omega, by go_num, rfl, rfl, hn, (hb2.alloc hb2.size _)⟩
                case measure => simp [intOf]; omega
              | false =>
                have hn := HNext.out st (by rw [HStep.out, hgt, hstar, heq]; rfl)
                clear hgt
                go_wp2
                go_roundw
                case rel => exact ⟨j + 1, st, by omega, by go_num, rfl, rfl, hn, (hb2.alloc hb2.size _)⟩
                case measure => simp [intOf]; omega
        · have hfin : st = tgt := by
            have := hrow.out
            rw [List.drop_of_length_le (by omega)] at this
            exact this
          subst hfin
          clear hrow
          go_wp2
          go_roundw
          case rel => exact ⟨k + 1, st, HK1.out.1, by go_num, rfl, rfl, hnextO, hb2⟩
          case measure =>
            have := HK1.out.2
            simp [intOf]; omega
    · have hfin : st = R := by
        have := hall.out
        rw [List.drop_of_length_le (by omega)] at this
        exact this
      subst hfin
      have HBw := Lib.hid (HB.out.trans (hbw.mono HB.out.size))
      clear hall hbw
      cases hz : zeroW st.2 with
      | true =>
        have hz1 : (FloatKind.f64.format.order st.2 0 == some Ordering.eq) = true := hz
        have hres : finalE T offers = ⟨#[]⟩ := by unfold finalE; rw [HR.out, hz]; rfl
        have HRes := Lib.hid hres
        clear hz hres
        go_wp2
        go_ret
        exact ⟨by rw [HRes.out]; rfl, HBw.out⟩
      | false =>
        have hz1 : (FloatKind.f64.format.order st.2 0 == some Ordering.eq) = false := hz
        have hres : finalE T offers = st.1 := by unfold finalE; rw [HR.out, hz]; rfl
        have HRes := Lib.hid hres
        clear hz hres
        go_wp2
        go_ret
        exact ⟨by rw [HRes.out]; rfl, HBw.out⟩

end Go.Proofs.Ytkmfedmiaannfaa.Acc
