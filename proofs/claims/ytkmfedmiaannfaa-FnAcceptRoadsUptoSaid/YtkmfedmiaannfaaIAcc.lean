/- The walk of the thin package's ParseAccept. -/
import Derived.Test.YtkmfedmiaannfaaPAcc
import Derived.Test.YtkmfedmiaannfaaMapOne
set_option linter.unusedVariables false
set_option linter.unusedSimpArgs false
namespace Go.Proofs.Ytkmfedmiaannfaa.Acc
open Go.RowKit Plf Oct

theorem infoA : (Try.prog.info? 29).map (fun i => (i.zero, i.size, i.bytes)) = some (some (.agg #[.string ⟨#[]⟩, .float .f64 0]), 2, 24) := by kernel_rfl

/-- the first k entries, copied -/
def Copied (W : World) (qs : List M) (k : Nat) (v : Value) (wr : World) : Prop :=
  wr.ownsRow W.heap.size 29 2 v k ((qs.take k).flatMap cells) ∧ Below W.heap.size W wr

set_option maxHeartbeats 4000000 in
set_option maxRecDepth 100000 in
theorem impl_any (v : Value) (lines : List ByteArray) (w : World) (hv : Sl.Of Value.string w v lines)
    (hs : ∀ s ∈ lines, s.size ≤ 9223372036854775807) (hT : (restOf lines 0).length * 24 ≤ 140737488355328) :
    Calls Try.prog 11 #[v] w (Back (restOf lines 0) w) := by
  obtain ⟨i0, hi, hz0, hz1, hz2⟩ := info_parts infoA
  have hmm := @run_makeMap Try.prog
  have hins := One.insert_one ⟨#[65]⟩ v w
  have hv2 := hv.below ((Below.refl w.heap.size w).alloc (Nat.le_refl _) (.map #[One.entryOf ⟨#[65]⟩ v] 1))
  have hP := Lib.hid (parse_any (some w.heap.size) ⟨#[65]⟩ v lines (w.alloc (.map #[One.entryOf ⟨#[65]⟩ v] 1)) (One.lookup_one _ _ _) hv2 hs hT)
  have HT := Lib.hid hT
  clear hv hv2 hs hT
  go_enter Try.func11, Try.ntmps11
  go_wp2_with fail
  clear hmm hins
  refine hP.out.mono ?_
  rintro e W ⟨v', qs, rfl, hof, hden, hb⟩
  have hbW : Below w.heap.size w W := ((Below.refl w.heap.size w).alloc (Nat.le_refl _) _).trans (hb.mono (by simp))
  have hlq : qs.length * 24 ≤ 140737488355328 := by have := HT.out; rw [← hden, List.length_map] at this; exact this
  have HDen := Lib.hid hden
  clear hden hb
  rcases hof with ⟨rfl, a, cap, rfl, hcap⟩ | ⟨b, off, cap, rfl, h0, hcap, hm, hbb, hcell⟩
  · go_wp2
    go_loopw [3, 11] (fun x i wr => x = .slice none 0 0 ∧ i = .int .i64 0 ∧ W = wr) (fun _ _ _ => 0)
    case atStart => exact ⟨rfl, rfl, rfl⟩
    case round =>
      obtain ⟨rfl, rfl, rfl⟩ := hrel
      go_wp2
      go_ret
      exact ⟨_, [], rfl, Ss.Of.nil, HDen.out, hbW⟩
  · have Hcell := Lib.hid hcell
    clear hcell
    go_wp2
    go_loopw [3, 11] (fun x i wr => ∃ k : Nat, k ≤ qs.length ∧ i = .int .i64 k ∧ Hid (Copied W qs k x wr)) (fun _ i _ => qs.length - (intOf i).toNat)
    case atStart => exact ⟨0, Nat.zero_le _, rfl, by rw [List.take_zero]; exact World.ownsRow_nil _ _ _ _, Below.refl _ _⟩
    case round =>
      obtain ⟨k, hk, rfl, hcop⟩ := hrel
      obtain ⟨hown, hbw⟩ := hcop.out
      by_cases hlt : k < qs.length
      · have c0 : wr.cell? ⟨b, off + k * 2, none⟩ = some (.string qs[k].1) := by
          rw [hbw.cell (p := ⟨b, off + k * 2, none⟩) hbb]; exact Hcell.out k hlt 0 _ rfl
        have c1 : wr.cell? ⟨b, off + k * 2 + 1, none⟩ = some (.float .f64 qs[k].2) := by
          rw [hbw.cell (p := ⟨b, off + k * 2 + 1, none⟩) hbb]
          have := Hcell.out k hlt 1 _ rfl
          rw [Nat.add_assoc]; exact this
        have hstep : (qs.take (k + 1)).flatMap cells = (qs.take k).flatMap cells ++ cells qs[k] := by
          rw [List.take_succ_eq_append_getElem hlt, List.flatMap_append]
          simp
        have HS := Lib.hid hstep
        clear hstep hcop
        have hsf := @Flo.run_store_float Try.prog
        obtain ⟨x, hx⟩ : ∃ x, qs[k].1 = x := ⟨_, rfl⟩
        obtain ⟨q, hq⟩ : ∃ q, qs[k].2 = q := ⟨_, rfl⟩
        rw [hx] at c0
        rw [hq] at c1
        have HX := Lib.hid hx
        have HQ := Lib.hid hq
        clear hx hq
        have hown1 := hown.alloc (.cells #[.string x, .float .f64 q] 82)
        go_wp2_with (at_builtin; refine wpList_append_own _ rfl _ _ 25 rfl W.heap.size 29 i0 (.agg #[.string ⟨#[]⟩, .float .f64 0]) 2 24 Try.underlying25 hi hz0 hz1 hz2 rfl (by decide) _ _ _ rfl (hown1.alloc _) ⟨wr.heap.size + 1, 0, none⟩ 1 1 [.string x, .float .f64 q] rfl rfl ?a1 ?b1 ?c1 ?d1 ?e1 ?_)
        case a1 =>
          intro j u hu
          have h1 := Ss.news_one (wr.alloc (.cells #[.string x, .float .f64 q] 82)) #[.string x, .float .f64 q] 29 j u hu
          rw [show (wr.alloc (.cells #[.string x, .float .f64 q] 82)).heap.size = wr.heap.size + 1 by simp] at h1
          exact h1
        case b1 => intro u hu; simp at hu; rcases hu with rfl | rfl <;> rfl
        case c1 => unfold maxLen; omega
        case d1 => omega
        case e1 => have := hbw.size; simp; omega
        intro v2 w3 hown3 hgrow _
        have hb3 : Below W.heap.size W w3 := ((hbw.alloc hbw.size (.cells #[.string x, .float .f64 q] 82)).alloc (by have := hbw.size; simp; omega) (.cells #[.string x, .float .f64 q] 29)).grown hgrow (by have := hbw.size; simp; omega) (fun j hj => (hown1.lt j hj).1)
        have hfin : Hid (Copied W qs (k + 1) v2 w3) := by
          refine ⟨?_, hb3⟩
          rw [HS.out]
          show w3.ownsRow _ _ _ _ _ (_ ++ [.string qs[k].1, .float .f64 qs[k].2])
          rw [HX.out, HQ.out]
          exact hown3
        clear hown3 hb3 hgrow hown1 hown hbw hsf
        go_wp2
        go_roundw
        case rel => exact ⟨k + 1, by omega, by go_num, hfin⟩
        case measure => simp [intOf]; omega
      · have hkn : k = qs.length := by omega
        have HK := Lib.hid hkn
        clear hkn hcop
        have hown2 : wr.ownsRow W.heap.size 29 2 u3 qs.length (qs.flatMap cells) := by
          have := hown
          rw [List.take_of_length_le (by omega)] at this
          have e : k = qs.length := by omega
          rw [e] at this
          exact this
        have hof := Ss.Of.own cells_len hown2
        obtain ⟨a4, c4, h4, _, _⟩ := hof.slice
        have HOf := Lib.hid hof
        have HB := Lib.hid (hbW.trans (hbw.mono hbW.size))
        clear hown2 hown hof
        subst h4
        go_wp2
        go_ret
        exact ⟨_, qs, rfl, HOf.out, HDen.out, HB.out⟩

end Go.Proofs.Ytkmfedmiaannfaa.Acc
