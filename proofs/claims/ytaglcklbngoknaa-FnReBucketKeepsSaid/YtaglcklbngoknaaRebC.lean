/- FnReBucketKeeps: the walk of reBucketExp. -/
import Derived.Test.YtaglcklbngoknaaRebB
set_option linter.unusedVariables false
set_option linter.unusedSimpArgs false
namespace Go.Proofs.Ytaglcklbngoknaa.ReBucketKeeps
open Go.RowKit Plf

set_option maxHeartbeats 1000000 in
set_option maxRecDepth 100000 in
theorem inf_any (w : World) :
    Calls Try.prog 65 #[.int .i64 (-1)] w fun e w' => e = .returned (.float .f64 18442240474082181120) ∧ w = w' := by
  have h2 := Flo.call_from
  go_enter Try.func65, Try.ntmps65
  go_wp2
  go_ret
  exact ⟨rfl, rfl⟩

/-- the bounds that are kept, in new memory -/
def Kept (base : Nat) (l : List Nat) (w : World) (e : Ending) (w' : World) : Prop :=
  ∃ v', e = .returned v' ∧ Sl.Of (Value.float .f64) w' v' (rebucket base l) ∧ Below w.heap.size w w'

set_option maxHeartbeats 8000000 in
set_option maxRecDepth 100000 in
theorem exp_any (b off cap : Nat) (l : List Nat) (base : Nat) (hbase : Fac base) (w : World) (h0 : 0 < l.length) (hcap : l.length ≤ cap) (hm : cap ≤ 9223372036854775807) (hb : b < w.heap.size)
    (hcell : ∀ i (h : i < l.length), w.cell? ⟨b, off + i, none⟩ = some (.float .f64 l[i])) (hp : ∀ z ∈ l, Pos z) (hl : l.length ≤ 2147483647) :
    Calls Try.prog 52 #[.slice (some ⟨b, off, none⟩) l.length cap, .float .f64 base] w (Kept base l w) := by
  obtain ⟨i0, hi, hz0, hz1, hz2⟩ := info_parts infoF
  obtain ⟨k0, hk0⟩ : ∃ k0, l[0] = k0 := ⟨_, rfl⟩
  have g0 : w.cell? ⟨b, off, none⟩ = some (.float .f64 k0) := by rw [← hk0]; exact hcell 0 h0
  have p0 : Pos k0 := by rw [← hk0]; exact hp _ (List.getElem_mem _)
  have hninf : (FloatKind.f64.format.order k0 18442240474082181120 == some Ordering.eq) = false := p0.notinf
  have HN := Lib.hid hninf
  have hl0 : Hid (l = k0 :: l.drop 1) := by
    show l = k0 :: l.drop 1
    rw [← hk0]
    have := List.drop_eq_getElem_cons h0
    simpa using this
  have HC := Lib.hid hcell
  have HP := Lib.hid hp
  have HB := Lib.hid hbase
  have HP0 := Lib.hid p0
  clear hk0 hcell hp hbase p0 hninf
  go_enter Try.func52, Try.ntmps52
  go_wp2_with fail
  refine (inf_any w).mono ?_
  rintro e w1 ⟨rfl, rfl⟩
  have hninf := HN.out
  go_wp2_with fail
  clear hninf
  go_loopw [5, 6, 7] (fun cu v i wr => ∃ (k cur : Nat) (acc : List Nat), 1 ≤ k ∧ k ≤ l.length ∧ acc.length < k ∧ i = .int .i64 k ∧ cu = .float .f64 cur ∧ Hid (Pos cur) ∧ Hid (acc ++ rb base cur (l.drop k) = rebucket base l) ∧ Hid (wr.ownsRow w.heap.size 23 1 v acc.length (acc.map (Value.float .f64))) ∧ Below w.heap.size w wr) (fun _ _ i _ => l.length - (intOf i).toNat)
  case atStart =>
    refine ⟨1, k0, [], by omega, by omega, by simp, rfl, rfl, HP0.out, ?_, World.ownsRow_nil _ _ _ _, Below.refl _ _⟩
    show [] ++ rb base k0 (l.drop 1) = rebucket base l
    generalize hr : l.drop 1 = r at *
    rw [hl0.out]
    rfl
  case round =>
    obtain ⟨k, cur, acc, hk1, hk2, hak, rfl, rfl, hpc, hacc, hown, hbw⟩ := hrel
    have hex : ∃ ao n c, u6 = .slice ao n c := by
      rcases hown.out.2 with ⟨hv, _⟩ | ⟨g, c, cur, hv, _⟩
      · exact ⟨_, _, _, hv⟩
      · exact ⟨_, _, _, hv⟩
    obtain ⟨ao, n, c, hu⟩ := hex
    subst hu
    by_cases hlt : k < l.length
    · obtain ⟨x, hx⟩ : ∃ x, l[k] = x := ⟨_, rfl⟩
      have hcx : wr.cell? ⟨b, off + k, none⟩ = some (.float .f64 x) := by rw [hbw.cell (p := ⟨b, off + k, none⟩) hb, ← hx]; exact HC.out k hlt
      have hpx : Hid (Pos x) := by show Pos x; rw [← hx]; exact HP.out _ (List.getElem_mem _)
      have hdr : Hid (l.drop k = x :: l.drop (k + 1)) := by show _ = _; rw [← hx]; exact List.drop_eq_getElem_cons hlt
      obtain ⟨p, hmul, hpp⟩ := hpc.out.mul HB.out
      have hm2 : ∀ W : World, (binOp .mul 23 (.float .f64 cur) (.float .f64 base)).run Try.prog W = .ok (.float .f64 p) W := fun W => run_float_arith W .mul 23 .f64 cur base p hmul
      have HM := Lib.hid hmul
      have hge : (FloatKind.f64.format.order cur 0 == some Ordering.gt || FloatKind.f64.format.order cur 0 == some Ordering.eq) = true := hpc.out.ge
      have hnl : (FloatKind.f64.format.order cur 0 == some Ordering.lt) = false := hpc.out.notlt
      clear hx hmul
      by_cases hxl : ltW x p = true
      · have hxl' : (FloatKind.f64.format.order x p == some Ordering.lt) = true := hxl
        go_wp2
        go_roundw
        case rel =>
          refine ⟨k + 1, cur, acc, by omega, by omega, by omega, by go_num, rfl, hpc, ?_, hown, hbw⟩
          have h := hacc.out
          rw [hdr.out, rb, HM.out] at h
          rw [if_pos (show ltO (some x) (some p) = true from hxl)] at h
          exact h
        case measure => simp [intOf]; omega
      · have hxl' : (FloatKind.f64.format.order x p == some Ordering.lt) = false := Bool.eq_false_iff.2 hxl
        go_wp2_with (at_builtin; refine wpList_append_own _ rfl _ _ 22 rfl w.heap.size 23 i0 (.float .f64 0) 1 8 Try.underlying22 hi hz0 hz1 hz2 rfl (by decide) _ _ _ rfl (hown.out.alloc _) ⟨wr.heap.size, 0, none⟩ 1 1 [.float .f64 cur] rfl rfl ?c1 ?c2 ?c3 ?c4 ?c5 ?_)
        all_goals try (first | exact cell_one_new _ _ _ | rfl | (intro u hu; simp at hu; subst hu; rfl) | (unfold maxLen; omega) | omega | (have := hbw.size; simp; omega))
        intro v' w2 hown3 hgrow _
        have hbw3 := (hbw.alloc hbw.size (.cells #[.float .f64 cur] 23)).grown hgrow (by have := hbw.size; simp; omega) (fun j hj => (hown.out.lt j hj).1)
        have HO := Lib.hid hown3
        have hcx3 : w2.cell? ⟨b, off + k, none⟩ = some (.float .f64 x) := by rw [hbw3.cell (p := ⟨b, off + k, none⟩) hb, ← hbw.cell (p := ⟨b, off + k, none⟩) hb]; exact hcx
        clear hown3 hgrow hcx
        go_wp2
        go_roundw
        case rel =>
          refine ⟨k + 1, x, acc ++ [cur], by omega, by omega, by simp; omega, by go_num, rfl, hpx, ?_, ?_, hbw3⟩
          · have h := hacc.out
            rw [hdr.out, rb, HM.out] at h
            rw [if_neg (show ¬ ltO (some x) (some p) = true from hxl)] at h
            show (acc ++ [cur]) ++ _ = _
            rw [← h]; simp
          · have := HO.out
            show World.ownsRow _ _ _ _ _ _ _
            simpa using this
        case measure => simp [intOf]; omega
    · have hkl : k = l.length := by omega
      go_wp2_with (at_builtin; refine wpList_append_own _ rfl _ _ 22 rfl w.heap.size 23 i0 (.float .f64 0) 1 8 Try.underlying22 hi hz0 hz1 hz2 rfl (by decide) _ _ _ rfl (hown.out.alloc _) ⟨wr.heap.size, 0, none⟩ 1 1 [.float .f64 cur] rfl rfl ?d1 ?d2 ?d3 ?d4 ?d5 ?_)
      all_goals try (first | exact cell_one_new _ _ _ | rfl | (intro u hu; simp at hu; subst hu; rfl) | (unfold maxLen; omega) | omega | (have := hbw.size; simp; omega))
      intro v' w2 hown3 hgrow _
      have hbw3 := (hbw.alloc hbw.size (.cells #[.float .f64 cur] 23)).grown hgrow (by have := hbw.size; simp; omega) (fun j hj => (hown.out.lt j hj).1)
      have HO := Lib.hid hown3
      have HK := Lib.hid hkl
      clear hown3 hgrow hkl
      go_wp2
      go_ret
      refine ⟨v', rfl, ?_, hbw3⟩
      have h := hacc.out
      rw [HK.out, List.drop_length] at h
      rw [← h]
      have := HO.out
      refine Sl.Of.own (B := w.heap.size) (e := 23) ?_
      simpa [rb] using this

end Go.Proofs.Ytaglcklbngoknaa.ReBucketKeeps
