/- FnReBucketKeeps: the walks of BucketWhole, SameNum and SameNums. -/
import Derived.Test.YtaglcklbngoknaaSl
import Derived.Test.YtaglcklbngoknaaReb
import Derived.Test.YtaglcklbngoknaaFlo
import Derived.Maps.AppendAt
import Derived.Deep.QuietTactic
import Derived.BigQuiet
import Derived.OwnWalk
set_option linter.unusedVariables false
set_option linter.unusedSimpArgs false
namespace Go.Proofs.Ytaglcklbngoknaa.ReBucketKeeps
open Go.RowKit Plf

theorem infoF : (Try.prog.info? 23).map (fun i => (i.zero, i.size, i.bytes)) = some (some (.float .f64 0), 1, 8) := by kernel_rfl

theorem pos_of_int (n : Nat) : Pos (floatOfInt .f64 (n : Int)) := Pos.ofInt n

theorem tmod_bd (x : Int) : -1000 < x.tmod 1000 ∧ x.tmod 1000 < 1000 := by
  rcases Int.lt_or_le x 0 with h | h
  · have := Int.neg_tmod (-x) 1000
    rw [Int.neg_neg] at this
    rw [this, Int.tmod_eq_emod_of_nonneg (by omega)]; omega
  · rw [Int.tmod_eq_emod_of_nonneg h]; omega

/-- some list of numbers that are not negative, at most 1000, in new memory -/
def Whole (w : World) (e : Ending) (w' : World) : Prop :=
  ∃ v' l, e = .returned v' ∧ Sl.Of (Value.float .f64) w' v' l ∧ (∀ z ∈ l, Pos z) ∧ l.length ≤ 1000 ∧ Below w.heap.size w w'

set_option maxHeartbeats 4000000 in
set_option maxRecDepth 100000 in
theorem whole_any (v : Value) (zs : List Int) (w : World) (hv : Sl.Of (Value.int .i64) w v zs) (hz : ∀ z ∈ zs, -9223372036854775808 ≤ z ∧ z ≤ 9223372036854775807) :
    Calls Try.prog 15 #[v] w (Whole w) := by
  obtain ⟨i0, hi, hz0, hz1, hz2⟩ := info_parts infoF
  rcases hv with ⟨rfl, a, cap, rfl, hc⟩ | ⟨b, off, cap, rfl, h0, hcap, hm, hb, hcell⟩
  · go_enter Try.func15, Try.ntmps15
    go_wp2
    go_loop [3, 4, 5] (fun v a i => v = .slice none 0 0 ∧ a = .int .i64 0 ∧ i = .int .i64 0) (fun _ _ _ => 0)
    case atStart => exact ⟨rfl, rfl, rfl⟩
    case round =>
      obtain ⟨rfl, rfl, rfl⟩ := hrel
      go_wp2
      go_ret
      exact ⟨_, [], rfl, Or.inl ⟨rfl, none, 0, rfl, by omega⟩, by simp, by simp, Below.refl _ _⟩
  · have HZ := Lib.hid hz
    have HC := Lib.hid hcell
    clear hz hcell
    go_enter Try.func15, Try.ntmps15
    go_wp2
    go_loopw [3, 4, 5] (fun v at_ i wr => ∃ (k m : Nat) (l : List Nat), k ≤ zs.length ∧ k ≤ 1000 ∧ m ≤ 1000 * k ∧ i = .int .i64 k ∧ at_ = .int .i64 m ∧ Hid (l.length = k) ∧ Hid (∀ z ∈ l, Pos z) ∧ Hid (wr.ownsRow w.heap.size 23 1 v l.length (l.map (Value.float .f64))) ∧ Below w.heap.size w wr) (fun _ _ i _ => 1000 - (intOf i).toNat)
    case atStart => exact ⟨0, 0, [], by omega, by omega, by omega, rfl, rfl, rfl, fun z h => (by cases h), World.ownsRow_nil _ _ _ _, Below.refl _ _⟩
    case round =>
      obtain ⟨k, m, l, hk, hk2, hm2, rfl, rfl, hlk, hpos, hown, hbw⟩ := hrel
      by_cases hlt : k < zs.length
      · by_cases h1000 : k < 1000
        · obtain ⟨x, hx⟩ : ∃ x, zs[k] = x := ⟨_, rfl⟩
          have hck : wr.cell? ⟨b, off + k, none⟩ = some (.int .i64 x) := by rw [hbw.cell (p := ⟨b, off + k, none⟩) hb, ← hx]; exact HC.out k hlt
          have hxb := HZ.out zs[k] (List.getElem_mem hlt)
          rw [hx] at hxb
          obtain ⟨hx1, hx2⟩ := hxb
          clear hx
          obtain ⟨t1, t2⟩ := tmod_bd x
          by_cases hneg : x.tmod 1000 < 0
          · go_wp2_with (at_builtin; refine wpList_append_own _ rfl _ _ 22 rfl w.heap.size 23 i0 (.float .f64 0) 1 8 Try.underlying22 hi hz0 hz1 hz2 rfl (by decide) _ _ _ rfl (hown.out.alloc _) ⟨wr.heap.size, 0, none⟩ 1 1 [.float .f64 (floatOfInt .f64 ((m : Int) + (1 + -x.tmod 1000)))] rfl rfl ?c1 ?c2 ?c3 ?c4 ?c5 ?_)
            all_goals try (first | exact cell_one_new _ _ _ | rfl | (intro u hu; simp at hu; subst hu; rfl) | (have := hlk.out; unfold maxLen; omega) | (have := hlk.out; omega) | (have := hbw.size; simp; omega))
            intro v' w2 hown3 hgrow _
            have hbw3 := (hbw.alloc hbw.size (.cells #[.float .f64 (floatOfInt .f64 ((m : Int) + (1 + -x.tmod 1000)))] 23)).grown hgrow (by have := hbw.size; simp; omega) (fun j hj => (hown.out.lt j hj).1)
            have HO := Lib.hid hown3
            clear hown3 hgrow
            go_wp2
            go_roundw
            case rel =>
              have hV : ((m : Int) + (1 + -x.tmod 1000) : Int) = ((m + (1 + (-x.tmod 1000).toNat) : Nat) : Int) := by omega
              refine ⟨k + 1, m + (1 + (-x.tmod 1000).toNat), l ++ [floatOfInt .f64 ((m : Int) + (1 + -x.tmod 1000))], by omega, by omega, by omega, by go_num, by rw [hV], ?_, ?_, ?_, hbw3⟩
              · have := hlk.out; show (l ++ _).length = k + 1; simp [this]
              · intro z hz
                rcases List.mem_append.1 hz with hz | hz
                · exact hpos.out z hz
                · rw [List.mem_singleton.1 hz, hV]; exact pos_of_int _
              · have := HO.out
                show World.ownsRow _ _ _ _ _ _ _
                simpa using this
            case measure => simp [intOf]; omega
          · have hpos' : 0 ≤ x.tmod 1000 := by omega
            go_wp2_with (at_builtin; refine wpList_append_own _ rfl _ _ 22 rfl w.heap.size 23 i0 (.float .f64 0) 1 8 Try.underlying22 hi hz0 hz1 hz2 rfl (by decide) _ _ _ rfl (hown.out.alloc _) ⟨wr.heap.size, 0, none⟩ 1 1 [.float .f64 (floatOfInt .f64 ((m : Int) + (1 + x.tmod 1000)))] rfl rfl ?d1 ?d2 ?d3 ?d4 ?d5 ?_)
            all_goals try (first | exact cell_one_new _ _ _ | rfl | (intro u hu; simp at hu; subst hu; rfl) | (have := hlk.out; unfold maxLen; omega) | (have := hlk.out; omega) | (have := hbw.size; simp; omega))
            intro v' w2 hown3 hgrow _
            have hbw3 := (hbw.alloc hbw.size (.cells #[.float .f64 (floatOfInt .f64 ((m : Int) + (1 + x.tmod 1000)))] 23)).grown hgrow (by have := hbw.size; simp; omega) (fun j hj => (hown.out.lt j hj).1)
            have HO := Lib.hid hown3
            clear hown3 hgrow
            go_wp2
            go_roundw
            case rel =>
              have hV : ((m : Int) + (1 + x.tmod 1000) : Int) = ((m + (1 + (x.tmod 1000).toNat) : Nat) : Int) := by omega
              refine ⟨k + 1, m + (1 + (x.tmod 1000).toNat), l ++ [floatOfInt .f64 ((m : Int) + (1 + x.tmod 1000))], by omega, by omega, by omega, by go_num, by rw [hV], ?_, ?_, ?_, hbw3⟩
              · have := hlk.out; show (l ++ _).length = k + 1; simp [this]
              · intro z hz
                rcases List.mem_append.1 hz with hz | hz
                · exact hpos.out z hz
                · rw [List.mem_singleton.1 hz, hV]; exact pos_of_int _
              · have := HO.out
                show World.ownsRow _ _ _ _ _ _ _
                simpa using this
            case measure => simp [intOf]; omega
        · have hk3 : k = 1000 := by omega
          subst hk3
          have hex : ∃ ao n c, u3 = .slice ao n c := by
            rcases hown.out.2 with ⟨hv, _⟩ | ⟨g, c, cur, hv, _⟩
            · exact ⟨_, _, _, hv⟩
            · exact ⟨_, _, _, hv⟩
          obtain ⟨ao, n, c, hu⟩ := hex
          subst hu
          go_wp2
          go_ret
          exact ⟨_, l, rfl, Sl.Of.own hown.out, hpos.out, by have := hlk.out; omega, hbw⟩
      · have hex : ∃ ao n c, u3 = .slice ao n c := by
          rcases hown.out.2 with ⟨hv, _⟩ | ⟨g, c, cur, hv, _⟩
          · exact ⟨_, _, _, hv⟩
          · exact ⟨_, _, _, hv⟩
        obtain ⟨ao, n, c, hu⟩ := hex
        subst hu
        go_wp2
        go_ret
        exact ⟨_, l, rfl, Sl.Of.own hown.out, hpos.out, by have := hlk.out; omega, hbw⟩

set_option maxHeartbeats 4000000 in
set_option maxRecDepth 100000 in
theorem same_one (z : Nat) (w : World) :
    Calls Try.prog 34 #[.float .f64 z, .float .f64 z] w fun e w' => e = .returned (.bool true) ∧ w = w' := by
  have h : (FloatKind.f64.format.order z z == some Ordering.eq) = true ∨ (FloatKind.f64.format.order z z == some Ordering.eq) = false := by
    cases (FloatKind.f64.format.order z z == some Ordering.eq) <;> simp
  rcases h with h | h
  · go_enter Try.func34, Try.ntmps34
    go_wp2
    go_ret
    exact ⟨rfl, rfl⟩
  · have h2 : (FloatKind.f64.format.order z z != some Ordering.eq) = true := by rw [bne, h]; rfl
    go_enter Try.func34, Try.ntmps34
    go_wp2
    go_ret
    exact ⟨rfl, rfl⟩

end Go.Proofs.Ytaglcklbngoknaa.ReBucketKeeps
