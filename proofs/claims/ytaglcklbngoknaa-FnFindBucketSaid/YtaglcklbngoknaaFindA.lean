/- FnFindBucket: the walks of the reference: HistFits, HistPlace. -/
import Derived.Test.YtaglcklbngoknaaSl
import Derived.Test.YtaglcklbngoknaaFit
import Derived.Lib.Hide
import Derived.WalkSpells
import Derived.WalkLawsBesides
import Derived.Outline
import Derived.Laws.Cover2
import Derived.Deep.QuietTactic
import Derived.BigQuiet
import Derived.OwnWalk
set_option linter.unusedVariables false
set_option linter.unusedSimpArgs false
namespace Go.Proofs.Ytaglcklbngoknaa.FindBucket
open Go.RowKit Plf

theorem infoF : (Try.prog.info? 23).map (fun i => (i.zero, i.size, i.bytes)) = some (some (.float .f64 0), 1, 8) := by kernel_rfl

theorem ret_int {a b : Int} (h : a = b) : Ending.returned (.int .i64 a) = .returned (.int .i64 b) := by rw [h]

theorem take_snoc {l : List Nat} {k : Nat} (h : k < l.length) : l.take (k + 1) = l.take k ++ [l[k]] := by
  rw [List.take_succ_eq_append_getElem h]

set_option maxHeartbeats 4000000 in
set_option maxRecDepth 100000 in
theorem fits_any (v : Value) (zs : List Nat) (w : World) (hv : Sl.Of (Value.float .f64) w v zs) (hl : zs.length ≤ 2147483647) :
    Calls Try.prog 9 #[v] w fun e w' => ∃ v', e = .returned v' ∧ Sl.Of (Value.float .f64) w' v' (fits zs) ∧ Below w.heap.size w w' ∧ (∀ b off cap, v' = .slice (some ⟨b, off, none⟩) (fits zs).length cap → w.heap.size ≤ b) := by
  obtain ⟨i0, hi, hz0, hz1, hz2⟩ := info_parts infoF
  rcases hv with ⟨rfl, a, cap, rfl, hc⟩ | ⟨b, off, cap, rfl, h0, hcap, hm, hb, hcell⟩
  · go_enter Try.func9, Try.ntmps9
    go_wp2
    go_loop [3, 4] (fun v i => v = .slice none 0 0 ∧ i = .int .i64 0) (fun _ _ => 0)
    case atStart => exact ⟨rfl, rfl⟩
    case round =>
      obtain ⟨rfl, rfl⟩ := hrel
      go_wp2
      go_ret
      exact ⟨_, rfl, Or.inl ⟨rfl, none, 0, rfl, by omega⟩, Below.refl _ _, fun b off cap e => by cases e⟩
  · go_enter Try.func9, Try.ntmps9
    go_wp2
    go_loopw [3, 4] (fun v i wr => ∃ k : Nat, k ≤ zs.length ∧ i = .int .i64 k ∧ wr.ownsRow w.heap.size 23 1 v (fits (zs.take k)).length ((fits (zs.take k)).map (Value.float .f64)) ∧ Below w.heap.size w wr) (fun _ i _ => zs.length - (intOf i).toNat)
    case atStart => exact ⟨0, Nat.zero_le _, rfl, World.ownsRow_nil _ _ _ _, Below.refl _ _⟩
    case round =>
      rename_i u3 _
      obtain ⟨k, hk, rfl, hown, hbw⟩ := hrel
      by_cases hlt : k < zs.length
      · have hck := hcell k hlt
        have hcw : wr.cell? ⟨b, off + k, none⟩ = some (.float .f64 zs[k]) := by rw [hbw.cell (p := ⟨b, off + k, none⟩) hb]; exact hck
        have Hcell := Lib.hid hcell
        clear hcell hck
        by_cases hnum : (FloatKind.f64.format.order zs[k] zs[k] == some Ordering.eq) = true
        · by_cases he : fits (zs.take k) = []
          · have hstep : fits (zs.take (k + 1)) = [zs[k]] := by
              rw [take_snoc hlt, fits_snoc, fitStep, if_pos ⟨hnum, Or.inl he⟩, he]; rfl
            rw [he] at hown
            have HS := Lib.hid hstep
            have HE := Lib.hid he
            clear hstep he
            have hown' : wr.ownsRow w.heap.size 23 1 u3 0 [] := hown
            obtain ⟨ao, c0, hu⟩ : ∃ ao c0, u3 = .slice ao 0 c0 := by
              rcases hown'.2 with ⟨hv, _⟩ | ⟨g, c, cur, hv, _⟩
              · exact ⟨_, _, hv⟩
              · exact ⟨_, _, hv⟩
            clear hown
            subst hu
            go_wp2
            go_quiet (fail)
            have hown2 : (wr.drewN nq).ownsRow w.heap.size 23 1 (.slice ao 0 c0) 0 [] := hown'
            have hcw2 : (wr.drewN nq).cell? ⟨b, off + k, none⟩ = some (.float .f64 zs[k]) := hcw
            have hbw2 := below_drewN hbw nq
            generalize wr.drewN nq = W at *
            clear hcw hown' hbw
            go_wp2_with (at_builtin; refine wpList_append_own _ rfl _ _ 22 rfl w.heap.size 23 i0 (.float .f64 0) 1 8 Try.underlying22 hi hz0 hz1 hz2 rfl (by decide) _ _ _ rfl (hown2.alloc _) ⟨W.heap.size, 0, none⟩ 1 1 [.float .f64 zs[k]] rfl rfl ?c1 ?c2 ?c3 ?c4 ?c5 ?_)
            case c1 => exact cell_one_new _ _ _
            case c2 => intro u hu; simp at hu; subst hu; rfl
            case c3 => unfold maxLen; omega
            case c4 => omega
            case c5 => have := hbw2.size; simp; omega
            intro v' w2 hown3 hgrow _
            have hbw3 := (hbw2.alloc hbw2.size (.cells #[.float .f64 zs[k]] 23)).grown hgrow (by have := hbw2.size; simp; omega) (fun j hj => (hown2.lt j hj).1)
            go_wp2
            go_roundw
            case rel => exact ⟨k + 1, by omega, by go_num, by rw [HS.out]; simpa using hown3, hbw3⟩
            case measure => simp [intOf]; omega
          · obtain ⟨n, hn⟩ : ∃ n, (fits (zs.take k)).length = n + 1 := ⟨(fits (zs.take k)).length - 1, by have := List.length_pos_iff.2 he; omega⟩
            have hnl : n + 1 ≤ k := by have := fits_len (zs.take k); have := List.length_take_le k zs; omega
            obtain ⟨g, c0, cur, hu, hg, hgr, hgc, hgm, hgs, hgt⟩ : ∃ g cap cur, u3 = .slice (some ⟨g, 0, none⟩) (fits (zs.take k)).length cap ∧ w.heap.size ≤ g ∧ wr.heap[g]? = some (.cells cur 23 (0, 0)) ∧ (fits (zs.take k)).length ≤ cap ∧ cap ≤ maxLen ∧ cur.size = cap * 1 ∧ cur.toList.take ((fits (zs.take k)).length * 1) = (fits (zs.take k)).map (Value.float .f64) := by
              rcases hown.2 with ⟨_, h0⟩ | ⟨g, c, cur, h⟩
              · omega
              · exact ⟨g, c, cur, h⟩
            have hlast : ∃ y, (fits (zs.take k)).getLastD 0 = y ∧ wr.cell? ⟨g, n, none⟩ = some (.float .f64 y) := by
              refine ⟨_, rfl, ?_⟩
              have h1 : (cur.toList.take ((fits (zs.take k)).length * 1))[n]? = some (Value.float .f64 ((fits (zs.take k)).getLastD 0)) := by
                rw [hgt, List.getElem?_map, List.getLastD_eq_getLast?, List.getLast?_eq_getElem?, show (fits (zs.take k)).length - 1 = n by omega]
                rw [List.getElem?_eq_getElem (by omega)]
                rfl
              rw [Nat.mul_one, List.getElem?_take, if_pos (by omega)] at h1
              simp only [World.cell?, hgr]
              simpa using h1
            obtain ⟨y, hy, hcy⟩ := hlast
            rw [hn] at hu hown
            subst hu
            have HY := Lib.hid hy
            have HN := Lib.hid hn
            have HOWN := Lib.hid hown
            have HE := Lib.hid he
            clear hgt hgs hgr hy hn hown he
            unfold maxLen at hgm
            have z0 : (((n : Int) + 1) == 0) = false := by simp; omega
            have z1 : IntKind.i64.wrap ((n : Int) + 1 - 1) = (n : Int) := by rw [IntKind.wrap_i64]; omega
            have z2 : (0 : Int) ≤ n := by omega
            have z3 : (n : Int) < (n : Int) + 1 := by omega
            by_cases hgt : (FloatKind.f64.format.order zs[k] y == some Ordering.gt) = true
            · have hstep : fits (zs.take (k + 1)) = fits (zs.take k) ++ [zs[k]] := by
                rw [take_snoc hlt, fits_snoc, fitStep, if_pos ⟨hnum, Or.inr (by rw [HY.out]; exact hgt)⟩]
              have HS := Lib.hid hstep
              clear hstep
              go_wp2
              go_quiet (fail)
              have hown2 : (wr.drewN nq).ownsRow w.heap.size 23 1 (.slice (some ⟨g, 0, none⟩) (n + 1) c0) (n + 1) ((fits (zs.take k)).map (Value.float .f64)) := HOWN.out
              have hcw2 : (wr.drewN nq).cell? ⟨b, off + k, none⟩ = some (.float .f64 zs[k]) := hcw
              have hbw2 := below_drewN hbw nq
              generalize wr.drewN nq = W at *
              clear hcw hbw hcy HOWN
              go_wp2_with (at_builtin; refine wpList_append_own _ rfl _ _ 22 rfl w.heap.size 23 i0 (.float .f64 0) 1 8 Try.underlying22 hi hz0 hz1 hz2 rfl (by decide) _ _ _ rfl (hown2.alloc _) ⟨W.heap.size, 0, none⟩ 1 1 [.float .f64 zs[k]] rfl rfl ?c1 ?c2 ?c3 ?c4 ?c5 ?_)
              case c1 => exact cell_one_new _ _ _
              case c2 => intro u hu; simp at hu; subst hu; rfl
              case c3 => unfold maxLen; omega
              case c4 => omega
              case c5 => have := hbw2.size; simp; omega
              intro v' w2 hown3 hgrow _
              have hbw3 := (hbw2.alloc hbw2.size (.cells #[.float .f64 zs[k]] 23)).grown hgrow (by have := hbw2.size; simp; omega) (fun j hj => (hown2.lt j hj).1)
              go_wp2
              go_roundw
              case rel => exact ⟨k + 1, by omega, by go_num, by rw [HS.out]; simpa [HN.out] using hown3, hbw3⟩
              case measure => simp [intOf]; omega
            · have hgt := Bool.eq_false_iff.2 hgt
              have hstep : fits (zs.take (k + 1)) = fits (zs.take k) := by
                rw [take_snoc hlt, fits_snoc, fitStep, if_neg]
                rintro ⟨_, h | h⟩
                · exact HE.out h
                · rw [HY.out] at h
                  have h : (FloatKind.f64.format.order zs[k] y == some Ordering.gt) = true := h
                  rw [hgt] at h; cases h
              have HS := Lib.hid hstep
              clear hstep
              go_wp2
              go_quiet (fail)
              go_wp2
              go_roundw
              case rel => exact ⟨k + 1, by omega, by go_num, by rw [HS.out, HN.out]; exact HOWN.out, below_drewN hbw _⟩
              case measure => simp [intOf]; omega
        · have hnum := Bool.eq_false_iff.2 hnum
          have hstep : fits (zs.take (k + 1)) = fits (zs.take k) := by
            rw [take_snoc hlt, fits_snoc, fitStep, if_neg]
            rintro ⟨h, _⟩
            have h : (FloatKind.f64.format.order zs[k] zs[k] == some Ordering.eq) = true := h
            rw [hnum] at h; cases h
          have HS := Lib.hid hstep
          clear hstep
          go_wp2
          go_quiet (fail)
          go_wp2
          go_roundw
          case rel => exact ⟨k + 1, by omega, by go_num, by rw [HS.out]; exact hown, below_drewN hbw _⟩
          case measure => simp [intOf]; omega
      · have hkn : k = zs.length := by omega
        subst hkn
        have hown2 : wr.ownsRow w.heap.size 23 1 u3 (fits zs).length ((fits zs).map (Value.float .f64)) := by rw [List.take_length] at hown; exact hown
        have hex : ∃ ao n c, u3 = .slice ao n c := by
          rcases hown2.2 with ⟨hv, _⟩ | ⟨g, c, cur, hv, _⟩
          · exact ⟨_, _, _, hv⟩
          · exact ⟨_, _, _, hv⟩
        obtain ⟨ao, n, c, hu⟩ := hex
        have HOWN := Lib.hid hown2
        have Hcell := Lib.hid hcell
        clear hown hown2 hcell
        subst hu
        go_wp2
        go_ret
        refine ⟨_, rfl, Sl.Of.own HOWN.out, hbw, ?_⟩
        intro b' off' cap' e
        exact (HOWN.out.lt b' (by
          have e' : Value.slice ao n c = _ := e
          rw [e']; rfl)).1

end Go.Proofs.Ytaglcklbngoknaa.FindBucket
