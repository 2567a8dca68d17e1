/- FnFindBucket: the walks of sort.Search and sort.SearchFloat64s. -/
import Derived.Test.YtaglcklbngoknaaFindB
set_option linter.unusedVariables false
set_option linter.unusedSimpArgs false
namespace Go.Proofs.Ytaglcklbngoknaa.FindBucket
open Go.RowKit Plf

set_option maxHeartbeats 4000000 in
set_option maxRecDepth 100000 in
theorem search_any (b off cap p q : Nat) (zs : List Nat) (x : Nat) (hs : Incr zs) (hcap : zs.length ≤ cap) (hm : cap ≤ 9223372036854775807) (hl : zs.length ≤ 2147483647) (w : World)
    (h1 : w.cell? ⟨p, 0, none⟩ = some (.slice (some ⟨b, off, none⟩) zs.length cap)) (h2 : w.cell? ⟨q, 0, none⟩ = some (.float .f64 x)) (h3 : ∀ i (h : i < zs.length), w.cell? ⟨b, off + i, none⟩ = some (.float .f64 zs[i])) :
    Calls Try.prog 70 #[.int .i64 zs.length, .func (.func 71) #[] #[.pointer (some ⟨p, 0, none⟩), .pointer (some ⟨q, 0, none⟩)]] w fun e w' => e = .returned (.int .i64 (place zs x : Nat)) ∧ ∃ n, w' = w.drewN n := by
  have H1 := Lib.hid h1
  have H2 := Lib.hid h2
  have H3 := Lib.hid h3
  have HS := Lib.hid hs
  clear h1 h2 h3 hs
  go_enter Try.func70, Try.ntmps70
  go_wp2
  go_loopw [5, 6] (fun i j wr => ∃ a c n : Nat, a ≤ c ∧ c ≤ zs.length ∧ i = .int .i64 a ∧ j = .int .i64 c ∧ Hid (wr = w.drewN n) ∧ Hid (∀ t (h : t < zs.length), t < a → leW x zs[t] = false) ∧ Hid (∀ t (h : t < zs.length), c ≤ t → leW x zs[t] = true)) (fun i j _ => (intOf j - intOf i).toNat)
  case atStart => exact ⟨0, zs.length, 0, by omega, by omega, rfl, rfl, rfl, fun t h h2 => by omega, fun t h h2 => by omega⟩
  case round =>
    obtain ⟨a, c, n, hac, hcl, rfl, rfl, hwr, hlo, hhi⟩ := hrel
    by_cases hlt : a < c
    · obtain ⟨m, hm, hm2, hm3⟩ : ∃ m : Nat, ((a : Int) + c) / 2 = m ∧ m < c ∧ a ≤ m := ⟨(a + c) / 2, by omega, by omega, by omega⟩
      have HM := Lib.hid hm
      have hmz : m < zs.length := by omega
      clear hm
      go_wp2_with fail
      rw [HM.out]
      have g1 : wr.cell? ⟨p, 0, none⟩ = some (.slice (some ⟨b, off, none⟩) zs.length cap) := by rw [hwr.out]; exact H1.out
      have g2 : wr.cell? ⟨q, 0, none⟩ = some (.float .f64 x) := by rw [hwr.out]; exact H2.out
      have g3 : wr.cell? ⟨b, off + m, none⟩ = some (.float .f64 zs[m]) := by rw [hwr.out]; exact H3.out m hmz
      by_cases hr : leW x zs[m] = true
      · refine (less_any b off cap p q zs x m hmz hcap (by assumption) wr true hr g1 g2 g3).mono ?_
        rintro e w2 ⟨rfl, k, hk⟩
        have HK := Lib.hid hk
        have HR := Lib.hid hr
        clear g1 g2 g3 hk hr
        go_wp2
        go_roundw
        case rel =>
          refine ⟨a, m, n + k, by omega, by omega, rfl, rfl, ?_, hlo, fun t h ht => ?_⟩
          · rw [HK.out, hwr.out]; exact World.drewN_drewN ..
          · exact place_mono HS.out h ht HR.out
        case measure => simp [intOf]; omega
      · have hr := Bool.eq_false_iff.2 hr
        refine (less_any b off cap p q zs x m hmz hcap (by assumption) wr false hr g1 g2 g3).mono ?_
        rintro e w2 ⟨rfl, k, hk⟩
        have HK := Lib.hid hk
        have HR := Lib.hid hr
        clear g1 g2 g3 hk hr
        go_wp2
        go_roundw
        case rel =>
          refine ⟨m + 1, c, n + k, by omega, by omega, by go_num, rfl, ?_, fun t h ht => ?_, hhi⟩
          · rw [HK.out, hwr.out]; exact World.drewN_drewN ..
          · cases e : leW x zs[t]
            · rfl
            · have := place_mono (j := m) HS.out hmz (by omega) e
              rw [HR.out] at this; cases this
        case measure => simp [intOf]; omega
    · have hp := Lib.hid (place_split (l := zs) (v := x) (i := a) (by omega) (fun t h ht => hlo.out t h ht) (fun h => hhi.out a h (by omega)))
      go_wp2
      go_ret
      exact ⟨ret_int (by rw [hp.out]), n, hwr.out⟩

theorem below_n {w w' : World} {n : Nat} (h : w' = w.drewN n) (B : Nat) : Below B w w' := by rw [h]; exact below_drewN (Below.refl _ _) n

set_option maxHeartbeats 4000000 in
set_option maxRecDepth 100000 in
theorem searchF_any (b off cap : Nat) (zs : List Nat) (x : Nat) (hs : Incr zs) (hcap : zs.length ≤ cap) (hm : cap ≤ 9223372036854775807) (hl : zs.length ≤ 2147483647) (w : World) (hb : b < w.heap.size)
    (h3 : ∀ i (h : i < zs.length), w.cell? ⟨b, off + i, none⟩ = some (.float .f64 zs[i])) :
    Calls Try.prog 58 #[.slice (some ⟨b, off, none⟩) zs.length cap, .float .f64 x] w fun e w' => e = .returned (.int .i64 (place zs x : Nat)) ∧ Below w.heap.size w w' := by
  have H3 := Lib.hid h3
  have HS := Lib.hid hs
  clear h3 hs
  go_enter Try.func58, Try.ntmps58
  go_wp2_with fail
  refine (search_any b off cap w.heap.size (w.heap.size + 1) zs x HS.out hcap hm hl _ ?c1 ?c2 ?c3).mono ?_
  case c1 => rw [Sl.cell_old _ _ _ _ (by simp), Sl.cell_new]; rfl
  case c2 => have := Sl.cell_new (w.alloc (.cells #[.slice (some ⟨b, off, none⟩) zs.length cap] 22)) #[.float .f64 x] 23 0; simp only [World.size_alloc] at this; rw [this]; rfl
  case c3 => intro i hi; rw [Sl.cell_old _ _ _ _ (by simp; omega), Sl.cell_old _ _ _ _ hb]; exact H3.out i hi
  rintro e w2 ⟨rfl, n, hn⟩
  have HN := Lib.hid hn
  clear hn
  go_wp2
  go_ret
  refine ⟨rfl, ?_⟩
  rw [HN.out]
  exact below_drewN (((Below.refl _ w).alloc (Nat.le_refl _) _).alloc (by simp) _) n

end Go.Proofs.Ytaglcklbngoknaa.FindBucket
