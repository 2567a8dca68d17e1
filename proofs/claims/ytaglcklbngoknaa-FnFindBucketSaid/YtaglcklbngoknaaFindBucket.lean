/- FnFindBucket: the walks of findBucket, of the thin package and of the law. -/
import Derived.Test.YtaglcklbngoknaaFindC
set_option linter.unusedVariables false
set_option linter.unusedSimpArgs false
namespace Go.Proofs.Ytaglcklbngoknaa.FindBucket
open Go.RowKit Plf

set_option maxHeartbeats 4000000 in
set_option maxRecDepth 100000 in
theorem find_empty (p cap : Nat) (a : Option Addr) (x : Nat) (w : World) (h1 : w.cell? ⟨p, 7, none⟩ = some (.slice a 0 cap)) :
    Calls Try.prog 44 #[.pointer (some ⟨p, 0, none⟩), .float .f64 x] w fun e w' => e = .returned (.int .i64 0) ∧ Below w.heap.size w w' := by
  go_enter Try.func44, Try.ntmps44
  go_wp2
  go_ret
  exact ⟨rfl, Below.refl _ _⟩

set_option maxHeartbeats 4000000 in
set_option maxRecDepth 100000 in
theorem find_any (p b off cap : Nat) (zs : List Nat) (x : Nat) (hs : Incr zs) (h0 : 0 < zs.length) (hcap : zs.length ≤ cap) (hm : cap ≤ 9223372036854775807) (hl : zs.length ≤ 2147483647) (w : World) (hb : b < w.heap.size)
    (h1 : w.cell? ⟨p, 7, none⟩ = some (.slice (some ⟨b, off, none⟩) zs.length cap)) (h3 : ∀ i (h : i < zs.length), w.cell? ⟨b, off + i, none⟩ = some (.float .f64 zs[i])) :
    Calls Try.prog 44 #[.pointer (some ⟨p, 0, none⟩), .float .f64 x] w fun e w' => e = .returned (.int .i64 (place zs x : Nat)) ∧ Below w.heap.size w w' := by
  have g0 : w.cell? ⟨b, off, none⟩ = some (.float .f64 (zs[0]'h0)) := h3 0 h0
  have hnl : zs.length - 1 < zs.length := by omega
  have gl : w.cell? ⟨b, off + (zs.length - 1), none⟩ = some (.float .f64 (zs[zs.length - 1]'hnl)) := h3 _ hnl
  have H3 := Lib.hid h3
  have HS := Lib.hid hs
  clear h3 hs
  have hz : ((zs.length : Int) == 0) = false := beq_eq_false_iff_ne.2 (by omega)
  by_cases c0 : leW x (zs[0]'h0) = true
  · have hp := Lib.hid (place_first h0 c0)
    have c0' : (FloatKind.f64.format.order x (zs[0]'h0) == some Ordering.lt || FloatKind.f64.format.order x (zs[0]'h0) == some Ordering.eq) = true := c0
    clear gl
    go_enter Try.func44, Try.ntmps44
    go_wp2
    go_ret
    exact ⟨ret_int (by rw [hp.out]; rfl), Below.refl _ _⟩
  · have c0' : (FloatKind.f64.format.order x (zs[0]'h0) == some Ordering.lt || FloatKind.f64.format.order x (zs[0]'h0) == some Ordering.eq) = false := Bool.eq_false_iff.2 c0
    by_cases c1 : gtW x (zs[zs.length - 1]'hnl) = true
    · have hp := Lib.hid (place_above (l := zs) (v := x) HS.out h0 c1)
      have c1' : (FloatKind.f64.format.order x (zs[zs.length - 1]'hnl) == some Ordering.gt) = true := c1
      go_enter Try.func44, Try.ntmps44
      clear c0 c1
      go_wp2
      go_ret
      exact ⟨ret_int (by rw [hp.out]), Below.refl _ _⟩
    · have c1' : (FloatKind.f64.format.order x (zs[zs.length - 1]'hnl) == some Ordering.gt) = false := Bool.eq_false_iff.2 c1
      clear c0 c1
      by_cases h35 : zs.length < 35
      · go_enter Try.func44, Try.ntmps44
        go_wp2
        go_loop [41] (fun i => ∃ k : Nat, k ≤ zs.length ∧ i = .int .i64 k ∧ Hid (∀ j (h : j < zs.length), j < k → leW x zs[j] = false)) (fun i => zs.length - (intOf i).toNat)
        case atStart => exact ⟨0, Nat.zero_le _, rfl, fun j h h2 => by omega⟩
        case round =>
          obtain ⟨k, hk, rfl, hno⟩ := hrel
          by_cases hlt : k < zs.length
          · have hck := H3.out k hlt
            by_cases hle : leW x zs[k] = true
            · have hp := Lib.hid (place_eq hlt hno.out hle)
              have hle : (FloatKind.f64.format.order x zs[k] == some Ordering.lt || FloatKind.f64.format.order x zs[k] == some Ordering.eq) = true := hle
              go_wp2
              go_ret
              exact ⟨ret_int (by rw [hp.out]), Below.refl _ _⟩
            · have hle' := Bool.eq_false_iff.2 hle
              have HL := Lib.hid hle'
              have hle : (FloatKind.f64.format.order x zs[k] == some Ordering.lt || FloatKind.f64.format.order x zs[k] == some Ordering.eq) = false := hle'
              clear hle'
              go_wp2
              go_round
              case rel =>
                refine ⟨k + 1, by omega, by go_num, fun j h hj => ?_⟩
                by_cases e : j = k
                · subst e; exact HL.out
                · exact hno.out j h (by omega)
              case measure => simp [intOf]; omega
          · have hp := Lib.hid (place_none (l := zs) (v := x) fun j hj => hno.out j hj (by omega))
            go_wp2
            go_ret
            exact ⟨ret_int (by rw [hp.out]), Below.refl _ _⟩
      · go_enter Try.func44, Try.ntmps44
        go_wp2_with fail
        refine (searchF_any b off cap zs x HS.out hcap hm hl w hb H3.out).mono ?_
        rintro e w2 ⟨rfl, b2⟩
        go_wp2
        go_ret
        exact ⟨rfl, b2⟩

set_option maxHeartbeats 4000000 in
set_option maxRecDepth 100000 in
theorem door_any (v : Value) (zs : List Nat) (x : Nat) (hs : Incr zs) (w : World) (hv : Sl.Of (Value.float .f64) w v zs) (hl : zs.length ≤ 2147483647) :
    Calls Try.prog 28 #[v, .float .f64 x] w fun e w' => e = .returned (.int .i64 (place zs x : Nat)) ∧ Below w.heap.size w w' := by
  rcases hv with ⟨rfl, a, cap, rfl, hc⟩ | ⟨b, off, cap, rfl, h0, hcap, hm, hb, hcell⟩
  · go_enter Try.func28, Try.ntmps28
    go_wp2_with fail
    refine (find_empty w.heap.size cap a x _ (by rw [Sl.cell_new]; rfl)).mono ?_
    rintro e w2 ⟨rfl, b2⟩
    go_wp2
    go_ret
    exact ⟨rfl, ((Below.refl _ w).alloc (Nat.le_refl _) _).trans (b2.mono (by simp))⟩
  · have H3 := Lib.hid hcell
    have HS := Lib.hid hs
    clear hcell hs
    go_enter Try.func28, Try.ntmps28
    go_wp2_with fail
    refine (find_any w.heap.size b off cap zs x HS.out h0 hcap hm hl _ (by simp; omega) (by rw [Sl.cell_new]; rfl) (fun i hi => by rw [Sl.cell_old _ _ _ _ hb]; exact H3.out i hi)).mono ?_
    rintro e w2 ⟨rfl, b2⟩
    go_wp2
    go_ret
    exact ⟨rfl, ((Below.refl _ w).alloc (Nat.le_refl _) _).trans (b2.mono (by simp))⟩

set_option maxHeartbeats 4000000 in
set_option maxRecDepth 100000 in
theorem impl_any (v : Value) (zs : List Nat) (x : Nat) (hs : Incr zs) (w : World) (hv : Sl.Of (Value.float .f64) w v zs) (hl : zs.length ≤ 2147483647) :
    Calls Try.prog 10 #[v, .float .f64 x] w fun e w' => e = .returned (.int .i64 (place zs x : Nat)) ∧ Below w.heap.size w w' := by
  have HS := Lib.hid hs
  have HV := Lib.hid hv
  clear hs hv
  go_enter Try.func10, Try.ntmps10
  go_wp2_with fail
  refine (door_any v zs x HS.out w HV.out hl).mono ?_
  rintro e w2 ⟨rfl, b2⟩
  go_wp2
  go_ret
  exact ⟨rfl, b2⟩

set_option maxRecDepth 100000 in
theorem read0 {H : Type} {enc : TypeId × Value → H} {W : World} {base b0 : Nat} {held : Bool} {r : Reach} {v : Value} {d : DataW H} {p : List MemPlace}
    (hv : Value.okWide Try.prog W r b0 22 v) (h : DataW.Trod enc Try.prog W base (fun _ => true) held 22 v d p) : ∃ zs : List Nat, Sl.Of (Value.float .f64) W v zs := by
  obtain ⟨zs, h, _⟩ := Sl.open_floats Try.underlying22 Try.underlying23 (by kernel_rfl) hv h
  exact ⟨zs, h⟩

theorem incr2 {a b : Nat} (ha : isNan D a = false) (hb : isNan D b = false) (h : sv D a < sv D b) : Incr [a, b] := by
  refine ⟨?_, ?_⟩
  · intro z hz
    rcases List.mem_cons.1 hz with e | hz
    · rw [e]; exact ha
    · rw [List.mem_singleton.1 hz]; exact hb
  · rw [List.pairwise_cons]
    refine ⟨fun y hy => ?_, List.pairwise_singleton _ _⟩
    rw [List.mem_singleton.1 hy]
    exact h

theorem sv12 : sv D 4607182418800017408 < sv D 4611686018427387904 := by decide +kernel
theorem nan1 : isNan D 4607182418800017408 = false := by decide +kernel
theorem nan2 : isNan D 4611686018427387904 = false := by decide +kernel
theorem incr12 : Incr [4607182418800017408, 4611686018427387904] := incr2 nan1 nan2 sv12

set_option maxRecDepth 100000 in
theorem place12 : place [4607182418800017408, 4611686018427387904] 4611686018427387904 = 1 := by decide +kernel

set_option maxRecDepth 100000 in
theorem two_of (w : World) : Sl.Of (Value.float .f64) (w.alloc (.cells #[.float .f64 4607182418800017408, .float .f64 4611686018427387904] 23)) (.slice (some ⟨w.heap.size, 0, none⟩) 2 2) [4607182418800017408, 4611686018427387904] := by
  refine Or.inr ⟨w.heap.size, 0, 2, rfl, by decide, by decide, by decide, by simp, fun i hi => ?_⟩
  rw [Sl.cell_new]
  match i, hi with
  | 0, _ => rfl
  | 1, _ => rfl

set_option maxHeartbeats 4000000 in
set_option maxRecDepth 100000 in
theorem law_any (v : Value) (x : Nat) (w : World) (hv : ∃ zs : List Nat, Sl.Of (Value.float .f64) w v zs) (hx : x < 18446744073709551616) :
    Calls Try.prog 3 #[v, .float .f64 x] w fun e w' => e = .returned (.bool true) ∧ Below w.heap.size w w' := by
  obtain ⟨zs, hv⟩ := hv
  have hlen : ∃ a cap, v = .slice a zs.length cap := by
    rcases hv with ⟨rfl, a, cap, rfl, hc⟩ | ⟨b, off, cap, rfl, _⟩
    · exact ⟨a, cap, rfl⟩
    · exact ⟨_, cap, rfl⟩
  have hmax := hv.len
  obtain ⟨a, cap, rfl⟩ := hlen
  have HV := Lib.hid hv
  clear hv
  by_cases hbig : (2147483647 : Int) < zs.length
  · go_enter Try.func3, Try.ntmps3
    go_wp2
    go_ret
    exact ⟨rfl, Below.refl _ _⟩
  · have hl : zs.length ≤ 2147483647 := by omega
    go_enter Try.func3, Try.ntmps3
    go_wp2_with fail
    refine (fits_any _ zs w HV.out hl).mono ?_
    rintro e w1 ⟨v', rfl, hv1, b1, hb1⟩
    have hl1 : (fits zs).length ≤ 2147483647 := by have := fits_len zs; omega
    have HI := Lib.hid (fits_incr zs)
    have HV1 := Lib.hid hv1
    clear hv1 hb1
    generalize fits zs = l at *
    go_wp2_with fail
    refine (impl_any v' l x HI.out w1 HV1.out hl1).mono ?_
    rintro e w2 ⟨rfl, b2⟩
    have hv2 := HV1.out.below b2
    have HV2 := Lib.hid hv2
    clear hv2
    go_wp2_with fail
    refine (place_any v' l x w2 HV2.out hl1).mono ?_
    rintro e w3 ⟨rfl, rfl⟩
    go_wp2_with fail
    have b12 : Below w.heap.size w w2 := b1.trans (b2.mono b1.size)
    refine (impl_any _ [4607182418800017408, 4611686018427387904] 4611686018427387904 incr12 _ (two_of w2) (by decide)).mono ?_
    rintro e w4 ⟨rfl, b4⟩
    rw [place12]
    go_wp2
    go_ret
    exact ⟨rfl, b12.trans (((Below.refl _ w2).alloc (Nat.le_refl _) _).trans (b4.mono (by simp)) |>.mono b12.size)⟩

end Go.Proofs.Ytaglcklbngoknaa.FindBucket
