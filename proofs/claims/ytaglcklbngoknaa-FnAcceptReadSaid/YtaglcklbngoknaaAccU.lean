/- The walk of spec's acceptThousandths. -/
import Derived.Test.YtaglcklbngoknaaAccT
set_option linter.unusedVariables false
set_option linter.unusedSimpArgs false
namespace Go.Proofs.Ytaglcklbngoknaa.Acc
open Go.RowKit Plf Oct

theorem list_at {s : ByteArray} {k : Nat} (h : k < s.size) : s.data.toList.drop k = s[k]'h :: s.data.toList.drop (k + 1) := by
  rw [List.drop_eq_getElem_cons (by rw [← Lib.size_eq]; exact h)]; rfl

/-- how the digits stand while they are summed up -/
def Summed (s : ByteArray) (m0 : Int) (k : Nat) (m u : Int) : Prop :=
  thouF (s.data.toList.drop k) m u = thouF (s.data.toList.drop 2) m0 100

set_option maxHeartbeats 4000000 in
set_option maxRecDepth 100000 in
theorem thou_any (s : ByteArray) (hs : s.size ≤ 9223372036854775807) (w : World) :
    Calls Try.prog 39 #[.string s] w fun e w' => e = .returned (.tuple #[.int .i64 (thou s.data.toList).1, .bool (thou s.data.toList).2]) ∧ w = w' := by
  have hbad : thouBad s.data.toList = true → thou s.data.toList = (0, false) := fun h => by unfold thou; rw [if_pos h]
  have hlen := Lib.size_eq s
  by_cases h0 : s.size = 0
  · have hB : thou s.data.toList = (0, false) := hbad (by unfold thouBad; rw [show s.data.toList.length = 0 by omega]; rfl)
    have HBad := Lib.hid hB
    have z0 : ((s.size : Int) == 0) = true := beq_iff_eq.2 (by omega)
    clear hbad hlen hB h0

    go_enter Try.func39, Try.ntmps39
    go_wp2
    go_ret2
    exact ⟨by rw [HBad.out]; rfl, rfl⟩
  have z0 : ((s.size : Int) == 0) = false := beq_eq_false_iff_ne.2 (by omega)
  have h1 : 0 < s.size := by omega
  have hx0 := list_at (s := s) (k := 0) h1
  rw [List.drop_zero] at hx0
  by_cases h5 : 5 < s.size
  · have hB : thou s.data.toList = (0, false) := hbad (by unfold thouBad; rw [← hlen, decide_eq_true h5]; simp)
    have HBad := Lib.hid hB
    have z1 : (5 : Int) < (s.size : Int) := by omega
    clear hbad hlen hB h0 hx0 h5

    go_enter Try.func39, Try.ntmps39
    go_wp2
    go_ret2
    exact ⟨by rw [HBad.out]; rfl, rfl⟩
  have z1 : (s.size : Int) ≤ 5 := by omega
  by_cases hc : (s[0]'h1).toNat = 48 ∨ (s[0]'h1).toNat = 49
  case neg =>
    have hB : thou s.data.toList = (0, false) := hbad (by unfold thouBad; rw [hx0]; simp only []; rw [decide_eq_true (show (s[0]'h1).toNat ≠ 48 by omega), decide_eq_true (show (s[0]'h1).toNat ≠ 49 by omega)]; simp)
    have HBad := Lib.hid hB
    have z2 : (((s[0]'h1).toNat : Int) == 48) = false := beq_eq_false_iff_ne.2 (by omega)
    have z3 : (((s[0]'h1).toNat : Int) == 49) = false := beq_eq_false_iff_ne.2 (by omega)
    have z4 : (((s[0]'h1).toNat : Int) != 48) = true := bne_iff_ne.2 (by omega)
    have z5 : (((s[0]'h1).toNat : Int) != 49) = true := bne_iff_ne.2 (by omega)
    clear hbad hlen hB h0 hx0 hc

    go_enter Try.func39, Try.ntmps39
    go_wp2
    go_ret2
    exact ⟨by rw [HBad.out]; rfl, rfl⟩
  have hc2 : ((s[0]'h1).toNat : Int) = 48 ∨ ((s[0]'h1).toNat : Int) = 49 := by omega
  have w2 : s.size = 2 ∨ s.size = 1 ∨ 3 ≤ s.size := by omega
  have HX0 := Lib.hid hx0
  have HLen := Lib.hid hlen
  have HBd := Lib.hid hbad
  clear hx0 hlen hbad h0
  rcases w2 with w2 | w2
  · have hB : thou s.data.toList = (0, false) := HBd.out (by unfold thouBad; rw [← HLen.out, decide_eq_true w2]; simp)
    have HBad := Lib.hid hB
    have z6 : ((s.size : Int) == 2) = true := beq_iff_eq.2 (by omega)
    clear hB w2 hc
    rcases hc2 with hc2 | hc2
    · have z2 : (((s[0]'h1).toNat : Int) == 48) = true := beq_iff_eq.2 hc2
      have z4 : (((s[0]'h1).toNat : Int) != 48) = false := by rw [hc2]; rfl
      clear hc2

      go_enter Try.func39, Try.ntmps39
      go_wp2
      go_ret2
      exact ⟨by rw [HBad.out]; rfl, rfl⟩
    · have z2 : (((s[0]'h1).toNat : Int) == 48) = false := beq_eq_false_iff_ne.2 (by omega)
      have z3 : (((s[0]'h1).toNat : Int) == 49) = true := beq_iff_eq.2 hc2
      have z4 : (((s[0]'h1).toNat : Int) != 48) = true := bne_iff_ne.2 (by omega)
      have z5 : (((s[0]'h1).toNat : Int) != 49) = false := by rw [hc2]; rfl
      clear hc2

      go_enter Try.func39, Try.ntmps39
      go_wp2
      go_ret2
      exact ⟨by rw [HBad.out]; rfl, rfl⟩
  have z6 : ((s.size : Int) == 2) = false := beq_eq_false_iff_ne.2 (by omega)
  rcases w2 with w2 | w2
  · rcases hc2 with hc2 | hc2
    · have hX : thou s.data.toList = (0, true) := by
        have hL : s.data.toList = [s[0]'h1] := by
          rw [HX0.out]
          rw [List.drop_of_length_le (by have := HLen.out; omega)]
        rw [hL]
        unfold thou
        have hb : thouBad [s[0]'h1] = false := by
          unfold thouBad
          rcases hc with h | h <;> simp [h]
        rw [hb]
        show (match thouF [] (1000 * ((((s[0]'h1).toNat : Nat) : Int) - 48)) 100 with | none => ((0 : Int), false) | some n => (n, decide (n ≤ 1000))) = _
        show ((1000 * ((((s[0]'h1).toNat : Nat) : Int) - 48)), decide ((1000 * ((((s[0]'h1).toNat : Nat) : Int) - 48)) ≤ 1000)) = _
        rw [hc2]
        decide
      have HX := Lib.hid hX
      have e0 := hc2
      have z2 : (((s[0]'h1).toNat : Int) == 48) = true := beq_iff_eq.2 hc2
      have z4 : (((s[0]'h1).toNat : Int) != 48) = false := by rw [hc2]; rfl
      have y1 : ¬ ((1 : Int) < (s.size : Int)) := by omega
      have y2 : ¬ ((2 : Int) < (s.size : Int)) := by omega
      have y3 : (decide ((1 : Int) < (s.size : Int))) = false := decide_eq_false y1
      have HC := Lib.hid hc2
      have b1 : (48 : Int) ≤ ((s[0]'h1).toNat : Int) := by omega
      have b2 : ((s[0]'h1).toNat : Int) ≤ 49 := by omega
      clear hX hc hc2 e0
      go_enter Try.func39, Try.ntmps39
      go_wp2
      go_loopw [4, 5, 6] (fun n u i wr => n = .int .i64 0 ∧ u = .int .i64 100 ∧ i = .int .i64 2 ∧ w = wr) (fun _ _ _ _ => 0)
      case atStart =>
        exact ⟨by rw [show ((s[0]'h1).toNat : Int) = _ from HC.out]; rfl, rfl, rfl, rfl⟩
      case round =>
        obtain ⟨rfl, rfl, rfl, rfl⟩ := hrel
        go_wp2
        go_ret2
        exact ⟨by rw [HX.out]; rfl, rfl⟩
    · have hX : thou s.data.toList = (1000, true) := by
        have hL : s.data.toList = [s[0]'h1] := by
          rw [HX0.out]
          rw [List.drop_of_length_le (by have := HLen.out; omega)]
        rw [hL]
        unfold thou
        have hb : thouBad [s[0]'h1] = false := by
          unfold thouBad
          rcases hc with h | h <;> simp [h]
        rw [hb]
        show (match thouF [] (1000 * ((((s[0]'h1).toNat : Nat) : Int) - 48)) 100 with | none => ((0 : Int), false) | some n => (n, decide (n ≤ 1000))) = _
        show ((1000 * ((((s[0]'h1).toNat : Nat) : Int) - 48)), decide ((1000 * ((((s[0]'h1).toNat : Nat) : Int) - 48)) ≤ 1000)) = _
        rw [hc2]
        decide
      have HX := Lib.hid hX
      have e0 := hc2
      have z2 : (((s[0]'h1).toNat : Int) == 48) = false := beq_eq_false_iff_ne.2 (by omega)
      have z3 : (((s[0]'h1).toNat : Int) == 49) = true := beq_iff_eq.2 hc2
      have z4 : (((s[0]'h1).toNat : Int) != 48) = true := bne_iff_ne.2 (by omega)
      have z5 : (((s[0]'h1).toNat : Int) != 49) = false := by rw [hc2]; rfl
      have y1 : ¬ ((1 : Int) < (s.size : Int)) := by omega
      have y2 : ¬ ((2 : Int) < (s.size : Int)) := by omega
      have y3 : (decide ((1 : Int) < (s.size : Int))) = false := decide_eq_false y1
      have HC := Lib.hid hc2
      have b1 : (48 : Int) ≤ ((s[0]'h1).toNat : Int) := by omega
      have b2 : ((s[0]'h1).toNat : Int) ≤ 49 := by omega
      clear hX hc hc2 e0
      go_enter Try.func39, Try.ntmps39
      go_wp2
      go_loopw [4, 5, 6] (fun n u i wr => n = .int .i64 1000 ∧ u = .int .i64 100 ∧ i = .int .i64 2 ∧ w = wr) (fun _ _ _ _ => 0)
      case atStart =>
        exact ⟨by rw [show ((s[0]'h1).toNat : Int) = _ from HC.out]; rfl, rfl, rfl, rfl⟩
      case round =>
        obtain ⟨rfl, rfl, rfl, rfl⟩ := hrel
        go_wp2
        go_ret2
        exact ⟨by rw [HX.out]; rfl, rfl⟩
  · have h2 : 1 < s.size := by omega
    have hx1 := list_at (s := s) (k := 1) h2
    have y1 : (1 : Int) < (s.size : Int) := by omega
    have HX1 := Lib.hid hx1
    clear hx1
    by_cases hp : (s[1]'h2).toNat = 46
    case neg =>
      have hB : thou s.data.toList = (0, false) := HBd.out (by unfold thouBad; rw [HX0.out, HX1.out]; simp only []; rw [decide_eq_true (show (s[1]'h2).toNat ≠ 46 by omega)]; simp)
      have HBad := Lib.hid hB
      have z7 : (((s[1]'h2).toNat : Int) == 46) = false := beq_eq_false_iff_ne.2 (by omega)
      have z8 : (((s[1]'h2).toNat : Int) != 46) = true := bne_iff_ne.2 (by omega)
      clear hB hc hp
      rcases hc2 with hc2 | hc2
      · have z2 : (((s[0]'h1).toNat : Int) == 48) = true := beq_iff_eq.2 hc2
        have z4 : (((s[0]'h1).toNat : Int) != 48) = false := by rw [hc2]; rfl
  
        clear hc2
        go_enter Try.func39, Try.ntmps39
        go_wp2
        go_ret2
        exact ⟨by rw [HBad.out]; rfl, rfl⟩
      · have z2 : (((s[0]'h1).toNat : Int) == 48) = false := beq_eq_false_iff_ne.2 (by omega)
        have z3 : (((s[0]'h1).toNat : Int) == 49) = true := beq_iff_eq.2 hc2
        have z4 : (((s[0]'h1).toNat : Int) != 48) = true := bne_iff_ne.2 (by omega)
        have z5 : (((s[0]'h1).toNat : Int) != 49) = false := by rw [hc2]; rfl
  
        clear hc2
        go_enter Try.func39, Try.ntmps39
        go_wp2
        go_ret2
        exact ⟨by rw [HBad.out]; rfl, rfl⟩
    have z7 : (((s[1]'h2).toNat : Int) == 46) = true := beq_iff_eq.2 (by omega)
    have z8 : (((s[1]'h2).toNat : Int) != 46) = false := by rw [show ((s[1]'h2).toNat : Int) = 46 by omega]; rfl
    have hX : ∀ o, thouF (s.data.toList.drop 2) (1000 * (((s[0]'h1).toNat : Int) - 48)) 100 = o → thou s.data.toList = (match o with | none => ((0 : Int), false) | some n => (n, decide (n ≤ 1000))) := by
      intro o ho
      have hb : thouBad s.data.toList = false := by
        have hl := HLen.out
        unfold thouBad
        rw [decide_eq_false (show ¬ s.data.toList.length = 0 by omega), decide_eq_false (show ¬ 5 < s.data.toList.length by omega), decide_eq_false (show ¬ s.data.toList.length = 2 by omega)]
        rw [HX0.out, HX1.out]
        rcases hc with h | h <;> simp [h, hp]
      unfold thou
      rw [hb, HX0.out]
      show (match thouF ((s.data.toList.drop 1).drop 1) (1000 * (((s[0]'h1).toNat : Int) - 48)) 100 with | none => ((0 : Int), false) | some n => (n, decide (n ≤ 1000))) = _
      rw [List.drop_drop, ho]
    have HX := Lib.hid hX
    clear hX hc hp
    rcases hc2 with hc2 | hc2
    · have HC := Lib.hid hc2
      have z2 : (((s[0]'h1).toNat : Int) == 48) = true := beq_iff_eq.2 hc2
      have z4 : (((s[0]'h1).toNat : Int) != 48) = false := by rw [hc2]; rfl
      have b1 : (48 : Int) ≤ ((s[0]'h1).toNat : Int) := by omega
      have b2 : ((s[0]'h1).toNat : Int) ≤ 49 := by omega
      clear hc2
      go_enter Try.func39, Try.ntmps39
      go_wp2
      go_loopw [4, 5, 6] (fun n u i wr => ∃ (k : Nat) (m v : Int), i = .int .i64 k ∧ n = .int .i64 m ∧ u = .int .i64 v ∧ w = wr ∧ k ≤ s.size ∧ ((k = 2 ∧ v = 100) ∨ (k = 3 ∧ v = 10) ∨ (k = 4 ∧ v = 1) ∨ (k = 5 ∧ v = 0)) ∧ 0 ≤ m ∧ m ≤ 1000 + 900 * ((k : Int) - 2) ∧ Hid (Summed s 0 k m v)) (fun _ _ i _ => s.size - (intOf i).toNat)
      case atStart =>
        refine ⟨2, 0, 100, rfl, by rw [HC.out]; rfl, rfl, rfl, by omega, by omega, by omega, by omega, ?_⟩
        exact (rfl : Summed s 0 2 0 100)
      case round =>
        obtain ⟨k, m, v, rfl, rfl, rfl, rfl, hk, hkv, m1, m2, hsum⟩ := hrel
        by_cases hlt : k < s.size
        · have hbz : (s[k]'hlt).toNat < 256 := (s[k]'hlt).toNat_lt
          have hat := list_at (s := s) (k := k) hlt
          by_cases hdg : isDg (s[k]'hlt) = true
          · have hb := hdg
            unfold isDg at hb
            obtain ⟨d1, d2⟩ := of_decide_eq_true hb
            have hstep : ∀ v', v / 10 = v' → Hid (Summed s 0 (k + 1) (m + v * (((s[k]'hlt).toNat : Int) - 48)) v') := by
              intro v' hv
              show thouF _ _ _ = _
              have := hsum.out
              unfold Summed at this
              rw [hat] at this
              rw [← this]
              show _ = (if isDg (s[k]'hlt) = true then thouF (s.data.toList.drop (k + 1)) (m + v * (((s[k]'hlt).toNat : Int) - 48)) (v / 10) else none)
              rw [if_pos hdg, hv]
            have d3 : (48 : Int) ≤ ((s[k]'hlt).toNat : Int) := by omega
            have d4 : ((s[k]'hlt).toNat : Int) ≤ 57 := by omega
            clear hat hdg hb hsum d1 d2
            rcases hkv with ⟨rfl, rfl⟩ | ⟨rfl, rfl⟩ | ⟨rfl, rfl⟩ | ⟨rfl, rfl⟩
            · have hst := hstep 10 (by decide)
              clear hstep
              go_wp2
              go_roundw
              case rel => exact ⟨3, m + 100 * (((s[2]'hlt).toNat : Int) - 48), 10, by first | rfl | go_num, by first | rfl | (congr 1; omega), by first | rfl | decide, (by first | rfl | trivial), by omega, by omega, by omega, by omega, hst⟩
              case measure => simp [intOf]; omega
            · have hst := hstep 1 (by decide)
              clear hstep
              go_wp2
              go_roundw
              case rel => exact ⟨4, m + 10 * (((s[3]'hlt).toNat : Int) - 48), 1, by first | rfl | go_num, by first | rfl | (congr 1; omega), by first | rfl | decide, (by first | rfl | trivial), by omega, by omega, by omega, by omega, hst⟩
              case measure => simp [intOf]; omega
            · have hst := hstep 0 (by decide)
              clear hstep
              go_wp2
              go_roundw
              case rel => exact ⟨5, m + 1 * (((s[4]'hlt).toNat : Int) - 48), 0, by first | rfl | go_num, by first | rfl | (congr 1; omega), by first | rfl | decide, (by first | rfl | trivial), by omega, by omega, by omega, by omega, hst⟩
              case measure => simp [intOf]; omega
            · omega
          · have hdg' := Bool.eq_false_iff.2 hdg
            have hnone : thou s.data.toList = (0, false) := by
              refine HX.out none ?_
              rw [show (1000 * (((s[0]'h1).toNat : Int) - 48)) = 0 by rw [HC.out]; rfl]
              have := hsum.out
              unfold Summed at this
              rw [hat] at this
              rw [← this]
              show (if isDg (s[k]'hlt) = true then thouF (s.data.toList.drop (k + 1)) (m + v * (((s[k]'hlt).toNat : Int) - 48)) (v / 10) else none) = none
              rw [hdg']; rfl
            have HNone := Lib.hid hnone
            have hnd : ((s[k]'hlt).toNat : Int) < 48 ∨ (57 : Int) < ((s[k]'hlt).toNat : Int) := by
              unfold isDg at hdg'
              have := of_decide_eq_false hdg'
              omega
            clear hat hdg hdg' hsum hnone
            have z0' : (0 : Int) ≤ k := by omega
            rcases hnd with hnd | hnd
            · go_wp2
              go_ret2
              exact ⟨by rw [HNone.out]; rfl, rfl⟩
            · have hge : (48 : Int) ≤ ((s[k]'hlt).toNat : Int) := by omega
              go_wp2
              go_ret2
              exact ⟨by rw [HNone.out]; rfl, rfl⟩
        · have hend : thou s.data.toList = (m, decide (m ≤ 1000)) := by
            refine HX.out (some m) ?_
            rw [show (1000 * (((s[0]'h1).toNat : Int) - 48)) = 0 by rw [HC.out]; rfl]
            have := hsum.out
            unfold Summed at this
            rw [← this, List.drop_of_length_le (by have := HLen.out; omega)]
            rfl
          have HEnd := Lib.hid hend
          clear hend hsum
          have z0' : (0 : Int) ≤ k := by omega
          go_wp2
          go_ret2
          exact ⟨by rw [HEnd.out]; rfl, rfl⟩
    · have HC := Lib.hid hc2
      have z2 : (((s[0]'h1).toNat : Int) == 48) = false := beq_eq_false_iff_ne.2 (by omega)
      have z3 : (((s[0]'h1).toNat : Int) == 49) = true := beq_iff_eq.2 hc2
      have z4 : (((s[0]'h1).toNat : Int) != 48) = true := bne_iff_ne.2 (by omega)
      have z5 : (((s[0]'h1).toNat : Int) != 49) = false := by rw [hc2]; rfl
      have b1 : (48 : Int) ≤ ((s[0]'h1).toNat : Int) := by omega
      have b2 : ((s[0]'h1).toNat : Int) ≤ 49 := by omega
      clear hc2
      go_enter Try.func39, Try.ntmps39
      go_wp2
      go_loopw [4, 5, 6] (fun n u i wr => ∃ (k : Nat) (m v : Int), i = .int .i64 k ∧ n = .int .i64 m ∧ u = .int .i64 v ∧ w = wr ∧ k ≤ s.size ∧ ((k = 2 ∧ v = 100) ∨ (k = 3 ∧ v = 10) ∨ (k = 4 ∧ v = 1) ∨ (k = 5 ∧ v = 0)) ∧ 0 ≤ m ∧ m ≤ 1000 + 900 * ((k : Int) - 2) ∧ Hid (Summed s 1000 k m v)) (fun _ _ i _ => s.size - (intOf i).toNat)
      case atStart =>
        refine ⟨2, 1000, 100, rfl, by rw [HC.out]; rfl, rfl, rfl, by omega, by omega, by omega, by omega, ?_⟩
        exact (rfl : Summed s 1000 2 1000 100)
      case round =>
        obtain ⟨k, m, v, rfl, rfl, rfl, rfl, hk, hkv, m1, m2, hsum⟩ := hrel
        by_cases hlt : k < s.size
        · have hbz : (s[k]'hlt).toNat < 256 := (s[k]'hlt).toNat_lt
          have hat := list_at (s := s) (k := k) hlt
          by_cases hdg : isDg (s[k]'hlt) = true
          · have hb := hdg
            unfold isDg at hb
            obtain ⟨d1, d2⟩ := of_decide_eq_true hb
            have hstep : ∀ v', v / 10 = v' → Hid (Summed s 1000 (k + 1) (m + v * (((s[k]'hlt).toNat : Int) - 48)) v') := by
              intro v' hv
              show thouF _ _ _ = _
              have := hsum.out
              unfold Summed at this
              rw [hat] at this
              rw [← this]
              show _ = (if isDg (s[k]'hlt) = true then thouF (s.data.toList.drop (k + 1)) (m + v * (((s[k]'hlt).toNat : Int) - 48)) (v / 10) else none)
              rw [if_pos hdg, hv]
            have d3 : (48 : Int) ≤ ((s[k]'hlt).toNat : Int) := by omega
            have d4 : ((s[k]'hlt).toNat : Int) ≤ 57 := by omega
            clear hat hdg hb hsum d1 d2
            rcases hkv with ⟨rfl, rfl⟩ | ⟨rfl, rfl⟩ | ⟨rfl, rfl⟩ | ⟨rfl, rfl⟩
            · have hst := hstep 10 (by decide)
              clear hstep
              go_wp2
              go_roundw
              case rel => exact ⟨3, m + 100 * (((s[2]'hlt).toNat : Int) - 48), 10, by first | rfl | go_num, by first | rfl | (congr 1; omega), by first | rfl | decide, (by first | rfl | trivial), by omega, by omega, by omega, by omega, hst⟩
              case measure => simp [intOf]; omega
            · have hst := hstep 1 (by decide)
              clear hstep
              go_wp2
              go_roundw
              case rel => exact ⟨4, m + 10 * (((s[3]'hlt).toNat : Int) - 48), 1, by first | rfl | go_num, by first | rfl | (congr 1; omega), by first | rfl | decide, (by first | rfl | trivial), by omega, by omega, by omega, by omega, hst⟩
              case measure => simp [intOf]; omega
            · have hst := hstep 0 (by decide)
              clear hstep
              go_wp2
              go_roundw
              case rel => exact ⟨5, m + 1 * (((s[4]'hlt).toNat : Int) - 48), 0, by first | rfl | go_num, by first | rfl | (congr 1; omega), by first | rfl | decide, (by first | rfl | trivial), by omega, by omega, by omega, by omega, hst⟩
              case measure => simp [intOf]; omega
            · omega
          · have hdg' := Bool.eq_false_iff.2 hdg
            have hnone : thou s.data.toList = (0, false) := by
              refine HX.out none ?_
              rw [show (1000 * (((s[0]'h1).toNat : Int) - 48)) = 1000 by rw [HC.out]; rfl]
              have := hsum.out
              unfold Summed at this
              rw [hat] at this
              rw [← this]
              show (if isDg (s[k]'hlt) = true then thouF (s.data.toList.drop (k + 1)) (m + v * (((s[k]'hlt).toNat : Int) - 48)) (v / 10) else none) = none
              rw [hdg']; rfl
            have HNone := Lib.hid hnone
            have hnd : ((s[k]'hlt).toNat : Int) < 48 ∨ (57 : Int) < ((s[k]'hlt).toNat : Int) := by
              unfold isDg at hdg'
              have := of_decide_eq_false hdg'
              omega
            clear hat hdg hdg' hsum hnone
            have z0' : (0 : Int) ≤ k := by omega
            rcases hnd with hnd | hnd
            · go_wp2
              go_ret2
              exact ⟨by rw [HNone.out]; rfl, rfl⟩
            · have hge : (48 : Int) ≤ ((s[k]'hlt).toNat : Int) := by omega
              go_wp2
              go_ret2
              exact ⟨by rw [HNone.out]; rfl, rfl⟩
        · have hend : thou s.data.toList = (m, decide (m ≤ 1000)) := by
            refine HX.out (some m) ?_
            rw [show (1000 * (((s[0]'h1).toNat : Int) - 48)) = 1000 by rw [HC.out]; rfl]
            have := hsum.out
            unfold Summed at this
            rw [← this, List.drop_of_length_le (by have := HLen.out; omega)]
            rfl
          have HEnd := Lib.hid hend
          clear hend hsum
          have z0' : (0 : Int) ≤ k := by omega
          go_wp2
          go_ret2
          exact ⟨by rw [HEnd.out]; rfl, rfl⟩

end Go.Proofs.Ytaglcklbngoknaa.Acc
