/- The walk of spec's acceptQuality. -/
import Derived.Test.YtaglcklbngoknaaAccU
set_option linter.unusedVariables false
set_option linter.unusedSimpArgs false
namespace Go.Proofs.Ytaglcklbngoknaa.Acc
open Go.RowKit Plf Oct

theorem good_drop {l : List UInt8} {whole : Int} {ds : List UInt8} (h : Good l whole ds) : ds = l.drop 2 ∧ ds.all isDg = true ∧ ds.length ≤ 3 ∧ (whole = 0 ∨ whole = 1) ∧ l.length ≤ 5 := by
  cases h with
  | bare c h => exact ⟨rfl, rfl, by simp, by omega, by simp⟩
  | point c p ds h hp hd h1 h2 => exact ⟨rfl, hd, h2, by omega, by simp only [List.length_cons]; omega⟩

theorem specQ_num {whole : Int} {ds : List UInt8} {r : Nat} (h : specQ whole ds = some r) : isNan D r = false := by
  unfold specQ frac at h
  cases hd : D.div (floatOfInt .f64 (numFrom 0 ds)) (floatOfInt .f64 (denFrom 1 ds.length)) with
  | none => rw [hd] at h; cases h
  | some x =>
    rw [hd] at h
    have h : D.add (floatOfInt .f64 whole) x = some r := h
    unfold Ieee.Format.add at h
    cases e : (D.read (floatOfInt .f64 whole)).sum (D.read x) with
    | none => rw [e] at h; cases h
    | some c => rw [e] at h; injection h with h; rw [← h]; exact nan_write c (sum_num _ _ _ e)

def SumQ (s : ByteArray) (k : Nat) (a u : Int) : Prop :=
  numFrom a (s.data.toList.drop k) = numFrom 0 (s.data.toList.drop 2) ∧ denFrom u (s.data.toList.drop k).length = denFrom 1 (s.data.toList.drop 2).length

set_option maxHeartbeats 4000000 in
set_option maxRecDepth 100000 in
theorem quality_any (s : ByteArray) (hs : s.size ≤ 9223372036854775807) (hok : (thou s.data.toList).2 = true) :
    ∃ (whole : Int) (ds : List UInt8) (y : Nat), Good s.data.toList whole ds ∧ specQ whole ds = some y ∧ lt0 (some y) = false ∧
      ∀ w, Calls Try.prog 40 #[.string s] w fun e w' => e = .returned (.float .f64 y) ∧ w = w' := by
  obtain ⟨ds, hg⟩ := thou_good hok
  obtain ⟨g1, g2, g3, g4, g5⟩ := good_drop hg
  obtain ⟨x, y, hx, hy, hl⟩ := good_q g4 g2 g3
  refine ⟨_, ds, y, hg, ?_, hl, ?_⟩
  · unfold specQ frac
    rw [hx]
    exact hy
  intro w
  obtain ⟨n, hn⟩ : ∃ n, (thou s.data.toList).1 = n := ⟨_, rfl⟩
  rw [hn] at hy g4
  have n0 : 0 ≤ n := by omega
  have n1 : n < 2000 := by omega
  have hsz : s.size ≤ 5 := by rw [Lib.size_eq]; exact g5
  have ct := thou_any s hs w
  rw [hn, hok] at ct
  have CT := Lib.hid ct
  subst g1
  have hdig : ∀ k (h : k < s.size), 2 ≤ k → isDg (s[k]'h) = true := by
    intro k h h2
    refine List.all_eq_true.1 g2 _ ?_
    rw [← get_list s k h, List.mem_iff_getElem]
    exact ⟨k - 2, by rw [List.length_drop, ← Lib.size_eq]; omega, by rw [List.getElem_drop]; congr 1; omega⟩
  have HD := Lib.hid hdig
  have HLen := Lib.hid (Lib.size_eq s)
  obtain ⟨nn, hnn⟩ : ∃ nn, numFrom 0 (s.data.toList.drop 2) = nn := ⟨_, rfl⟩
  obtain ⟨dd, hdd⟩ : ∃ dd, denFrom 1 (s.data.toList.drop 2).length = dd := ⟨_, rfl⟩
  rw [hnn, hdd] at hx
  have q1 : ∀ W : World, (binOp .quo 23 (.float .f64 (floatOfInt .f64 nn)) (.float .f64 (floatOfInt .f64 dd))).run Try.prog W = .ok (.float .f64 x) W := fun W => run_float_arith W .quo _ .f64 _ _ x hx
  have q2 : ∀ W : World, (binOp .add 23 (.float .f64 (floatOfInt .f64 (n / 1000))) (.float .f64 x)).run Try.prog W = .ok (.float .f64 y) W := fun W => run_float_arith W .add _ .f64 _ _ y hy
  have HN := Lib.hid hnn
  have HDD := Lib.hid hdd
  have HQ1 := Lib.hid q1
  have HQ2 := Lib.hid q2
  clear hnn hdd hx hy hl hn hok hg g2 g3 g4 g5 ct hdig q1 q2
  go_enter Try.func40, Try.ntmps40
  go_wp2_with fail
  refine CT.out.mono ?_
  rintro e w1 ⟨rfl, rfl⟩
  go_wp2
  go_loopw [6, 7, 8] (fun u r i wr => ∃ (k : Nat) (a v : Int), i = .int .i64 k ∧ r = .int .i64 a ∧ u = .int .i64 v ∧ w = wr ∧ (k ≤ s.size ∨ k = 2) ∧ ((k = 2 ∧ v = 1 ∧ a = 0) ∨ (k = 3 ∧ v = 10 ∧ a ≤ 9) ∨ (k = 4 ∧ v = 100 ∧ a ≤ 99) ∨ (k = 5 ∧ v = 1000 ∧ a ≤ 999)) ∧ 0 ≤ a ∧ Hid (SumQ s k a v)) (fun _ _ i _ => s.size - (intOf i).toNat)
  case atStart => exact ⟨2, 0, 1, rfl, rfl, rfl, rfl, by omega, by omega, by omega, rfl, rfl⟩
  case round =>
    obtain ⟨k, a, v, rfl, rfl, rfl, rfl, hk, hkv, a0, hsum⟩ := hrel
    by_cases hlt : k < s.size
    · have hbz : (s[k]'hlt).toNat < 256 := (s[k]'hlt).toNat_lt
      have hat := list_at (s := s) (k := k) hlt
      have hdg := HD.out k hlt (by omega)
      have hb := hdg
      unfold isDg at hb
      obtain ⟨d1, d2⟩ := of_decide_eq_true hb
      have hstep : a ≤ 1000000 → ∀ v', wrap64 (v * 10) = v' → Hid (SumQ s (k + 1) (a * 10 + (((s[k]'hlt).toNat : Int) - 48)) v') := by
        intro ha v' hv
        obtain ⟨h1, h2⟩ := hsum.out
        rw [hat, num_step _ hdg a0 ha] at h1
        rw [hat, List.length_cons] at h2
        refine ⟨h1, ?_⟩
        rw [← h2, ← hv]; rfl
      have d3 : (48 : Int) ≤ ((s[k]'hlt).toNat : Int) := by omega
      have d4 : ((s[k]'hlt).toNat : Int) ≤ 57 := by omega
      clear hat hdg hb hsum d1 d2
      rcases hkv with ⟨rfl, rfl, rfl⟩ | ⟨rfl, rfl, ha⟩ | ⟨rfl, rfl, ha⟩ | ⟨rfl, rfl, ha⟩
      · have hst := hstep (by omega) 10 (by decide +kernel)
        clear hstep
        go_wp2
        go_roundw
        case rel => exact ⟨3, 0 * 10 + (((s[2]'hlt).toNat : Int) - 48), 10, by first | rfl | go_num, by first | rfl | (congr 1; omega), by first | rfl | decide, (by first | rfl | trivial), by omega, by omega, by omega, hst⟩
        case measure => simp [intOf]; omega
      · have hst := hstep (by omega) 100 (by decide +kernel)
        clear hstep
        go_wp2
        go_roundw
        case rel => exact ⟨4, a * 10 + (((s[3]'hlt).toNat : Int) - 48), 100, by first | rfl | go_num, by first | rfl | (congr 1; omega), by first | rfl | decide, (by first | rfl | trivial), by omega, by omega, by omega, hst⟩
        case measure => simp [intOf]; omega
      · have hst := hstep (by omega) 1000 (by decide +kernel)
        clear hstep
        go_wp2
        go_roundw
        case rel => exact ⟨5, a * 10 + (((s[4]'hlt).toNat : Int) - 48), 1000, by first | rfl | go_num, by first | rfl | (congr 1; omega), by first | rfl | decide, (by first | rfl | trivial), by omega, by omega, by omega, hst⟩
        case measure => simp [intOf]; omega
      · omega
    · have he : a = nn ∧ v = dd := by
        obtain ⟨h1, h2⟩ := hsum.out
        rw [List.drop_of_length_le (by have := HLen.out; omega)] at h1 h2
        exact ⟨h1.trans HN.out, h2.trans HDD.out⟩
      obtain ⟨rfl, rfl⟩ := he
      have q1 := HQ1.out
      have q2 := HQ2.out
      have z0 : (0 : Int) ≤ k := by omega
      clear hsum hkv
      go_wp2
      go_ret
      exact ⟨rfl, rfl⟩

end Go.Proofs.Ytaglcklbngoknaa.Acc
