/- The schema of a factor as the reference has it (spec.NativeSchema), walked. -/
import Derived.Test.YtplcmlnablmieaaPtj
set_option linter.unusedVariables false
set_option linter.unusedSimpArgs false
namespace Go.Proofs.Ytplcmlnablmieaa.Ps
open Go.RowKit Plf Ieee

/-- the growth factors, from schema -4 on -/
def facs : List Nat := [4679240012837945344, 4643211215818981376, 4625196817309499392, 4616189618054758400, 4611686018427387904, 4609047870845172685, 4608034531892639509, 4607590029391122811, 4607381810190059791, 4607281034790536564, 4607231459784622177, 4607206872900645685, 4607194629297323199]
def fac (k : Int) : Nat := facs.getD (k + 4).toNat 0
def lo (k : Int) : Nat := (D.mul (fac k) 4607182418791010209).getD 0
def hi (k : Int) : Nat := (D.mul (fac k) 4607182418804521008).getD 0
theorem all13 {p : Int → Prop} (h : ∀ j : Fin 13, p ((j.val : Int) - 4)) {k : Int} (h1 : -4 ≤ k) (h2 : k ≤ 8) : p k := by
  have := h ⟨(k + 4).toNat, by omega⟩
  have e : (((k + 4).toNat : Nat) : Int) - 4 = k := by omega
  rw [e] at this
  exact this
theorem fac_facts {k : Int} (h1 : -4 ≤ k) (h2 : k ≤ 8) : D.mul (fac k) 4607182418791010209 = some (lo k) ∧ D.mul (fac k) 4607182418804521008 = some (hi k) ∧ 4607182418800017408 < lo k ∧ lo k < fac k ∧ fac k < hi k ∧ hi k < 9218868437227405312 :=
  all13 (p := fun k => D.mul (fac k) 4607182418791010209 = some (lo k) ∧ D.mul (fac k) 4607182418804521008 = some (hi k) ∧ 4607182418800017408 < lo k ∧ lo k < fac k ∧ fac k < hi k ∧ hi k < 9218868437227405312) (by decide +kernel) h1 h2
set_option maxHeartbeats 4000000 in
set_option maxRecDepth 100000 in
theorem factor_any {k : Int} (h1 : -4 ≤ k) (h2 : k ≤ 8) (w : World) : Calls Try.prog 6 #[.int .i64 k] w fun e w' => e = .returned (.float .f64 (fac k)) ∧ w = w' := by
  have hk : k = -4 ∨ k = -3 ∨ k = -2 ∨ k = -1 ∨ k = 0 ∨ k = 1 ∨ k = 2 ∨ k = 3 ∨ k = 4 ∨ k = 5 ∨ k = 6 ∨ k = 7 ∨ k = 8 := by omega
  clear h1 h2
  rcases hk with rfl | rfl | rfl | rfl | rfl | rfl | rfl | rfl | rfl | rfl | rfl | rfl | rfl
  all_goals
    go_enter Try.func6, Try.ntmps6
    go_wp2
    go_ret
    exact ⟨rfl, rfl⟩
theorem ordN {a b : Nat} (ha : a ≤ 9218868437227405312) (hb : b ≤ 9218868437227405312) : ((FloatKind.f64.format.order a b == some Ordering.lt) = decide (a < b)) ∧ ((FloatKind.f64.format.order a b == some Ordering.eq) = decide (a = b)) ∧ ((FloatKind.f64.format.order a b == some Ordering.gt) = decide (b < a)) ∧ ((FloatKind.f64.format.order a b != some Ordering.eq) = decide (a ≠ b)) := by
  obtain ⟨a1, b1, _⟩ := sv_low (x := a) (by omega)
  obtain ⟨a2, b2, _⟩ := sv_low (x := b) (by omega)
  have e : FloatKind.f64.format.order a b = some (if a < b then .lt else if a = b then .eq else .gt) := by
    show D.order a b = _
    rw [order_num (by rw [b1]; exact decide_eq_false (by omega)) (by rw [b2]; exact decide_eq_false (by omega)), a1, a2]
    simp only [compare, compareOfLessAndEq]
    by_cases h : a < b
    · rw [if_pos (by omega), if_pos h]
    · rw [if_neg (by omega), if_neg h]
      by_cases h2 : a = b
      · rw [if_pos (by omega), if_pos h2]
      · rw [if_neg (by omega), if_neg h2]
  rw [e]
  by_cases h : a < b
  · rw [if_pos h, decide_eq_true h, decide_eq_false (by omega : ¬ a = b), decide_eq_false (by omega : ¬ b < a), decide_eq_true (by omega : a ≠ b)]
    exact ⟨rfl, rfl, rfl, rfl⟩
  · rw [if_neg h, decide_eq_false h]
    by_cases h2 : a = b
    · rw [if_pos h2, decide_eq_true h2, decide_eq_false (by omega : ¬ b < a), decide_eq_false (by omega : ¬ a ≠ b)]
      exact ⟨rfl, rfl, rfl, rfl⟩
    · rw [if_neg h2, decide_eq_false h2, decide_eq_true (by omega : b < a), decide_eq_true (by omega : a ≠ b)]
      exact ⟨rfl, rfl, rfl, rfl⟩
/-- where the reference says schema n -/
def Region (x : Nat) (n : Int) : Prop :=
  (-4 ≤ n ∧ n ≤ 8) ∧ (∀ m, -4 ≤ m → m < n → x ≤ lo m) ∧ ((fac n ≤ x ∧ (hi n ≤ x ∨ (n ≤ 0 ∧ x = fac n))) ∨ (n = 8 ∧ x ≤ lo 8))
def Said (x : Nat) (w : World) (e : Ending) (w' : World) : Prop := ∃ n said, e = .returned (.tuple #[.int .i64 n, .bool said]) ∧ (said = true → Region x n) ∧ (-4 ≤ n ∧ n ≤ 8) ∧ w = w'
set_option maxHeartbeats 8000000 in
set_option maxRecDepth 100000 in
theorem spec_walk {x : Nat} (h1 : 4607182418800017408 < x) (h2 : x ≤ 9218868437227405312) (w : World) : Calls Try.prog 4 #[.float .f64 x] w (Said x w) := by
  obtain ⟨_, _, o3⟩ := one_ord h1 h2
  go_enter Try.func4, Try.ntmps4
  go_wp2_with fail
  go_loopw [4] (fun vk wr => ∃ k : Int, vk = .int .i64 k ∧ (-4 ≤ k ∧ k ≤ 9) ∧ Hid (∀ m, -4 ≤ m → m < k → x ≤ lo m) ∧ w = wr) (fun k _ => (9 - intOf k).toNat)
  case atStart => exact ⟨-4, rfl, by decide, fun m h h' => absurd h (by omega), rfl⟩
  case round =>
    obtain ⟨k, rfl, hk, hall, rfl⟩ := hrel
    by_cases hk8 : k ≤ 8
    · obtain ⟨f1, f2, f3, f4, f5, f6⟩ := fac_facts hk.1 hk8
      have HF := Lib.hid (factor_any hk.1 hk8 w)
      obtain ⟨_, _, t1, _⟩ := ordN (a := x) (b := lo k) h2 (by omega)
      obtain ⟨t2, _, _, _⟩ := ordN (a := x) (b := hi k) h2 (by omega)
      obtain ⟨_, _, _, t3⟩ := ordN (a := x) (b := fac k) h2 (by omega)
      obtain ⟨l1, l2, _, _⟩ := ordN (a := fac k) (b := x) (by omega) h2
      have r1 : (binOp .mul 22 (.float .f64 (fac k)) (.float .f64 4607182418791010209)).run Try.prog w = .ok (.float .f64 (lo k)) w := run_float_arith w .mul _ .f64 _ _ _ f1
      have r2 : (binOp .mul 22 (.float .f64 (fac k)) (.float .f64 4607182418804521008)).run Try.prog w = .ok (.float .f64 (hi k)) w := run_float_arith w .mul _ .f64 _ _ _ f2
      have HRet : Hid (fac k ≤ x → (hi k ≤ x ∨ (k ≤ 0 ∧ x = fac k)) → Region x k) := fun g1 g2 => ⟨⟨hk.1, hk8⟩, hall.out, Or.inl ⟨g1, g2⟩⟩
      have HNx : Hid (x ≤ lo k → ∀ m, -4 ≤ m → m < k + 1 → x ≤ lo m) := fun g m m1 m2 => by
        by_cases e : m = k
        · rw [e]; exact g
        · exact hall.out m m1 (by omega)
      have HFl : Hid (lo k < fac k ∧ fac k < hi k) := ⟨f4, f5⟩
      have hw : IntKind.i64.wrap (k + 1) = k + 1 := IntWalk.i64_in _ (by omega)
      generalize hi k = H at t2 r2 HRet HFl
      generalize lo k = L at t1 r1 HNx HFl
      generalize fac k = f at HF t3 l1 l2 r1 r2 HRet HFl
      clear f1 f2 f3 f4 f5 f6 hall o3 h1 h2
      have hfl := HFl.out
      by_cases a1 : L < x
      · rw [decide_eq_true a1] at t1
        by_cases a2 : x < H
        · rw [decide_eq_true a2] at t2
          by_cases a3 : 0 < k
          · have a3' : decide (0 < k) = true := decide_eq_true a3
            clear t3 l1 l2 HRet HNx
            go_wp2_with (first
              | (go_at_call 6; refine HF.out.mono ?_; rintro e w1 ⟨rfl, rfl⟩))
            exact bodyPost_ret (v := .tuple #[.int .i64 0, .bool false]) (by simp [results, Try.results4, go_sem]) rfl ⟨_, _, rfl, (fun h => by cases h), by decide, rfl⟩
          · have a3' : decide (0 < k) = false := decide_eq_false a3
            by_cases a4 : x = f
            · rw [decide_eq_false (fun h => h a4)] at t3
              rw [decide_eq_false (by omega)] at l1
              rw [decide_eq_true a4.symm] at l2
              have hr := Lib.hid (HRet.out (by omega) (Or.inr ⟨by omega, a4⟩))
              clear HRet HNx hfl a4 a1 a2 HFl
              go_wp2_with (first
                | (go_at_call 6; refine HF.out.mono ?_; rintro e w1 ⟨rfl, rfl⟩))
              exact bodyPost_ret (v := .tuple #[.int .i64 k, .bool true]) (by simp [results, Try.results4, go_sem]) rfl ⟨_, _, rfl, (fun _ => hr.out), ⟨hk.1, hk8⟩, rfl⟩
            · rw [decide_eq_true a4] at t3
              clear l1 l2 HRet HNx a4
              go_wp2_with (first
                | (go_at_call 6; refine HF.out.mono ?_; rintro e w1 ⟨rfl, rfl⟩))
              exact bodyPost_ret (v := .tuple #[.int .i64 0, .bool false]) (by simp [results, Try.results4, go_sem]) rfl ⟨_, _, rfl, (fun h => by cases h), by decide, rfl⟩
        · rw [decide_eq_false a2] at t2
          rw [decide_eq_true (by omega)] at l1
          have hr := Lib.hid (HRet.out (by omega) (Or.inl (by omega)))
          clear HRet HNx t3 l2 hfl HFl a1 a2
          go_wp2_with (first
            | (go_at_call 6; refine HF.out.mono ?_; rintro e w1 ⟨rfl, rfl⟩))
          exact bodyPost_ret (v := .tuple #[.int .i64 k, .bool true]) (by simp [results, Try.results4, go_sem]) rfl ⟨_, _, rfl, (fun _ => hr.out), ⟨hk.1, hk8⟩, rfl⟩
      · rw [decide_eq_false a1] at t1
        rw [decide_eq_false (by omega)] at l1
        rw [decide_eq_false (by omega)] at l2
        have hr := Lib.hid (HNx.out (by omega))
        clear HRet HNx t2 t3 hfl HFl a1
        go_wp2_with (first
          | (go_at_call 6; refine HF.out.mono ?_; rintro e w1 ⟨rfl, rfl⟩))
        go_roundw
        case rel => exact ⟨k + 1, (by first | rfl | trivial), by omega, hr.out, (by first | rfl | trivial)⟩
        case measure => simp [intOf]; omega
    · obtain rfl : k = 9 := by omega
      have hr : Hid (Region x 8) := ⟨by decide, fun m m1 m2 => hall.out m m1 (by omega), Or.inr ⟨rfl, hall.out 8 (by decide) (by decide)⟩⟩
      clear hall o3 h1 h2
      go_wp2_with fail
      exact bodyPost_ret (v := .tuple #[.int .i64 8, .bool true]) (by simp [results, Try.results4, go_sem]) rfl ⟨_, _, rfl, (fun _ => hr.out), by decide, rfl⟩

end Go.Proofs.Ytplcmlnablmieaa.Ps
