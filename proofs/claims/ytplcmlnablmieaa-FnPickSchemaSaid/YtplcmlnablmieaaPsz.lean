/- The schema picked: impl.PickSchema, for each schema. -/
import Derived.Test.YtplcmlnablmieaaPsy
set_option linter.unusedVariables false
set_option linter.unusedSimpArgs false
namespace Go.Proofs.Ytplcmlnablmieaa.Ps
open Go.RowKit Plf Ieee

def Says (n : Int) (w : World) (e : Ending) (w' : World) : Prop := e = .returned (.int .i32 n) ∧ w = w'
set_option maxHeartbeats 4000000 in
set_option maxRecDepth 100000 in
theorem pick_walk {x y z F : Nat} (n : Int) (p1 p2 q1 q2 : Bool) (h0 : (FloatKind.f64.format.order x 4607182418800017408 == some Ordering.lt) = false) (h1 : (FloatKind.f64.format.order x 4607182418800017408 == some Ordering.eq) = false) (w : World)
    (c1 : Calls Try.prog 11 #[.float .f64 x] w fun e w' => e = .returned (.float .f64 y) ∧ w = w') (c2 : Calls Try.prog 11 #[.float .f64 y] w fun e w' => e = .returned (.float .f64 z) ∧ w = w')
    (c3 : Calls Try.prog 10 #[.float .f64 z] w fun e w' => e = .returned (.float .f64 F) ∧ w = w')
    (e1 : (FloatKind.f64.format.order F 13844065254536904704 == some Ordering.lt) = p1) (e2 : (FloatKind.f64.format.order F 13844065254536904704 == some Ordering.eq) = p2)
    (e3 : (FloatKind.f64.format.order F 4616189618054758400 == some Ordering.gt) = q1) (e4 : (FloatKind.f64.format.order F 4616189618054758400 == some Ordering.eq) = q2)
    (hr : ((p1 || p2) = true ∧ n = 8) ∨ ((p1 || p2) = false ∧ (q1 || q2) = true ∧ n = -4) ∨ ((p1 || p2) = false ∧ (q1 || q2) = false ∧ ∃ m, floatToIntVal .f64 F .i32 = some m ∧ -2147483648 < m ∧ m ≤ 2147483647 ∧ n = -m)) :
    Calls Try.prog 8 #[.float .f64 x] w (Says n w) := by
  have C1 := Lib.hid c1
  have C2 := Lib.hid c2
  have C3 := Lib.hid c3
  clear c1 c2 c3
  rcases hr with ⟨ha, rfl⟩ | ⟨ha, hb, rfl⟩ | ⟨ha, hb, m, hm, m1, m2, rfl⟩
  · cases p1 <;> cases p2 <;> simp at ha
    all_goals
      clear ha e3 e4
      go_enter Try.func8, Try.ntmps8
      go_wp2_with (first
        | (go_at_call 11; refine C1.out.mono ?_; rintro e w1 ⟨rfl, rfl⟩)
        | (go_at_call 11; refine C2.out.mono ?_; rintro e w1 ⟨rfl, rfl⟩)
        | (go_at_call 10; refine C3.out.mono ?_; rintro e w1 ⟨rfl, rfl⟩))
      go_ret
      exact ⟨rfl, rfl⟩
  · cases p1 <;> cases p2 <;> simp at ha
    cases q1 <;> cases q2 <;> simp at hb
    all_goals
      go_enter Try.func8, Try.ntmps8
      go_wp2_with (first
        | (go_at_call 11; refine C1.out.mono ?_; rintro e w1 ⟨rfl, rfl⟩)
        | (go_at_call 11; refine C2.out.mono ?_; rintro e w1 ⟨rfl, rfl⟩)
        | (go_at_call 10; refine C3.out.mono ?_; rintro e w1 ⟨rfl, rfl⟩))
      go_ret
      exact ⟨rfl, rfl⟩
  · cases p1 <;> cases p2 <;> simp at ha
    cases q1 <;> cases q2 <;> simp at hb
    have rc : (convert 22 21 (.float .f64 F)).run Try.prog w = .ok (.int .i32 m) w := run_convert_float_int w _ _ .f64 .i32 F m (by rw [Try.underlying22]; rfl) Try.underlying21 hm
    have hw : IntKind.i32.wrap (-m) = -m := IntWalk.i32_in _ (by omega)
    clear hm m1 m2
    go_enter Try.func8, Try.ntmps8
    go_wp2_with (first
      | (go_at_call 11; refine C1.out.mono ?_; rintro e w1 ⟨rfl, rfl⟩)
      | (go_at_call 11; refine C2.out.mono ?_; rintro e w1 ⟨rfl, rfl⟩)
      | (go_at_call 10; refine C3.out.mono ?_; rintro e w1 ⟨rfl, rfl⟩))
    go_ret
    exact ⟨rfl, rfl⟩
set_option maxHeartbeats 1000000 in
set_option maxRecDepth 100000 in
theorem door_walk {x : Nat} (n : Int) (w : World) (hg : (FloatKind.f64.format.order x 4607182418800017408 == some Ordering.gt) = true) (c : Calls Try.prog 8 #[.float .f64 x] w (Says n w)) :
    Calls Try.prog 5 #[.float .f64 x] w (Says n w) := by
  have C := Lib.hid c
  have CD : Hid (Calls Try.prog 7 #[.float .f64 x] w (Says n w)) := by
    show Calls _ _ _ _ _
    clear hg c
    go_enter Try.func7, Try.ntmps7
    go_wp2_with (first
      | (go_at_call 8; refine C.out.mono ?_; rintro e w1 ⟨rfl, rfl⟩))
    go_ret
    exact ⟨rfl, rfl⟩
  clear c C
  go_enter Try.func5, Try.ntmps5
  go_wp2_with (first
    | (go_at_call 7; refine CD.out.mono ?_; rintro e w1 ⟨rfl, rfl⟩))
  go_ret
  exact ⟨rfl, rfl⟩

end Go.Proofs.Ytplcmlnablmieaa.Ps
