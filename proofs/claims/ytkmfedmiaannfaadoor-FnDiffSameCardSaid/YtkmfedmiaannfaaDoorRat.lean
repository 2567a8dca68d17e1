/- Ratios of a list and itself: calculateRatio, Ratio, QuickRatio, RealQuickRatio and impl.Ratios walked. -/
import Derived.Test.YtkmfedmiaannfaaDoorEqp
import Derived.Test.YtkmfedmiaannfaaDoorGg
import Derived.Test.YtkmfedmiaannfaaDoorDft
import Derived.Test.YtkmfedmiaannfaaDoorFlr
import Derived.Test.YtkmfedmiaannfaaDoorFlo
import Derived.Maps.OwnSet
import Derived.IntWalk
set_option linter.unusedVariables false
set_option linter.unusedSimpArgs false
namespace Go.Proofs.YtkmfedmiaannfaaDoor.Df
open Go.RowKit Go.Maps Go.WideMaps Go.ChangeShapes

def one64 : Nat := 4607182418800017408
def OneQ (w : World) (e : Ending) (w' : World) : Prop := e = .returned (.float .f64 4607182418800017408) ∧ ∃ m, w' = w.drewN m
theorem ofInt_whole (m : Nat) : floatOfInt .f64 (m : Int) = Plf.wholeW m := by
  show Plf.D.write (.number (decide ((m : Int) < 0)) (m : Int).natAbs 0) = _
  rw [decide_eq_false (by omega), Int.natAbs_natCast, Plf.write_num]
  rfl

set_option maxHeartbeats 1000000 in
set_option maxRecDepth 100000 in
theorem ratio_any (m : Nat) (hm : m ≤ 2147483647) (w : World) :
    Calls Tryd.prog 19 #[.int .i64 (m : Int), .int .i64 ((m : Int) + (m : Int))] w (OneQ w) := by
  by_cases h0 : m = 0
  · subst h0
    have hz : ((0 : Nat) : Int) + ((0 : Nat) : Int) = 0 := rfl
    rw [hz]
    go_enter Tryd.func19, Tryd.ntmps19
    go_wp2
    go_ret
    exact ⟨rfl, 0, rfl⟩
  · have hl := Plf.log_small h0 (by omega)
    have h1 := Plf.mul_two h0 (by omega)
    have h2 := Plf.half_div h0 hl
    rw [h1] at h2
    have h2 : Plf.D.div (Plf.wholeW (2 * m)) (Plf.wholeW (m + m)) = some 4607182418800017408 := h2
    have e1 := ofInt_whole m
    have e2 : floatOfInt .f64 ((m : Int) + (m : Int)) = Plf.wholeW (m + m) := by rw [← Int.natCast_add]; exact ofInt_whole (m + m)
    generalize Plf.wholeW m = X at *
    generalize Plf.wholeW (2 * m) = Y at *
    generalize Plf.wholeW (m + m) = Z at *
    have r1 : ∀ W : World, (binOp .mul 24 (.float .f64 4611686018427387904) (.float .f64 X)).run Tryd.prog W = .ok (.float .f64 Y) W := fun W => run_float_arith W .mul 24 .f64 _ X Y h1
    have r2 : ∀ W : World, (binOp .quo 24 (.float .f64 Y) (.float .f64 Z)).run Tryd.prog W = .ok (.float .f64 4607182418800017408) W := fun W => run_float_arith W .quo 24 .f64 Y Z _ h2
    have hp : (0 : Int) < (m : Int) + (m : Int) := by omega
    clear h1 h2 hl h0
    go_enter Tryd.func19, Tryd.ntmps19
    go_wp2
    go_ret
    exact ⟨rfl, 0, rfl⟩

/-- the matcher's two lists, whatever else it holds -/
def MatS (w : World) (g : Nat) (xs : List ByteArray) : Prop :=
  ∃ va vb c2 c3 c4 c5 c6 c7 c8 c9, Whole w g 55 #[va, vb, c2, c3, c4, c5, c6, c7, c8, c9] ∧ Ahead g Value.string w va xs ∧ Ahead g Value.string w vb xs
theorem Mat.toS {w : World} {g : Nat} {xs : List ByteArray} {mv fv ov : Value} (h : Mat w g xs xs mv fv ov) : MatS w g xs := by
  obtain ⟨va, vb, bj, jk, pp, h1, _, _, h2, h3⟩ := h
  exact ⟨va, vb, _, _, _, _, _, _, _, _, h1, h2, h3⟩
theorem MatS.two {w : World} {g : Nat} {xs : List ByteArray} (h : MatS w g xs) : ∃ a c a1 c1, w.cell? ⟨g, 0, none⟩ = some (.slice a xs.length c) ∧ w.cell? ⟨g, 1, none⟩ = some (.slice a1 xs.length c1) := by
  obtain ⟨va, vb, c2, c3, c4, c5, c6, c7, c8, c9, h1, h2, h3⟩ := h
  obtain ⟨a, c, rfl⟩ := h2.slice
  obtain ⟨a1, c1, rfl⟩ := h3.slice
  exact ⟨a, c, a1, c1, h1.cell 0, h1.cell 1⟩

theorem sizes_take (T : List M3) (k : Nat) (h : k < T.length) : sizes (T.take (k + 1)) = sizes (T.take k) + (T[k]).2.2 := by
  unfold sizes
  rw [List.take_succ_eq_append_getElem h, List.map_append, List.sum_append]
  simp
theorem sizes_le (T : List M3) (k : Nat) : sizes (T.take k) ≤ sizes T := by
  have : T.take k ++ T.drop k = T := List.take_append_drop k T
  have e : sizes T = sizes (T.take k) + sizes (T.drop k) := by
    unfold sizes
    rw [← List.sum_append, ← List.map_append, this]
  omega

def RatioOut (xs : List ByteArray) (g : Nat) (fv ov : Value) (w : World) (e : Ending) (w' : World) : Prop :=
  e = .returned (.float .f64 4607182418800017408) ∧ ∃ mv, Mat w' g xs xs mv fv ov ∧ w.grownBy w' (some g)

set_option maxHeartbeats 8000000 in
set_option maxRecDepth 100000 in
theorem Ratio_any (xs : List ByteArray) (g : Nat) (fv ov : Value) (w : World) (hm : Mat w g xs xs (.slice none 0 0) fv ov) (hx : xs.length ≤ 2147483647) (hsx : ∀ s ∈ xs, s.size ≤ 2147483647) :
    Calls Tryd.prog 10 #[.pointer (some ⟨g, 0, none⟩)] w (RatioOut xs g fv ov w) := by
  have CB := Lib.hid (blocks_any xs xs g fv ov w hm hx hx hsx hsx)
  have hsz := sizes_self xs
  have hbl := blocks_len (xs := xs) (ys := xs)
  unfold BlocksOut at CB
  obtain ⟨T, hT⟩ : ∃ T, blocks xs xs = T := ⟨_, rfl⟩
  rw [hT] at CB hsz hbl
  have HSz := Lib.hid hsz
  have hTl : T.length ≤ 2147483648 := by omega
  clear hm hsx hT hbl hsz
  go_enter Tryd.func10, Tryd.ntmps10
  go_wp2_with fail
  refine CB.out.mono ?_
  rintro e W2 ⟨v, rfl, hm2, hg2, hof, hfar⟩
  obtain ⟨av, cv, rfl, _, _⟩ := hof.slice
  have HOf := Lib.hid hof
  have HM2 := Lib.hid hm2
  have HG2 := Lib.hid hg2
  clear hof hm2 hg2 hfar CB
  go_wp2_with fail
  go_loopw [3, 9] (fun vs vk wr => ∃ k : Nat, k ≤ T.length ∧ vs = .int .i64 (sizes (T.take k) : Nat) ∧ vk = .int .i64 (k : Int) ∧ Hid (Below W2.heap.size W2 wr)) (fun _ k _ => T.length - (intOf k).toNat)
  case atStart => exact ⟨0, Nat.zero_le _, rfl, rfl, Below.refl _ _⟩
  case round =>
    obtain ⟨k, hk, rfl, rfl, hbw⟩ := hrel
    by_cases hlt : k < T.length
    · have hst := sizes_take T k hlt
      have hsl := sizes_le T (k + 1)
      rw [HSz.out] at hsl
      obtain ⟨i2, j2, k2, hb⟩ : ∃ i2 j2 k2, T[k] = (i2, j2, k2) := ⟨_, _, _, rfl⟩
      obtain ⟨bq, oq, hav, hbq, d0, d1, d2⟩ : ∃ b off, av = some ⟨b, off, none⟩ ∧ b < W2.heap.size ∧ W2.cell? ⟨b, off + k * 3, none⟩ = some (.int .i64 i2) ∧ W2.cell? ⟨b, off + k * 3 + 1, none⟩ = some (.int .i64 j2) ∧ W2.cell? ⟨b, off + k * 3 + 2, none⟩ = some (.int .i64 k2) := by
        rcases HOf.out with ⟨h, _⟩ | ⟨b, off, cap, h, h0, hcap, hm, hbb, hcell⟩
        · rw [h] at hlt; simp at hlt
        · injection h with h1 h2 h3
          exact ⟨b, off, h1, hbb, hcell k hlt 0 _ (by rw [hb]; rfl), by rw [Nat.add_assoc]; exact hcell k hlt 1 _ (by rw [hb]; rfl), by rw [Nat.add_assoc]; exact hcell k hlt 2 _ (by rw [hb]; rfl)⟩
      subst hav
      rw [hb] at hst
      simp only at hst
      have c0 : wr.cell? ⟨bq, oq + k * 3, none⟩ = some (.int .i64 i2) := by rw [hbw.out.cell (p := ⟨bq, oq + k * 3, none⟩) hbq]; exact d0
      have c1 : wr.cell? ⟨bq, oq + k * 3 + 1, none⟩ = some (.int .i64 j2) := by rw [hbw.out.cell (p := ⟨bq, oq + k * 3 + 1, none⟩) hbq]; exact d1
      have c2 : wr.cell? ⟨bq, oq + k * 3 + 2, none⟩ = some (.int .i64 k2) := by rw [hbw.out.cell (p := ⟨bq, oq + k * 3 + 2, none⟩) hbq]; exact d2
      have hb2 : Hid (Below W2.heap.size W2 (wr.alloc (.cells #[.int .i64 i2, .int .i64 j2, .int .i64 k2] 59))) := hbw.out.alloc hbw.out.size _
      have hbd : sizes (T.take k) + k2 ≤ 2147483647 := by omega
      have HSt := Lib.hid hst
      have z1 : (0 : Int) ≤ (k : Int) := by omega
      have z2 : (k : Int) < (T.length : Int) := by omega
      clear d0 d1 d2 hb hst hsl hbw
      generalize sizes (T.take k) = S at *
      go_wp2_with fail
      go_roundw
      case rel => exact ⟨k + 1, by omega, by rw [HSt.out]; go_num, by go_num, hb2.out⟩
      case measure => simp [intOf]; omega
    · obtain rfl : k = T.length := by omega
      rw [List.take_length, HSz.out]
      have hm3 := HM2.out.below hbw.out
      obtain ⟨a, c, a1, c1, e0, e1⟩ := hm3.toS.two
      have CR := Lib.hid (fun w => ratio_any xs.length hx w)
      have x1 : IntKind.i64.wrap ((xs.length : Int) + (xs.length : Int)) = (xs.length : Int) + (xs.length : Int) := IntWalk.i64_in _ (by omega)
      have HM3 := Lib.hid hm3
      clear hm3
      go_wp2_with fail
      go_quiet ((go_at_call 19; exact Calls.quiet_of (CR.out _)))
      have hfin : Hid (RatioOut xs g fv ov w (.returned (.float .f64 4607182418800017408)) (wr.drewN nq)) :=
        ⟨rfl, _, HM3.out.below (below_drewN (Below.refl _ _) nq), only_then HG2.out (hbw.out.trans (below_drewN (Below.refl _ _) nq))⟩
      clear x1
      go_wp2_with fail
      go_ret
      exact hfin.out

set_option maxHeartbeats 1000000 in
theorem min_same (a : Nat) (w : World) (ha : a ≤ 9223372036854775807) :
    Calls Tryd.prog 20 #[.int .i64 (a : Int), .int .i64 (a : Int)] w fun e w' => e = .returned (.int .i64 (a : Int)) ∧ w' = w := by
  go_enter Tryd.func20, Tryd.ntmps20
  go_wp2
  go_ret
  exact ⟨rfl, rfl⟩

set_option maxHeartbeats 4000000 in
set_option maxRecDepth 100000 in
theorem Real_any (xs : List ByteArray) (g : Nat) (w : World) (hm : MatS w g xs) (hx : xs.length ≤ 2147483647) :
    Calls Tryd.prog 12 #[.pointer (some ⟨g, 0, none⟩)] w (OneQ w) := by
  obtain ⟨a, c, a1, c1, e0, e1⟩ := hm.two
  have CM := Lib.hid (fun w => min_same xs.length w (by omega))
  have CR := Lib.hid (fun w => ratio_any xs.length hx w)
  clear hm
  go_enter Tryd.func12, Tryd.ntmps12
  go_wp2_with fail
  go_quiet (fail)
  go_wp2_with fail
  refine (CM.out _).mono ?_
  rintro e w1 ⟨rfl, rfl⟩
  go_wp2_with fail
  refine (CR.out _).mono ?_
  rintro e w2 ⟨rfl, m, rfl⟩
  go_wp2_with fail
  go_ret
  exact ⟨rfl, nq + m, rfl⟩

/-! counting -/
def cnt (ys : List ByteArray) (k : Nat) (s : ByteArray) : Nat := (idxk ys k s).length
theorem cnt_succ (ys : List ByteArray) (k : Nat) (s : ByteArray) : cnt ys (k + 1) s = if el ys k = s then cnt ys k s + 1 else cnt ys k s := by
  unfold cnt
  rw [idxk_succ]
  split <;> simp
theorem cnt_zero (ys : List ByteArray) (s : ByteArray) : cnt ys 0 s = 0 := rfl
theorem cnt_le (ys : List ByteArray) (s : ByteArray) : ∀ k, cnt ys k s ≤ k
  | 0 => Nat.le_refl _
  | k + 1 => by
    rw [cnt_succ]
    have := cnt_le ys s k
    split <;> omega
theorem cnt_mono (ys : List ByteArray) (s : ByteArray) (k : Nat) : ∀ d, cnt ys k s ≤ cnt ys (k + d) s
  | 0 => Nat.le_refl _
  | d + 1 => by
    have := cnt_mono ys s k d
    rw [← Nat.add_assoc, cnt_succ]
    split <;> omega
theorem zeroInt2 (w : World) : (zeroValue 3).run Tryd.prog w = .ok (.int .i64 0) w := by kernel_rfl

/-- block b counts f; which texts it has: h -/
def Cts (w : World) (b m : Nat) (f : ByteArray → Nat) (h : ByteArray → Bool) : Prop :=
  ∃ (k : Nat) (D : DataW Unit), k ≤ m ∧ w.ownsMap Tryd.prog 9 (plainElem Tryd.prog 3) b k D ∧ (∀ s, h s = true → D.atKey (sl s) (.lit (.int .i64 0)) = .lit (.int .i64 (f s))) ∧ (∀ s, Maps.has D (sl s) = h s)
theorem Cts.kept {w w' : World} {b m : Nat} {f : ByteArray → Nat} {h : ByteArray → Bool} {r : Option Nat} (hc : Cts w b m f h) (k : w.grownBy w' r) (hb : some b ≠ r) : Cts w' b m f h := by
  obtain ⟨n, D, h1, h2, h3⟩ := hc
  exact ⟨n, D, h1, h2.kept k hb, h3⟩
theorem Cts.made (w : World) (f : ByteArray → Nat) : Cts (w.alloc (.map #[] 0)) w.heap.size 0 f (fun _ => false) := ⟨0, .map [], Nat.le_refl _, World.ownsMap_made _ _ _ _, fun s (h : false = true) => by simp at h, fun s => rfl⟩
theorem Cts.lt {w : World} {b m : Nat} {f : ByteArray → Nat} {h : ByteArray → Bool} (hc : Cts w b m f h) : b < w.heap.size := by
  obtain ⟨n, D, h1, h2, h3⟩ := hc
  exact h2.lt
theorem look_no {D : DataW Unit} {s : ByteArray} (h : Maps.has D (sl s) = false) (z : DataW Unit) : D.atKey (sl s) z = z := by
  exact atKey_of_not_has h z
theorem put_at {D : DataW Unit} {x : ByteArray} {v : Nat} {c : Int} {f f' : ByteArray → Nat} {h : ByteArray → Bool} (hD : IsMap D) (ha : ∀ s, h s = true → D.atKey (sl s) (.lit (.int .i64 0)) = .lit (.int .i64 (f s))) (hh : ∀ s, Maps.has D (sl s) = h s) (hv : c = (v : Int))
    (hf : ∀ s, f' s = if x = s then v else f s) (h' : ByteArray → Bool) (hh' : ∀ s, h' s = (decide (x = s) || h s)) :
    (∀ s, h' s = true → (D.put (sl x) (.lit (.int .i64 c))).atKey (sl s) (.lit (.int .i64 0)) = .lit (.int .i64 (f' s))) ∧ (∀ s, Maps.has (D.put (sl x) (.lit (.int .i64 c))) (sl s) = h' s) := by
  refine ⟨fun s hs => ?_, fun s => ?_⟩
  · rw [hf s]
    by_cases e : x = s
    · subst e
      rw [if_pos rfl, atKey_put_same hD (key_lit x), hv]
    · rw [if_neg e, atKey_put_other (fun e2 => e (sl_inj e2.symm))]
      refine ha s ?_
      rw [hh' s, decide_eq_false e, Bool.false_or] at hs
      exact hs
  · rw [hh' s]
    by_cases e : x = s
    · subst e
      rw [has_put_same hD (key_lit x)]; simp
    · rw [has_put_other (fun e2 => e (sl_inj e2.symm)), hh s, decide_eq_false e, Bool.false_or]

theorem Cts.all {w : World} {b m : Nat} {f : ByteArray → Nat} {h : ByteArray → Bool} (hc : Cts w b m f h) (h0 : ∀ s, h s = false → f s = 0) :
    ∃ (k : Nat) (D : DataW Unit), k ≤ m ∧ w.ownsMap Tryd.prog 9 (plainElem Tryd.prog 3) b k D ∧ (∀ s, D.atKey (sl s) (.lit (.int .i64 0)) = .lit (.int .i64 (f s))) ∧ (∀ s, Maps.has D (sl s) = h s) ∧ (∀ s, h s = true → D.atKey (sl s) (.lit (.int .i64 0)) = .lit (.int .i64 (f s))) := by
  obtain ⟨k, D, h1, h2, h3, h4⟩ := hc
  refine ⟨k, D, h1, h2, fun s => ?_, h4, h3⟩
  cases hs : h s with
  | true => exact h3 s hs
  | false =>
    rw [look_no (by rw [h4]; exact hs), h0 s hs]
    rfl
def seen (xs : List ByteArray) (k : Nat) (s : ByteArray) : Bool := decide (0 < cnt xs k s)
theorem seen_zero (xs : List ByteArray) : seen xs 0 = fun _ => false := by
  funext s
  unfold seen
  rw [cnt_zero]
  rfl
theorem seen_succ (xs : List ByteArray) (k : Nat) (s : ByteArray) : seen xs (k + 1) s = (decide (el xs k = s) || seen xs k s) := by
  unfold seen
  rw [cnt_succ]
  by_cases e : el xs k = s
  · rw [if_pos e]; simp [e]
  · rw [if_neg e]; simp [e]

/-- the first loop: what has been counted -/
def Q1 (xs : List ByteArray) (g B k : Nat) (cells : Array Value) (w wr : World) : Prop :=
  w.grownBy wr (some g) ∧ Whole wr g 55 cells ∧ Cts wr B k (cnt xs k) (seen xs k)
/-- the second loop: what is left -/
def Q2 (xs : List ByteArray) (g B B2 k : Nat) (cells : Array Value) (w wr : World) : Prop :=
  w.grownBy wr (some g) ∧ Whole wr g 55 cells ∧ Cts wr B xs.length (cnt xs xs.length) (seen xs xs.length) ∧ Cts wr B2 k (fun s => cnt xs xs.length s - cnt xs k s) (seen xs k)
theorem Q1.read {xs : List ByteArray} {g B k : Nat} {cells : Array Value} {w wr : World} {va : Value} (h : Q1 xs g B k cells w wr) (ha : Ahead g Value.string w va xs) : Ahead g Value.string wr va xs := ha.only h.1
theorem Q1.step {xs : List ByteArray} {g B k n : Nat} {cells : Array Value} {w wr wy : World} {D : DataW Unit} {c : Int} (h : Q1 xs g B k cells w wr) (hB : w.heap.size ≤ B) (hg : g < w.heap.size) (hn : n ≤ k)
    (hD : wr.ownsMap Tryd.prog 9 (plainElem Tryd.prog 3) B n D) (ha : ∀ s, seen xs k s = true → D.atKey (sl s) (.lit (.int .i64 0)) = .lit (.int .i64 (cnt xs k s))) (hh : ∀ s, Maps.has D (sl s) = seen xs k s)
    (hc : c = ((cnt xs k (el xs k) + 1 : Nat) : Int)) (ho : wy.ownsMap Tryd.prog 9 (plainElem Tryd.prog 3) B (n + 1) (D.put (sl (el xs k)) (.lit (.int .i64 c)))) (hgr : wr.grownBy wy (some B)) : Q1 xs g B (k + 1) cells w wy := by
  obtain ⟨h1, h2, h3⟩ := h
  refine ⟨h1.andThen hgr (fun j hj => by cases hj; exact Or.inl hB), h2.grown hgr (by intro e; injection e with e; omega), n + 1, _, by omega, ho, ?_⟩
  exact put_at hD.isMap ha hh hc (fun s => by
    rw [cnt_succ]
    by_cases e : el xs k = s
    · rw [if_pos e, if_pos e, e]
    · rw [if_neg e, if_neg e]) _ (fun s => seen_succ xs k s)
theorem Q2.step {xs : List ByteArray} {g B B2 k n : Nat} {cells : Array Value} {w wr wy : World} {D : DataW Unit} {c : Int} (h : Q2 xs g B B2 k cells w wr) (hB : w.heap.size ≤ B2) (hg : g < w.heap.size) (hBB : B ≠ B2) (hn : n ≤ k)
    (hD : wr.ownsMap Tryd.prog 9 (plainElem Tryd.prog 3) B2 n D) (ha : ∀ s, seen xs k s = true → D.atKey (sl s) (.lit (.int .i64 0)) = .lit (.int .i64 ((cnt xs xs.length s - cnt xs k s : Nat) : Int))) (hh : ∀ s, Maps.has D (sl s) = seen xs k s)
    (hc : c = ((cnt xs xs.length (el xs k) - cnt xs k (el xs k) - 1 : Nat) : Int)) (ho : wy.ownsMap Tryd.prog 9 (plainElem Tryd.prog 3) B2 (n + 1) (D.put (sl (el xs k)) (.lit (.int .i64 c)))) (hgr : wr.grownBy wy (some B2)) : Q2 xs g B B2 (k + 1) cells w wy := by
  obtain ⟨h1, h2, h3, h4⟩ := h
  refine ⟨h1.andThen hgr (fun j hj => by cases hj; exact Or.inl hB), h2.grown hgr (by intro e; injection e with e; omega), h3.kept hgr (by intro e; injection e with e; exact hBB e), n + 1, _, by omega, ho, ?_⟩
  exact put_at hD.isMap ha hh hc (fun s => by
    rw [cnt_succ]
    by_cases e : el xs k = s
    · rw [if_pos e, if_pos e, e]; omega
    · rw [if_neg e, if_neg e]) _ (fun s => seen_succ xs k s)

def QuickOut (xs : List ByteArray) (g : Nat) (w : World) (e : Ending) (w' : World) : Prop :=
  e = .returned (.float .f64 4607182418800017408) ∧ MatS w' g xs ∧ w.grownBy w' (some g)

set_option maxHeartbeats 8000000 in
set_option maxRecDepth 100000 in
theorem Quick_any (xs : List ByteArray) (g : Nat) (mv ov : Value) (w : World) (hm : Mat w g xs xs mv (.map none) ov) (hx : xs.length ≤ 2147483647) (hsx : ∀ s ∈ xs, s.size ≤ 2147483647) :
    Calls Tryd.prog 11 #[.pointer (some ⟨g, 0, none⟩)] w (QuickOut xs g w) := by
  obtain ⟨va, vb, bj, jk, pp, hw, _, _, hva, hvb⟩ := hm
  obtain ⟨aa, ca, rfl⟩ := hva.slice
  obtain ⟨ab, cb, rfl⟩ := hvb.slice
  have hmm := @run_makeMap Tryd.prog
  have qT : ∀ (w : World) (r : Option Nat), (binOp .eql 53 (.map r) (.map none)).run Tryd.prog w = .ok (.bool r.isNone) w := fun w r => run_eql_map_nil w _ _ _ r Tryd.underlying53
  have d7 : w.cell? ⟨g, 7, none⟩ = some (.map none) := hw.cell 7
  have d0 : w.cell? ⟨g, 0, none⟩ = some (.slice aa xs.length ca) := hw.cell 0
  have d1 : w.cell? ⟨g, 1, none⟩ = some (.slice ab xs.length cb) := hw.cell 1
  have f7 := hw.free 7
  have hg := hw.lt
  have hw1 := (hw.put 7 (.map (some w.heap.size))).alloc (.map #[] 0)
  have hg1 := only_alloc (only_put (only_refl w (some g)) 7 (.map (some w.heap.size))) (.map #[] 0)
  have hcell : ∃ cells : Array Value, (∃ c2 c3 c4 c5 c6 c7 c8 c9, cells = #[.slice aa xs.length ca, .slice ab xs.length cb, c2, c3, c4, c5, c6, c7, c8, c9]) ∧ cells[7]? = some (.map (some w.heap.size)) ∧ Whole ((w.setCell ⟨g, 7, none⟩ (.map (some w.heap.size))).alloc (.map #[] 0)) g 55 cells := ⟨_, ⟨_, _, _, _, _, _, _, _, rfl⟩, rfl, hw1⟩
  obtain ⟨cells, hform, hc7, hw2⟩ := hcell
  have hc0 : cells[0]? = some (.slice aa xs.length ca) := by obtain ⟨_, _, _, _, _, _, _, _, rfl⟩ := hform; rfl
  have hc1 : cells[1]? = some (.slice ab xs.length cb) := by obtain ⟨_, _, _, _, _, _, _, _, rfl⟩ := hform; rfl
  have hq0 : Q1 xs g w.heap.size 0 cells w ((w.setCell ⟨g, 7, none⟩ (.map (some w.heap.size))).alloc (.map #[] 0)) := ⟨hg1, hw2, by
    have := Cts.made (w.setCell ⟨g, 7, none⟩ (.map (some w.heap.size))) (cnt xs 0)
    rw [show (w.setCell ⟨g, 7, none⟩ (.map (some w.heap.size))).heap.size = w.heap.size by simp] at this
    rw [seen_zero]
    exact this⟩
  obtain ⟨B, hB⟩ : ∃ B, w.heap.size = B := ⟨_, rfl⟩
  have HQ0 := Lib.hid hq0
  have HVa := Lib.hid hva
  have HVb := Lib.hid hvb
  have HSx : Hid (∀ k (h : k < xs.length), (xs[k]).size ≤ 2147483647) := fun k h => hsx _ (List.getElem_mem h)
  have HForm := Lib.hid hform
  have HC0 := Lib.hid hc0
  have HC1 := Lib.hid hc1
  have HC7 := Lib.hid hc7
  clear hw1 hg1 hq0 hw hva hvb hsx hw2 hform hc0 hc1 hc7 hB
  go_enter Tryd.func11, Tryd.ntmps11
  go_wp2_with fail
  go_loopw [25] (fun vk wr => ∃ k : Nat, k ≤ xs.length ∧ vk = .int .i64 (k : Int) ∧ Hid (Q1 xs g w.heap.size k cells w wr)) (fun k _ => xs.length - (intOf k).toNat)
  case atStart => exact ⟨0, Nat.zero_le _, rfl, HQ0.out⟩
  case round =>
    obtain ⟨k, hk, rfl, hq⟩ := hrel
    by_cases hlt : k < xs.length
    · obtain ⟨bq, oq, hav, hbq, e0⟩ := at_w (hq.out.read HVb.out) k hlt
      subst hav
      have e7 : wr.cell? ⟨g, 7, none⟩ = some (.map (some w.heap.size)) := by rw [hq.out.2.1.cell 7]; exact HC7.out
      obtain ⟨n, D, hn, hown, hat0, hhas, hat1⟩ := hq.out.2.2.all (fun s hs => by unfold seen at hs; have := of_decide_eq_false hs; omega)
      have hsz := HSx.out k hlt
      have hel := el_get hlt
      have hats := hat0 (el xs k)
      obtain ⟨o, ho⟩ : ∃ o, cnt xs k (el xs k) = o := ⟨_, rfl⟩
      have hob := cnt_le xs (el xs k) k
      rw [ho] at hats hob
      have HEl := Lib.hid hel
      obtain ⟨s, hs⟩ : ∃ s, xs[k] = s := ⟨_, rfl⟩
      rw [hel, hs] at hats
      rw [hs] at e0 hsz
      have HKey : Hid (keyOf Tryd.prog 9 (.string s) = some (sl s)) := keyOf_string_mk Tryd.underlying9 (s := s) (by unfold maxLen; omega)
      have HAt := Lib.hid hats
      have HOwn := Lib.hid hown
      have HO := Lib.hid ho
      have HSs : Hid (el xs k = s) := by show _ = _; rw [hel, hs]
      have HStep := Lib.hid (fun (wy : World) (ho2 : wy.ownsMap Tryd.prog 9 (plainElem Tryd.prog 3) w.heap.size (n + 1) (D.put (sl s) (.lit (.int .i64 ((o : Int) + 1))))) (hgr : wr.grownBy wy (some w.heap.size)) =>
        (hq.out.step (Nat.le_refl _) hg hn hown hat1 hhas (c := (o : Int) + 1) (by rw [ho]; simp) (by rw [HSs.out]; exact ho2) hgr))
      have z1 : (0 : Int) ≤ (k : Int) := by omega
      have z2 : (k : Int) < (xs.length : Int) := by omega
      clear hown hat0 hhas hat1 hats hel ho hs hq
      go_wp2_with (first
        | (at_lookup; refine wpList_lookup_own_int _ rfl _ _ 53 rfl 9 3 .i64 lawS Tryd.underlying53 Tryd.underlying3 (zeroInt2 _) w.heap.size n D rfl HOwn.out _ _ rfl HKey.out ?_; intro c hat hwc; have HAt2 := Lib.hid hat; clear hat hwc; obtain rfl : c = (o : Int) := (by have e := HAt2.out; rw [HAt.out] at e; injection e with e; injection e with _ e; exact e.symm))
        | (at_mapUpdate; refine wpList_mapUpdate_own _ rfl _ _ _ 53 rfl 9 3 lawS Tryd.underlying53 (plainElem Tryd.prog 3) w.heap.size n D rfl HOwn.out (by unfold maxLen; omega) _ _ _ rfl rfl HKey.out _ [] (plainElem_int Tryd.underlying3 (WalkArith.wf_i64 (by omega))) ?_; intro w2 hown2 hgrow2; have hq2 := Lib.hid (HStep.out w2 hown2 hgrow2); clear hown2 hgrow2))
      go_roundw
      case rel => exact ⟨k + 1, by omega, by go_num, hq2.out⟩
      case measure => simp [intOf]; omega
    · obtain rfl : k = xs.length := by omega
      have hq2 : Hid (Q2 xs g w.heap.size wr.heap.size 0 cells w (wr.alloc (.map #[] 0))) := by
        obtain ⟨h1, h2, h3⟩ := hq.out
        refine ⟨only_alloc h1 _, h2.alloc _, h3.kept (World.grownBy_alloc wr _ none) (by simp), ?_⟩
        rw [seen_zero]
        exact Cts.made wr _
      have hsz1 : w.heap.size < wr.heap.size := hq.out.2.2.lt
      have e0 : wr.cell? ⟨g, 0, none⟩ = some (.slice aa xs.length ca) := by rw [hq.out.2.1.cell 0]; exact HC0.out
      have hgl : g < wr.heap.size := by omega
      clear hq
      obtain ⟨wq, rfl⟩ : ∃ wq, wq = wr := ⟨_, rfl⟩
      go_wp2_with fail
      go_loopw [6, 43] (fun vm vk wr => ∃ k : Nat, k ≤ xs.length ∧ vm = .int .i64 (k : Int) ∧ vk = .int .i64 (k : Int) ∧ Hid (Q2 xs g w.heap.size wq.heap.size k cells w wr)) (fun _ k _ => xs.length - (intOf k).toNat)
      case atStart => exact ⟨0, Nat.zero_le _, rfl, rfl, hq2.out⟩
      case round =>
        obtain ⟨k, hk, rfl, rfl, hq⟩ := hrel
        by_cases hlt : k < xs.length
        · obtain ⟨bq, oq, hav, hbq, e1⟩ := at_w (HVa.out.only hq.out.1) k hlt
          subst hav
          have e7 : wr.cell? ⟨g, 7, none⟩ = some (.map (some w.heap.size)) := by rw [hq.out.2.1.cell 7]; exact HC7.out
          obtain ⟨n1, D1, hn1, hown1, hat1, hhas1, _⟩ := hq.out.2.2.1.all (fun s hs => by unfold seen at hs; have := of_decide_eq_false hs; omega)
          obtain ⟨n, D, hn, hown, hatA, hhas⟩ := hq.out.2.2.2
          have hsz := HSx.out k hlt
          have hel := el_get hlt
          have hsucc := cnt_succ xs k (el xs k)
          rw [if_pos rfl] at hsucc
          have hmono := cnt_mono xs (el xs k) (k + 1) (xs.length - (k + 1))
          rw [show k + 1 + (xs.length - (k + 1)) = xs.length by omega, hsucc] at hmono
          have hob := cnt_le xs (el xs k) xs.length
          have hatB : seen xs k (el xs k) = true → D.atKey (sl (el xs k)) (.lit (.int .i64 0)) = .lit (.int .i64 ((cnt xs xs.length (el xs k) - cnt xs k (el xs k) : Nat) : Int)) := hatA (el xs k)
          have hats := hat1 (el xs k)
          have hhasB := hhas (el xs k)
          have hseen : seen xs k (el xs k) = false → cnt xs k (el xs k) = 0 := fun h => by unfold seen at h; have := of_decide_eq_false h; omega
          obtain ⟨v, hv⟩ : ∃ v, cnt xs xs.length (el xs k) - cnt xs k (el xs k) = v := ⟨_, rfl⟩
          have hv1 : 0 < v := by omega
          have hv2 : v ≤ 2147483647 := by omega
          rw [hv] at hatB
          obtain ⟨s, hs⟩ : ∃ s, xs[k] = s := ⟨_, rfl⟩
          have HSs : Hid (el xs k = s) := by show _ = _; rw [hel, hs]
          rw [HSs.out] at hatB hats hhasB hseen
          rw [hs] at e1 hsz
          have HKey : Hid (keyOf Tryd.prog 9 (.string s) = some (sl s)) := keyOf_string_mk Tryd.underlying9 (s := s) (by unfold maxLen; omega)
          have HAt := Lib.hid hats
          have HAtB := Lib.hid hatB
          have HOwn := Lib.hid hown
          have HOwn1 := Lib.hid hown1
          have HV := Lib.hid hv
          have HStep := Lib.hid (fun (wy : World) (ho2 : wy.ownsMap Tryd.prog 9 (plainElem Tryd.prog 3) wq.heap.size (n + 1) (D.put (sl s) (.lit (.int .i64 ((v : Int) - 1))))) (hgr : wr.grownBy wy (some wq.heap.size)) =>
            (hq.out.step (by omega) hg (by omega) hn hown hatA hhas (c := (v : Int) - 1) (by rw [hv]; omega) (by rw [HSs.out]; exact ho2) hgr))
          have hnl : n ≤ 2147483647 := by omega
          have z1 : (0 : Int) ≤ (k : Int) := by omega
          have z2 : (k : Int) < (xs.length : Int) := by omega
          have z3 : (0 : Int) < (v : Int) := by omega
          clear hown hown1 hat1 hhas1 hatA hats hatB hel hs hq hsucc hmono hob
          cases hsn : seen xs k s with
          | true =>
            rw [hsn] at hhasB
            have HB2 := HAtB.out hsn
            have HB2 := Lib.hid HB2
            clear hv hseen hhas hsn
            go_wp2_with (first
              | (at_lookup; refine wpList_lookup_own_ok_int _ rfl _ _ 53 rfl 9 3 .i64 lawS Tryd.underlying53 Tryd.underlying3 (zeroInt2 _) wq.heap.size n D rfl HOwn.out _ _ rfl HKey.out ?_; intro c hat hwc; have HAt2 := Lib.hid hat; clear hat hwc; obtain rfl : c = (v : Int) := (by have e := HAt2.out; rw [HB2.out] at e; injection e with e; injection e with _ e; exact e.symm))
              | (at_mapUpdate; refine wpList_mapUpdate_own _ rfl _ _ _ 53 rfl 9 3 lawS Tryd.underlying53 (plainElem Tryd.prog 3) wq.heap.size n D rfl HOwn.out (by unfold maxLen; omega) _ _ _ rfl rfl HKey.out _ [] (plainElem_int Tryd.underlying3 (WalkArith.wf_i64 (by omega))) ?_; intro w2 hown2 hgrow2; have hq3 := Lib.hid (HStep.out w2 hown2 hgrow2); clear hown2 hgrow2))
            go_roundw
            case rel => exact ⟨k + 1, by omega, by go_num, by go_num, hq3.out⟩
            case measure => simp [intOf]; omega
          | false =>
            rw [hsn] at hhasB
            have h0 := hseen hsn
            rw [HSs.out, h0, Nat.sub_zero] at hv
            rw [hv] at HAt
            clear hv hseen hhas hsn h0
            go_wp2_with (first
              | (at_lookup; refine wpList_lookup_own_ok_int _ rfl _ _ 53 rfl 9 3 .i64 lawS Tryd.underlying53 Tryd.underlying3 (zeroInt2 _) wq.heap.size n D rfl HOwn.out _ _ rfl HKey.out ?_; intro c hat hwc; clear hat hwc)
              | (at_lookup; refine wpList_lookup_own_int _ rfl _ _ 53 rfl 9 3 .i64 lawS Tryd.underlying53 Tryd.underlying3 (zeroInt2 _) w.heap.size n1 D1 rfl HOwn1.out _ _ rfl HKey.out ?_; intro c hat hwc; have HAt2 := Lib.hid hat; clear hat hwc; obtain rfl : c = (v : Int) := (by have e := HAt2.out; rw [HAt.out] at e; injection e with e; injection e with _ e; exact e.symm))
              | (at_mapUpdate; refine wpList_mapUpdate_own _ rfl _ _ _ 53 rfl 9 3 lawS Tryd.underlying53 (plainElem Tryd.prog 3) wq.heap.size n D rfl HOwn.out (by unfold maxLen; omega) _ _ _ rfl rfl HKey.out _ [] (plainElem_int Tryd.underlying3 (WalkArith.wf_i64 (by omega))) ?_; intro w2 hown2 hgrow2; have hq3 := Lib.hid (HStep.out w2 hown2 hgrow2); clear hown2 hgrow2))
            go_roundw
            case rel => exact ⟨k + 1, by omega, by go_num, by go_num, hq3.out⟩
            case measure => simp [intOf]; omega
        · obtain rfl : k = xs.length := by omega
          have e0 : wr.cell? ⟨g, 0, none⟩ = some (.slice aa xs.length ca) := by rw [hq.out.2.1.cell 0]; exact HC0.out
          have e1 : wr.cell? ⟨g, 1, none⟩ = some (.slice ab xs.length cb) := by rw [hq.out.2.1.cell 1]; exact HC1.out
          have CR := Lib.hid (fun w => ratio_any xs.length hx w)
          have x1 : IntKind.i64.wrap ((xs.length : Int) + (xs.length : Int)) = (xs.length : Int) + (xs.length : Int) := IntWalk.i64_in _ (by omega)
          have HQ := Lib.hid (⟨hq.out.1, hq.out.2.1⟩ : w.grownBy wr (some g) ∧ Whole wr g 55 cells)
          clear hq hq2
          go_wp2_with fail
          go_quiet ((go_at_call 19; exact Calls.quiet_of (CR.out _)))
          have hfin : Hid (QuickOut xs g w (.returned (.float .f64 4607182418800017408)) (wr.drewN nq)) := by
            obtain ⟨c2, c3, c4, c5, c6, c7, c8, c9, hf⟩ := HForm.out
            have hgr : w.grownBy (wr.drewN nq) (some g) := only_then HQ.out.1 (below_drewN (Below.refl _ _) nq)
            have hwh := HQ.out.2.below (below_drewN (Below.refl wr.heap.size wr) nq) HQ.out.2.lt
            rw [hf] at hwh
            exact ⟨rfl, ⟨_, _, c2, c3, c4, c5, c6, c7, c8, c9, hwh, HVa.out.only hgr, HVb.out.only hgr⟩, hgr⟩
          clear x1
          go_wp2_with fail
          go_ret
          exact hfin.out

end Go.Proofs.YtkmfedmiaannfaaDoor.Df
