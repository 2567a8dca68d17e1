/- Steps converted (laws.stepTo, laws.stepsTo). -/
import Derived.Test.YtlolomodcbkblaaGreatDoorMg9
import Derived.Test.YtlolomodcbkblaaGreatDoorMtv
set_option linter.unusedVariables false
set_option linter.unusedSimpArgs false
namespace Go.Proofs.YtlolomodcbkblaaGreatDoor.Gg
open Go.RowKit Go.Maps Go.WideMaps Go.ChangeShapes Go.WideShapes Go.Deep Fp Obs _root_.Go.Proofs.YtlolomodcbkblaaGreatDoor.Nd

/-- a step handed back, its labels a row of the call's own -/
def StepOut (sk : Int) (sz : Nat) (st : Int) (A : List P2) (w : World) (e : Ending) (w' : World) : Prop :=
  ∃ a c, e = .returned (.agg #[.int .i64 sk, .float .f64 sz, .slice a A.length c, .int .i64 st]) ∧ w'.ownsRow w.heap.size 211 2 (.slice a A.length c) A.length (A.flatMap pc) ∧ Below w.heap.size w w'
set_option maxHeartbeats 8000000 in
set_option maxRecDepth 100000 in
theorem stepTo_any (sk : Int) (sz : Nat) (l : Value) (st : Int) (A : List P2) (w : World) (hof : Ss.Of 2 pc w l A) (hA : A.length ≤ 2147483647) :
    Calls Tryz.prog 42 #[.agg #[.int .i64 sk, .float .f64 sz, l, .int .i64 st]] w (StepOut sk sz st A w) := by
  obtain ⟨al, cl, rfl, _, _⟩ := hof.slice
  obtain ⟨W0, hW0⟩ : ∃ W0, W0 = (w.alloc (.cells #[.int .i64 sk, .float .f64 sz, .slice al A.length cl, .int .i64 st] 98)).alloc (.cells #[.int .i64 0, .float .f64 0, .slice none 0 0, .int .i64 0] 110) := ⟨_, rfl⟩
  have s1 : (w.alloc (.cells #[.int .i64 sk, .float .f64 sz, .slice al A.length cl, .int .i64 st] 98)).heap.size = w.heap.size + 1 := by simp
  have s2 : W0.heap.size = w.heap.size + 1 + 1 := by rw [hW0]; simp
  have hb1 : Below w.heap.size w (w.alloc (.cells #[.int .i64 sk, .float .f64 sz, .slice al A.length cl, .int .i64 st] 98)) := (Below.refl _ _).alloc (Nat.le_refl _) _
  have hb2 : Below (w.heap.size + 1) (w.alloc (.cells #[.int .i64 sk, .float .f64 sz, .slice al A.length cl, .int .i64 st] 98)) W0 := by rw [hW0]; exact (Below.refl _ _).alloc (by rw [s1]; exact Nat.le_refl _) _
  have hb0 : Below w.heap.size w W0 := hb1.trans (hb2.mono (by omega))
  have hx1 : Whole W0 w.heap.size 98 #[.int .i64 sk, .float .f64 sz, .slice al A.length cl, .int .i64 st] := (hb2.block w.heap.size (by omega)).trans (Whole.made w _ _)
  have hx2 : Whole W0 (w.heap.size + 1) 110 #[.int .i64 0, .float .f64 0, .slice none 0 0, .int .i64 0] := by rw [hW0, ← s1]; exact Whole.made _ _ _
  have HQ : Hid (∀ W, Below W0.heap.size W0 W → W.cell? ⟨w.heap.size, 0, none⟩ = some (.int .i64 sk) ∧ W.cell? ⟨w.heap.size, 1, none⟩ = some (.float .f64 sz) ∧ W.cell? ⟨w.heap.size, 2, none⟩ = some (.slice al A.length cl) ∧ W.cell? ⟨w.heap.size, 3, none⟩ = some (.int .i64 st)) := fun W h => by
    have g : Whole W w.heap.size 98 #[.int .i64 sk, .float .f64 sz, .slice al A.length cl, .int .i64 st] := (h.block _ hx1.lt).trans hx1
    exact ⟨g.cell 0, g.cell 1, g.cell 2, g.cell 3⟩
  have HQf : Hid (∀ W2 W, Below W0.heap.size W0 W2 → W2.grownBy W (some (w.heap.size + 1)) → W.cell? ⟨w.heap.size, 0, none⟩ = some (.int .i64 sk) ∧ W.cell? ⟨w.heap.size, 1, none⟩ = some (.float .f64 sz) ∧ W.cell? ⟨w.heap.size, 2, none⟩ = some (.slice al A.length cl) ∧ W.cell? ⟨w.heap.size, 3, none⟩ = some (.int .i64 st)) := fun W2 W h hg => by
    have g2 : Whole W2 w.heap.size 98 #[.int .i64 sk, .float .f64 sz, .slice al A.length cl, .int .i64 st] := (h.block _ hx1.lt).trans hx1
    have g : Whole W w.heap.size 98 #[.int .i64 sk, .float .f64 sz, .slice al A.length cl, .int .i64 st] := (hg.block _ g2.lt (by intro e; injection e with e; omega)).trans g2
    exact ⟨g.cell 0, g.cell 1, g.cell 2, g.cell 3⟩
  have CP : Hid (∀ W, Below W0.heap.size W0 W → Calls Tryz.prog 68 #[.slice al A.length cl] W (fun e w' => ∃ a c, e = .returned (.slice a A.length c) ∧ w'.ownsRow W0.heap.size 211 2 (.slice a A.length c) A.length (A.flatMap pc) ∧ Whole w' (w.heap.size + 1) 110 #[.int .i64 0, .float .f64 0, .slice none 0 0, .int .i64 0] ∧ Below W0.heap.size W0 w' ∧ True)) := fun W h => by
    refine (pairsTo_own A _ W (hof.below (hb0.trans (h.mono (by omega)))) hA).mono ?_
    rintro e w' ⟨v, rfl, ho, hb⟩
    obtain ⟨a, c, rfl⟩ := row_slice2 ho
    have h2 := h.trans (hb.mono h.size)
    exact ⟨a, c, rfl, own_base ho h.size, (h2.block _ hx2.lt).trans hx2, h2, trivial⟩
  have HOut : Hid (∀ W2 W a c, Below W0.heap.size W0 W2 → W2.ownsRow W0.heap.size 211 2 (.slice a A.length c) A.length (A.flatMap pc) → W2.grownBy W (some (w.heap.size + 1)) → W.ownsRow w.heap.size 211 2 (.slice a A.length c) A.length (A.flatMap pc) ∧ Below w.heap.size w W) := fun W2 W a c h ho hg => by
    refine ⟨own_base (ho.kept hg ?_) (by omega), (hb0.trans (h.mono (by omega))).grown hg (by have := h.size; omega) (fun j hj => by injection hj with hj; omega)⟩
    cases hv : (Value.slice a A.length c).ownBlock with
    | none => exact Or.inl rfl
    | some g => exact Or.inr (by have := (ho.lt g hv).1; intro e; injection e with e; omega)
  have hsz : (Tryz.prog.info? 110).map (·.size) = some 4 := by kernel_rfl
  have HE0 : Hid (Below W0.heap.size W0 W0.drew) := bdr (Below.refl _ _) 1
  have k1 := HQ.out _ HE0.out
  clear hof hb1 hb2 hb0 hx1 hx2
  go_enter Tryz.func42, Tryz.ntmps42
  go_wp2_with fail
  rw [← hW0]
  clear hW0
  refine wp_region_noPanic ?_
  refine wp_region_held_drew (S := fun W => W.cell? ⟨w.heap.size, 0, none⟩ = some (.int .i64 sk) ∧ W.cell? ⟨w.heap.size, 1, none⟩ = some (.float .f64 sz) ∧ W.cell? ⟨w.heap.size, 2, none⟩ = some (.slice al A.length cl) ∧ W.cell? ⟨w.heap.size, 3, none⟩ = some (.int .i64 st)) (by kernel_rfl) (by (with_reducible exact k1)) (fun hHeld => ?_)
  refine wpAnyH_take (i := 0) (v := ?_) rfl (by kernel_rfl) (by kernel_rfl) (by kernel_rfl) (fun _ _ _ h => h) (Or.inl ⟨by rfl, ?_⟩) hHeld ?_
  rotate_left
  · intro w hSw; (try dsimp only at hSw); go_simp; (try with_reducible rfl)
  try simp only [Act.put, List.setIfInBounds_toArray, List.set_cons_zero, List.set_cons_succ, List.getElem_toArray, List.getElem_cons_zero, List.getElem_cons_succ]
  refine wpAnyH_take (i := 1) (v := ?_) rfl (by kernel_rfl) (by kernel_rfl) (by kernel_rfl) (fun _ _ _ h => h) (Or.inl ⟨by rfl, ?_⟩) hHeld ?_
  rotate_left
  · intro w hSw; (try dsimp only at hSw); go_simp; (try with_reducible rfl)
  try simp only [Act.put, List.setIfInBounds_toArray, List.set_cons_zero, List.set_cons_succ, List.getElem_toArray, List.getElem_cons_zero, List.getElem_cons_succ]
  refine wpAnyH_take (i := 2) (v := ?_) rfl (by kernel_rfl) (by kernel_rfl) (by kernel_rfl) (fun _ _ _ h => h) (Or.inl ⟨by rfl, ?_⟩) hHeld ?_
  rotate_left
  · intro w hSw; (try dsimp only at hSw); go_simp; (try with_reducible rfl)
  try simp only [Act.put, List.setIfInBounds_toArray, List.set_cons_zero, List.set_cons_succ, List.getElem_toArray, List.getElem_cons_zero, List.getElem_cons_succ]
  refine wpAnyH_take (i := 3) (v := ?_) rfl (by kernel_rfl) (by kernel_rfl) (by kernel_rfl) (fun _ _ _ h => h) (Or.inl ⟨by rfl, ?_⟩) hHeld ?_
  rotate_left
  · intro w hSw; (try dsimp only at hSw); go_simp; (try with_reducible rfl)
  try simp only [Act.put, List.setIfInBounds_toArray, List.set_cons_zero, List.set_cons_succ, List.getElem_toArray, List.getElem_cons_zero, List.getElem_cons_succ]
  refine wpAnyH_take (i := 4) (v := ?_) rfl (by kernel_rfl) (by kernel_rfl) (by kernel_rfl) (fun _ _ _ h => h) (Or.inl ⟨by rfl, ?_⟩) hHeld ?_
  rotate_left
  · intro w hSw; (try dsimp only at hSw); go_simp; (try with_reducible rfl)
  try simp only [Act.put, List.setIfInBounds_toArray, List.set_cons_zero, List.set_cons_succ, List.getElem_toArray, List.getElem_cons_zero, List.getElem_cons_succ]
  refine wpAnyH_take (i := 5) (v := ?_) rfl (by kernel_rfl) (by kernel_rfl) (by kernel_rfl) (fun _ _ _ h => h) (Or.inl ⟨by rfl, ?_⟩) hHeld ?_
  rotate_left
  · intro w hSw; (try dsimp only at hSw); go_simp; (try with_reducible rfl)
  try simp only [Act.put, List.setIfInBounds_toArray, List.set_cons_zero, List.set_cons_succ, List.getElem_toArray, List.getElem_cons_zero, List.getElem_cons_succ]
  refine wpAnyH_take (i := 7) (v := ?_) rfl (by kernel_rfl) (by kernel_rfl) (by kernel_rfl) (fun _ _ _ h => h) (Or.inl ⟨by rfl, ?_⟩) hHeld ?_
  rotate_left
  · intro w hSw; (try dsimp only at hSw); go_simp; (try with_reducible rfl)
  try simp only [Act.put, List.setIfInBounds_toArray, List.set_cons_zero, List.set_cons_succ, List.getElem_toArray, List.getElem_cons_zero, List.getElem_cons_succ]
  refine wpAnyH_take (i := 8) (v := ?_) rfl (by kernel_rfl) (by kernel_rfl) (by kernel_rfl) (fun _ _ _ h => h) (Or.inl ⟨by rfl, ?_⟩) hHeld ?_
  rotate_left
  · intro w hSw; (try dsimp only at hSw); go_simp; (try with_reducible rfl)
  try simp only [Act.put, List.setIfInBounds_toArray, List.set_cons_zero, List.set_cons_succ, List.getElem_toArray, List.getElem_cons_zero, List.getElem_cons_succ]
  refine wpAnyH_ready (rs := [6]) (by kernel_rfl) (by simp) (AllReadyH.cons rfl (fun K hK => ?_) AllReadyH.nil)
  go_simp
  go_at_call 68; refine (CP.out _ HE0.out).mono ?_; rintro e w2 ⟨a2, c2, rfl, ho, hx, hb, hb0⟩; have HX2 := Lib.hid hx; have HO2 := Lib.hid ho; have HE2 := Lib.hid hb; have q2 := HQ.out _ hb; clear ho hx hb hb0
  refine hK.out _ _ ?_ (fun hHeld2 => ?_)
  · first | (with_reducible exact q2) | (with_reducible exact q9)
  clear hK K hHeld; have hHeld := hHeld2; clear hHeld2
  try simp only [Act.put, List.setIfInBounds_toArray, List.set_cons_zero, List.set_cons_succ, List.getElem_toArray, List.getElem_cons_zero, List.getElem_cons_succ]
  refine wpAnyH_take (i := 9) (v := ?_) rfl (by kernel_rfl) (by kernel_rfl) (by kernel_rfl) (fun _ _ _ h => h) (Or.inl ⟨by rfl, ?_⟩) hHeld ?_
  rotate_left
  · intro w hSw; (try dsimp only at hSw); go_simp; (try with_reducible rfl)
  try simp only [Act.put, List.setIfInBounds_toArray, List.set_cons_zero, List.set_cons_succ, List.getElem_toArray, List.getElem_cons_zero, List.getElem_cons_succ]
  refine wpAnyH_ready (rs := [10]) (by kernel_rfl) (by simp) (AllReadyH.cons rfl (fun K hK => ?_) AllReadyH.nil)
  rw [if_pos (by rfl)]
  refine Big.wp_store_whole _ _ _ rfl (w.heap.size + 1) 110 _ #[.int .i64 sk, .float .f64 sz, .slice a2 A.length c2, .int .i64 st] rfl rfl HX2.out rfl hsz (by simp [Value.oneCell']) ?_; intro y9 hx9 hg9 hs9; have HX9 := Lib.hid hx9; obtain ⟨ho9, hb9⟩ := HOut.out _ _ _ _ HE2.out HO2.out hg9; have q9 : y9.cell? ⟨w.heap.size, 0, none⟩ = some (.int .i64 sk) ∧ y9.cell? ⟨w.heap.size, 1, none⟩ = some (.float .f64 sz) ∧ y9.cell? ⟨w.heap.size, 2, none⟩ = some (.slice al A.length cl) ∧ y9.cell? ⟨w.heap.size, 3, none⟩ = some (.int .i64 st) := HQf.out _ _ HE2.out hg9; have HO9 := Lib.hid ho9; have HB9 := Lib.hid hb9; clear hx9 hg9 hs9 ho9 hb9
  refine hK.out _ _ ?_ (fun hHeld2 => ?_)
  · first | (with_reducible exact q2) | (with_reducible exact q9)
  clear hK K hHeld; have hHeld := hHeld2; clear hHeld2
  try simp only [Act.put, List.setIfInBounds_toArray, List.set_cons_zero, List.set_cons_succ, List.getElem_toArray, List.getElem_cons_zero, List.getElem_cons_succ]
  refine wpAnyH_done (by kernel_rfl) ?_ _
  refine NoPanic.normal ?_
  go_wp2_with fail
  have m0 := HX9.out.cell 0
  have m1 := HX9.out.cell 1
  have m2 := HX9.out.cell 2
  have m3 := HX9.out.cell 3
  refine bodyPost_ret (v := .agg #[.int .i64 sk, .float .f64 sz, .slice a2 A.length c2, .int .i64 st]) (by simp [results, Tryz.results42, go_sem, m0, m1, m2, m3]) rfl ?_
  exact ⟨a2, c2, rfl, HO9.out, HB9.out⟩

theorem infoIS : (Tryz.prog.info? 110).map (fun i => (i.zero, i.size, i.bytes)) = some (some (.agg #[.int .i64 0, .float .f64 0, .slice none 0 0, .int .i64 0]), 4, 48) := by kernel_rfl
/-- steps appended so far -/
structure Got (w : World) (L : List Stp) (k : Nat) (u : Value) (wr : World) : Prop where
  own : ∃ ys : List Stp, ys.length = k ∧ ys.map ky = (L.take k).map ky ∧ wr.ownsRow w.heap.size 110 4 u k (ys.flatMap sc) ∧ ∀ s ∈ ys, ∃ a n c, s.l = .slice a n c
  b : Below w.heap.size w wr
/-- steps handed back -/
def StepsOut (L : List Stp) (w : World) (e : Ending) (w' : World) : Prop :=
  ∃ a c ys, e = .returned (.slice a L.length c) ∧ Ss.Of 4 sc w' (.slice a L.length c) ys ∧ ys.length = L.length ∧ ys.map ky = L.map ky ∧ (∀ s ∈ ys, ∃ a n c, s.l = .slice a n c) ∧ Below w.heap.size w w'
set_option maxHeartbeats 8000000 in
set_option maxRecDepth 100000 in
theorem stepsTo_any (L : List Stp) (v : Value) (w : World) (hof : Ss.Of 4 sc w v L) (hfit : StepsFit w L) :
    Calls Tryz.prog 11 #[v] w (StepsOut L w) := by
  obtain ⟨i0, hi, hz0, hz1, hz2⟩ := info_parts infoIS
  obtain ⟨av, cv, rfl, _, _⟩ := hof.slice
  have HOf := Lib.hid hof
  have HFit := Lib.hid hfit
  have hL := hfit.1
  have HG0 : Hid (Got w L 0 (.slice none 0 0) w) := ⟨⟨[], rfl, rfl, World.ownsRow_nil _ _ _ _, fun s h => by cases h⟩, Below.refl _ _⟩
  clear hof hfit
  go_enter Tryz.func11, Tryz.ntmps11
  go_wp2_with fail
  go_loopw [3, 4] (fun vu vk wr => ∃ (k : Nat) (u : Value), k ≤ L.length ∧ u = vu ∧ vk = .int .i64 (k : Int) ∧ Hid (Got w L k u wr)) (fun _ k _ => L.length - (intOf k).toNat)
  case atStart => exact ⟨0, _, Nat.zero_le _, rfl, rfl, HG0.out⟩
  case round =>
    obtain ⟨k, u, hk, rfl, rfl, hgot⟩ := hrel
    by_cases hlt : k < L.length
    · obtain ⟨b, off, hav, hb, d0, d1, d2, d3⟩ := step_of HOf.out hlt
      obtain ⟨A, hA, hAl⟩ := HFit.out.2 L[k] (List.getElem_mem hlt)
      have htk : L.take (k + 1) = L.take k ++ [L[k]] := List.take_succ_eq_append_getElem hlt
      subst hav
      obtain ⟨sk, sz, sl, st, hxy⟩ : ∃ sk sz sl st, L[k] = ⟨sk, sz, sl, st⟩ := ⟨_, _, _, _, rfl⟩
      rw [hxy] at d0 d1 d2 d3 hA htk
      obtain ⟨al, cl, hsl, _, _⟩ := hA.slice
      have hsl : sl = .slice al A.length cl := hsl
      subst hsl
      obtain ⟨ys, hyl, hyk, hown, hysl⟩ := hgot.out.own
      have hbw := hgot.out.b
      have hsz : w.heap.size ≤ wr.heap.size := hbw.size
      have c0 : wr.cell? ⟨b, off + k * 4, none⟩ = some (.int .i64 sk) := by rw [hbw.cell (p := ⟨b, off + k * 4, none⟩) hb]; exact d0
      have c1 : wr.cell? ⟨b, off + k * 4 + 1, none⟩ = some (.float .f64 sz) := by rw [hbw.cell (p := ⟨b, off + k * 4 + 1, none⟩) hb]; exact d1
      have c2 : wr.cell? ⟨b, off + k * 4 + 2, none⟩ = some (.slice al A.length cl) := by rw [hbw.cell (p := ⟨b, off + k * 4 + 2, none⟩) hb]; exact d2
      have c3 : wr.cell? ⟨b, off + k * 4 + 3, none⟩ = some (.int .i64 st) := by rw [hbw.cell (p := ⟨b, off + k * 4 + 3, none⟩) hb]; exact d3
      have z1 : (0 : Int) ≤ (k : Int) := by omega
      have z2 : (k : Int) < (L.length : Int) := by omega
      obtain ⟨au, cu, rfl⟩ := row_slice2 hown
      have CS := Lib.hid (stepTo_any sk sz _ st A wr ((show Ss.Of 2 pc w (.slice al A.length cl) A from hA).below hbw) hAl)
      have HTk := Lib.hid htk
      have HOwn := Lib.hid hown
      have HBw := Lib.hid hbw
      have HYk := Lib.hid hyk
      have HYs := Lib.hid hysl
      clear d0 d1 d2 d3 hxy hA hAl hbw htk hown hgot hyk hysl
      go_wp2_with fail
      refine CS.out.mono ?_
      rintro e w1 ⟨a2, q2, rfl, ho1, hb1⟩
      have hs1 : w.heap.size ≤ w1.heap.size := Nat.le_trans hsz hb1.size
      have HOwn1 : Hid (w1.ownsRow w.heap.size 110 4 (.slice au k cu) k (ys.flatMap sc)) := HOwn.out.kept (row := none) ⟨hb1.os, hb1.tape, hb1.output, hb1.size, fun i hi _ => hb1.block i hi⟩ (by cases (Value.slice au k cu).ownBlock <;> simp)
      have HB1 : Hid (Below w.heap.size w w1) := HBw.out.trans (hb1.mono hsz)
      have HNews := Lib.hid (Ss.news_one w1 #[.int .i64 sk, .float .f64 sz, .slice a2 A.length q2, .int .i64 st] 110)
      clear hb1 ho1 c0 c1 c2 c3 CS
      go_wp2_with (first
        | (at_builtin; refine wpList_append_own_at _ rfl _ _ 42 rfl w.heap.size 110 i0 (.agg #[.int .i64 0, .float .f64 0, .slice none 0 0, .int .i64 0]) 4 48 Tryz.underlying42 hi hz0 hz1 hz2 rfl (by decide) _ _ _ rfl (HOwn1.out.alloc _) ⟨w1.heap.size, 0, none⟩ 1 1 [.int .i64 sk, .float .f64 sz, .slice a2 A.length q2, .int .i64 st] rfl rfl (by simpa using HNews.out) (by simp [Value.oneCell']) (by unfold maxLen; omega) (by omega) (by simp; omega) ?_; intro v2 W4 how hgw hnb hlc; have HW4 := Lib.hid (And.intro how hgw); clear how hgw hnb hlc))
      obtain ⟨how, hgw⟩ := HW4.out
      have HG4 : Hid (Got w L (k + 1) v2 W4) := by
        refine ⟨⟨ys ++ [⟨sk, sz, .slice a2 A.length q2, st⟩], by simp [hyl], ?_, ?_, ?_⟩, ?_⟩
        · rw [HTk.out, List.map_append, List.map_append, HYk.out]; rfl
        · rw [List.flatMap_append]
          simpa [sc] using how
        · intro s hs
          rcases List.mem_append.1 hs with h | h
          · exact HYs.out s h
          · rw [List.mem_singleton.1 h]; exact ⟨_, _, _, rfl⟩
        · exact (HB1.out.alloc hs1 _).grown hgw (by simp; omega) (fun j hj => (HOwn1.out.lt j hj).1)
      clear how hgw HW4
      go_roundw
      case rel => exact ⟨k + 1, _, by omega, rfl, by go_num, HG4.out⟩
      case measure => simp [intOf]; omega
    · obtain rfl : k = L.length := by omega
      obtain ⟨ys, hyl, hyk, hown, hysl⟩ := hgot.out.own
      obtain ⟨au, cu, rfl⟩ := row_slice2 hown
      have hfin : Hid (StepsOut L w (.returned (.slice au L.length cu)) wr) := ⟨au, cu, ys, rfl, by
        have h := hown
        rw [← hyl] at h
        have h2 := Ss.Of.own sc_len h
        rwa [hyl] at h2, hyl, by rw [hyk, List.take_length], hysl, hgot.out.b⟩
      clear hgot hown hyl hyk hysl
      go_wp2_with fail
      go_ret
      exact hfin.out

end Go.Proofs.YtlolomodcbkblaaGreatDoor.Gg
