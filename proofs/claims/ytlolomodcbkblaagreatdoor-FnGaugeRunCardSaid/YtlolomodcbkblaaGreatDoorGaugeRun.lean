/- FnGaugeRun: a gauge has the value that its calls (Inc, Dec, Add, Sub and Set) compute one after the other: how the argument is read, and the walk of the law. No condition. -/
import Derived.Test.YtlolomodcbkblaaGreatDoorGao
import Derived.Test.YtlolomodcbkblaaGreatDoorGat
import Derived.Test.YtlolomodcbkblaaGreatDoorGay
import Derived.Test.YtlolomodcbkblaaGreatDoorNgl
set_option linter.unusedVariables false
set_option linter.unusedSimpArgs false
namespace Go.Proofs.YtlolomodcbkblaaGreatDoor.GaugeRun
open Go.RowKit Go.Maps Go.WideMaps Go.ChangeShapes Go.WideShapes Go.Deep Fp Obs Plf _root_.Go.Proofs.YtlolomodcbkblaaGreatDoor.Nd _root_.Go.Proofs.YtlolomodcbkblaaGreatDoor.Mt _root_.Go.Proofs.YtlolomodcbkblaaGreatDoor.Gg

def Good (w : World) (v : Value) : Prop := ∃ L : List Stp, Gg.Steps w v L
theorem float_of {H : Type} {enc : TypeId × Value → H} {P : Program} {w : World} {base n : Nat} {spare : Nat → Bool} {held : Bool} {t : TypeId} {v : Value} {x : DataW H × List MemPlace} (ht : P.underlying t = some (.float .f64)) (h : DataW.trod enc P w base spare held n t [v] = some x) : ∃ z, v = .float .f64 z := by
  cases n with
  | zero => simp [DataW.trod] at h
  | succ n =>
    cases v <;> simp only [DataW.trod, ht] at h <;> try (simp at h; done)
    rename_i k z
    cases k
    · simp at h
    · exact ⟨z, rfl⟩
set_option maxRecDepth 100000 in
theorem read0 {H : Type} {enc : TypeId × Value → H} {W : World} {base b0 : Nat} {held : Bool} {r : Reach} {v : Value} {d : DataW H} {p : List MemPlace}
    (hv : Value.okWide Tryz.prog W r b0 22 v) (h : DataW.Trod enc Tryz.prog W base (fun _ => true) held 22 v d p) : Good W v := by
  obtain ⟨L, h1, h2, _⟩ : ∃ L : List Stp, Ss.Of 4 sc W v L ∧ (∀ z ∈ L, ∃ A : List P2, Ss.Of 2 pc W z.l A) ∧ (L.map fun _ => 0).sum ≤ Rows.uptoBulk d := by
    refine Ss.open_bulk 4 sc sc_len (fun z => ∃ A : List P2, Ss.Of 2 pc W z.l A) (fun _ => 0) Tryz.underlying22 Tryz.underlying98 (by kernel_rfl) (by kernel_rfl) rfl (by decide) ?_ hv h
    intro V ys hyl hV
    obtain ⟨n0, y0, g0, h0⟩ := hV 0 _ rfl
    obtain ⟨n1, y1, g1, h1⟩ := hV 1 _ rfl
    obtain ⟨n2, y2, g2, h2⟩ := hV 2 _ rfl
    obtain ⟨n3, y3, g3, h3⟩ := hV 3 _ rfl
    obtain ⟨i0, e0, _, _⟩ := DataW.trod_int Tryz.underlying3 h0
    obtain ⟨z1, e1⟩ := float_of Tryz.underlying24 h1
    obtain ⟨A, hA, _, _⟩ := pairs_bulk h2
    obtain ⟨i3, e3, _, _⟩ := DataW.trod_int Tryz.underlying2 h3
    simp only [List.cons.injEq, and_true] at e0 e3
    refine ⟨⟨i0, z1, V 2, i3⟩, ?_, ⟨A, hA⟩, Nat.zero_le _⟩
    intro j u hu
    match j, hu with
    | 0, hu => injection hu with hu; rw [e0, ← hu]
    | 1, hu => injection hu with hu; rw [e1, ← hu]
    | 2, hu => injection hu with hu
    | 3, hu => injection hu with hu; rw [e3, ← hu]
    | j + 4, hu => cases hu
  exact ⟨L, h1, h2⟩

set_option maxHeartbeats 16000000 in
set_option maxRecDepth 100000 in
theorem law_any (v : Value) (w : World) (hg : Good w v) (hG : Glob w) :
    Calls Tryz.prog 3 #[v] w fun e w' => e = .returned (.bool true) ∧ Below w.heap.size w w' := by
  obtain ⟨L, hst⟩ := hg
  obtain ⟨av, cv, rfl, _, _⟩ := hst.row.slice
  have C10 := Lib.hid (fits10_gen L _ w hst)
  have HSt := Lib.hid hst
  have HG := Lib.hid hG
  have HLv : Hid (∀ W : World, Below w.heap.size w W → Calls Tryz.prog 9 #[] W (fun e w' => e = .returned (.bool true) ∧ Below w.heap.size w w' ∧ Below W.heap.size W w')) := fun W h => (awake_any W (hG.below h)).mono fun e w' ⟨he, hb⟩ => ⟨he, h.trans (hb.mono h.size), hb⟩
  have hsz40 : (Tryz.prog.info? 40).map (·.size) = some 27 := by kernel_rfl
  clear hst hG
  go_enter Tryz.func3, Tryz.ntmps3
  go_wp2_with fail
  refine C10.out.mono ?_
  rintro e w1 ⟨b, rfl, hfit, hb1⟩
  have HB1 := Lib.hid hb1
  have HFit := Lib.hid hfit
  clear C10 hb1 hfit
  cases b with
  | false =>
    go_wp2_with fail
    go_ret
    exact ⟨rfl, HB1.out⟩
  | true =>
    have hfit := HFit.out (by simp)
    have CS := Lib.hid (specGauge_any L _ w1 (HSt.out.row.below HB1.out))
    have CT : Hid (∀ W, Below w.heap.size w W → Calls Tryz.prog 11 #[.slice av L.length cv] W (StepsOut L W)) := fun W h =>
      stepsTo_any L _ W (HSt.out.row.below h) ⟨hfit.1, fun s hs => by obtain ⟨A, h1, h2⟩ := hfit.2 s hs; exact ⟨A, h1.below h, h2⟩⟩
    clear hfit HFit
    go_wp2_with fail
    refine CS.out.mono ?_
    rintro e w2 ⟨y, b, rfl, hy, hb2⟩
    have HB2 : Hid (Below w.heap.size w w2) := HB1.out.trans (hb2.mono HB1.out.size)
    have HY := Lib.hid hy
    clear CS hb2 hy
    cases b with
    | false =>
      go_wp2_with (go_at_call 9; refine (HLv.out _ HB2.out).mono ?_; rintro e w9 ⟨rfl, hb9, _⟩; have HF := Lib.hid hb9; clear hb9)
      go_ret
      exact ⟨rfl, HF.out⟩
    | true =>
      have HYr : Hid (Rep (gv (L.map ky)) y) := HY.out (by simp)
      clear HY
      go_wp2_with fail
      refine (CT.out w2 HB2.out).mono ?_
      rintro e w3 ⟨a3, c3, ys, rfl, hof3, hyl, hyk, hysl, hb3⟩
      have HB3 : Hid (Below w.heap.size w w3) := HB2.out.trans (hb3.mono HB2.out.size)
      have CG : Hid (Calls Tryz.prog 10 #[.slice a3 L.length c3] w3 (GaugeOut (L.map ky) w3)) := by
        have h := gaugeRun_any ys _ w3 (HG.out.below HB3.out) hof3 hysl
        rw [hyk] at h
        exact h
      clear hof3 hyl hyk hysl hb3 CT
      go_wp2_with fail
      refine CG.out.mono ?_
      rintro e w4 ⟨a, c, z, rfl, hz, ho4, hb4⟩
      have HB4 : Hid (Below w.heap.size w w4) := HB3.out.trans (hb4.mono HB3.out.size)
      have HO4 := Lib.hid ho4
      have HV : Hid (SameV z y) := Rep.two hz HYr.out
      clear CG hz ho4 hb4
      rename_i K1 hK1 K2 hK2
      dsimp only
      refine hK2 _ _ ?_
      refine wpList_plain rfl fun K3 hK3 => ?_
      go_simp
      refine hK3 _ _ ?_
      clear hK3 K3
      refine Big.wpList_store_whole rfl _ _ _ rfl w4.heap.size 40 (xcs (.slice none 0 0) 0 0 false 0 false 0) (xcs (.slice a 0 c) 1 z false 0 false 0) rfl rfl (Whole.made w4 _ _) rfl hsz40 (xcs_ones _ _ _ _ _ _ _ _ _) ?_
      intro w5 hx5 hg5 hs5
      simp only [Act.put]
      have hb45 : Below w4.heap.size w4 w5 := ((Below.refl _ _).alloc (Nat.le_refl _) _).grown hg5 (by simp) (fun j hj => by injection hj with hj; omega)
      have HX5 := Lib.hid hx5
      have HB5 : Hid (Below w.heap.size w w5) := HB4.out.trans (hb45.mono HB4.out.size)
      have HO5 : Hid (Ss.Of 2 pc w5 (.slice a 0 c) ([] : List P2)) := HO4.out.below hb45
      clear hx5 hg5 hs5 hb45 HO4
      have CF := Lib.hid (from_x [] (.slice a 0 c) 1 z false 0 false 0 w5 HO5.out (by simp))
      go_upto_region 7 with fail
      refine wp_region_lit ?_
      refine Big.wpList_load_whole rfl _ _ rfl w4.heap.size 40 (xcs (.slice a 0 c) 1 z false 0 false 0) rfl HX5.out _ Tryz.underlying40 rfl hsz40 ?_
      simp only [Act.put]
      go_wp2_with fail
      refine CF.out.mono ?_
      rintro e w6 ⟨fv, rfl, hf6, hb6⟩
      have HB6 : Hid (Below w.heap.size w w6) := HB5.out.trans (hb6.mono HB5.out.size)
      have CM := Lib.hid (same_x2 [] fv (.slice none 0 0) 1 z y HV.out false 0 false 0 w6 hf6 (Or.inl ⟨rfl, none, 0, rfl, by omega⟩) (by simp))
      clear hf6 hb6 CF
      go_wp2_with fail
      refine CM.out.mono ?_
      rintro e w7 ⟨rfl, hb7⟩
      have HB7 : Hid (Below w.heap.size w w7) := HB6.out.trans (hb7.mono HB6.out.size)
      clear hb7 CM
      go_wp2_with (go_at_call 9; refine (HLv.out _ HB7.out).mono ?_; rintro e w9 ⟨rfl, hb9, _⟩; have HF := Lib.hid hb9; clear hb9)
      go_ret
      exact ⟨rfl, HF.out⟩

end Go.Proofs.YtlolomodcbkblaaGreatDoor.GaugeRun
