/- Wrapped descriptors: wrapDesc walked. -/
import Derived.Test.YtfcpapbokefdmaaGreatDoorWra
import Derived.Deep.RegionHeld3
import Derived.Deep.DeepCutAuto
import Derived.StillTailTactics
set_option linter.unusedVariables false
set_option linter.unusedSimpArgs false
namespace Go.Proofs.YtfcpapbokefdmaaGreatDoor.Nd
open Go.RowKit Go.Maps Go.WideMaps Go.ChangeShapes Go.WideShapes Go.Deep Fp Obs

/-- a name of the labels is one of the descriptor's own, constant or variable -/
def Clash (V : List ByteArray) (F L : List P2) : Prop := (∃ k, (lastV L k).isSome = true ∧ k ∈ F.map (·.1)) ∨ ¬ ((fit (F ++ L)).map (·.1) ++ V).Nodup
def WrapOut (nm hp un : ByteArray) (V : List ByteArray) (F L : List P2) (w : World) (e : Ending) (w' : World) : Prop :=
  ∃ d, e = .returned (.pointer (some ⟨d, 0, none⟩)) ∧ Below w.heap.size w w' ∧ d < w'.heap.size ∧
    ((¬ Clash V F L ∧ ∃ v3 c vn, DescAt w' d nm hp un V (fit (F ++ L)) v3 c vn) ∨ (Clash V F L ∧ ∃ a, w'.cell? ⟨d, 7, none⟩ = some (.iface 237 (.pointer a))))

/-- the labels met: pairs of the fitted list, none of whose names the descriptor has -/
def Met (F L ps : List P2) (ks : List ByteArray) : Prop := ps.map (·.1) = ks ∧ (∀ q ∈ ps, q ∈ fit L) ∧ ∀ k ∈ ks, k ∉ F.map (·.1)
set_option maxHeartbeats 16000000 in
set_option maxRecDepth 100000 in
theorem wrapDesc_any (d c : Nat) (nm hp un p : ByteArray) (V : List ByteArray) (F L : List P2) (v3 vn : Value) (m : Option Nat) (w : World) (hG : Glob w) (hd : DescAt w d nm hp un V F v3 c vn) (hm : Ms w m L) (hok : NewOk2 (p ++ nm) hp un V (F ++ L))
    (hF : ∀ q ∈ F, q.1.size ≤ 2147483647 ∧ q.2.size ≤ 2147483647) (hL : ∀ q ∈ fit L, q.1.size ≤ 2147483647 ∧ q.2.size ≤ 2147483647) :
    Calls Tryz.prog 79 #[.pointer (some ⟨d, 0, none⟩), .string p, .map m] w (WrapOut (p ++ nm) hp un V F L w) := by
  obtain ⟨qs, hq1, hq2, hq3⟩ := hd.pairs
  obtain ⟨a3, c3, rfl⟩ : ∃ a cap, v3 = .slice a F.length cap := by
    rcases hq2 with ⟨rfl, a, cap, rfl, _⟩ | ⟨b, off, cap, rfl, _⟩
    · exact ⟨a, cap, by rw [← hq1]; rfl⟩
    · exact ⟨_, _, by rw [← hq1]⟩
  have hlenFL : F.length + L.length ≤ 1048576 := by have h := hok.lenL; rw [List.length_append] at h; exact h
  have hsz0 : p.size + nm.size ≤ 2147483647 := by have h := hok.nmS; rw [ByteArray.size_append] at h; exact h
  have HOk := Lib.hid hok
  have HD := Lib.hid hd
  have HMs := Lib.hid hm
  have HG := Lib.hid hG
  have HF := Lib.hid hF
  have HL := Lib.hid hL
  have HQ : Hid (∀ (W : World) (k : Nat) (hk : k < F.length), Below w.heap.size w W → ∃ b off q1 q2 q3, a3 = some ⟨b, off, none⟩ ∧ W.cell? ⟨b, off + k, none⟩ = some (.pointer (some ⟨q1, 0, none⟩)) ∧ W.cell? ⟨q1, 0, none⟩ = some (.pointer (some ⟨q2, 0, none⟩)) ∧ W.cell? ⟨q1, 1, none⟩ = some (.pointer (some ⟨q3, 0, none⟩)) ∧ W.cell? ⟨q2, 0, none⟩ = some (.string F[k].1) ∧ W.cell? ⟨q3, 0, none⟩ = some (.string F[k].2)) := fun W k hk hb => by
    have hkq : k < qs.length := by omega
    have hp := (hq3 k hkq hk).below hb
    rcases hq2.below hb with ⟨h, _⟩ | ⟨b, off, cap, h, h0, hcap, hm, hbb, hcell⟩
    · rw [h] at hkq; simp at hkq
    · injection h with h1 h2 h3
      exact ⟨b, off, qs[k].1, qs[k].2.1, qs[k].2.2, h1, hcell k hkq, hp.nm, hp.vl, hp.n, hp.v⟩
  have HC : Hid (∀ W : World, Below w.heap.size w W → W.cell? ⟨d, 0, none⟩ = some (.string nm) ∧ W.cell? ⟨d, 1, none⟩ = some (.string hp) ∧ W.cell? ⟨d, 2, none⟩ = some (.string un) ∧ W.cell? ⟨d, 3, none⟩ = some (.slice a3 F.length c3) ∧ W.cell? ⟨d, 4, none⟩ = some (.pointer (some ⟨c, 0, none⟩)) ∧ W.cell? ⟨d, 7, none⟩ = some .nilIface) := fun W hb => by
    have h := hd.below hb
    exact ⟨h.c0, h.c1, h.c2, h.c3, h.c4, h.c7⟩
  have hS0 : Sts w.heap.size w [MpOb w.heap.size []] (w.alloc (.map #[] 0)) := by
    have h0 : Sts w.heap.size w [] w := ⟨fun o h => by simp at h, by simp [blocks], fun b h => by simp [blocks] at h, Below.refl _ _⟩
    exact h0.add (Nat.le_refl _) (World.grownBy_alloc w _ none) (fun b e => by cases e) (o' := MpOb w.heap.size []) (Mp.made w) (fun b hb => by rw [List.mem_singleton.1 hb]; simp) (by simp)
  have HS0 := Lib.hid hS0
  have hmm := @run_makeMap Tryz.prog
  have d30 := (HC.out _ hS0.bel).2.2.2.1
  clear hG hd hm hok hF hL hq1 hq2 hq3 hS0
  go_enter Tryz.func79, Tryz.ntmps79
  go_upto_region 2 with fail
  obtain ⟨B, hB⟩ : ∃ B, w.heap.size = B := ⟨_, rfl⟩
  have HB := Lib.hid hB
  rw [hB] at HS0
  simp only [hB]
  clear hB hmm
  generalize w.alloc (.map #[] 0) = W1 at HS0 d30 ⊢
  go_wp2_with fail
  go_loopw [21] (fun v21 wr => ∃ k : Nat, k ≤ F.length ∧ v21 = .int .i64 (k : Int) ∧ Hid (Sts B w [MpOb B (F.take k)] wr)) (fun v21 _ => F.length - (intOf v21).toNat)
  case atStart => exact ⟨0, Nat.zero_le _, rfl, HS0.out⟩
  case round =>
    clear d30 HS0
    obtain ⟨k, hk, rfl, hst⟩ := hrel
    have hsz : B ≤ wr.heap.size := by have := hst.out.bel.size; have := HB.out; omega
    by_cases hlt : k < F.length
    · obtain ⟨b, off, q1, q2, q3, haq, e0, e1, e2, e3, e4⟩ := HQ.out wr k hlt (by rw [HB.out]; exact hst.out.bel)
      have htk : F.take (k + 1) = F.take k ++ [F[k]] := List.take_succ_eq_append_getElem hlt
      obtain ⟨s1, s2⟩ := HF.out _ (List.getElem_mem hlt)
      obtain ⟨x, y, hxy⟩ : ∃ x y, F[k] = (x, y) := ⟨_, _, rfl⟩
      rw [hxy] at e3 e4 s1 s2 htk
      have s1 : x.size ≤ 2147483647 := s1
      have s2 : y.size ≤ 2147483647 := s2
      have HKey : Hid (keyOf Tryz.prog 9 (.string x) = some (sl x)) := keyOf_string_mk Tryz.underlying9 (s := x) (by unfold maxLen; omega)
      have z1 : (0 : Int) ≤ (k : Int) := by omega
      have z2 : (k : Int) < (F.length : Int) := by omega
      have hstd := hst.out.below hsz ((Below.refl _ _).drew (w := wr))
      obtain ⟨n, D, hn, hown, hat⟩ := (Sts.here (l := []) (r := []) hstd : Mp wr.drew B (F.take k))
      have hn2 : n ≤ 2147483647 := by have : (F.take k).length ≤ F.length := by { rw [List.length_take]; omega }; omega
      have HOwn := Lib.hid hown
      have HStep : Hid (∀ wy : World, wy.ownsMap Tryz.prog 9 (plainElem Tryz.prog 9) B (n + 1) (D.put (sl x) (.lit (sl y))) → wr.drew.grownBy wy (some B) → Sts B w [MpOb B (F.take (k + 1))] wy) := by
        intro wy ho hgr
        rw [htk]
        exact Sts.mpPut (l := []) (rr := []) hstd hsz hgr (Mp.next (p := (x, y)) hn hown hat ho)
      subst haq
      clear hxy htk hown hat hstd hst hn
      go_upto_region 5 with fail
      go_still_tail 13, (by kernel_rfl)
      change wpList _ _ _ _ _ wr.drew
      generalize wr.drew = wd at *
      go_wp2_with (at_mapUpdate; refine wpList_mapUpdate_own _ rfl _ _ _ 106 rfl 9 9 lawS Tryz.underlying106 (plainElem Tryz.prog 9) B n D rfl HOwn.out (by unfold maxLen; omega) _ _ _ rfl rfl HKey.out _ [] (plainElem_string Tryz.underlying9 (by unfold maxLen; omega)) ?_; intro w2 hown2 hgrow2; have hq2 := Lib.hid (HStep.out w2 hown2 hgrow2); clear hown2 hgrow2)
      go_roundw
      case rel => exact ⟨k + 1, by omega, by go_num, hq2.out⟩
      case measure => simp [intOf]; omega
    · obtain rfl : k = F.length := by omega
      obtain ⟨W2, rfl⟩ : ∃ W2 : World, W2 = wr := ⟨_, rfl⟩
      have HS2 : Hid (Sts B w [MpOb B F] W2) := by have h := hst.out; rw [List.take_length] at h; exact h
      have HMs2 : Hid (Ms W2 m L) := HMs.out.below (by rw [HB.out]; exact HS2.out.bel)
      have hmB : Hid (∀ b, m = some b → b < B) := fun b hb => by rw [← HB.out]; exact HMs.out.lt b hb
      clear hst
      go_wp2_with (first
        | (at_range; refine range_ms _ rfl _ rfl rfl HMs2.out ?_; intro W3 cnt3 hrg3 hb3 hs3; have HL3 := Lib.hid (Lp.start (x := 0) HS2.out hsz hrg3 hb3 hs3); clear hrg3 hb3 hs3))
      go_frame
      obtain ⟨r3, hr3⟩ : ∃ r3, W2.heap.size = r3 := ⟨_, rfl⟩
      rw [hr3] at HL3
      simp only [hr3]
      clear hr3
      go_loopw [] (fun wr => ∃ (ks : List ByteArray) (cnt : Nat) (ps : List P2), Hid (Lp B w [MpOb B (F ++ ps)] r3 m L ks cnt wr) ∧ Hid (Met F L ps ks)) (fun wr => toCome wr m r3)
      case atStart => exact ⟨[], cnt3, [], by rw [List.append_nil]; exact HL3, ⟨rfl, fun q h => by simp at h, fun k h => by simp at h⟩⟩
      case round =>
        clear HL3 HMs2 HS2 hsz
        obtain ⟨ks, cnt, ps, hlp, hps⟩ := hrel
        have hfew := hlp.out.rg.few
        have HOrg : Hid (toCome wr m r3 = cnt) := hlp.out.rg.left
        go_wp2_with (first
          | (at_next; refine next_ms _ rfl _ rfl rfl hlp.out.rg ?_ ?_))
        · intro hdone
          obtain ⟨W4, rfl⟩ : ∃ W4 : World, W4 = wr := ⟨_, rfl⟩
          have hnd := hlp.out.rg.nodup.1
          have hMp : Mp W4 B (F ++ ps) := Lp.here (l := []) (rr := []) hlp.out
          have hbel : Below w.heap.size w W4 := by rw [HB.out]; exact hlp.out.out.bel
          have hpl : ps.length = ks.length := by have h := congrArg List.length hps.out.1; rw [List.length_map] at h; exact h
          have hfit : fit (F ++ ps) = fit (F ++ L) := fit_met (by rw [hps.out.1]; exact hnd) hps.out.2.1 (by rw [hps.out.1]; exact hdone)
          have hok' : NewOk2 (p ++ nm) hp un V (F ++ ps) := HOk.out.of hfit (by rw [List.length_append]; omega)
          have hno : ¬ ∃ k, (lastV L k).isSome = true ∧ k ∈ F.map (·.1) := fun ⟨k, h1, h2⟩ => hps.out.2.2 k ((hdone k).2 h1) h2
          have HNew : Hid (∀ (ob ub : Nat) (W : World), Below W4.heap.size W4 W → W.cell? ⟨ob, 0, none⟩ = some (.func (.func 120) #[] #[.pointer (some ⟨ub, 0, none⟩)]) → W.cell? ⟨ub, 0, none⟩ = some (.string un) → (ob < W.heap.size ∧ ub < W.heap.size) →
              Calls Tryz.prog 102 #[.agg #[], .string (p ++ nm), .string hp, .iface 135 (.pointer (some ⟨c, 0, none⟩)), .map (some B), .slice (some ⟨ob, 0, none⟩) 1 1] W (fun e w' => ∃ d2, e = .returned (.pointer (some ⟨d2, 0, none⟩)) ∧ Below w.heap.size w w' ∧ WrapOut (p ++ nm) hp un V F L w e w')) := fun ob ub W hb h1 h2 h3 => by
            have hbw : Below w.heap.size w W := hbel.trans (hb.mono hbel.size)
            have hdW := HD.out.below hbw
            refine (new2_any (p ++ nm) hp un V (F ++ ps) (some B) vn c ob ub W (HG.out.below hbw) hok' (Or.inr ⟨B, rfl, trivial, hMp.below hb⟩) hdW.names h1 h2 h3 hdW.n0 hdW.n1 hdW.lt.2).mono ?_
            rintro e w' ⟨d2, rfl, hb2, hlt2, hout⟩
            have hbw' : Below w.heap.size w w' := hbw.trans (hb2.mono hbw.size)
            refine ⟨d2, rfl, hbw', d2, rfl, hbw', hlt2, ?_⟩
            rw [hfit] at hout
            rcases hout with ⟨h4, v5, h5⟩ | ⟨h4, a5, h5⟩
            · refine Or.inl ⟨?_, v5, c, vn, h5⟩
              rintro (h6 | h6)
              · exact hno h6
              · exact h6 h4
            · exact Or.inr ⟨Or.inr h4, a5, h5⟩
          have hB2 : Below W4.heap.size W4 ((W4.alloc (.cells #[.string un] 9)).alloc (.cells #[.func (.func 120) #[] #[.pointer (some ⟨W4.heap.size, 0, none⟩)]] 214)).drew := bdr (((Below.refl _ _).alloc (Nat.le_refl _) _).alloc (by simp) _) 1
          have HCall : Hid (Calls Tryz.prog 102 #[.agg #[], .string (p ++ nm), .string hp, .iface 135 (.pointer (some ⟨c, 0, none⟩)), .map (some B), .slice (some ⟨W4.heap.size + 1, 0, none⟩) 1 1] ((W4.alloc (.cells #[.string un] 9)).alloc (.cells #[.func (.func 120) #[] #[.pointer (some ⟨W4.heap.size, 0, none⟩)]] 214)).drew (fun e w' => ∃ d2, e = .returned (.pointer (some ⟨d2, 0, none⟩)) ∧ Below w.heap.size w w' ∧ WrapOut (p ++ nm) hp un V F L w e w')) := by
            have h2 : (W4.alloc (.cells #[.string un] 9)).heap.size = W4.heap.size + 1 := by simp
            refine HNew.out (W4.heap.size + 1) W4.heap.size _ hB2 ?_ ?_ ?_
            · have h1 := Sl.cell_new (W4.alloc (.cells #[.string un] 9)) #[.func (.func 120) #[] #[.pointer (some ⟨W4.heap.size, 0, none⟩)]] 214 0
              rw [h2] at h1
              exact h1
            · exact (Sl.cell_old (W4.alloc (.cells #[.string un] 9)) _ W4.heap.size 0 (by rw [h2]; omega)).trans (Sl.cell_new W4 #[.string un] 9 0)
            · constructor <;> simp [World.drew] <;> omega
          have hb1 : Below w.heap.size w W4.drew := bdr hbel 1
          have hb5 : Below w.heap.size w (W4.drew.alloc (.cells #[.string un] 9)) := hb1.alloc hb1.size _
          have k0 := HC.out W4 hbel
          have k1 := HC.out W4.drew hb1
          have k2 := HC.out (W4.drew.alloc (.cells #[.string un] 9)) hb5
          have k3 := fun cs T => HC.out ((W4.drew.alloc (.cells #[.string un] 9)).alloc (.cells cs T)) (hb5.alloc hb5.size _)
          have hcat : ¬ (9223372036854775807 < p.size + nm.size) := by omega
          clear hlp hps hdone hnd hMp hbel hfit hok' hno HNew hB2 hb1 hb5 hpl HOrg hfew
          go_upto_region 14 with fail
          go_region_held3 (fun w' => w'.cell? ⟨d, 0, none⟩ = some (.string nm) ∧ w'.cell? ⟨d, 1, none⟩ = some (.string hp) ∧ w'.cell? ⟨d, 2, none⟩ = some (.string un) ∧ w'.cell? ⟨d, 3, none⟩ = some (.slice a3 F.length c3) ∧ w'.cell? ⟨d, 4, none⟩ = some (.pointer (some ⟨c, 0, none⟩)) ∧ w'.cell? ⟨d, 7, none⟩ = some .nilIface) (first | exact k0 | exact k1 | exact k2 | exact k3 _ _ | exact k4)
            (first
              | (go_at_call 103; refine (unit_any _ _).mono ?_; rintro e w' ⟨rfl, rfl⟩)
              | (go_at_call 102; refine HCall.out.mono ?_; rintro e w' ⟨d2, rfl, hb2, hout⟩; have k4 := HC.out w' hb2; have k7 := k4.2.2.2.2.2; have HFin := Lib.hid hout; clear hb2 hout))
          go_wp2_with fail
          go_ret
          exact HFin.out
        · intro x y W9 cnt9 hlx hnx hrg9 hlt9 hg9 hs9 hen
          have hlp9 := hlp.out.next hrg9 hg9
          have hxf : (x, y) ∈ fit L := (mem_fit L (x, y)).2 hlx
          obtain ⟨s1, s2⟩ := HL.out _ hxf
          have s1 : x.size ≤ 2147483647 := s1
          have s2 : y.size ≤ 2147483647 := s2
          have hM9 := (Lp.here (l := []) (rr := []) hlp9 : Mp W9 B (F ++ ps))
          have hlk := look2_run hM9 x (by unfold maxLen; omega)
          have hnew : lastV (F ++ ps) x = lastV F x := lastV_new (by rw [hps.out.1]; exact hnx)
          have hpl : ps.length = ks.length := by have h := congrArg List.length hps.out.1; rw [List.length_map] at h; exact h
          rw [hnew] at hlk
          have HEn := Lib.hid hen
          cases hlf : lastV F x with
          | some v =>
            rw [hlf] at hlk
            have hlk2 : (Instr.lookup 106 (.map (some B)) (.string x) true).run Tryz.prog W9 = .ok (.tuple #[.string v, .bool true]) W9 := hlk
            have HClash : Hid (Clash V F L) := Or.inl ⟨x, by rw [hlx]; rfl, (isSome_keys x).1 (by rw [hlf]; rfl)⟩
            have hbel : Below w.heap.size w W9 := by rw [HB.out]; exact hlp9.out.bel
            have hb1 : Below w.heap.size w W9.drew := bdr hbel 1
            have k0 := HC.out W9 hbel
            have k1 := HC.out W9.drew hb1
            have HB1 := Lib.hid hb1
            clear hlp9 hxf hM9 hlk hnew hlx hnx hrg9 hg9 hs9 hen hlf hps hbel hb1 hlp
            have hen := HEn.out
            go_upto_region 12 with fail
            go_region_held3 (fun w' => w'.cell? ⟨d, 0, none⟩ = some (.string nm) ∧ w'.cell? ⟨d, 1, none⟩ = some (.string hp) ∧ w'.cell? ⟨d, 2, none⟩ = some (.string un) ∧ w'.cell? ⟨d, 3, none⟩ = some (.slice a3 F.length c3) ∧ w'.cell? ⟨d, 4, none⟩ = some (.pointer (some ⟨c, 0, none⟩)) ∧ w'.cell? ⟨d, 7, none⟩ = some .nilIface) (first | exact k0 | exact k1 | exact kf | exact kg _ _)
              (first
                | (go_at_call 92; refine (newErr_any _ _).mono ?_; rintro e Wf ⟨ae, rfl, hbf⟩; have hbw := HB1.out.trans (hbf.mono HB1.out.size); have kf := HC.out Wf hbw; have kg := fun cs T => HC.out (Wf.alloc (.cells cs T)) (hbw.alloc hbw.size _); have HBf := Lib.hid hbw; clear hbf hbw))
            go_wp2_with fail
            go_ret
            exact ⟨_, rfl, HBf.out.alloc HBf.out.size _, by simp, Or.inr ⟨HClash.out, _, Sl.cell_new Wf _ _ 7⟩⟩
          | none =>
            rw [hlf] at hlk
            have hlk2 : (Instr.lookup 106 (.map (some B)) (.string x) true).run Tryz.prog W9 = .ok (.tuple #[.string ByteArray.empty, .bool false]) W9 := hlk
            obtain ⟨n, D, hn, hown, hat⟩ := hM9
            have hn2 : n ≤ 2147483647 := by rw [List.length_append] at hn; omega
            have HOwn := Lib.hid hown
            have HKey : Hid (keyOf Tryz.prog 9 (.string x) = some (sl x)) := keyOf_string_mk Tryz.underlying9 (s := x) (by unfold maxLen; omega)
            have HStep : Hid (∀ wy : World, wy.ownsMap Tryz.prog 9 (plainElem Tryz.prog 9) B (n + 1) (D.put (sl x) (.lit (sl y))) → W9.grownBy wy (some B) → Lp B w [MpOb B (F ++ (ps ++ [(x, y)]))] r3 m L (ks ++ [x]) cnt9 wy) := by
              intro wy ho hgr
              rw [← List.append_assoc]
              exact Lp.mpPut (l := []) (rr := []) hlp9 hmB.out hgr (Mp.next (p := (x, y)) hn hown hat ho)
            have hps2 : Hid (Met F L (ps ++ [(x, y)]) (ks ++ [x])) := by
              refine ⟨by rw [List.map_append, hps.out.1]; rfl, fun q hq => ?_, fun k hk => ?_⟩
              · rcases List.mem_append.1 hq with hq | hq
                · exact hps.out.2.1 q hq
                · rw [List.mem_singleton.1 hq]; exact hxf
              · rcases List.mem_append.1 hk with hk | hk
                · exact hps.out.2.2 k hk
                · rw [List.mem_singleton.1 hk]
                  intro h
                  have h2 := (isSome_keys x).2 h
                  rw [hlf] at h2
                  cases h2
            clear hlp9 hxf hlk hnew hlx hnx hrg9 hg9 hs9 hen hlf hps hown hat hn hlp
            have hen := HEn.out
            go_wp2_with (at_mapUpdate; refine wpList_mapUpdate_own _ rfl _ _ _ 106 rfl 9 9 lawS Tryz.underlying106 (plainElem Tryz.prog 9) B n D rfl HOwn.out (by unfold maxLen; omega) _ _ _ rfl rfl HKey.out _ [] (plainElem_string Tryz.underlying9 (by unfold maxLen; omega)) ?_; intro w2 hown2 hgrow2; have hq2 := Lib.hid (HStep.out w2 hown2 hgrow2); clear hown2 hgrow2)
            go_roundw
            case rel => exact ⟨ks ++ [x], cnt9, ps ++ [(x, y)], hq2.out, hps2.out⟩
            case measure => rw [hq2.out.rg.left, HOrg.out]; exact hlt9

end Go.Proofs.YtfcpapbokefdmaaGreatDoor.Nd
