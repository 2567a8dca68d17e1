/- Metrics: labels as the package writes them (impl.labelPairs); milliseconds; the doors' small functions. -/
import Derived.Test.YtfcpapbokefdmaaGreatDoorMtd
import Derived.Deep.AppendLies
import Derived.Deep.RegionLaw
set_option linter.unusedVariables false
set_option linter.unusedSimpArgs false
namespace Go.Proofs.YtfcpapbokefdmaaGreatDoor.Mt
open Go.RowKit Go.Maps Go.WideMaps Go.ChangeShapes Go.WideShapes Go.Deep Fp Obs _root_.Go.Proofs.YtfcpapbokefdmaaGreatDoor.Nd

def MadeP (L : List P2) (w : World) (e : Ending) (w' : World) : Prop := ∃ v, e = .returned v ∧ Pairs w' v L ∧ Below w.heap.size w w'
theorem infoLp : (Tryz.prog.info? 143).map (fun i => (i.zero, i.size, i.bytes)) = some (some (.pointer none), 1, 8) := by kernel_rfl
set_option maxHeartbeats 8000000 in
set_option maxRecDepth 100000 in
theorem labelPairsTo_any (L : List P2) (v : Value) (w : World) (hof : Ss.Of 2 pc w v L) (hL : L.length ≤ 2147483647) :
    Calls Tryz.prog 93 #[v] w (MadeP L w) := by
  obtain ⟨ip, hpi, hpz0, hpz1, hpz2⟩ := info_parts infoLp
  obtain ⟨av, cv, rfl, _, _⟩ := hof.slice
  have HOf := Lib.hid hof
  have HSt0 : Hid (Sts w.heap.size w [PairsOb w.heap.size (.slice none 0 0) [] []] w) :=
    ⟨fun o ho => by rw [List.mem_singleton.1 ho]; exact ⟨World.ownsRow_nil _ _ _ _, rfl, fun i h => absurd h (by simp)⟩, by simp [blocks, PairsOb, qblocks, Value.ownBlock], fun b hb => by simp [blocks, PairsOb, qblocks, Value.ownBlock] at hb, Below.refl _ _⟩
  clear hof
  go_enter Tryz.func93, Tryz.ntmps93
  go_wp2_with fail
  go_loopw [3, 8] (fun vu vk wr => ∃ (ps : List P2) (qs : List Q3) (ap : Option Addr) (cp : Nat), ps.length ≤ L.length ∧ vu = .slice ap ps.length cp ∧ vk = .int .i64 (ps.length : Int) ∧ Hid (ps = L.take ps.length) ∧ Hid (Sts w.heap.size w [PairsOb w.heap.size (.slice ap ps.length cp) qs ps] wr)) (fun _ k _ => L.length - (intOf k).toNat)
  case atStart => exact ⟨[], [], none, 0, Nat.zero_le _, rfl, rfl, rfl, HSt0.out⟩
  case round =>
    obtain ⟨ps, qs, ap, cp, hk, rfl, rfl, hps, hst⟩ := hrel
    have hbw := hst.out.bel
    have hBw : w.heap.size ≤ wr.heap.size := hbw.size
    by_cases hlt : ps.length < L.length
    · obtain ⟨b, off, hav, hb, d0, d1⟩ := pair_of HOf.out hlt
      have htk : L.take (ps.length + 1) = L.take ps.length ++ [L[ps.length]] := List.take_succ_eq_append_getElem hlt
      subst hav
      obtain ⟨x, y, hxy⟩ : ∃ x y, L[ps.length] = (x, y) := ⟨_, _, rfl⟩
      rw [hxy] at d0 d1 htk
      rw [← hps.out] at htk
      have c0 : wr.cell? ⟨b, off + ps.length * 2, none⟩ = some (.string x) := by rw [hbw.cell (p := ⟨b, off + ps.length * 2, none⟩) hb]; exact d0
      have c1 : wr.cell? ⟨b, off + ps.length * 2 + 1, none⟩ = some (.string y) := by rw [hbw.cell (p := ⟨b, off + ps.length * 2 + 1, none⟩) hb]; exact d1
      have z1 : (0 : Int) ≤ (ps.length : Int) := by omega
      have z2 : (ps.length : Int) < (L.length : Int) := by omega
      have HPs2 : Hid (ps ++ [(x, y)] = L.take (ps ++ [(x, y)]).length) := by
        show _ = _
        rw [List.length_append, List.length_singleton, htk]
      obtain ⟨wa, hwa⟩ : ∃ wa, wa = wr.alloc (.cells #[.string x, .string y] 102) := ⟨_, rfl⟩
      have hsta : Sts w.heap.size w [PairsOb w.heap.size (.slice ap ps.length cp) qs ps] wa := by rw [hwa]; exact hst.out.alloc hBw _
      have hBa : w.heap.size ≤ wa.heap.size := hsta.bel.size
      have hpa : wr.heap.size < wa.heap.size := by rw [hwa]; simp
      have p0 : wa.cell? ⟨wr.heap.size, 0, none⟩ = some (.string x) := by rw [hwa]; exact Sl.cell_new wr _ _ 0
      have p1 : wa.cell? ⟨wr.heap.size, 1, none⟩ = some (.string y) := by rw [hwa]; exact Sl.cell_new wr _ _ 1
      have hstd : Sts w.heap.size w [PairsOb w.heap.size (.slice ap ps.length cp) qs ps] wa.drew := hsta.below hBa (Below.refl _ _).drew
      have hrowP : wa.drew.ownsRow w.heap.size 143 1 (.slice ap ps.length cp) ps.length (qs.map pv) := (Sts.here (l := []) hstd : (PairsOb w.heap.size (.slice ap ps.length cp) qs ps).P wa.drew).1
      have HSpA : Hid (∀ (g5 cu5 : Nat) (W5 : World), W5.ownsRow w.heap.size 143 1 (.slice (some ⟨g5, 0, none⟩) (ps.length + 1) cu5) (ps.length + 1) (qs.map pv ++ [pv (wa.drew.heap.size + 1 + 1, wa.drew.heap.size, wa.drew.heap.size + 1)]) → (pairA wa.drew x y).grownBy W5 (Value.ownBlock (.slice ap ps.length cp)) → (Value.ownBlock (.slice ap ps.length cp) = some g5 ∨ g5 = wa.heap.size + 1 + 1 + 1 + 1) →
          (W5.cell? ⟨wr.heap.size, 0, none⟩ = some (.string x) ∧ W5.cell? ⟨wr.heap.size, 1, none⟩ = some (.string y)) ∧ Sts w.heap.size w [PairsOb w.heap.size (.slice (some ⟨g5, 0, none⟩) (ps.length + 1) cu5) (qs ++ [(wa.drew.heap.size + 1 + 1, wa.drew.heap.size, wa.drew.heap.size + 1)]) (ps ++ [(x, y)])] W5) := fun g5 cu5 W5 ho hg hl => by
        have hn := newA wa.drew x y
        have h1 := Sts.pair (l := []) (rr := []) hstd hBa hn hg ho (by
          rcases hl with hl | hl
          · exact Or.inl hl.symm
          · right
            rw [hn.sz, hl]; rfl)
        have hne : some wr.heap.size ≠ Value.ownBlock (.slice ap ps.length cp) := by
          intro e
          have h2 : wr.ownsRow w.heap.size 143 1 (.slice ap ps.length cp) ps.length (qs.map pv) := (Sts.here (l := []) hst.out : (PairsOb w.heap.size (.slice ap ps.length cp) qs ps).P wr).1
          have := (h2.lt _ e.symm).2
          omega
        have hp4 : wr.heap.size < (pairA wa.drew x y).heap.size := Nat.lt_of_lt_of_le hpa hn.bel.size
        have hc : ∀ j, W5.cell? ⟨wr.heap.size, j, none⟩ = wa.cell? ⟨wr.heap.size, j, none⟩ := fun j => by
          rw [hg.cell_far ⟨wr.heap.size, j, none⟩ hp4 hne, hn.bel.cell (p := ⟨wr.heap.size, j, none⟩) hpa]
          rfl
        exact ⟨⟨by rw [hc, p0], by rw [hc, p1]⟩, h1⟩
      have HRowA : Hid ((pairA wa.drew x y).ownsRow w.heap.size 143 1 (.slice ap ps.length cp) ps.length (qs.map pv)) := (((hrowP.alloc _).alloc _).alloc _).alloc _
      have HNewsA := Lib.hid (new_four wa.drew (.string x) (.string y) #[.pointer (some ⟨wa.drew.heap.size, 0, none⟩), .pointer (some ⟨wa.drew.heap.size + 1, 0, none⟩)] (.pointer (some ⟨wa.drew.heap.size + 1 + 1, 0, none⟩)) 9 9 219 143).2.2.2.1
      have HBaseA : Hid (w.heap.size ≤ (pairA wa.drew x y).heap.size) := Nat.le_trans hBa (newA wa.drew x y).bel.size
      have HOneP : Hid (∀ u ∈ [Value.pointer (some ⟨wa.heap.size + 1 + 1, 0, none⟩)], u.oneCell' = true) := by
        show ∀ u ∈ _, _
        intro u hu; simp at hu; rw [hu]; rfl
      have HAl : Hid (∀ (W : World) o, (W.cell? ⟨wr.heap.size, 0, none⟩ = some (.string x) ∧ W.cell? ⟨wr.heap.size, 1, none⟩ = some (.string y)) → ((W.alloc o).cell? ⟨wr.heap.size, 0, none⟩ = some (.string x) ∧ (W.alloc o).cell? ⟨wr.heap.size, 1, none⟩ = some (.string y))) := fun W o h => ⟨al_cell o h.1, al_cell o h.2⟩
      have HAd : Hid (∀ (W : World), (W.cell? ⟨wr.heap.size, 0, none⟩ = some (.string x) ∧ W.cell? ⟨wr.heap.size, 1, none⟩ = some (.string y)) → (W.drew.cell? ⟨wr.heap.size, 0, none⟩ = some (.string x) ∧ W.drew.cell? ⟨wr.heap.size, 1, none⟩ = some (.string y))) := fun W h => h
      have HLenP : Hid ((ps ++ [(x, y)]).length = ps.length + 1) := by simp [Hid]
      have hsm : ps.length ≤ 2147483647 := by omega
      have d2 : wa.cell? ⟨wr.heap.size, 0, none⟩ = some (.string x) ∧ wa.cell? ⟨wr.heap.size, 1, none⟩ = some (.string y) := ⟨p0, p1⟩
      clear hstd hrowP hst hps hbw htk d0 d1 hxy hsta p0 p1 hb
      go_wp2_with fail
      rw [← hwa]
      have hwr := Lib.hid hwa
      clear hwa
      go_region_held3 (fun w' => w'.cell? ⟨wr.heap.size, 0, none⟩ = some (.string x) ∧ w'.cell? ⟨wr.heap.size, 1, none⟩ = some (.string y)) (first | (with_reducible exact d2) | (with_reducible exact e5) | ((repeat (first | (with_reducible refine HAd.out _ ?_) | (with_reducible refine HAl.out _ _ ?_))); with_reducible exact d2))
        (first
          | (refine step_append_lies _ (by rfl) (.tmp 12) (.tmp 21) 97 (by rfl) w.heap.size 143 ip (.pointer none) 1 8 Tryz.underlying97 hpi hpz0 hpz1 hpz2 rfl (by decide) _ _ _ (by simp [Act.eval, Act.put]) HRowA.out ⟨wa.heap.size + 1 + 1 + 1, 0, none⟩ 1 1 [.pointer (some ⟨wa.heap.size + 1 + 1, 0, none⟩)] (by simp [Act.eval, Act.put]) rfl HNewsA.out HOneP.out (by decide) (by unfold maxLen; omega) (by omega) HBaseA.out (wa.heap.size + 1 + 1 + 1 + 1) (by simp) ?_; intro g5 cu5 W5 hown5 hgrow5 hat5 hlt5; obtain ⟨e5, hF5⟩ := HSpA.out g5 cu5 W5 hown5 hgrow5 hat5; have HF5 := Lib.hid hF5; clear hown5 hgrow5 hat5 hlt5 hF5)
          | (go_at_call 105; refine (text_any _ _).mono ?_; rintro e w' ⟨rfl, rfl⟩))
      all_goals
        go_wp2_with fail
        go_roundw
        case rel => exact ⟨ps ++ [(x, y)], _, some ⟨g5, 0, none⟩, cu5, by rw [HLenP.out]; omega, by rw [HLenP.out], by rw [HLenP.out]; go_num, HPs2.out, by rw [HLenP.out]; exact HF5.out⟩
        case measure => simp [intOf]; omega
    · obtain rfl : L = ps := by rw [hps.out, List.take_of_length_le (by omega)]
      have hP : (PairsOb w.heap.size (.slice ap L.length cp) qs L).P wr := Sts.here (l := []) hst.out
      have HF : Hid (MadeP L w (.returned (.slice ap L.length cp)) wr) := by
        obtain ⟨q1, q2, q3⟩ := hP
        refine ⟨_, rfl, ⟨qs, q2, Sl.Of.own (B := w.heap.size) (e := 143) (by rw [q2]; exact q1), q3⟩, hst.out.bel⟩
      clear hst hP hbw hps
      go_wp2_with fail
      go_ret
      exact HF.out

/-! milliseconds -/
def msOf (t : Int) : Int := if t.tmod 1000000 < 0 then t.tdiv 1000000 - 1 else t.tdiv 1000000
theorem ms_bounds (t : Int) (h1 : -9223372036854775808 ≤ t) (h2 : t ≤ 9223372036854775807) : -9223372036855 ≤ t.tdiv 1000000 ∧ t.tdiv 1000000 ≤ 9223372036855 := by
  have hs : (1000000 : Int).sign = 1 := rfl
  rw [Int.tdiv_eq_ediv, hs]
  split <;> omega
set_option maxHeartbeats 2000000 in
set_option maxRecDepth 100000 in
theorem millis_any (t : Int) (h1 : -9223372036854775808 ≤ t) (h2 : t ≤ 9223372036854775807) (w : World) : Calls Tryz.prog 38 #[.int .i64 t] w fun e w' => e = .returned (.int .i64 (msOf t)) ∧ w = w' := by
  obtain ⟨b1, b2⟩ := ms_bounds t h1 h2
  by_cases hc : t.tmod 1000000 < 0
  · have HM : Hid (msOf t = t.tdiv 1000000 - 1) := if_pos hc
    go_enter Tryz.func38, Tryz.ntmps38
    go_wp2_with fail
    go_ret
    exact ⟨by rw [HM.out]; rfl, rfl⟩
  · have HM : Hid (msOf t = t.tdiv 1000000) := if_neg hc
    go_enter Tryz.func38, Tryz.ntmps38
    go_wp2_with fail
    go_ret
    exact ⟨by rw [HM.out]; rfl, rfl⟩
set_option maxHeartbeats 2000000 in
set_option maxRecDepth 100000 in
theorem zzMillis_any (t : Int) (h1 : -9223372036854775808 ≤ t) (h2 : t ≤ 9223372036854775807) (w : World) : Calls Tryz.prog 224 #[.int .i64 t] w fun e w' => e = .returned (.int .i64 (msOf t)) ∧ w = w' := by
  obtain ⟨b1, b2⟩ := ms_bounds t h1 h2
  by_cases hc : t.tmod 1000000 < 0
  · have HM : Hid (msOf t = t.tdiv 1000000 - 1) := if_pos hc
    go_enter Tryz.func224, Tryz.ntmps224
    go_wp2_with fail
    go_ret
    exact ⟨by rw [HM.out]; rfl, rfl⟩
  · have HM : Hid (msOf t = t.tdiv 1000000) := if_neg hc
    go_enter Tryz.func224, Tryz.ntmps224
    go_wp2_with fail
    go_ret
    exact ⟨by rw [HM.out]; rfl, rfl⟩
theorem ofInt_any (t : Int) (w : World) : Calls Tryz.prog 98 #[.int .i64 t] w fun e w' => e = .returned (ptr w.heap.size) ∧ w' = w.alloc (.cells #[.int .i64 t] 2) := by
  go_enter Tryz.func98, Tryz.ntmps98
  go_wp2
  go_ret
  exact ⟨rfl, rfl⟩
theorem newDoor_any (b : Nat) (w : World) : Calls Tryz.prog 71 #[nilp, ptr b] w fun e w' => e = .returned (.iface 179 (ptr w.heap.size)) ∧ w' = w.alloc (.cells #[nilp, ptr b] 181) := by
  go_enter Tryz.func71, Tryz.ntmps71
  go_wp2
  go_ret
  exact ⟨rfl, rfl⟩
theorem newStamp_any (t : Int) (a : Nat) (w : World) : Calls Tryz.prog 70 #[.int .i64 t, .iface 179 (ptr a)] w fun e w' => e = .returned (.iface 178 (.agg #[.iface 179 (ptr a), .int .i64 t])) ∧ w = w' := by
  go_enter Tryz.func70, Tryz.ntmps70
  go_wp2
  go_ret
  exact ⟨rfl, rfl⟩

end Go.Proofs.YtfcpapbokefdmaaGreatDoor.Mt
