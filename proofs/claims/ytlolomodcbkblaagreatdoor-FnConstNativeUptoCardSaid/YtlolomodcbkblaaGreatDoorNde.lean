/- Descriptors: NewDesc walked. -/
import Derived.Test.YtlolomodcbkblaaGreatDoorMg11
import Derived.Deep.RegionLaw
import Derived.Deep.AppendLies
import Derived.Deep.CutRange
import Derived.StillTailTactics
set_option linter.unusedVariables false
set_option linter.unusedSimpArgs false
namespace Go.Proofs.YtlolomodcbkblaaGreatDoor.Nd
open Go.RowKit Go.Maps Go.WideMaps Go.ChangeShapes Go.WideShapes Go.Deep Fp Obs

structure NewOk (nm hp un : ByteArray) (V : List ByteArray) (L : List P2) : Prop where
  nm0 : 0 < nm.size
  nmA : Asc nm
  nmS : nm.size ≤ 2147483647
  keys : ∀ p ∈ fit L, NameOk p.1 ∧ Asc p.2 ∧ p.2.size ≤ 2147483647
  vars : ∀ v ∈ V, NameOk v
  apart : ((fit L).map (·.1) ++ V).Nodup
  lenL : L.length ≤ 1048576
  lenV : V.length ≤ 1048576
  idl : (idOf nm (fit L)).length ≤ 1073741824
  dml : (dimOf hp un V (fit L)).length ≤ 1073741824
def NewOut (nm hp un : ByteArray) (V : List ByteArray) (L : List P2) (vn : Value) (w : World) (e : Ending) (w' : World) : Prop :=
  ∃ d v3 c, e = .returned (.pointer (some ⟨d, 0, none⟩)) ∧ DescAt w' d nm hp un V (fit L) v3 c vn ∧ Below w.heap.size w w'

set_option maxRecDepth 100000 in
theorem setunit_any (d ub : Nat) (x : Value) (s : ByteArray) (w : World) (h1 : w.cell? ⟨d, 2, none⟩ = some x) (h2 : w.frozen? ⟨d, 2, none⟩ = false) (h3 : w.cell? ⟨ub, 0, none⟩ = some (.string s)) :
    Calls Tryz.prog 126 #[.pointer (some ⟨d, 0, none⟩), .pointer (some ⟨ub, 0, none⟩)] w fun e w' => e = .returned (.tuple #[]) ∧ w' = w.setCell ⟨d, 2, none⟩ (.string s) := by
  go_enter Tryz.func126, Tryz.ntmps126
  go_wp2_with fail
  go_end0
  exact ⟨rfl, rfl⟩
abbrev DC (nm hp : ByteArray) (un : ByteArray) (v3 : Value) (c : Nat) (id dim : ByteArray) : Array Value := #[.string nm, .string hp, .string un, v3, .pointer (some ⟨c, 0, none⟩), .string id, .string dim, .nilIface]
abbrev DOb (d : Nat) (cells : Array Value) : Ob := obBlock d 188 cells
abbrev COb (c : Nat) (vn : Value) : Ob := obBlock c 229 #[vn, .map none]
theorem sts_start (w : World) (nm hp : ByteArray) (vn : Value) : Sts w.heap.size w [DOb (w.heap.size + 1 + 1) (DC nm hp ⟨#[]⟩ (.slice none 0 0) (w.heap.size + 1) ⟨#[]⟩ ⟨#[]⟩), COb (w.heap.size + 1) vn]
    (((w.alloc (.cells #[] 177)).alloc (.cells #[vn, .map none] 229)).alloc (.cells (DC nm hp ⟨#[]⟩ (.slice none 0 0) (w.heap.size + 1) ⟨#[]⟩ ⟨#[]⟩) 188)) := by
  have h0 : Sts w.heap.size w [] w := ⟨fun o h => by simp at h, by simp [blocks], fun b h => by simp [blocks] at h, Below.refl _ _⟩
  have h1 := h0.alloc (Nat.le_refl _) (.cells #[] 177)
  have s1 : (w.alloc (.cells #[] 177)).heap.size = w.heap.size + 1 := by simp
  have s2 : ((w.alloc (.cells #[] 177)).alloc (.cells #[vn, .map none] 229)).heap.size = w.heap.size + 1 + 1 := by simp
  have w1 := Whole.made (w.alloc (.cells #[] 177)) 229 #[vn, .map none]
  rw [s1] at w1
  have h2 := h1.add (by rw [s1]; omega) (World.grownBy_alloc _ (.cells #[vn, .map none] 229) none) (fun b e => by cases e) (o' := COb (w.heap.size + 1) vn) w1 (fun b hb => by rw [List.mem_singleton.1 hb, s1, s2]; omega) (by simp [obBlock])
  have w2 := Whole.made ((w.alloc (.cells #[] 177)).alloc (.cells #[vn, .map none] 229)) 188 (DC nm hp ⟨#[]⟩ (.slice none 0 0) (w.heap.size + 1) ⟨#[]⟩ ⟨#[]⟩)
  rw [s2] at w2
  have h3 := h2.add (by rw [s2]; omega) (World.grownBy_alloc _ (.cells (DC nm hp ⟨#[]⟩ (.slice none 0 0) (w.heap.size + 1) ⟨#[]⟩ ⟨#[]⟩) 188) none) (fun b e => by cases e) (o' := DOb (w.heap.size + 1 + 1) (DC nm hp ⟨#[]⟩ (.slice none 0 0) (w.heap.size + 1) ⟨#[]⟩ ⟨#[]⟩)) w2 (fun b hb => by rw [List.mem_singleton.1 hb, s2]; simp) (by simp [obBlock])
  refine ⟨fun o ho => h3.each o (by simp at ho ⊢; rcases ho with rfl | rfl <;> simp), ?_, fun b hb => h3.ge b (by simp [blocks, obBlock] at hb ⊢; rcases hb with rfl | rfl <;> simp), h3.bel⟩
  simp [blocks, obBlock]

theorem meth_compile (a : Option Addr) (n c : Nat) (w : World) : (method 584 180 (.slice a n c) "pub-dialplate/pub/clientgolang/prometheus.compile").run Tryz.prog w = .ok (247, .slice a n c) w := by kernel_rfl
theorem nil_compile (a : Option Addr) (n c : Nat) (w : World) : (nilAhead 584 180 (.slice a n c) "pub-dialplate/pub/clientgolang/prometheus.compile").run Tryz.prog w = .ok (some false) w := by kernel_rfl

set_option maxHeartbeats 40000000 in
set_option maxRecDepth 1000000 in
theorem new_any (nm hp un : ByteArray) (V : List ByteArray) (L : List P2) (m : Option Nat) (vn : Value) (ob ub : Nat) (w : World) (hG : Glob w) (hok : NewOk nm hp un V L) (hm : Ms w m L) (hV : Sl.Of Value.string w vn V)
    (ho : w.cell? ⟨ob, 0, none⟩ = some (.func (.func 126) #[] #[.pointer (some ⟨ub, 0, none⟩)])) (hu : w.cell? ⟨ub, 0, none⟩ = some (.string un)) (hob : ob < w.heap.size ∧ ub < w.heap.size) :
    Calls Tryz.prog 82 #[.agg #[], .string nm, .string hp, .iface 180 vn, .map m, .slice (some ⟨ob, 0, none⟩) 1 1] w (NewOut nm hp un V L vn w) := by
  obtain ⟨avn, cvn, rfl⟩ : ∃ a cap, vn = .slice a V.length cap := by
    rcases hV with ⟨rfl, a, cap, rfl, _⟩ | ⟨b, off, cap, rfl, _⟩
    · exact ⟨_, _, rfl⟩
    · exact ⟨_, _, rfl⟩
  obtain ⟨sb, so, sc, sp1, sp2, sp3, sp4⟩ := hG.sep
  have HSep : Hid (∀ W : World, Below w.heap.size w W → W.cell? ⟨1, 0, none⟩ = some (.slice (some ⟨sb, so, none⟩) 1 sc) ∧ W.cell? ⟨sb, so, none⟩ = some (.int .u8 255)) := fun W h =>
    ⟨by rw [h.cell (p := ⟨1, 0, none⟩) sp4]; exact sp1, by rw [h.cell (p := ⟨sb, so, none⟩) sp3]; exact sp2⟩
  clear sp1 sp2 sp3 sp4
  have HG := Lib.hid hG
  have HOk := Lib.hid hok
  have HMs := Lib.hid hm
  have HV := Lib.hid hV
  obtain ⟨hob1, hob2⟩ := hob
  obtain ⟨i0, hi, hz0, hz1, hz2⟩ := info_parts infoS
  obtain ⟨ib, hbi, hbz0, hbz1, hbz2⟩ := info_parts infoB
  obtain ⟨ip, hpi, hpz0, hpz1, hpz2⟩ := info_parts infoLP
  clear hG hok hm hV
  go_enter Tryz.func82, Tryz.ntmps82
  have hm1 := meth_compile
  have hm2 := nil_compile
  go_wp2_with (first
    | (go_at_call 247; refine (compile_any _ _ ⟨_, _, _, rfl⟩).mono ?_; rintro e w1 ⟨rfl, rfl⟩))
  have HS0 := Lib.hid (sts_start w nm hp (.slice avn V.length cvn))
  obtain ⟨B, hB⟩ : ∃ B, w.heap.size = B := ⟨_, rfl⟩
  have HB := Lib.hid hB
  rw [hB] at HS0 hob1 hob2
  simp only [hB]
  clear hB hm1 hm2
  generalize (((w.alloc (.cells #[] 177)).alloc (.cells #[.slice avn V.length cvn, .map none] 229)).alloc (.cells (DC nm hp ⟨#[]⟩ (.slice none 0 0) (B + 1) ⟨#[]⟩ ⟨#[]⟩) 188)) = W1 at HS0 ⊢
  go_loopw [40] (fun v40 wr => ∃ (k : Nat) (u : ByteArray), k ≤ 1 ∧ v40 = .int .i64 (k : Int) ∧ Hid (Sts B w [DOb (B + 1 + 1) (DC nm hp u (.slice none 0 0) (B + 1) ⟨#[]⟩ ⟨#[]⟩), COb (B + 1) (.slice avn V.length cvn)] wr) ∧ Hid (k = 1 → u = un)) (fun v40 _ => 1 - (intOf v40).toNat)
  case atStart => exact ⟨0, ⟨#[]⟩, by omega, rfl, HS0.out, fun h => by cases h⟩
  case round =>
    obtain ⟨k, u, hk, rfl, hst, hku⟩ := hrel
    by_cases hlt : k < 1
    · obtain rfl : k = 0 := by omega
      have hsz : B ≤ wr.heap.size := by have := hst.out.bel.size; have := HB.out; omega
      have hD := (Sts.here (l := []) (r := [COb (B + 1) (.slice avn V.length cvn)]) hst.out : Whole wr (B + 1 + 1) 188 _)
      have d2 : wr.cell? ⟨B + 1 + 1, 2, none⟩ = some (.string u) := hD.cell 2
      have f2 := hD.free 2
      have e1 : wr.cell? ⟨ob, 0, none⟩ = some (.func (.func 126) #[] #[.pointer (some ⟨ub, 0, none⟩)]) := by rw [hst.out.bel.cell (p := ⟨ob, 0, none⟩) hob1]; exact ho
      have e2 : wr.cell? ⟨ub, 0, none⟩ = some (.string un) := by rw [hst.out.bel.cell (p := ⟨ub, 0, none⟩) hob2]; exact hu
      have HN : Hid (Sts B w [DOb (B + 1 + 1) (DC nm hp un (.slice none 0 0) (B + 1) ⟨#[]⟩ ⟨#[]⟩), COb (B + 1) (.slice avn V.length cvn)] (wr.setCell ⟨B + 1 + 1, 2, none⟩ (.string un))) := Sts.put (l := []) hst.out hsz 2 (.string un)
      have C := Lib.hid (setunit_any (B + 1 + 1) ub _ un wr d2 f2 e2)
      clear hD hst d2 f2 e2
      go_wp2_with (go_at_call 126; refine C.out.mono ?_; rintro e w2 ⟨rfl, rfl⟩)
      go_roundw
      case rel => exact ⟨1, un, by omega, by go_num, HN.out, fun _ => rfl⟩
      case measure => simp [intOf]
    · obtain rfl : k = 1 := by omega
      obtain rfl : u = un := hku.out rfl
      obtain ⟨W2, rfl⟩ : ∃ W2 : World, W2 = wr := ⟨_, rfl⟩
      have HS1 := Lib.hid hst.out
      have hG1 : Glob W2 := HG.out.below (by rw [HB.out]; exact hst.out.bel)
      have C1 := Lib.hid (metric_any nm W2 hG1 HOk.out.nmS HOk.out.nm0 HOk.out.nmA)
      clear hst hku HS0 hG1
      go_upto_region 10 with (first
        | (go_at_call 118; refine C1.out.mono ?_; rintro e W3 ⟨rfl, hb3⟩; have HB3 := Lib.hid hb3; clear hb3))
      have HS3 : Hid (Sts B w [DOb (B + 1 + 1) (DC nm hp u (.slice none 0 0) (B + 1) ⟨#[]⟩ ⟨#[]⟩), COb (B + 1) (.slice avn V.length cvn)] W3) := HS1.out.below (by have := HS1.out.bel.size; have := HB.out; omega) HB3.out
      have HMs3 : Hid (Ms W3 m L) := HMs.out.below (by rw [HB.out]; exact HS3.out.bel)
      have hlL := HOk.out.lenL
      have hlV := HOk.out.lenV
      have hszB : B ≤ W3.heap.size := by have := HS3.out.bel.size; have := HB.out; omega
      go_upto_region 11 with (first
        | (at_len; refine len_ms _ rfl _ rfl rfl HMs3.out ?_; intro n1 hn1)
        | (at_make; refine make_one _ rfl _ _ 64 rfl B 9 i0 (.string ⟨#[]⟩) Tryz.underlying64 hi hz0 hz1 rfl _ n1 rfl rfl (by simp) (by rw [hz2]; omega) (by unfold maxLen; omega) hszB ?_; intro W4 hrow4 hg4; have HRow4 := Lib.hid hrow4; have HG4 := Lib.hid hg4; clear hrow4 hg4))
      obtain ⟨D0, hD0⟩ : ∃ D0, DOb (B + 1 + 1) (DC nm hp u (.slice none 0 0) (B + 1) ⟨#[]⟩ ⟨#[]⟩) = D0 := ⟨_, rfl⟩
      obtain ⟨C0, hC0⟩ : ∃ C0, COb (B + 1) (.slice avn V.length cvn) = C0 := ⟨_, rfl⟩
      have HD0 := Lib.hid hD0
      have HC0 := Lib.hid hC0
      rw [hD0, hC0] at HS3
      obtain ⟨g4, hg4⟩ : ∃ g4, W3.heap.size = g4 := ⟨_, rfl⟩
      have HG4e := Lib.hid hg4
      rw [hg4] at HRow4
      simp only [hg4]
      have HS4 : Hid (Sts B w [D0, C0, obRow B 9 (.slice (some ⟨g4, 0, none⟩) 1 (n1 + 1)) 1 [.string ⟨#[]⟩]] W4) := by
        refine HS3.out.add hszB HG4.out (fun b e => by cases e) (o' := obRow B 9 (.slice (some ⟨g4, 0, none⟩) 1 (n1 + 1)) 1 [.string ⟨#[]⟩]) HRow4.out (fun b hb => ?_) (row_nodup (.slice (some ⟨g4, 0, none⟩) 1 (n1 + 1)))
        obtain rfl : b = g4 := by simpa [obRow, Value.ownBlock] using hb
        rw [hg4]
        exact ⟨Nat.le_refl _, (HRow4.out.lt b rfl).2⟩
      have hsz4 : B ≤ W4.heap.size := Nat.le_trans hszB HG4.out.size
      have HS5 : Hid (Sts B w [D0, C0, Row B (.slice (some ⟨g4, 0, none⟩) 1 (n1 + 1)) [nm]] (W4.setCell ⟨g4, 0, none⟩ (.string nm))) := by
        have h := Sts.setRow (l := [D0, C0]) (j := 0) HS4.out hsz4 (by omega) (.string nm)
        exact h
      have q4 : W4.cell? ⟨g4, 0, none⟩ = some (.string ⟨#[]⟩) := HRow4.out.cellAt 0 (by omega)
      have q5 := HRow4.out.frozenAt (j := 0)
      clear hD0 hC0 hg4
      go_upto_region 12 with fail
      have hsz5 : B ≤ (W4.setCell ⟨g4, 0, none⟩ (.string nm)).heap.size := by simpa [World.setCell] using hsz4
      clear q4 q5
      generalize W4.setCell ⟨g4, 0, none⟩ (.string nm) = W5 at *
      have HS5d : Hid (Sts B w [D0, C0, Row B (.slice (some ⟨g4, 0, none⟩) 1 (n1 + 1)) [nm]] W5.drew) := HS5.out.below hsz5 (Below.refl _ _).drew
      have hsz5d : B ≤ W5.drew.heap.size := hsz5
      obtain ⟨n2, hn2, hlen2⟩ := len_run W5.drew (HMs.out.below (by rw [HB.out]; exact HS5d.out.bel) : Ms W5.drew m L)
      have d4 : W5.drew.cell? ⟨B + 1 + 1, 4, none⟩ = some (.pointer (some ⟨B + 1, 0, none⟩)) := by
        have h := (Sts.here (l := []) HS5d.out : D0.P W5.drew)
        rw [← HD0.out] at h
        exact Whole.cell h 4
      have d5 : W5.drew.cell? ⟨B + 1, 0, none⟩ = some (.slice avn V.length cvn) := by
        have h := (Sts.here (l := [D0]) HS5d.out : C0.P W5.drew)
        rw [← HC0.out] at h
        exact Whole.cell h 0
      clear HS5 hsz5
      go_still_tail 11, (by kernel_rfl)
      change wpList _ _ _ _ _ W5.drew
      generalize W5.drew = W5d at *
      go_upto_region 13 with (first
        | (at_make; refine wpList_make_own _ rfl _ _ 64 rfl B 9 i0 (.string ⟨#[]⟩) 1 Tryz.underlying64 hi hz0 hz1 _ _ _ (n2 + V.length) rfl rfl (by simp; exact IntWalk.i64_in _ (by omega)) (by rw [hz2]; omega) (by unfold maxLen; omega) hsz5d ?_; intro W6 hrow6 hg6; have HRow6 := Lib.hid hrow6; have HG6 := Lib.hid hg6; clear hrow6 hg6))
      obtain ⟨g6, hg6⟩ : ∃ g6, W5d.heap.size = g6 := ⟨_, rfl⟩
      rw [hg6] at HRow6
      simp only [hg6]
      have HS6 : Hid (Sts B w [D0, C0, Row B (.slice (some ⟨g4, 0, none⟩) 1 (n1 + 1)) [nm], Row B (.slice (some ⟨g6, 0, none⟩) 0 (n2 + V.length)) []] W6) := by
        refine HS5d.out.add hsz5d HG6.out (fun b e => by cases e) (o' := Row B (.slice (some ⟨g6, 0, none⟩) 0 (n2 + V.length)) []) HRow6.out (fun b hb => ?_) (row_nodup (.slice (some ⟨g6, 0, none⟩) 0 (n2 + V.length)))
        obtain rfl : b = g6 := by simpa [obRow, Value.ownBlock] using hb
        rw [hg6]
        exact ⟨Nat.le_refl _, (HRow6.out.lt b rfl).2⟩
      have hsz6 : B ≤ W6.heap.size := Nat.le_trans hsz5d HG6.out.size
      have hmm := @run_makeMap Tryz.prog
      clear hg6 d4 d5 hlen2
      go_upto_region 14 with fail
      obtain ⟨bm, hbm⟩ : ∃ bm, W6.heap.size = bm := ⟨_, rfl⟩
      have HS7 : Hid (Sts B w [D0, C0, Row B (.slice (some ⟨g4, 0, none⟩) 1 (n1 + 1)) [nm], Row B (.slice (some ⟨g6, 0, none⟩) 0 (n2 + V.length)) [], SetOb bm []] (W6.alloc (.map #[] 0))) := by
        refine HS6.out.add hsz6 (World.grownBy_alloc _ (.map #[] 0) none) (fun b e => by cases e) (o' := SetOb bm []) ?_ (fun b hb => ?_) (by simp [obMap])
        · have h := World.ownsMap_made W6 Tryz.prog 9 (unitElem (H := Unit))
          rw [hbm] at h
          exact h
        · obtain rfl : b = bm := by simpa [obMap] using hb
          rw [hbm]; simp [hbm]
      have hsz7 : B ≤ (W6.alloc (.map #[] 0)).heap.size := Nat.le_trans hsz6 (by simp)
      simp only [hbm]
      clear hbm hmm
      generalize W6.alloc (.map #[] 0) = W7 at *
      have HMs7 : Hid (Ms W7 m L) := HMs.out.below (by rw [HB.out]; exact HS7.out.bel)
      have hmB : Hid (∀ b, m = some b → b < B) := fun b hb => by rw [← HB.out]; exact HMs.out.lt b hb
      go_wp2_with (first
        | (at_range; refine range_ms _ rfl _ rfl rfl HMs7.out ?_; intro W8 cnt8 hrg8 hb8 hs8; have HL8 := Lib.hid (Lp.start (x := 0) HS7.out hsz7 hrg8 hb8 hs8); clear hrg8 hb8 hs8))
      go_frame
      obtain ⟨r8, hr8⟩ : ∃ r8, W7.heap.size = r8 := ⟨_, rfl⟩
      rw [hr8] at HL8
      simp only [hr8]
      clear hr8
      go_loopw [17] (fun v17 wr => ∃ (ks : List ByteArray) (cnt : Nat) (a : Option Addr) (c : Nat), v17 = .slice a ks.length c ∧ Hid (Lp B w [D0, C0, Row B (.slice (some ⟨g4, 0, none⟩) 1 (n1 + 1)) [nm], Row B v17 ks, SetOb bm ks] r8 m L ks cnt wr)) (fun _ wr => toCome wr m r8)
      case atStart => exact ⟨[], cnt8, _, _, rfl, HL8.out⟩
      case round =>
        obtain ⟨ks, cnt, av, cv, rfl, hlp⟩ := hrel
        have hfew := hlp.out.rg.few
        have HOrg : Hid (toCome wr m r8 = cnt) := hlp.out.rg.left
        go_wp2_with (first
          | (at_next; refine next_ms _ rfl _ rfl rfl hlp.out.rg ?_ ?_))
        · intro hdone
          have HDone := Lib.hid hdone
          clear hdone
          have hlv := hlp.out.out
          have hks : ks.length ≤ 1048576 := by have := hfew; omega
          have hnd := hlp.out.rg.nodup.1
          obtain ⟨Wa, rfl⟩ : ∃ Wa : World, Wa = wr := ⟨_, rfl⟩
          have hsza := hlp.out.size
          have HSa := Lib.hid hlv
          have hse := sort_keys hnd HDone.out
          have hperm := sortB_perm ks
          have HSe := Lib.hid hse
          have HPerm := Lib.hid hperm
          have HNd := Lib.hid hnd
          have hNe : ks.length = (fit L).length := by
            have h1 := congrArg List.length hse
            rw [sortB_len, List.length_map] at h1
            exact h1
          have HNe := Lib.hid hNe
          have CS := Lib.hid (sort_own (Sts.here (l := [D0, C0, Row B (.slice (some ⟨g4, 0, none⟩) 1 (n1 + 1)) [nm]]) (r := [SetOb bm ks]) HSa.out) (by omega))
          clear hlv hnd hse hperm hNe hlp
          go_upto_region 23 with (first
            | (go_at_call 120; refine CS.out.mono ?_; rintro e Wb ⟨rfl, hrowb, hgb⟩; have HRowb := Lib.hid hrowb; have HGb := Lib.hid hgb; clear hrowb hgb))
          have HSb : Hid (Sts B w [D0, C0, Row B (.slice (some ⟨g4, 0, none⟩) 1 (n1 + 1)) [nm], Row B (.slice av ks.length cv) ((fit L).map (·.1)), SetOb bm ks] Wb) := by
            have h1 := Sts.row (l := [D0, C0, Row B (.slice (some ⟨g4, 0, none⟩) 1 (n1 + 1)) [nm]]) (r := [SetOb bm ks]) HSa.out hsza HGb.out HRowb.out (Or.inl rfl)
            rw [HSe.out] at h1
            have e : ks.length = ((fit L).map (·.1)).length := by rw [List.length_map]; exact HNe.out
            show Sts B w [D0, C0, Row B (.slice (some ⟨g4, 0, none⟩) 1 (n1 + 1)) [nm], obRow B 9 (.slice av ks.length cv) ((fit L).map (·.1)).length (((fit L).map (·.1)).map Value.string), SetOb bm ks] Wb
            rw [← e]
            exact h1
          have hszb : B ≤ Wb.heap.size := Nat.le_trans hsza HGb.out.size
          clear CS
          obtain ⟨F1, hF1⟩ : ∃ F1, (fit L).map (·.1) = F1 := ⟨_, rfl⟩
          obtain ⟨F2, hF2⟩ : ∃ F2, (fit L).map (·.2) = F2 := ⟨_, rfl⟩
          have hl1 : F1.length = ks.length := by rw [← hF1, List.length_map]; exact HNe.out.symm
          have hl2 : F2.length = ks.length := by rw [← hF2, List.length_map]; exact HNe.out.symm
          have hget : ∀ (k : Nat) (hk : k < ks.length), ∃ (h1 : k < F1.length) (h2 : k < F2.length), (F1[k], F2[k]) ∈ fit L := by
            intro k hk
            have hk' : k < (fit L).length := by rw [← HNe.out]; exact hk
            refine ⟨by omega, by omega, ?_⟩
            have e : (F1[k]'(by omega), F2[k]'(by omega)) = (fit L)[k] := by simp only [← hF1, ← hF2, List.getElem_map]
            rw [e]
            exact List.getElem_mem hk'
          have HGet := Lib.hid hget
          have HF1 := Lib.hid hF1
          have HF2 := Lib.hid hF2
          rw [hF1] at HSb
          clear hget hF1 hF2
          go_wp2_with fail
          go_loopw [16, 101] (fun v16 v101 wr => ∃ (k : Nat) (a : Option Addr) (c : Nat), k ≤ ks.length ∧ v101 = .int .i64 (k : Int) ∧ v16 = .slice a (k + 1) c ∧ Hid (Sts B w [D0, C0, Row B (.slice a (k + 1) c) (nm :: F2.take k), Row B (.slice av ks.length cv) F1, SetOb bm ks] wr)) (fun _ v101 _ => ks.length - (intOf v101).toNat)
          case atStart => exact ⟨0, _, _, Nat.zero_le _, rfl, rfl, HSb.out⟩
          case round =>
            obtain ⟨k, av2, cv2, hk, rfl, rfl, hst⟩ := hrel
            have hsz : B ≤ wr.heap.size := by have := hst.out.bel.size; have := HB.out; omega
            by_cases hlt : k < ks.length
            · obtain ⟨hk1, hk2, hmem⟩ := HGet.out k hlt
              have hrowN := (Sts.here (l := [D0, C0, Row B (.slice av2 (k + 1) cv2) (nm :: F2.take k)]) (r := [SetOb bm ks]) hst.out : wr.ownsRow B 9 1 (.slice av ks.length cv) F1.length (F1.map Value.string))
              obtain ⟨gn, cn, hgn⟩ := row_head hrowN (by omega)
              injection hgn with e1 e2 e3
              subst e1
              have cx : wr.cell? ⟨gn, k, none⟩ = some (.string F1[k]) := Sts.rowAt (l := [D0, C0, Row B (.slice av2 (k + 1) cv2) (nm :: F2.take k)]) (r := [SetOb bm ks]) hst.out hl1.symm hk1
              have hlx := (mem_fit L _).1 hmem
              have htk : F2.take (k + 1) = F2.take k ++ [F2[k]] := List.take_succ_eq_append_getElem hk2
              obtain ⟨x, hx⟩ : ∃ x, F1[k] = x := ⟨_, rfl⟩
              obtain ⟨y, hy⟩ : ∃ y, F2[k] = y := ⟨_, rfl⟩
              rw [hx] at cx
              rw [hy] at htk
              have hkn := HOk.out.keys _ hmem
              have hlk := look_ms wr (HMs.out.below (by rw [HB.out]; exact hst.out.bel)) (s := x) (c := y) (by rw [← hx, ← hy]; exact hlx) (by rw [← hx]; have h9 : (F1[k]'hk1).size ≤ 2147483647 := hkn.1.le; unfold maxLen; omega)
              have hlen1 : (nm :: F2.take k).length = k + 1 := by rw [List.length_cons, List.length_take]; omega
              have hcons : (nm :: F2.take k) ++ [y] = nm :: F2.take (k + 1) := by rw [htk]; rfl
              have hsA : Hid (Sts B w [D0, C0, Row B (.slice av2 (k + 1) cv2) (nm :: F2.take k), Row B (.slice (some ⟨gn, 0, none⟩) ks.length cv) F1, SetOb bm ks] (wr.alloc (.cells #[.string y] 9))) := hst.out.alloc hsz _
              have HNewsA := Lib.hid (cell_box wr (.string y) 9)
              have HOneA : Hid (∀ u ∈ [Value.string y], u.oneCell' = true) := one_str y
              have hszA : B ≤ (wr.alloc (.cells #[.string y] 9)).heap.size := Nat.le_trans hsz (by simp)
              have hrowV : Hid ((wr.alloc (.cells #[.string y] 9)).ownsRow B 9 1 (.slice av2 (k + 1) cv2) (k + 1) ((nm :: F2.take k).map Value.string)) := by
                have h : (wr.alloc (.cells #[.string y] 9)).ownsRow B 9 1 (.slice av2 (k + 1) cv2) (nm :: F2.take k).length ((nm :: F2.take k).map Value.string) := Sts.here (l := [D0, C0]) hsA.out
                rw [hlen1] at h
                exact h
              have HStep : Hid (∀ (a3 : Option Addr) (c3 : Nat) (W3 : World), W3.ownsRow B 9 1 (.slice a3 (k + 1 + 1) c3) (k + 1 + 1) ((nm :: F2.take k).map Value.string ++ [.string y]) → (wr.alloc (.cells #[.string y] 9)).grownBy W3 (Value.ownBlock (.slice av2 (k + 1) cv2)) → ((Value.slice a3 (k + 1 + 1) c3).ownBlock = (Value.slice av2 (k + 1) cv2).ownBlock ∨ (Value.slice a3 (k + 1 + 1) c3).ownBlock = some (wr.alloc (.cells #[.string y] 9)).heap.size) →
                  Sts B w [D0, C0, Row B (.slice a3 (k + 1 + 1) c3) (nm :: F2.take (k + 1)), Row B (.slice (some ⟨gn, 0, none⟩) ks.length cv) F1, SetOb bm ks] W3) := fun a3 c3 W3 ho hg hl => by
                have h := Sts.push (l := [D0, C0]) (xs := nm :: F2.take k) (x := y) (a := a3) (c := c3) hsA.out hszA hg (by rw [hlen1]; exact ho) (by rw [hlen1]; exact hl)
                rw [hlen1, hcons] at h
                exact h
              have z1 : (0 : Int) ≤ (k : Int) := by omega
              have z2 : (k : Int) < (ks.length : Int) := by omega
              clear hrowN hmem hlx htk hx hy hkn hlen1 hcons hst e2 e3 hl1 hl2
              go_wp2_with (first
                | (at_builtin; refine wpList_append_own_at _ rfl _ _ 64 rfl B 9 i0 (.string ⟨#[]⟩) 1 16 Tryz.underlying64 hi hz0 hz1 hz2 rfl (by decide) _ _ _ rfl hrowV.out ⟨wr.heap.size, 0, none⟩ 1 1 [.string y] rfl rfl HNewsA.out HOneA.out (by unfold maxLen; omega) (by omega) hszA ?_; intro v11 W11 hown11 hgrow11 hnil11 hloc11; obtain ⟨a11, c11, rfl⟩ := row_slice2 hown11; have HS11 := Lib.hid (HStep.out a11 c11 W11 hown11 hgrow11 hloc11); clear hown11 hgrow11 hnil11 hloc11))
              go_roundw
              case rel => exact ⟨k + 1, a11, c11, by omega, by go_num, rfl, HS11.out⟩
              case measure => simp [intOf]; omega
            · obtain rfl : k = ks.length := by omega
              obtain ⟨Wc, rfl⟩ : ∃ Wc : World, Wc = wr := ⟨_, rfl⟩
              have htl : F2.take ks.length = F2 := by rw [← hl2]; exact List.take_length
              have HSc : Hid (Sts B w [D0, C0, Row B (.slice av2 (ks.length + 1) cv2) (nm :: F2), Row B (.slice av ks.length cv) F1, SetOb bm ks] Wc) := by
                have h := hst.out
                rw [htl] at h
                exact h
              clear hst htl HSb HSa HGet
              have hszc : B ≤ Wc.heap.size := by have := HSc.out.bel.size; have := HB.out; omega
              have hlv2 : (nm :: F2).length = ks.length + 1 := by simp [hl2]
              have HVs : Hid (Sl.Of Value.string Wc (.slice av2 (nm :: F2).length cv2) (nm :: F2)) := by
                have h : Wc.ownsRow B 9 1 (.slice av2 (ks.length + 1) cv2) (nm :: F2).length ((nm :: F2).map Value.string) := Sts.here (l := [D0, C0]) HSc.out
                rw [← hlv2] at h
                exact Sl.Of.own h
              have HAsc : Hid (∀ s ∈ nm :: F2, Asc s ∧ s.size ≤ 9223372036854775807) := by
                intro s hs
                rcases List.mem_cons.1 hs with rfl | hs
                · exact ⟨HOk.out.nmA, by have := HOk.out.nmS; omega⟩
                · rw [← HF2.out] at hs
                  obtain ⟨p, hp, rfl⟩ := List.mem_map.1 hs
                  have := HOk.out.keys p hp
                  exact ⟨this.2.1, by have := this.2.2; omega⟩
              have CV := Lib.hid (values_any (nm :: F2) _ Wc HVs.out (HG.out.below (by rw [HB.out]; exact HSc.out.bel)) (by rw [hlv2]; omega) HAsc.out)
              rw [hlv2] at CV
              have e28 : ((ks.length + 1 : Nat) : Int) = (ks.length : Int) + 1 := by omega
              rw [e28] at CV
              clear HAsc HVs e28
              go_upto_region 32 with (first
                | (go_at_call 101; refine CV.out.mono ?_; rintro e Wd ⟨rfl, hbd⟩; have HSd : Hid (Sts B w [D0, C0, Row B (.slice av2 (ks.length + 1) cv2) (nm :: F2), Row B (.slice av ks.length cv) F1, SetOb bm ks] Wd) := HSc.out.below hszc hbd; clear hbd))
              have hszd : B ≤ Wd.heap.size := by have := HSd.out.bel.size; have := HB.out; omega
              have d4 : Wd.cell? ⟨B + 1 + 1, 4, none⟩ = some (.pointer (some ⟨B + 1, 0, none⟩)) := by
                have h : D0.P Wd := Sts.here (l := []) HSd.out
                rw [← HD0.out] at h
                exact Whole.cell h 4
              have d5 : Wd.cell? ⟨B + 1, 0, none⟩ = some (.slice avn V.length cvn) := by
                have h : C0.P Wd := Sts.here (l := [D0]) HSd.out
                rw [← HC0.out] at h
                exact Whole.cell h 0
              clear CV
              go_wp2_with fail
              go_loopw [17, 131] (fun v17 v131 wr => ∃ (k : Nat) (a : Option Addr) (c : Nat), k ≤ V.length ∧ v131 = .int .i64 (k : Int) ∧ v17 = .slice a (ks.length + k) c ∧ Hid (Sts B w [D0, C0, Row B (.slice av2 (ks.length + 1) cv2) (nm :: F2), Row B (.slice a (ks.length + k) c) (F1 ++ (V.take k).map dollar), SetOb bm (ks ++ V.take k)] wr)) (fun _ v131 _ => V.length - (intOf v131).toNat)
              case atStart =>
                refine ⟨0, av, cv, Nat.zero_le _, rfl, rfl, ?_⟩
                have h := HSd.out
                show Sts _ _ _ _
                simpa using h
              case round =>
                obtain ⟨k, av3, cv3, hk, rfl, rfl, hst⟩ := hrel
                have hsz : B ≤ wr.heap.size := by have := hst.out.bel.size; have := HB.out; omega
                by_cases hlt : k < V.length
                · obtain ⟨b, off, haq, hbb, hc⟩ : ∃ b off, avn = some ⟨b, off, none⟩ ∧ b < w.heap.size ∧ w.cell? ⟨b, off + k, none⟩ = some (.string V[k]) := by
                    rcases HV.out with ⟨h, _⟩ | ⟨b, off, cap, h, h0, hcap, hm, hbb, hcell⟩
                    · rw [h] at hlt; simp at hlt
                    · injection h with h1 h2 h3
                      exact ⟨b, off, h1, hbb, hcell k hlt⟩
                  have htk : V.take (k + 1) = V.take k ++ [V[k]] := List.take_succ_eq_append_getElem hlt
                  have hkn := HOk.out.vars _ (List.getElem_mem hlt)
                  obtain ⟨x, hx⟩ : ∃ x, V[k] = x := ⟨_, rfl⟩
                  rw [hx] at hc htk hkn
                  rw [HB.out] at hbb
                  have cx : wr.cell? ⟨b, off + k, none⟩ = some (.string x) := by rw [hst.out.bel.cell (p := ⟨b, off + k, none⟩) hbb]; exact hc
                  have C9 := Lib.hid (check_any x wr (HG.out.below (by rw [HB.out]; exact hst.out.bel)) hkn)
                  have hxs := hkn.le
                  have hlenT : (V.take k).length = k := by rw [List.length_take]; omega
                  have HTk := Lib.hid htk
                  have HLt := Lib.hid hlenT
                  have z1 : (0 : Int) ≤ (k : Int) := by omega
                  have z2 : (k : Int) < (V.length : Int) := by omega
                  subst haq
                  clear hc htk hkn hx hlenT
                  have hsD : (⟨#[36]⟩ : ByteArray) ++ x = dollar x := dollar_eq x
                  have HL1 := Lib.hid hl1
                  have HL2 := Lib.hid hl2
                  have hksV : ks.length + k ≤ 2097152 := by omega
                  clear hl1 hl2 d4 d5
                  go_upto_region 38 with (first
                    | (go_at_call 119; refine C9.out.mono ?_; rintro e W10 ⟨rfl, hb10⟩; have HS10 : Hid (Sts B w [D0, C0, Row B (.slice av2 (ks.length + 1) cv2) (nm :: F2), Row B (.slice av3 (ks.length + k) cv3) (F1 ++ (V.take k).map dollar), SetOb bm (ks ++ V.take k)] W10) := hst.out.below hsz hb10; clear hb10))
                  have hsz10 : B ≤ W10.heap.size := by have := HS10.out.bel.size; have := HB.out; omega
                  have HSA : Hid (Sts B w [D0, C0, Row B (.slice av2 (ks.length + 1) cv2) (nm :: F2), Row B (.slice av3 (ks.length + k) cv3) (F1 ++ (V.take k).map dollar), SetOb bm (ks ++ V.take k)] (W10.alloc (.cells #[.string (dollar x)] 9))) := HS10.out.alloc hsz10 _
                  have HNewsA := Lib.hid (cell_box W10 (.string (dollar x)) 9)
                  have HOneA : Hid (∀ u ∈ [Value.string (dollar x)], u.oneCell' = true) := one_str (dollar x)
                  have hszA : B ≤ (W10.alloc (.cells #[.string (dollar x)] 9)).heap.size := Nat.le_trans hsz10 (by simp)
                  have hlenR : (F1 ++ (V.take k).map dollar).length = ks.length + k := by rw [List.length_append, List.length_map, HL1.out, HLt.out]
                  have hlenS : (ks ++ V.take k).length = ks.length + k := by rw [List.length_append, HLt.out]
                  have HRowA : Hid ((W10.alloc (.cells #[.string (dollar x)] 9)).ownsRow B 9 1 (.slice av3 (ks.length + k) cv3) (ks.length + k) ((F1 ++ (V.take k).map dollar).map Value.string)) := by
                    have h : (W10.alloc (.cells #[.string (dollar x)] 9)).ownsRow B 9 1 (.slice av3 (ks.length + k) cv3) (F1 ++ (V.take k).map dollar).length ((F1 ++ (V.take k).map dollar).map Value.string) := Sts.here (l := [D0, C0, Row B (.slice av2 (ks.length + 1) cv2) (nm :: F2)]) HSA.out
                    rw [hlenR] at h
                    exact h
                  have hconsR : (F1 ++ (V.take k).map dollar) ++ [dollar x] = F1 ++ (V.take (k + 1)).map dollar := by rw [HTk.out, List.map_append, List.append_assoc]; rfl
                  have hconsS : (ks ++ V.take k) ++ [x] = ks ++ V.take (k + 1) := by rw [HTk.out, List.append_assoc]
                  have HStep : Hid (∀ (a3 : Option Addr) (c3 : Nat) (W3 : World), W3.ownsRow B 9 1 (.slice a3 (ks.length + k + 1) c3) (ks.length + k + 1) ((F1 ++ (V.take k).map dollar).map Value.string ++ [.string (dollar x)]) → (W10.alloc (.cells #[.string (dollar x)] 9)).grownBy W3 (Value.ownBlock (.slice av3 (ks.length + k) cv3)) → ((Value.slice a3 (ks.length + k + 1) c3).ownBlock = (Value.slice av3 (ks.length + k) cv3).ownBlock ∨ (Value.slice a3 (ks.length + k + 1) c3).ownBlock = some (W10.alloc (.cells #[.string (dollar x)] 9)).heap.size) →
                      Sts B w [D0, C0, Row B (.slice av2 (ks.length + 1) cv2) (nm :: F2), Row B (.slice a3 (ks.length + (k + 1)) c3) (F1 ++ (V.take (k + 1)).map dollar), SetOb bm (ks ++ V.take k)] W3) := fun a3 c3 W3 ho hg hl => by
                    have h := Sts.push (l := [D0, C0, Row B (.slice av2 (ks.length + 1) cv2) (nm :: F2)]) (xs := F1 ++ (V.take k).map dollar) (x := dollar x) (a := a3) (c := c3) HSA.out hszA hg (by rw [hlenR]; exact ho) (by rw [hlenR]; exact hl)
                    rw [hlenR, hconsR] at h
                    exact h
                  have HMapA : Hid (∀ W3 os, Sts B w ([D0, C0, Row B (.slice av2 (ks.length + 1) cv2) (nm :: F2), os] ++ SetOb bm (ks ++ V.take k) :: []) W3 → W3.ownsMap Tryz.prog 9 unitElem bm (ks.length + k) (setD (ks ++ V.take k))) := fun W3 os h => by
                    have h2 : W3.ownsMap Tryz.prog 9 unitElem bm (ks ++ V.take k).length (setD (ks ++ V.take k)) := h.here
                    rw [hlenS] at h2
                    exact h2
                  have HPut : Hid (∀ W3 W4 os, Sts B w ([D0, C0, Row B (.slice av2 (ks.length + 1) cv2) (nm :: F2), os] ++ SetOb bm (ks ++ V.take k) :: []) W3 → W3.grownBy W4 (some bm) → W4.ownsMap Tryz.prog 9 unitElem bm (ks.length + k + 1) ((setD (ks ++ V.take k)).put (sl x) (.agg [])) → Sts B w ([D0, C0, Row B (.slice av2 (ks.length + 1) cv2) (nm :: F2), os] ++ SetOb bm (ks ++ V.take (k + 1)) :: []) W4) := fun W3 W4 os h hg ho => by
                    have h2 := Sts.setPut (x := x) h (by have := h.bel.size; have := HB.out; omega) hg (by rw [hlenS]; exact ho)
                    rw [hconsS] at h2
                    exact h2
                  have HKeyA : Hid (keyOf Tryz.prog 9 (.string x) = some (sl x)) := keyOf_string_mk Tryz.underlying9 (s := x) (by unfold maxLen; omega)
                  clear hlenR hlenS hconsR hconsS
                  go_wp2_with (first
                    | (at_builtin; refine wpList_append_own_at _ rfl _ _ 64 rfl B 9 i0 (.string ⟨#[]⟩) 1 16 Tryz.underlying64 hi hz0 hz1 hz2 rfl (by decide) _ _ _ rfl HRowA.out ⟨W10.heap.size, 0, none⟩ 1 1 [.string (dollar x)] rfl rfl HNewsA.out HOneA.out (by unfold maxLen; omega) (by omega) hszA ?_; intro v11 W11 hown11 hgrow11 hnil11 hloc11; obtain ⟨a11, c11, rfl⟩ := row_slice2 hown11; have HS11 := Lib.hid (HStep.out a11 c11 W11 hown11 hgrow11 hloc11); clear hown11 hgrow11 hnil11 hloc11)
                    | (at_mapUpdate; refine wpList_mapUpdate_own _ rfl _ _ _ 297 rfl 9 176 lawS Tryz.underlying297 unitElem bm (ks.length + k) (setD (ks ++ V.take k)) rfl (HMapA.out _ _ HS11.out) (by unfold maxLen; omega) _ _ _ rfl rfl HKeyA.out (.agg []) [] unitElem_mk ?_; intro W12 hown12 hgrow12; have HS12 := Lib.hid (HPut.out _ _ _ HS11.out hgrow12 hown12); clear hown12 hgrow12))
                  go_roundw
                  case rel => exact ⟨k + 1, a11, c11, by omega, by go_num, rfl, HS12.out⟩
                  case measure => simp [intOf]; omega
                · obtain rfl : k = V.length := by omega
                  obtain ⟨We, rfl⟩ : ∃ We : World, We = wr := ⟨_, rfl⟩
                  have HSe2 : Hid (Sts B w [D0, C0, Row B (.slice av2 (ks.length + 1) cv2) (nm :: F2), Row B (.slice av3 (ks.length + V.length) cv3) (F1 ++ V.map dollar), SetOb bm (ks ++ V)] We) := by
                    have h := hst.out
                    rw [List.take_length] at h
                    exact h
                  have hsze := hsz
                  have HL1 := Lib.hid hl1
                  have HL2 := Lib.hid hl2
                  clear hst hl1 hl2 d4 d5 hsz
                  have hNdS : (ks ++ V).Nodup := by
                    have h1 := HOk.out.apart
                    rw [HF1.out] at h1
                    have h2 : (F1 ++ V).Perm (ks ++ V) := by
                      refine List.Perm.append_right _ ?_
                      rw [← HF1.out, ← HSe.out]
                      exact HPerm.out
                    exact h2.nodup_iff.1 h1
                  have hszS : Maps.size (setD (ks ++ V)) = ks.length + V.length := by rw [set_size _ hNdS, List.length_append]
                  have HSzS := Lib.hid hszS
                  have HMapE : Hid (We.ownsMap Tryz.prog 9 unitElem bm (ks ++ V).length (setD (ks ++ V))) := Sts.here (l := [D0, C0, Row B (.slice av2 (ks.length + 1) cv2) (nm :: F2), Row B (.slice av3 (ks.length + V.length) cv3) (F1 ++ V.map dollar)]) (r := []) HSe2.out
                  clear hNdS hszS
                  go_upto_region 44 with (first
                    | (at_len; refine wpList_len_own _ rfl _ 297 rfl 9 176 Tryz.underlying297 unitElem bm _ _ rfl HMapE.out ?_; rw [HSzS.out]))
                  have HX0 : Hid (Sts B w [D0, C0, Row B (.slice av2 (ks.length + 1) cv2) (nm :: F2), Row B (.slice av3 (ks.length + V.length) cv3) (F1 ++ V.map dollar), SetOb bm (ks ++ V), BRow B (.slice (some ⟨We.heap.size, 0, none⟩) 0 0) []] (We.alloc (.cells #[] 5))) := by
                    refine HSe2.out.add hsze (World.grownBy_alloc _ (.cells #[] 5) none) (fun b e => by cases e) (o' := BRow B (.slice (some ⟨We.heap.size, 0, none⟩) 0 0) []) ?_ (fun b hb => ?_) (row_nodup (.slice (some ⟨We.heap.size, 0, none⟩) 0 0))
                    · exact ⟨rfl, Or.inr ⟨We.heap.size, 0, #[], rfl, hsze, heap_alloc_new We _, Nat.le_refl _, by unfold maxLen; omega, rfl, rfl⟩⟩
                    · obtain rfl : b = We.heap.size := by simpa [obRow, Value.ownBlock] using hb
                      simp
                  have HSeps : Hid (∀ W : World, Below B w W → W.cell? ⟨1, 0, none⟩ = some (.slice (some ⟨sb, so, none⟩) 1 sc) ∧ W.cell? ⟨sb, so, none⟩ = some (.int .u8 255)) := fun W h => HSep.out W (by rw [HB.out]; exact h)
                  have hidl : (seps (nm :: F2)).length ≤ 1073741824 := by
                    have h := HOk.out.idl
                    unfold idOf at h
                    rw [HF2.out] at h
                    exact h
                  have HOneS : Hid (∀ u ∈ [Value.int .u8 255], u.oneCell' = true) := by
                    show ∀ u ∈ _, _
                    intro u hu; simp at hu; rw [hu]; rfl
                  have hlen2 : (nm :: F2).length = ks.length + 1 := by rw [List.length_cons, HL2.out]
                  have HLen2 := Lib.hid hlen2
                  clear hlen2 HSe2 HMapE
                  go_wp2_with fail
                  go_loopw [25, 165] (fun v25 v165 wr => ∃ (k : Nat) (vx : Value), k ≤ ks.length + 1 ∧ v165 = .int .i64 (k : Int) ∧ vx = v25 ∧ Hid (Sts B w [D0, C0, Row B (.slice av2 (ks.length + 1) cv2) (nm :: F2), Row B (.slice av3 (ks.length + V.length) cv3) (F1 ++ V.map dollar), SetOb bm (ks ++ V), BRow B vx (seps ((nm :: F2).take k))] wr)) (fun _ v165 _ => ks.length + 1 - (intOf v165).toNat)
                  case atStart => exact ⟨0, _, Nat.zero_le _, rfl, rfl, HX0.out⟩
                  case round =>
                    obtain ⟨k, vx, hk, rfl, rfl, hst⟩ := hrel
                    have hsz : B ≤ wr.heap.size := by have := hst.out.bel.size; have := HB.out; omega
                    by_cases hlt : k < ks.length + 1
                    · have hlt2 : k < (nm :: F2).length := by rw [HLen2.out]; exact hlt
                      have htk : (nm :: F2).take (k + 1) = (nm :: F2).take k ++ [(nm :: F2)[k]] := List.take_succ_eq_append_getElem hlt2
                      have hrowV : wr.ownsRow B 9 1 (.slice av2 (ks.length + 1) cv2) (nm :: F2).length ((nm :: F2).map Value.string) := Sts.here (l := [D0, C0]) hst.out
                      obtain ⟨gv, cgv, hgv⟩ := row_head hrowV (by omega)
                      injection hgv with e1 e2 e3
                      subst e1
                      have cx : wr.cell? ⟨gv, k, none⟩ = some (.string (nm :: F2)[k]) := Sts.rowAt (l := [D0, C0]) hst.out HLen2.out.symm hlt2
                      obtain ⟨x, hx⟩ : ∃ x, (nm :: F2)[k] = x := ⟨_, rfl⟩
                      rw [hx] at cx htk
                      have hse1 : seps ((nm :: F2).take (k + 1)) = seps ((nm :: F2).take k) ++ dl x ++ [255] := by rw [htk, seps_snoc]
                      have hle := seps_take_le (nm :: F2) (k + 1)
                      rw [hse1, List.length_append, List.length_append] at hle
                      have hdx : (dl x).length = x.size := (Lib.size_eq x).symm
                      have hle2 : (seps ((nm :: F2).take k)).length + x.size + 1 ≤ 1073741824 := by simp at hle; omega
                      obtain ⟨X, hX⟩ : ∃ X, seps ((nm :: F2).take k) = X := ⟨_, rfl⟩
                      rw [hX] at hle2 hse1
                      have HRX : Hid (wr.ownsRow B 5 1 vx X.length (bytes X)) := by
                        have h : wr.ownsRow B 5 1 vx (seps ((nm :: F2).take k)).length (bytes (seps ((nm :: F2).take k))) := Sts.here (l := [D0, C0, Row B (.slice (some ⟨gv, 0, none⟩) (ks.length + 1) cv2) (nm :: F2), Row B (.slice av3 (ks.length + V.length) cv3) (F1 ++ V.map dollar), SetOb bm (ks ++ V)]) (r := []) hst.out
                        rw [hX] at h
                        exact h
                      have HStep1 : Hid (∀ v2 W2, W2.ownsRow B 5 1 v2 (X.length + x.size) (bytes X ++ Lib.strCells x) → wr.grownBy W2 vx.ownBlock → (v2.ownBlock = vx.ownBlock ∨ ∀ b, v2.ownBlock = some b → wr.heap.size ≤ b) → Sts B w [D0, C0, Row B (.slice (some ⟨gv, 0, none⟩) (ks.length + 1) cv2) (nm :: F2), Row B (.slice av3 (ks.length + V.length) cv3) (F1 ++ V.map dollar), SetOb bm (ks ++ V), BRow B v2 (X ++ dl x)] W2) := fun v2 W2 ho hg hl => by
                        have h := Sts.grow8 (l := [D0, C0, Row B (.slice (some ⟨gv, 0, none⟩) (ks.length + 1) cv2) (nm :: F2), Row B (.slice av3 (ks.length + V.length) cv3) (F1 ++ V.map dollar), SetOb bm (ks ++ V)]) (r := []) (xs := seps ((nm :: F2).take k)) (ys := dl x) hst.out hsz hg (by rw [hX, hdx]; exact ho) hl
                        rw [hX] at h
                        exact h
                      have HStep2 : Hid (∀ v2 W2 v3 W3, Sts B w [D0, C0, Row B (.slice (some ⟨gv, 0, none⟩) (ks.length + 1) cv2) (nm :: F2), Row B (.slice av3 (ks.length + V.length) cv3) (F1 ++ V.map dollar), SetOb bm (ks ++ V), BRow B v2 (X ++ dl x)] W2 → W3.ownsRow B 5 1 v3 (X.length + x.size + 1) (bytes X ++ Lib.strCells x ++ [.int .u8 255]) → W2.grownBy W3 v2.ownBlock → (v3.ownBlock = v2.ownBlock ∨ v3.ownBlock = some W2.heap.size) →
                          Sts B w [D0, C0, Row B (.slice (some ⟨gv, 0, none⟩) (ks.length + 1) cv2) (nm :: F2), Row B (.slice av3 (ks.length + V.length) cv3) (F1 ++ V.map dollar), SetOb bm (ks ++ V), BRow B v3 (seps ((nm :: F2).take (k + 1)))] W3) := fun v2 W2 v3 W3 hs ho hg hl => by
                        have h := Sts.grow8 (l := [D0, C0, Row B (.slice (some ⟨gv, 0, none⟩) (ks.length + 1) cv2) (nm :: F2), Row B (.slice av3 (ks.length + V.length) cv3) (F1 ++ V.map dollar), SetOb bm (ks ++ V)]) (r := []) (xs := X ++ dl x) (ys := [255]) hs (by have := hs.bel.size; have := HB.out; omega) hg (by rw [List.length_append, hdx, bytes, List.map_append]; exact ho) (loc_at hl)
                        rw [← hse1] at h
                        exact h
                      have z1 : (0 : Int) ≤ (k : Int) := by omega
                      have z2 : (k : Int) < (ks.length : Int) + 1 := by omega
                      clear hst hrowV htk hx hse1 hle hdx hX e2 e3
                      go_wp2_with (first
                        | (at_builtin; refine append_str rfl _ _ 299 9 rfl B 5 ib Tryz.underlying299 Tryz.underlying9 hbi hbz0 hbz1 hbz2 vx X.length (bytes X) rfl HRX.out x rfl (by unfold maxLen; omega) (by omega) hsz ?_; intro v2 W2 ho2 hg2 hl2; have HS2 := Lib.hid (HStep1.out v2 W2 ho2 hg2 hl2); have HRY := Lib.hid ho2; clear ho2 hg2 hl2; have g1 := (HSeps.out W2 HS2.out.bel).1; have HNs : Hid (∀ j u, [Value.int .u8 255][j]? = some u → W2.cell? ((⟨sb, so, none⟩ : Addr).add j) = some u) := sep_cells (HSeps.out W2 HS2.out.bel).2; have hsz2 : B ≤ W2.heap.size := (by have := HS2.out.bel.size; have := HB.out; omega))
                        | (at_builtin; refine wpList_append_own_at _ rfl _ _ 299 rfl B 5 ib (.int .u8 0) 1 1 Tryz.underlying299 hbi hbz0 hbz1 hbz2 rfl (by decide) _ _ _ rfl HRY.out ⟨sb, so, none⟩ 1 sc [.int .u8 255] rfl rfl HNs.out HOneS.out (by unfold maxLen; omega) (by omega) hsz2 ?_; intro v3 W3 ho3 hg3 hn3 hl3; have HS3b := Lib.hid (HStep2.out v2 W2 v3 W3 HS2.out ho3 hg3 hl3); clear ho3 hg3 hn3 hl3))
                      go_roundw
                      case rel => exact ⟨k + 1, v3, by omega, by go_num, rfl, HS3b.out⟩
                      case measure => simp [intOf]; omega
                    · obtain rfl : k = ks.length + 1 := by omega
                      obtain ⟨Wf, rfl⟩ : ∃ Wf : World, Wf = wr := ⟨_, rfl⟩
                      have HSf : Hid (Sts B w [D0, C0, Row B (.slice av2 (ks.length + 1) cv2) (nm :: F2), Row B (.slice av3 (ks.length + V.length) cv3) (F1 ++ V.map dollar), SetOb bm (ks ++ V), BRow B vx (idOf nm (fit L))] Wf) := by
                        have h := hst.out
                        have e : (nm :: F2).take (ks.length + 1) = nm :: F2 := by rw [← HLen2.out]; exact List.take_length
                        rw [e] at h
                        unfold idOf
                        rw [HF2.out]
                        exact h
                      clear hst
                      have hszf : B ≤ Wf.heap.size := by have := HSf.out.bel.size; have := HB.out; omega
                      have hidl2 : (idOf nm (fit L)).length ≤ 1073741824 := HOk.out.idl
                      have hconv := conv_own (Sts.here (l := [D0, C0, Row B (.slice av2 (ks.length + 1) cv2) (nm :: F2), Row B (.slice av3 (ks.length + V.length) cv3) (F1 ++ V.map dollar), SetOb bm (ks ++ V)]) (r := []) HSf.out)
                      have hDf : Whole Wf (B + 1 + 1) 188 (DC nm hp u (.slice none 0 0) (B + 1) ⟨#[]⟩ ⟨#[]⟩) := by
                        have h : D0.P Wf := Sts.here (l := []) HSf.out
                        rw [← HD0.out] at h
                        exact h
                      have q5 : Wf.cell? ⟨B + 1 + 1, 5, none⟩ = some (.string ⟨#[]⟩) := hDf.cell 5
                      have q5f := hDf.free 5
                      obtain ⟨ID, hID⟩ : ∃ ID, mkB (idOf nm (fit L)) = ID := ⟨_, rfl⟩
                      rw [hID] at hconv
                      have HID := Lib.hid hID
                      have HSg : Hid (Sts B w [DOb (B + 1 + 1) (DC nm hp u (.slice none 0 0) (B + 1) ID ⟨#[]⟩), C0, Row B (.slice av3 (ks.length + V.length) cv3) (F1 ++ V.map dollar)] (Wf.setCell ⟨B + 1 + 1, 5, none⟩ (.string ID))) := by
                        have h := HSf.out
                        rw [← HD0.out] at h
                        have h2 := Sts.put (l := []) h hszf 5 (.string ID)
                        have h3 := Sts.drop (l := [DOb (B + 1 + 1) (DC nm hp u (.slice none 0 0) (B + 1) ID ⟨#[]⟩), C0, Row B (.slice av2 (ks.length + 1) cv2) (nm :: F2), Row B (.slice av3 (ks.length + V.length) cv3) (F1 ++ V.map dollar), SetOb bm (ks ++ V)]) (r := []) h2
                        have h4 := Sts.drop (l := [DOb (B + 1 + 1) (DC nm hp u (.slice none 0 0) (B + 1) ID ⟨#[]⟩), C0, Row B (.slice av2 (ks.length + 1) cv2) (nm :: F2), Row B (.slice av3 (ks.length + V.length) cv3) (F1 ++ V.map dollar)]) (r := []) h3
                        exact Sts.drop (l := [DOb (B + 1 + 1) (DC nm hp u (.slice none 0 0) (B + 1) ID ⟨#[]⟩), C0]) (r := [Row B (.slice av3 (ks.length + V.length) cv3) (F1 ++ V.map dollar)]) h4
                      clear hID hDf hidl2
                      go_upto_region 52 with fail
                      clear hconv q5 q5f
                      generalize Wf.setCell ⟨B + 1 + 1, 5, none⟩ (.string ID) = Wg at *
                      have hszg : B ≤ Wg.heap.size := by have := HSg.out.bel.size; have := HB.out; omega
                      have hlenN : (F1 ++ V.map dollar).length = ks.length + V.length := by rw [List.length_append, List.length_map, HL1.out]
                      have HLenN := Lib.hid hlenN
                      have CS2 := Lib.hid (sort_own (Sts.here (l := [DOb (B + 1 + 1) (DC nm hp u (.slice none 0 0) (B + 1) ID ⟨#[]⟩), C0]) (r := []) HSg.out) (by rw [hlenN]; omega))
                      clear hlenN
                      go_upto_region 53 with (first
                        | (go_at_call 120; refine CS2.out.mono ?_; rintro e Wh ⟨rfl, hrowh, hgh⟩; have HRowh := Lib.hid hrowh; have HGh := Lib.hid hgh; clear hrowh hgh))
                      have HSh : Hid (Sts B w [DOb (B + 1 + 1) (DC nm hp u (.slice none 0 0) (B + 1) ID ⟨#[]⟩), C0, Row B (.slice av3 (ks.length + V.length) cv3) (sortB (F1 ++ V.map dollar))] Wh) := by
                        have h1 := Sts.row (l := [DOb (B + 1 + 1) (DC nm hp u (.slice none 0 0) (B + 1) ID ⟨#[]⟩), C0]) (r := []) HSg.out hszg HGh.out HRowh.out (Or.inl rfl)
                        show Sts B w [DOb (B + 1 + 1) (DC nm hp u (.slice none 0 0) (B + 1) ID ⟨#[]⟩), C0, obRow B 9 (.slice av3 (ks.length + V.length) cv3) (sortB (F1 ++ V.map dollar)).length ((sortB (F1 ++ V.map dollar)).map Value.string)] Wh
                        rw [sortB_len]
                        exact h1
                      have hszh : B ≤ Wh.heap.size := by have := HSh.out.bel.size; have := HB.out; omega
                      obtain ⟨N2, hN2⟩ : ∃ N2, sortB (F1 ++ V.map dollar) = N2 := ⟨_, rfl⟩
                      have hlN2 : N2.length = ks.length + V.length := by rw [← hN2, sortB_len]; exact HLenN.out
                      have hdim : dimOf hp u V (fit L) = dl hp ++ [255] ++ (dl u ++ [255]) ++ seps N2 := by unfold dimOf; rw [HF1.out, hN2]
                      have hdml : (dl hp ++ [255] ++ (dl u ++ [255]) ++ seps N2).length ≤ 1073741824 := by rw [← hdim]; exact HOk.out.dml
                      rw [hN2] at HSh
                      have HlN2 := Lib.hid hlN2
                      have HDim := Lib.hid hdim
                      have HDml := Lib.hid hdml
                      have hhp : (dl hp).length = hp.size := (Lib.size_eq hp).symm
                      have huu : (dl u).length = u.size := (Lib.size_eq u).symm
                      have hbd : hp.size + 1 + (u.size + 1) + (seps N2).length ≤ 1073741824 := by
                        rw [List.length_append, List.length_append, List.length_append, List.length_append, hhp, huu] at hdml
                        simp at hdml
                        omega
                      have Hhp := Lib.hid hhp
                      have Huu := Lib.hid huu
                      clear CS2 hN2 hlN2 hdim hdml hhp huu HSg HSf
                      have HX1 : Hid (Sts B w [DOb (B + 1 + 1) (DC nm hp u (.slice none 0 0) (B + 1) ID ⟨#[]⟩), C0, Row B (.slice av3 (ks.length + V.length) cv3) N2, BRow B (.slice (some ⟨Wh.heap.size, 0, none⟩) 0 0) []] (Wh.alloc (.cells #[] 5))) := by
                        refine HSh.out.add hszh (World.grownBy_alloc _ (.cells #[] 5) none) (fun b e => by cases e) (o' := BRow B (.slice (some ⟨Wh.heap.size, 0, none⟩) 0 0) []) ?_ (fun b hb => ?_) (row_nodup (.slice (some ⟨Wh.heap.size, 0, none⟩) 0 0))
                        · exact ⟨rfl, Or.inr ⟨Wh.heap.size, 0, #[], rfl, hszh, heap_alloc_new Wh _, Nat.le_refl _, by unfold maxLen; omega, rfl, rfl⟩⟩
                        · obtain rfl : b = Wh.heap.size := by simpa [obRow, Value.ownBlock] using hb
                          simp
                      have hszX1 : B ≤ (Wh.alloc (.cells #[] 5)).heap.size := Nat.le_trans hszh (by simp)
                      have HRX1 : Hid ((Wh.alloc (.cells #[] 5)).ownsRow B 5 1 (.slice (some ⟨Wh.heap.size, 0, none⟩) 0 0) 0 []) := Sts.here (l := [DOb (B + 1 + 1) (DC nm hp u (.slice none 0 0) (B + 1) ID ⟨#[]⟩), C0, Row B (.slice av3 (ks.length + V.length) cv3) N2]) (r := []) HX1.out
                      have HG8 : Hid (∀ (v2 v3 : Value) (W1 W3 : World) (X Y : L8), Sts B w [DOb (B + 1 + 1) (DC nm hp u (.slice none 0 0) (B + 1) ID ⟨#[]⟩), C0, Row B (.slice av3 (ks.length + V.length) cv3) N2, BRow B v2 X] W1 → W3.ownsRow B 5 1 v3 (X.length + Y.length) (bytes X ++ bytes Y) → W1.grownBy W3 v2.ownBlock → (v3.ownBlock = v2.ownBlock ∨ ∀ b, v3.ownBlock = some b → W1.heap.size ≤ b) → Sts B w [DOb (B + 1 + 1) (DC nm hp u (.slice none 0 0) (B + 1) ID ⟨#[]⟩), C0, Row B (.slice av3 (ks.length + V.length) cv3) N2, BRow B v3 (X ++ Y)] W3) := fun v2 v3 W1 W3 X Y h ho hg hl =>
                        Sts.grow8 (l := [DOb (B + 1 + 1) (DC nm hp u (.slice none 0 0) (B + 1) ID ⟨#[]⟩), C0, Row B (.slice av3 (ks.length + V.length) cv3) N2]) (r := []) h (by have := h.bel.size; have := HB.out; omega) hg ho hl
                      have HRowX : Hid (∀ (v2 : Value) (W1 : World) (X : L8), Sts B w [DOb (B + 1 + 1) (DC nm hp u (.slice none 0 0) (B + 1) ID ⟨#[]⟩), C0, Row B (.slice av3 (ks.length + V.length) cv3) N2, BRow B v2 X] W1 → W1.ownsRow B 5 1 v2 X.length (bytes X) ∧ B ≤ W1.heap.size ∧ W1.cell? ⟨B + 1 + 1, 2, none⟩ = some (.string u)) := fun v2 W1 X h => by
                        refine ⟨Sts.here (l := [DOb (B + 1 + 1) (DC nm hp u (.slice none 0 0) (B + 1) ID ⟨#[]⟩), C0, Row B (.slice av3 (ks.length + V.length) cv3) N2]) (r := []) h, by have := h.bel.size; have := HB.out; omega, ?_⟩
                        have h2 : Whole W1 (B + 1 + 1) 188 (DC nm hp u (.slice none 0 0) (B + 1) ID ⟨#[]⟩) := Sts.here (l := []) h
                        exact h2.cell 2
                      go_upto_region 54 with (first
                        | (at_builtin; refine append_str rfl _ _ 299 9 rfl B 5 ib Tryz.underlying299 Tryz.underlying9 hbi hbz0 hbz1 hbz2 (.slice (some ⟨Wh.heap.size, 0, none⟩) 0 0) 0 [] rfl HRX1.out hp rfl (by unfold maxLen; omega) (by omega) hszX1 ?_; intro vX2 WX2 ho2 hg2 hl2; have HX2 := Lib.hid (HG8.out _ vX2 _ WX2 [] (dl hp) HX1.out (by rw [Hhp.out]; exact ho2) hg2 hl2); clear ho2 hg2 hl2))
                      obtain ⟨hRX2, hszX2, _⟩ := HRowX.out _ _ _ HX2.out
                      have HRX2 := Lib.hid hRX2
                      have gX2 := (HSeps.out WX2 HX2.out.bel).1
                      have HNX2 := Lib.hid (sep_cells (HSeps.out WX2 HX2.out.bel).2)
                      have hlX2 : ([] ++ dl hp).length = hp.size := Hhp.out
                      have hlX2' : ([] ++ dl hp).length ≤ 1073741824 := by omega
                      clear hRX2 hlX2
                      go_upto_region 55 with (first
                        | (at_builtin; refine wpList_append_own_at _ rfl _ _ 299 rfl B 5 ib (.int .u8 0) 1 1 Tryz.underlying299 hbi hbz0 hbz1 hbz2 rfl (by decide) _ _ _ rfl HRX2.out ⟨sb, so, none⟩ 1 sc [.int .u8 255] rfl rfl HNX2.out HOneS.out (by unfold maxLen; omega) (by omega) hszX2 ?_; intro vX3 WX3 ho3 hg3 hn3 hl3; have HX3 := Lib.hid (HG8.out _ vX3 _ WX3 _ [255] HX2.out ho3 hg3 (loc_at hl3)); clear ho3 hg3 hn3 hl3))
                      obtain ⟨hRX3, hszX3, q2X3⟩ := HRowX.out _ _ _ HX3.out
                      have HRX3 := Lib.hid hRX3
                      have hlX3 : ([] ++ dl hp ++ [255]).length = hp.size + 1 := by rw [List.length_append, List.nil_append, Hhp.out]; rfl
                      have hlX3' : ([] ++ dl hp ++ [255]).length + u.size ≤ 1073741824 := by omega
                      clear hRX3 hlX3 gX2
                      go_upto_region 56 with (first
                        | (at_builtin; refine append_str rfl _ _ 299 9 rfl B 5 ib Tryz.underlying299 Tryz.underlying9 hbi hbz0 hbz1 hbz2 _ _ _ rfl HRX3.out u rfl (by unfold maxLen; omega) (by omega) hszX3 ?_; intro vX4 WX4 ho4 hg4 hl4; have HX4 := Lib.hid (HG8.out _ vX4 _ WX4 _ (dl u) HX3.out (by rw [Huu.out]; exact ho4) hg4 hl4); clear ho4 hg4 hl4))
                      obtain ⟨hRX4, hszX4, _⟩ := HRowX.out _ _ _ HX4.out
                      have HRX4 := Lib.hid hRX4
                      have gX4 := (HSeps.out WX4 HX4.out.bel).1
                      have HNX4 := Lib.hid (sep_cells (HSeps.out WX4 HX4.out.bel).2)
                      have hlX4 : ([] ++ dl hp ++ [255] ++ dl u).length = hp.size + 1 + u.size := by rw [List.length_append, List.length_append, List.nil_append, Hhp.out, Huu.out]; rfl
                      have hlX4' : ([] ++ dl hp ++ [255] ++ dl u).length ≤ 1073741824 := by omega
                      clear hRX4 hlX4 q2X3
                      go_upto_region 57 with (first
                        | (at_builtin; refine wpList_append_own_at _ rfl _ _ 299 rfl B 5 ib (.int .u8 0) 1 1 Tryz.underlying299 hbi hbz0 hbz1 hbz2 rfl (by decide) _ _ _ rfl HRX4.out ⟨sb, so, none⟩ 1 sc [.int .u8 255] rfl rfl HNX4.out HOneS.out (by unfold maxLen; omega) (by omega) hszX4 ?_; intro vX5 WX5 ho5 hg5 hn5 hl5; have HX5 := Lib.hid (HG8.out _ vX5 _ WX5 _ [255] HX4.out ho5 hg5 (loc_at hl5)); clear ho5 hg5 hn5 hl5))
                      obtain ⟨P0, hP0⟩ : ∃ P0, [] ++ dl hp ++ [255] ++ dl u ++ [255] = P0 := ⟨_, rfl⟩
                      rw [hP0] at HX5
                      have HP0e : Hid (dl hp ++ [255] ++ (dl u ++ [255]) = P0) := by show _ = _; rw [← hP0]; simp
                      have hP0l : P0.length = hp.size + 1 + (u.size + 1) := by rw [← HP0e.out, List.length_append, List.length_append, List.length_append, Hhp.out, Huu.out]; rfl
                      have hbd2 : P0.length + (seps N2).length ≤ 1073741824 := by omega
                      clear hP0 hP0l gX4 HRX4 HRX3 HRX2 HNX4 HNX2 HX4 HX3 HX2 HX1 HRX1 hbd hlX4' hlX3' hlX2' hszX1 hszX2 hszX3 hszX4
                      go_wp2_with fail
                      go_loopw [25, 200] (fun v25 v200 wr => ∃ (k : Nat) (vx : Value), k ≤ ks.length + V.length ∧ v200 = .int .i64 (k : Int) ∧ vx = v25 ∧ Hid (Sts B w [DOb (B + 1 + 1) (DC nm hp u (.slice none 0 0) (B + 1) ID ⟨#[]⟩), C0, Row B (.slice av3 (ks.length + V.length) cv3) N2, BRow B vx (P0 ++ seps (N2.take k))] wr)) (fun _ v200 _ => ks.length + V.length - (intOf v200).toNat)
                      case atStart => exact ⟨0, _, Nat.zero_le _, rfl, rfl, by show Sts _ _ _ _; simpa [seps] using HX5.out⟩
                      case round =>
                        obtain ⟨k, vy, hk, rfl, rfl, hst⟩ := hrel
                        have hsz : B ≤ wr.heap.size := by have := hst.out.bel.size; have := HB.out; omega
                        by_cases hlt : k < ks.length + V.length
                        · have hlt2 : k < N2.length := by rw [HlN2.out]; exact hlt
                          have htk : N2.take (k + 1) = N2.take k ++ [N2[k]] := List.take_succ_eq_append_getElem hlt2
                          have hrowV : wr.ownsRow B 9 1 (.slice av3 (ks.length + V.length) cv3) N2.length (N2.map Value.string) := Sts.here (l := [DOb (B + 1 + 1) (DC nm hp u (.slice none 0 0) (B + 1) ID ⟨#[]⟩), C0]) hst.out
                          obtain ⟨gv, cgv, hgv⟩ := row_head hrowV (by omega)
                          injection hgv with e1 e2 e3
                          subst e1
                          have cx : wr.cell? ⟨gv, k, none⟩ = some (.string N2[k]) := Sts.rowAt (l := [DOb (B + 1 + 1) (DC nm hp u (.slice none 0 0) (B + 1) ID ⟨#[]⟩), C0]) hst.out HlN2.out.symm hlt2
                          obtain ⟨x, hx⟩ : ∃ x, N2[k] = x := ⟨_, rfl⟩
                          rw [hx] at cx htk
                          have hse1 : P0 ++ seps (N2.take (k + 1)) = P0 ++ seps (N2.take k) ++ dl x ++ [255] := by rw [htk, seps_snoc]; simp
                          have hle := seps_take_le N2 (k + 1)
                          have hle1 := congrArg List.length hse1
                          rw [List.length_append, List.length_append, List.length_append] at hle1
                          have hdx : (dl x).length = x.size := (Lib.size_eq x).symm
                          have hle2 : (P0 ++ seps (N2.take k)).length + x.size + 1 ≤ 1073741824 := by simp only [List.length_singleton] at hle1; omega
                          obtain ⟨X, hX⟩ : ∃ X, P0 ++ seps (N2.take k) = X := ⟨_, rfl⟩
                          rw [hX] at hle2 hse1
                          have HSX : Hid (Sts B w [DOb (B + 1 + 1) (DC nm hp u (.slice none 0 0) (B + 1) ID ⟨#[]⟩), C0, Row B (.slice (some ⟨gv, 0, none⟩) (ks.length + V.length) cv3) N2, BRow B vy X] wr) := by rw [← hX]; exact hst.out
                          obtain ⟨hRX, _, _⟩ := HRowX.out _ _ _ HSX.out
                          have HRX := Lib.hid hRX
                          have HSe1 := Lib.hid hse1
                          have Hdx := Lib.hid hdx
                          have z1 : (0 : Int) ≤ (k : Int) := by omega
                          have z2 : (k : Int) < (ks.length : Int) + (V.length : Int) := by omega
                          clear hst hrowV htk hx hse1 hle hle1 hdx hX e2 e3 hRX
                          go_wp2_with (first
                            | (at_builtin; refine append_str rfl _ _ 299 9 rfl B 5 ib Tryz.underlying299 Tryz.underlying9 hbi hbz0 hbz1 hbz2 vy X.length (bytes X) rfl HRX.out x rfl (by unfold maxLen; omega) (by omega) hsz ?_; intro v2 W2 ho2 hg2 hl2; have HS2 := Lib.hid (HG8.out _ v2 _ W2 X (dl x) HSX.out (by rw [Hdx.out]; exact ho2) hg2 hl2); have HRY := Lib.hid ho2; clear ho2 hg2 hl2; have g1 := (HSeps.out W2 HS2.out.bel).1; have HNs : Hid (∀ j u, [Value.int .u8 255][j]? = some u → W2.cell? ((⟨sb, so, none⟩ : Addr).add j) = some u) := sep_cells (HSeps.out W2 HS2.out.bel).2; have hsz2 : B ≤ W2.heap.size := (by have := HS2.out.bel.size; have := HB.out; omega))
                            | (at_builtin; refine wpList_append_own_at _ rfl _ _ 299 rfl B 5 ib (.int .u8 0) 1 1 Tryz.underlying299 hbi hbz0 hbz1 hbz2 rfl (by decide) _ _ _ rfl HRY.out ⟨sb, so, none⟩ 1 sc [.int .u8 255] rfl rfl HNs.out HOneS.out (by unfold maxLen; omega) (by omega) hsz2 ?_; intro v3 W3 ho3 hg3 hn3 hl3; have HS3b := Lib.hid (HG8.out _ v3 _ W3 (X ++ dl x) [255] HS2.out (by rw [List.length_append, Hdx.out, bytes, List.map_append]; exact ho3) hg3 (loc_at hl3)); clear ho3 hg3 hn3 hl3))
                          go_roundw
                          case rel => exact ⟨k + 1, v3, by omega, by go_num, rfl, by show Sts _ _ _ _; rw [HSe1.out]; exact HS3b.out⟩
                          case measure => simp [intOf]; omega
                        · obtain rfl : k = ks.length + V.length := by omega
                          obtain ⟨Wi, rfl⟩ : ∃ Wi : World, Wi = wr := ⟨_, rfl⟩
                          have HSi : Hid (Sts B w [DOb (B + 1 + 1) (DC nm hp u (.slice none 0 0) (B + 1) ID ⟨#[]⟩), C0, Row B (.slice av3 (ks.length + V.length) cv3) N2, BRow B vy (dimOf hp u V (fit L))] Wi) := by
                            have h := hst.out
                            have e : N2.take (ks.length + V.length) = N2 := by rw [← HlN2.out]; exact List.take_length
                            rw [e] at h
                            rw [HDim.out, HP0e.out]
                            exact h
                          clear hst
                          have hszi : B ≤ Wi.heap.size := by have := HSi.out.bel.size; have := HB.out; omega
                          have hconv := conv_own (Sts.here (l := [DOb (B + 1 + 1) (DC nm hp u (.slice none 0 0) (B + 1) ID ⟨#[]⟩), C0, Row B (.slice av3 (ks.length + V.length) cv3) N2]) (r := []) HSi.out)
                          have hDi : Whole Wi (B + 1 + 1) 188 (DC nm hp u (.slice none 0 0) (B + 1) ID ⟨#[]⟩) := Sts.here (l := []) HSi.out
                          have q6 : Wi.cell? ⟨B + 1 + 1, 6, none⟩ = some (.string ⟨#[]⟩) := hDi.cell 6
                          have q6f := hDi.free 6
                          obtain ⟨DM, hDM⟩ : ∃ DM, mkB (dimOf hp u V (fit L)) = DM := ⟨_, rfl⟩
                          rw [hDM] at hconv
                          have HDM := Lib.hid hDM
                          have HSj : Hid (Sts B w [DOb (B + 1 + 1) (DC nm hp u (.slice none 0 0) (B + 1) ID DM), C0] (Wi.setCell ⟨B + 1 + 1, 6, none⟩ (.string DM))) := by
                            have h2 := Sts.put (l := []) HSi.out hszi 6 (.string DM)
                            have h3 := Sts.drop (l := [DOb (B + 1 + 1) (DC nm hp u (.slice none 0 0) (B + 1) ID DM), C0, Row B (.slice av3 (ks.length + V.length) cv3) N2]) (r := []) h2
                            exact Sts.drop (l := [DOb (B + 1 + 1) (DC nm hp u (.slice none 0 0) (B + 1) ID DM), C0]) (r := []) h3
                          clear hDM hDi
                          go_upto_region 64 with fail
                          clear hconv q6 q6f
                          generalize Wi.setCell ⟨B + 1 + 1, 6, none⟩ (.string DM) = Wj at *
                          have hszj : B ≤ Wj.heap.size := by have := HSj.out.bel.size; have := HB.out; omega
                          have HMsj : Hid (Ms Wj m L) := HMs.out.below (by rw [HB.out]; exact HSj.out.bel)
                          have hDj : Whole Wj (B + 1 + 1) 188 (DC nm hp u (.slice none 0 0) (B + 1) ID DM) := Sts.here (l := []) HSj.out
                          have HDj := Lib.hid hDj
                          have HPK : Hid (∀ (n3 : Nat) (W : World), W.ownsRow B 300 1 (.slice (some ⟨Wj.heap.size, 0, none⟩) 0 n3) 0 [] → Wj.grownBy W none →
                              (W.cell? ⟨B + 1 + 1, 3, none⟩ = some (.slice none 0 0) ∧ W.frozen? ⟨B + 1 + 1, 3, none⟩ = false) ∧ Sts B w [DOb (B + 1 + 1) (DC nm hp u (.slice (some ⟨Wj.heap.size, 0, none⟩) 0 n3) (B + 1) ID DM), C0, PairsOb B (.slice (some ⟨Wj.heap.size, 0, none⟩) 0 n3) [] []] (W.setCell ⟨B + 1 + 1, 3, none⟩ (.slice (some ⟨Wj.heap.size, 0, none⟩) 0 n3))) := fun n3 W ho hg => by
                            have h1 := HSj.out.add hszj hg (fun b e => by cases e) (o' := PairsOb B (.slice (some ⟨Wj.heap.size, 0, none⟩) 0 n3) [] []) ⟨ho, rfl, fun i h => by simp at h⟩ (fun b hb => by
                              obtain rfl : b = Wj.heap.size := by simpa [PairsOb, qblocks, Value.ownBlock] using hb
                              exact ⟨Nat.le_refl _, (ho.lt _ rfl).2⟩) (by simp [PairsOb, qblocks, Value.ownBlock])
                            have hD : Whole W (B + 1 + 1) 188 (DC nm hp u (.slice none 0 0) (B + 1) ID DM) := Sts.here (l := []) h1
                            exact ⟨⟨hD.cell 3, hD.free 3⟩, Sts.put (l := []) h1 (Nat.le_trans hszj hg.size) 3 _⟩
                          clear hDj
                          go_upto_region 65 with (first
                            | (at_len; refine len_ms _ rfl _ rfl rfl HMsj.out ?_; intro n3 hn3)
                            | (at_make; refine wpList_make_own _ rfl _ _ 185 rfl B 300 ip (.pointer none) 1 Tryz.underlying185 hpi hpz0 hpz1 _ _ _ n3 rfl rfl rfl (by rw [hpz2]; omega) (by unfold maxLen; omega) hszj ?_; intro Wk hrowk hgk; obtain ⟨⟨q3, q3f⟩, hsk⟩ := HPK.out n3 Wk hrowk hgk; have HSk := Lib.hid hsk; clear hsk hrowk hgk))
                          clear q3 q3f
                          obtain ⟨gp, hgp⟩ : ∃ gp, Wj.heap.size = gp := ⟨_, rfl⟩
                          rw [hgp] at HSk
                          simp only [hgp]
                          clear hgp HPK hszj
                          generalize Wk.setCell ⟨B + 1 + 1, 3, none⟩ (.slice (some ⟨gp, 0, none⟩) 0 n3) = Wl at *
                          have hszl : B ≤ Wl.heap.size := by have := HSk.out.bel.size; have := HB.out; omega
                          have HMsl : Hid (Ms Wl m L) := HMs.out.below (by rw [HB.out]; exact HSk.out.bel)
                          go_wp2_with (first
                            | (at_range; refine range_ms _ rfl _ rfl rfl HMsl.out ?_; intro Wm cntm hrgm hbm hsm; have HLm := Lib.hid (Lp.start (x := 0) HSk.out hszl hrgm hbm hsm); clear hrgm hbm hsm))
                          go_frame
                          obtain ⟨rm, hrm⟩ : ∃ rm, Wl.heap.size = rm := ⟨_, rfl⟩
                          rw [hrm] at HLm
                          simp only [hrm]
                          clear hrm
                          go_loopw [30] (fun _ wr => ∃ (kn : List ByteArray) (cnt : Nat) (ps : List P2) (qs : List Q3) (a : Option Addr) (c : Nat), Hid (Lp B w [DOb (B + 1 + 1) (DC nm hp u (.slice a ps.length c) (B + 1) ID DM), C0, PairsOb B (.slice a ps.length c) qs ps] rm m L kn cnt wr) ∧ Hid (ps.map (·.1) = kn ∧ ∀ p ∈ ps, p ∈ fit L)) (fun _ wr => toCome wr m rm)
                          case atStart => exact ⟨[], cntm, [], [], _, _, HLm.out, rfl, fun p h => by simp at h⟩
                          case round =>
                            obtain ⟨kn, cnt, ps, qs, ap, cp, hlp, hps⟩ := hrel
                            have hfew := hlp.out.rg.few
                            have HOrg : Hid (toCome wr m rm = cnt) := hlp.out.rg.left
                            have hpl : ps.length ≤ 1048576 := by
                              have h := congrArg List.length hps.out.1
                              rw [List.length_map] at h
                              omega
                            go_wp2_with (first
                              | (at_next; refine next_ms _ rfl _ rfl rfl hlp.out.rg ?_ ?_))
                            · intro hdone
                              have HDone2 := Lib.hid hdone
                              clear hdone
                              have hst := hlp.out.out
                              have hnd2 := hlp.out.rg.nodup.1
                              obtain ⟨Wp, rfl⟩ : ∃ Wp : World, Wp = wr := ⟨_, rfl⟩
                              have HSp := Lib.hid hst
                              have hP : (PairsOb B (.slice ap ps.length cp) qs ps).P Wp := Sts.here (l := [DOb (B + 1 + 1) (DC nm hp u (.slice ap ps.length cp) (B + 1) ID DM), C0]) (r := []) hst
                              obtain ⟨hP1, hP2, hP3⟩ := hP
                              have hDp : Whole Wp (B + 1 + 1) 188 (DC nm hp u (.slice ap ps.length cp) (B + 1) ID DM) := Sts.here (l := []) hst
                              have q3 : Wp.cell? ⟨B + 1 + 1, 3, none⟩ = some (.slice ap ps.length cp) := hDp.cell 3
                              have hqn : ∀ q ∈ qs, some q.1 ≠ Value.ownBlock (.slice ap ps.length cp) ∧ some q.2.1 ≠ Value.ownBlock (.slice ap ps.length cp) ∧ some q.2.2 ≠ Value.ownBlock (.slice ap ps.length cp) := fun q hq => by
                                have nd := hst.nd
                                have e : blocks [DOb (B + 1 + 1) (DC nm hp u (.slice ap ps.length cp) (B + 1) ID DM), C0, PairsOb B (.slice ap ps.length cp) qs ps] = ((DOb (B + 1 + 1) (DC nm hp u (.slice ap ps.length cp) (B + 1) ID DM)).bs ++ C0.bs) ++ ((Value.ownBlock (.slice ap ps.length cp)).toList ++ qblocks qs) := by simp [blocks, PairsOb]
                                rw [e, List.nodup_append] at nd
                                have nd2 := nd.2.1
                                rw [List.nodup_append] at nd2
                                have m := mem_q hq
                                exact ⟨fun e => nd2.2.2 q.1 (by rw [← e]; simp) q.1 m.1 rfl, fun e => nd2.2.2 q.2.1 (by rw [← e]; simp) q.2.1 m.2.1 rfl, fun e => nd2.2.2 q.2.2 (by rw [← e]; simp) q.2.2 m.2.2 rfl⟩
                              have CSort := Lib.hid (pairs_sort hP1 hP2 hP3 hqn (by rw [hps.out.1]; exact hnd2) (by omega))
                              clear hst hnd2 hP1 hP2 hP3 hDp hqn hlp
                              go_wp2_with (first
                                | (go_at_call 122; refine CSort.out.mono ?_; rintro e Wq ⟨rfl, qs2, ps2, hr2, hl2q, hpe2, hs2, ha2, hg2⟩; have HEnd : Hid (NewOut nm hp u V L (.slice avn V.length cvn) w (.returned (.pointer (some ⟨B + 1 + 1, 0, none⟩))) Wq) := (by
                                    have h := HSp.out
                                    rw [← HC0.out] at h
                                    have h9 := desc_out HB.out h HID.out.symm HDM.out.symm HV.out hl2q hr2 hpe2 ha2 hg2 (sorted_fit hpe2 hs2 hps.out.1 hps.out.2 HDone2.out)
                                    exact ⟨_, _, _, rfl, h9.1, h9.2⟩); clear hr2 hl2q hpe2 hs2 ha2 hg2))
                              go_ret
                              exact HEnd.out
                            · intro x c W8 cnt9 hlx hnx hrg9 hlt9 hg9 hs9 hen
                              have hlp9 := hlp.out.next hrg9 hg9
                              have hkf : (x, c) ∈ fit L := (mem_fit L (x, c)).2 hlx
                              have HKf := Lib.hid hkf
                              have HEn := Lib.hid hen
                              have HLp9 := Lib.hid hlp9
                              have hfew9 := hlp9.rg.few
                              clear hlx hnx hrg9 hg9 hs9 hen hlp9 hkf
                              have hen := HEn.out
                              go_upto_region 68 with fail
                              clear hen
                              obtain ⟨W9, rfl⟩ : ∃ W9 : World, W9 = W8 := ⟨_, rfl⟩
                              have hlpd := HLp9.out.below (Below.refl _ _).drew
                              have HLpd := Lib.hid hlpd
                              have hB9 : B + 1 + 1 < W9.heap.size := (hlpd.st.ge (B + 1 + 1) (by simp [blocks, obBlock])).2
                              have hDd : Whole W9.drew (B + 1 + 1) 188 (DC nm hp u (.slice ap ps.length cp) (B + 1) ID DM) := Lp.here (l := []) hlpd
                              have c3 : W9.cell? ⟨B + 1 + 1, 3, none⟩ = some (.slice ap ps.length cp) := hDd.cell 3
                              have hrowP : W9.drew.ownsRow B 300 1 (.slice ap ps.length cp) ps.length (qs.map pv) := (Lp.here (l := [DOb (B + 1 + 1) (DC nm hp u (.slice ap ps.length cp) (B + 1) ID DM), C0]) (rr := []) hlpd : (PairsOb B (.slice ap ps.length cp) qs ps).P W9.drew).1
                              have HSp : Hid (∀ (W1 : World) (q : Q3), NewPair W9.drew W1 q (x, c) → ∀ (g5 cu5 : Nat) (W5 : World), W5.ownsRow B 300 1 (.slice (some ⟨g5, 0, none⟩) (ps.length + 1) cu5) (ps.length + 1) (qs.map pv ++ [pv q]) → W1.grownBy W5 (Value.ownBlock (.slice ap ps.length cp)) → (Value.ownBlock (.slice ap ps.length cp) = some g5 ∨ g5 = W9.heap.size + 1 + 1 + 1 + 1) →
                                  (W5.cell? ⟨B + 1 + 1, 3, none⟩ = some (.slice ap ps.length cp) ∧ W5.frozen? ⟨B + 1 + 1, 3, none⟩ = false) ∧ Lp B w [DOb (B + 1 + 1) (DC nm hp u (.slice (some ⟨g5, 0, none⟩) (ps.length + 1) cu5) (B + 1) ID DM), C0, PairsOb B (.slice (some ⟨g5, 0, none⟩) (ps.length + 1) cu5) (qs ++ [q]) (ps ++ [(x, c)])] rm m L (kn ++ [x]) cnt9 (W5.setCell ⟨B + 1 + 1, 3, none⟩ (.slice (some ⟨g5, 0, none⟩) (ps.length + 1) cu5))) := fun W1 q hn g5 cu5 W5 ho hg hl => by
                                have h1 := Lp.pair (l := [DOb (B + 1 + 1) (DC nm hp u (.slice ap ps.length cp) (B + 1) ID DM), C0]) (rr := []) HLpd.out hmB.out hn hg ho (by
                                  rcases hl with hl | hl
                                  · exact Or.inl hl.symm
                                  · right
                                    rw [hn.sz, hl]; rfl)
                                have hD : Whole W5 (B + 1 + 1) 188 (DC nm hp u (.slice ap ps.length cp) (B + 1) ID DM) := Lp.here (l := []) h1
                                exact ⟨⟨hD.cell 3, hD.free 3⟩, Lp.put (l := []) h1 hmB.out 3 _⟩
                              have HSpA := Lib.hid (HSp.out _ _ (newA W9.drew x c))
                              have HSpB := Lib.hid (HSp.out _ _ (newB W9.drew x c))
                              have HRowA : Hid ((pairA W9.drew x c).ownsRow B 300 1 (.slice ap ps.length cp) ps.length (qs.map pv)) := (((hrowP.alloc _).alloc _).alloc _).alloc _
                              have HRowB : Hid ((pairB W9.drew x c).ownsRow B 300 1 (.slice ap ps.length cp) ps.length (qs.map pv)) := (((hrowP.alloc _).alloc _).alloc _).alloc _
                              have HNewsA := Lib.hid (new_four W9.drew (.string x) (.string c) #[.pointer (some ⟨W9.drew.heap.size, 0, none⟩), .pointer (some ⟨W9.drew.heap.size + 1, 0, none⟩)] (.pointer (some ⟨W9.drew.heap.size + 1 + 1, 0, none⟩)) 9 9 304 300).2.2.2.1
                              have HNewsB := Lib.hid (new_four W9.drew (.string c) (.string x) #[.pointer (some ⟨W9.drew.heap.size + 1, 0, none⟩), .pointer (some ⟨W9.drew.heap.size, 0, none⟩)] (.pointer (some ⟨W9.drew.heap.size + 1 + 1, 0, none⟩)) 9 9 304 300).2.2.2.1
                              have hB9d : B ≤ W9.drew.heap.size := by show B ≤ W9.heap.size; omega
                              have HBaseA : Hid (B ≤ (pairA W9.drew x c).heap.size) := Nat.le_trans hB9d (newA W9.drew x c).bel.size
                              have HBaseB : Hid (B ≤ (pairB W9.drew x c).heap.size) := Nat.le_trans hB9d (newB W9.drew x c).bel.size
                              have HOneP : Hid (∀ u ∈ [Value.pointer (some ⟨W9.heap.size + 1 + 1, 0, none⟩)], u.oneCell' = true) := by
                                show ∀ u ∈ _, _
                                intro u hu; simp at hu; rw [hu]; rfl
                              have l1 : B + 1 + 1 < W9.heap.size + 1 := by omega
                              have l2 : B + 1 + 1 < W9.heap.size + 1 + 1 := by omega
                              have l3 : B + 1 + 1 < W9.heap.size + 1 + 1 + 1 := by omega
                              have HRel : Hid ((ps ++ [(x, c)]).map (·.1) = kn ++ [x] ∧ ∀ p ∈ ps ++ [(x, c)], p ∈ fit L) := by
                                refine ⟨by rw [List.map_append, hps.out.1]; rfl, fun p hp => ?_⟩
                                rcases List.mem_append.1 hp with hp | hp
                                · exact hps.out.2 p hp
                                · rw [List.mem_singleton.1 hp]; exact HKf.out
                              have hlenP : (ps ++ [(x, c)]).length = ps.length + 1 := by simp
                              have HLenP := Lib.hid hlenP
                              clear hlpd hDd hrowP hB9d hlenP
                              rename_i i1 i2 i3 i4 i5 i6 i7 i8 i9 i10 i11 i12 i13 i14 i15 i16 i17 i18 i19 i20 i21 i22 i23 i24 i25 i26 i27 i28 i29 i30 i31 i32 i33 i34 i35 i36 i37 i38 i39 i40 i41 i42 i43
                              clear i2 i3 i6 i10 i11 i14 i16 i17 i18 i21 i23 i24 i27 i29 i30 i31 i34 i35 i36 i40 i42
                              clear ho HSep HG HMs HV hi hz0 hz1 hz2 hbi hbz0 hbz1 hbz2 hob2 hob1 HB hu HOk HS1 C1 HB3 HMs3 hlL hlV hszB hn1 HG4 HS3 HD0 HC0 HRow4 HG4e HS4 hsz4 hn2 HS5d hsz5d HG6 HRow6 HS6 hsz6 HS7 hsz7 HMs7 hmB HL8 HDone hks hsza HSe HPerm HNd HNe HRowb HGb hszb HF1 HF2 HSc hszc hlv2 HSd hszd hsze HL1 HL2 HSzS HX0 HSeps hidl HOneS HLen2 hszf HID hszg HLenN HRowh HGh hszh HSh HlN2 HDim HDml Hhp Huu HG8 HRowX HX5 HP0e hbd2 hk hlt hsz HSi hszi HDM HSj HMsj HDj hn3 HSk hszl HMsl HLm hlp hps hfew HKf hfew9 HEn HLp9 HLpd HSp
                              go_region_law
                                (first
                                | (refine step_append_lies _ rfl (.tmp 233) (.tmp 240) 185 rfl B 300 ip (.pointer none) 1 8 Tryz.underlying185 hpi hpz0 hpz1 hpz2 rfl (by decide) _ _ _ (by simp [Act.eval, Act.put]) HRowA.out ⟨W9.heap.size + 1 + 1 + 1, 0, none⟩ 1 1 [.pointer (some ⟨W9.heap.size + 1 + 1, 0, none⟩)] (by simp [Act.eval, Act.put]) rfl HNewsA.out HOneP.out (by decide) (by unfold maxLen; omega) (by omega) HBaseA.out (W9.heap.size + 1 + 1 + 1 + 1) (by simp) ?_; intro g5 cu5 W5 hown5 hgrow5 hat5 hlt5; obtain ⟨⟨e5, f5⟩, hF⟩ := HSpA.out g5 cu5 W5 hown5 hgrow5 hat5; have HF := Lib.hid hF; clear hown5 hgrow5 hat5 hlt5 hF)
                                | (refine step_append_lies _ rfl (.tmp 233) (.tmp 240) 185 rfl B 300 ip (.pointer none) 1 8 Tryz.underlying185 hpi hpz0 hpz1 hpz2 rfl (by decide) _ _ _ (by simp [Act.eval, Act.put]) HRowB.out ⟨W9.heap.size + 1 + 1 + 1, 0, none⟩ 1 1 [.pointer (some ⟨W9.heap.size + 1 + 1, 0, none⟩)] (by simp [Act.eval, Act.put]) rfl HNewsB.out HOneP.out (by decide) (by unfold maxLen; omega) (by omega) HBaseB.out (W9.heap.size + 1 + 1 + 1 + 1) (by simp) ?_; intro g5 cu5 W5 hown5 hgrow5 hat5 hlt5; obtain ⟨⟨e5, f5⟩, hF⟩ := HSpB.out g5 cu5 W5 hown5 hgrow5 hat5; have HF := Lib.hid hF; clear hown5 hgrow5 hat5 hlt5 hF)
                                | (go_simp; go_at_call 121; refine (text_any _ _).mono ?_; rintro e w' ⟨rfl, rfl⟩))
                              all_goals
                                go_wp2_with fail
                                go_roundw
                                case rel => exact ⟨kn ++ [x], cnt9, ps ++ [(x, c)], _, some ⟨g5, 0, none⟩, cu5, by rw [HLenP.out]; exact HF.out, HRel.out⟩
                                case measure => rw [HF.out.rg.left, HOrg.out]; exact hlt9
        · intro x c W9 cnt9 hlx hnx hrg9 hlt9 hg9 hs9 hen
          have hlp9 := hlp.out.next hrg9 hg9
          have HEn := Lib.hid hen
          have HLp9 := Lib.hid hlp9
          have HLx := Lib.hid hlx
          have HNx := Lib.hid hnx
          have hkf : (x, c) ∈ fit L := (mem_fit L (x, c)).2 hlx
          have hkn := (HOk.out.keys _ hkf).1
          have C9 := Lib.hid (check_any x W9 (HG.out.below (by rw [HB.out]; exact hlp9.st.bel)) hkn)
          have hxs := hkn.le
          have hfew9 := hlp9.rg.few
          clear hlx hnx hrg9 hg9 hs9 hen hlp9 hkf hkn
          have hen := HEn.out
          go_upto_region 20 with (first
            | (go_at_call 119; refine C9.out.mono ?_; rintro e W10 ⟨rfl, hb10⟩; have HLp10 := Lib.hid (HLp9.out.below hb10); clear hb10))
          have HLpA : Hid (Lp B w [D0, C0, Row B (.slice (some ⟨g4, 0, none⟩) 1 (n1 + 1)) [nm], Row B (.slice av ks.length cv) ks, SetOb bm ks] r8 m L (ks ++ [x]) cnt9 (W10.alloc (.cells #[.string x] 9))) := HLp10.out.alloc _
          have HNewsA := Lib.hid (cell_box W10 (.string x) 9)
          have HOneA : Hid (∀ u ∈ [Value.string x], u.oneCell' = true) := one_str x
          have hszA : B ≤ (W10.alloc (.cells #[.string x] 9)).heap.size := HLpA.out.size
          have HKeyA : Hid (keyOf Tryz.prog 9 (.string x) = some (sl x)) := keyOf_string_mk Tryz.underlying9 (s := x) (by unfold maxLen; omega)
          go_wp2_with (first
            | (at_builtin; refine wpList_append_own_at _ rfl _ _ 64 rfl B 9 i0 (.string ⟨#[]⟩) 1 16 Tryz.underlying64 hi hz0 hz1 hz2 rfl (by decide) _ _ _ rfl (Lp.here (l := [D0, C0, Row B (.slice (some ⟨g4, 0, none⟩) 1 (n1 + 1)) [nm]]) (rr := [SetOb bm ks]) HLpA.out) ⟨W10.heap.size, 0, none⟩ 1 1 [.string x] rfl rfl HNewsA.out HOneA.out (by unfold maxLen; omega) (by omega) hszA ?_; intro v11 W11 hown11 hgrow11 hnil11 hloc11; obtain ⟨a11, c11, rfl⟩ := row_slice2 hown11; have HLp11 : Hid (Lp B w [D0, C0, Row B (.slice (some ⟨g4, 0, none⟩) 1 (n1 + 1)) [nm], Row B (.slice a11 (ks.length + 1) c11) (ks ++ [x]), SetOb bm ks] r8 m L (ks ++ [x]) cnt9 W11) := Lp.push (l := [D0, C0, Row B (.slice (some ⟨g4, 0, none⟩) 1 (n1 + 1)) [nm]]) HLpA.out hmB.out hgrow11 hown11 hloc11; clear hown11 hgrow11 hnil11 hloc11)
            | (at_mapUpdate; refine wpList_mapUpdate_own _ rfl _ _ _ 297 rfl 9 176 lawS Tryz.underlying297 unitElem bm ks.length (setD ks) rfl (Lp.here (l := [D0, C0, Row B (.slice (some ⟨g4, 0, none⟩) 1 (n1 + 1)) [nm], Row B (.slice a11 (ks.length + 1) c11) (ks ++ [x])]) (rr := []) HLp11.out) (by unfold maxLen; omega) _ _ _ rfl rfl HKeyA.out (.agg []) [] unitElem_mk ?_; intro W12 hown12 hgrow12; have HLp12 : Hid (Lp B w [D0, C0, Row B (.slice (some ⟨g4, 0, none⟩) 1 (n1 + 1)) [nm], Row B (.slice a11 (ks.length + 1) c11) (ks ++ [x]), SetOb bm (ks ++ [x])] r8 m L (ks ++ [x]) cnt9 W12) := Lp.setPut (l := [D0, C0, Row B (.slice (some ⟨g4, 0, none⟩) 1 (n1 + 1)) [nm], Row B (.slice a11 (ks.length + 1) c11) (ks ++ [x])]) HLp11.out hmB.out hgrow12 hown12; clear hown12 hgrow12))
          go_frame
          go_roundw
          case rel => exact ⟨ks ++ [x], cnt9, a11, c11, by simp, HLp12.out⟩
          case measure => rw [HLp12.out.rg.left, HOrg.out]; exact hlt9

end Go.Proofs.YtlolomodcbkblaaGreatDoor.Nd
