/- Spans: what spans and deltas denote (spec.NativeRead), walked. -/
import Derived.Test.YtlolomodcbkblaaGreatDoorMg2
import Derived.IntWalk
set_option linter.unusedVariables false
set_option linter.unusedSimpArgs false
namespace Go.Proofs.YtlolomodcbkblaaGreatDoor.Sp
open Go.RowKit Go.ChangeShapes Go.WideShapes Go.Deep Fp

structure At (X : List Seg) (D : List Seg) (s : Seg) : Prop where
  pos : D ≠ [] → 0 ≤ s.1 - nxt 0 D
  off : -2147483648 ≤ s.1 - nxt 0 D ∧ s.1 - nxt 0 D ≤ 2147483647
  len : s.2.length ≤ 4294967295
  key : -4294967296 ≤ s.1 ∧ s.1 ≤ 4294967296
  nx : -4294967296 ≤ nxt 0 D ∧ nxt 0 D ≤ 4294967296
def WF (X : List Seg) : Prop := ∀ D s R, X = D ++ s :: R → At X D s

def ReadOut (X : List Seg) (w : World) (e : Ending) (w' : World) : Prop :=
  ∃ v, e = .returned (.tuple #[v, .bool true]) ∧ w'.ownsRow w.heap.size 143 2 v (nz (cellsOf X)).length ((nz (cellsOf X)).flatMap cc) ∧ Below w.heap.size w w'

/-- the reader's state ahead of segment D.length, k of its counts taken -/
def Rd (X D : List Seg) (s : Int) (ds : List Int) (n : Nat) (u : Value) (w wr : World) : Prop := GotT cc 143 w.heap.size n (nz (cellsOf D ++ exp s ds)) u w wr

theorem int_at {w : World} {a : Option Addr} {n cap : Nat} {L : List Int} (h : Sl.Of (Value.int .i64) w (.slice a n cap) L) {k : Nat} (hk : k < L.length) : ∃ b off, a = some ⟨b, off, none⟩ ∧ b < w.heap.size ∧ w.cell? ⟨b, off + k, none⟩ = some (.int .i64 L[k]) := by
  rcases h with ⟨rfl, _⟩ | ⟨b, off, cap, h, h0, hcap, hm, hbb, hcell⟩
  · simp at hk
  · injection h with h1 h2 h3
    exact ⟨b, off, h1, hbb, hcell k hk⟩
theorem int_slice {w : World} {v : Value} {zs : List Int} (h : Sl.Of (Value.int .i64) w v zs) : ∃ a cap, v = .slice a zs.length cap := by
  rcases h with ⟨rfl, a, cap, rfl, _⟩ | ⟨b, off, cap, rfl, _⟩
  · exact ⟨_, _, rfl⟩
  · exact ⟨_, _, rfl⟩

set_option maxHeartbeats 8000000 in
set_option maxRecDepth 100000 in
theorem read_any (X : List Seg) (v1 v2 : Value) (w : World) (h1 : Ss.Of 2 rc w v1 (runsOf 0 X)) (h2 : Sl.Of (Value.int .i64) w v2 (deltasOf 0 (counts X))) (hwf : WF X)
    (hc : ∀ c ∈ counts X, -9223372036854775808 ≤ c ∧ c ≤ 9223372036854775807) (hX : X.length ≤ 2147483648) (hT : (counts X).length ≤ 8589934592) :
    Calls Tryz.prog 70 #[v1, v2] w (ReadOut X w) := by
  obtain ⟨i0, hi, hz0, hz1, hz2⟩ := info_parts infoC
  obtain ⟨av, cv, rfl, _, _⟩ := h1.slice
  obtain ⟨bv, dv, rfl⟩ := int_slice h2
  rw [runsOf_len, deltasOf_len]
  have H1 := Lib.hid h1
  have H2 := Lib.hid h2
  have HW := Lib.hid hwf
  have HC := Lib.hid hc
  have HG0 : Hid (GotT cc 143 w.heap.size 0 [] (.slice none 0 0) w w) := ⟨Nat.le_refl _, World.ownsRow_nil _ _ _ _, Below.refl _ _⟩
  obtain ⟨T, hTT⟩ : ∃ T, (counts X).length = T := ⟨_, rfl⟩
  rw [hTT] at hT ⊢
  have HT := Lib.hid hTT
  clear h1 h2 hwf hc hTT
  go_enter Tryz.func70, Tryz.ntmps70
  go_wp2_with fail
  go_loopw [6, 7, 8, 9, 10] (fun vu vk vc va vi wr => ∃ (D R : List Seg) (u : Value) (ky ct : Int) (at0 n : Nat), Hid (X = D ++ R) ∧ D.length ≤ X.length ∧ u = vu ∧ vk = .int .i64 ky ∧ Hid (ky = nxt 0 D) ∧ vc = .int .i64 ct ∧ Hid (ct = lastC 0 (counts D)) ∧ va = .int .i64 (at0 : Int) ∧ Hid (at0 = (counts D).length) ∧ at0 ≤ T ∧ vi = .int .i64 (D.length : Int) ∧ n ≤ at0 ∧ Hid (GotT cc 143 w.heap.size n (nz (cellsOf D)) u w wr)) (fun _ _ _ _ i _ => X.length - (intOf i).toNat)
  case atStart => exact ⟨[], X, _, 0, 0, 0, 0, rfl, Nat.zero_le _, rfl, rfl, rfl, rfl, rfl, rfl, rfl, Nat.zero_le _, rfl, Nat.le_refl _, HG0.out⟩
  case round =>
    obtain ⟨D, R, u, ky, ct, at0, n, hX2, hDl, rfl, rfl, hky, rfl, hct, rfl, hat, haT, rfl, hn, hgot⟩ := hrel
    obtain ⟨au, cu, rfl⟩ := row_slice2 hgot.out.2.1
    by_cases hlt : D.length < X.length
    · obtain ⟨s, R2, hR⟩ : ∃ s R2, R = s :: R2 := by
        cases R with
        | nil => exfalso; have := hX2.out; rw [List.append_nil] at this; rw [this] at hlt; omega
        | cons s R2 => exact ⟨s, R2, rfl⟩
      subst hR
      obtain ⟨s0, cs⟩ := s
      have hA := HW.out D (s0, cs) R2 hX2.out
      have hcnt : counts X = counts D ++ (cs ++ counts R2) := by rw [hX2.out]; unfold counts; rw [List.flatMap_append, List.flatMap_cons]
      have hcl := HT.out
      rw [hcnt, List.length_append, List.length_append, ← hat.out] at hcl
      have hdl : D.length < (runsOf 0 X).length := by rw [runsOf_len]; exact hlt
      have hrun : (runsOf 0 X)[D.length] = (s0 - nxt 0 D, (cs.length : Int)) := by
        have : ∀ Y (h : D.length < (runsOf 0 Y).length), Y = D ++ (s0, cs) :: R2 → (runsOf 0 Y)[D.length] = (s0 - nxt 0 D, (cs.length : Int)) := by
          intro Y h e; subst e; exact runsOf_at D R2 (s0, cs) h
        exact this X hdl hX2.out
      obtain ⟨b, off, hav, hb, d0, d1⟩ := pair_of (c := rc) (f := .int .i32) (g := .int .u32) (fun _ => rfl) H1.out hdl
      rw [hrun, ← hky.out] at d0 d1
      simp only at d0 d1
      obtain ⟨pos, o1, ln, ky1, nx1⟩ := hA
      rw [← hky.out] at o1 nx1
      simp only at o1 ln ky1
      obtain ⟨o, ho⟩ : ∃ o, s0 - ky = o := ⟨_, rfl⟩
      have hpos : D.length ≠ 0 → 0 ≤ o := by
        intro h
        have := pos (fun e => h (by rw [e]; rfl))
        rw [← hky.out] at this
        simp only at this
        omega
      rw [ho] at d0 o1
      have HO : Hid (ky + o = s0) := by show _ = _; omega
      obtain ⟨m, hm⟩ : ∃ m, cs.length = m := ⟨_, rfl⟩
      rw [hm] at d1 hcl ln
      have HM := Lib.hid hm
      have HCnt := Lib.hid hcnt
      have hmt : at0 + m ≤ T := by omega
      have hmT : m ≤ 4294967295 := ln
      have HRd : Hid (∀ W, Below w.heap.size w W → W.cell? ⟨b, off + D.length * 2, none⟩ = some (.int .i32 o) ∧ W.cell? ⟨b, off + D.length * 2 + 1, none⟩ = some (.int .u32 (m : Int))) := fun W hW =>
        ⟨by rw [hW.cell (p := ⟨b, off + D.length * 2, none⟩) hb]; exact d0, by rw [hW.cell (p := ⟨b, off + D.length * 2 + 1, none⟩) hb]; exact d1⟩
      obtain ⟨c0, c1⟩ := HRd.out wr hgot.out.2.2
      subst hav
      obtain ⟨i, hi0⟩ : ∃ i, D.length = i := ⟨_, rfl⟩
      have HI := Lib.hid hi0
      rw [hi0] at c0 c1 hlt hpos HRd hDl
      have z1 : (0 : Int) ≤ (i : Int) := by omega
      have z2 : (i : Int) < (X.length : Int) := by omega
      have x1 : IntKind.i64.wrap o = o := IntWalk.i64_in _ (by omega)
      have x2 : IntKind.u64.wrap (m : Int) = (m : Int) := by rw [IntKind.wrap_u64]; omega
      have x3 : IntKind.i64.wrap ((T : Int) - (at0 : Int)) = (T : Int) - (at0 : Int) := IntWalk.i64_in _ (by omega)
      have x4 : IntKind.u64.wrap ((T : Int) - (at0 : Int)) = (T : Int) - (at0 : Int) := by rw [IntKind.wrap_u64]; omega
      have x5 : decide ((T : Int) - (at0 : Int) < (m : Int)) = false := by rw [decide_eq_false_iff_not]; omega
      have x6 : IntKind.i64.wrap (ky + o) = ky + o := IntWalk.i64_in _ (by omega)
      have HPos := Lib.hid hpos
      clear d0 d1 hrun hdl pos ho hm hcnt hi0
      rw [HI.out]
      by_cases hi1 : i = 0
      · have n1 : decide ((0 : Int) < (i : Int)) = false := by rw [decide_eq_false_iff_not]; omega
        have n6 : (i : Int) ≤ 0 := by omega
        have n7 : ¬ ((0 : Int) < (i : Int)) := by omega
        clear hi1 hpos
        go_wp2_with fail
        rename World => wq
        go_loopw [6, 7, 8, 9, 11] (fun vu vk vc va vj wr => ∃ (ds es : List Int) (u : Value) (k2 ct2 : Int) (j at2 n2 : Nat), Hid (cs = ds ++ es) ∧ Hid (ds.length = j) ∧ j ≤ m ∧ u = vu ∧ vk = .int .i64 k2 ∧ Hid (k2 = s0 + ds.length) ∧ -4294967296 ≤ k2 ∧ k2 ≤ 8589934592 ∧ vc = .int .i64 ct2 ∧ Hid (ct2 = lastC 0 (counts D ++ ds)) ∧ va = .int .i64 (at2 : Int) ∧ Hid (at2 = at0 + j) ∧ at2 ≤ T ∧ vj = .int .u32 (j : Int) ∧ n2 ≤ at2 ∧ Hid (GotT cc 143 w.heap.size n2 (nz (cellsOf D ++ exp s0 ds)) u w wr)) (fun _ _ _ _ j _ => m - (intOf j).toNat)
        case atStart =>
          refine ⟨[], cs, _, ky + o, ct, 0, at0, n, rfl, rfl, Nat.zero_le _, rfl, rfl, ?_, by have := HO.out; omega, by have := HO.out; omega, rfl, ?_, rfl, rfl, haT, rfl, hn, ?_⟩
          · show _ = _; rw [HO.out]; simp
          · show _ = _; rw [List.append_nil]; exact hct.out
          · show GotT _ _ _ _ _ _ _ _; rw [show exp s0 [] = [] from rfl, List.append_nil]; exact hgot.out
        case round =>
          obtain ⟨ds, es, u, k2, ct2, j, at2, n2, hcs, hdj, hjm, rfl, rfl, hk2, k2a, k2b, rfl, hct2, rfl, hat2, haT2, rfl, hn2, hgot2⟩ := hrel
          obtain ⟨au2, cu2, rfl⟩ := row_slice2 hgot2.out.2.1
          obtain ⟨c0, c1⟩ := HRd.out wr hgot2.out.2.2
          have y1 : (0 : Int) ≤ (j : Int) := by omega
          have hsz2 : w.heap.size ≤ wr.heap.size := hgot2.out.2.2.size
          by_cases hjl : j < m
          · obtain ⟨c, es2, hes⟩ : ∃ c es2, es = c :: es2 := by
              cases es with
              | nil => exfalso; have := hcs.out; rw [List.append_nil] at this; have h3 := HM.out; rw [this] at h3; have := hdj.out; omega
              | cons c es2 => exact ⟨c, es2, rfl⟩
            subst hes
            have hcc : counts X = (counts D ++ ds) ++ c :: (es2 ++ counts R2) := by rw [HCnt.out, hcs.out]; simp
            have hlen : (counts D ++ ds).length = at2 := by rw [List.length_append, hdj.out, ← hat.out, hat2.out]
            have hdl2 : at2 < (deltasOf 0 (counts X)).length := by rw [deltasOf_len, hcc, List.length_append, hlen]; simp
            have hd : (deltasOf 0 (counts X))[at2] = wr2 (c - ct2) := by
              have : ∀ (Y : List Int) (p : Nat) (h : p < (deltasOf 0 Y).length), Y = (counts D ++ ds) ++ c :: (es2 ++ counts R2) → p = (counts D ++ ds).length → (deltasOf 0 Y)[p] = wr2 (c - lastC 0 (counts D ++ ds)) := by
                intro Y p h e1 e2
                subst e1 e2
                exact deltasOf_at _ _ _ h
              rw [this (counts X) at2 hdl2 hcc hlen.symm, ← hct2.out]
            have hcr := HC.out c (by rw [hcc]; simp)
            obtain ⟨b3, off3, hbv, hb3, d3⟩ := int_at H2.out hdl2
            rw [hd] at d3
            have c3 : wr.cell? ⟨b3, off3 + at2, none⟩ = some (.int .i64 (wr2 (c - ct2))) := by rw [hgot2.out.2.2.cell (p := ⟨b3, off3 + at2, none⟩) hb3]; exact d3
            have hsum : IntKind.i64.wrap (ct2 + wr2 (c - ct2)) = c := wr_back hcr
            obtain ⟨dl, hdl3⟩ : ∃ dl, wr2 (c - ct2) = dl := ⟨_, rfl⟩
            rw [hdl3] at c3 hsum
            have hatT : at2 < T := by have := HT.out; rw [← this]; rw [deltasOf_len] at hdl2; exact hdl2
            have y2 : (j : Int) < (m : Int) := by omega
            have y3 : (0 : Int) ≤ (at2 : Int) := by omega
            have y4 : (at2 : Int) < (T : Int) := by omega
            have x7 : IntKind.u32.wrap ((j : Int) + 1) = (j : Int) + 1 := by rw [IntKind.wrap_u32]; omega
            have hcs2 : Hid (cs = (ds ++ [c]) ++ es2) := by show _ = _; rw [hcs.out]; simp
            have hdj2 : Hid ((ds ++ [c]).length = j + 1) := by show _ = _; rw [List.length_append, hdj.out]; rfl
            have hk3 : Hid (k2 + 1 = s0 + (ds ++ [c]).length) := by show _ = _; rw [hk2.out, List.length_append]; simp; omega
            have hct3 : Hid (c = lastC 0 (counts D ++ (ds ++ [c]))) := by show _ = _; rw [← List.append_assoc, lastC_snoc]
            have hat3 : Hid (at2 + 1 = at0 + (j + 1)) := by show _ = _; rw [hat2.out]; rfl
            have hex : nz (cellsOf D ++ exp s0 (ds ++ [c])) = nz (cellsOf D ++ exp s0 ds) ++ nz [(k2, c)] := by
              rw [exp_snoc, ← List.append_assoc, nz_app, ← hk2.out]
            have hk2b : k2 ≤ 8589934591 := by
              have h1 := hk2.out
              have h2 := hdj.out
              omega
            have HSub := Lib.hid hbv
            subst hbv
            by_cases hc0 : c = 0
            · have n3 : (c == 0) = true := by rw [hc0]; rfl
              have n4 : (c != 0) = false := by rw [hc0]; rfl
              have hg3 : Hid (GotT cc 143 w.heap.size n2 (nz (cellsOf D ++ exp s0 (ds ++ [c]))) (.slice au2 (nz (cellsOf D ++ exp s0 ds)).length cu2) w wr) := by
                show GotT _ _ _ _ _ _ _ _
                rw [hex, show nz [(k2, c)] = [] by unfold nz; simp [hc0], List.append_nil]; exact hgot2.out
              clear hc0 hcc hlen hdl2 hd hdl3 hex d3 HSub
              go_wp2_with fail
              go_roundw
              case rel => exact ⟨ds ++ [c], es2, _, k2 + 1, c, j + 1, at2 + 1, n2, hcs2.out, hdj2.out, by omega, rfl, by go_num, hk3.out, by omega, by omega, rfl, hct3.out, by go_num, hat3.out, by omega, by go_num, by omega, hg3.out⟩
              case measure => simp [intOf]; omega
            · have n3 : (c == 0) = false := by rw [beq_eq_false_iff_ne]; exact hc0
              have n4 : (c != 0) = true := by simp [hc0]
              have HEx : Hid (nz (cellsOf D ++ exp s0 (ds ++ [c])) = nz (cellsOf D ++ exp s0 ds) ++ [(k2, c)]) := by
                show _ = _
                rw [hex]; unfold nz; simp [hc0]
              have HNews := Lib.hid (Ss.news_one wr #[.int .i64 k2, .int .i64 c] 143)
              obtain ⟨acc, hacc⟩ : ∃ acc, nz (cellsOf D ++ exp s0 ds) = acc := ⟨_, rfl⟩
              rw [hacc] at hgot2 HEx ⊢
              have hal := hgot2.out.1
              clear hcc hlen hdl2 hd hdl3 hex d3 hc0 hacc HSub
              go_wp2_with (first
                | (at_builtin; refine wpList_append_own_at _ rfl _ _ 67 rfl w.heap.size 143 i0 (.agg #[.int .i64 0, .int .i64 0]) 2 16 Tryz.underlying67 hi hz0 hz1 hz2 rfl (by decide) _ _ _ rfl (hgot2.out.2.1.alloc _) ⟨wr.heap.size, 0, none⟩ 1 1 [.int .i64 k2, .int .i64 c] rfl rfl (by simpa using HNews.out) (ones2 [(k2, c)]) (by unfold maxLen; omega) (by omega) (by simp; omega) ?_; intro v2 W4 hown2 hgrow2 hnil2 hloc2; have hg3 : Hid (GotT cc 143 w.heap.size (n2 + 1) (nz (cellsOf D ++ exp s0 (ds ++ [c]))) v2 w W4) := (by show GotT cc 143 _ _ _ _ _ _; rw [HEx.out]; exact hgot2.out.app hsz2 hown2 hgrow2); clear hown2 hgrow2 hnil2 hloc2))
              go_roundw
              case rel => exact ⟨ds ++ [c], es2, _, k2 + 1, c, j + 1, at2 + 1, n2 + 1, hcs2.out, hdj2.out, by omega, rfl, by go_num, hk3.out, by omega, by omega, rfl, hct3.out, by go_num, hat3.out, by omega, by go_num, by omega, hg3.out⟩
              case measure => simp [intOf]; omega
          · obtain rfl : j = m := by omega
            have hes : es = [] := by
              have h1 := HM.out
              rw [hcs.out, List.length_append, hdj.out] at h1
              exact List.length_eq_zero_iff.1 (by omega)
            have hcd : cs = ds := by rw [hcs.out, hes, List.append_nil]
            have hX3 : Hid (X = (D ++ [(s0, cs)]) ++ R2) := by show _ = _; rw [hX2.out]; simp
            have hi3 : Hid ((D ++ [(s0, cs)]).length = i + 1) := by show _ = _; rw [List.length_append, HI.out]; rfl
            have hky3 : Hid (k2 = nxt 0 (D ++ [(s0, cs)])) := by show _ = _; rw [nxt_snoc, hk2.out, hcd]
            have hcn : counts (D ++ [(s0, cs)]) = counts D ++ cs := by unfold counts; simp
            have hct3 : Hid (ct2 = lastC 0 (counts (D ++ [(s0, cs)]))) := by show _ = _; rw [hcn, hct2.out, hcd]
            have hat3 : Hid (at2 = (counts (D ++ [(s0, cs)])).length) := by show _ = _; rw [hcn, List.length_append, ← hat.out, HM.out, hat2.out]
            have hg3 : Hid (GotT cc 143 w.heap.size n2 (nz (cellsOf (D ++ [(s0, cs)]))) (.slice au2 (nz (cellsOf D ++ exp s0 ds)).length cu2) w wr) := by
              show GotT _ _ _ _ _ _ _ _
              have : cellsOf (D ++ [(s0, cs)]) = cellsOf D ++ exp s0 ds := by unfold cellsOf; rw [List.flatMap_append, ← hcd]; simp
              rw [this]; exact hgot2.out
            clear hcd hes hcn
            go_wp2_with fail
            go_roundw
            case rel => exact ⟨D ++ [(s0, cs)], R2, _, k2, ct2, at2, n2, hX3.out, by rw [hi3.out]; omega, rfl, rfl, hky3.out, rfl, hct3.out, rfl, hat3.out, haT2, by rw [hi3.out]; go_num, hn2, hg3.out⟩
            case measure => simp [intOf]; omega
      · have n1 : (0 : Int) < (i : Int) := by omega
        have n2 : decide (o < 0) = false := by rw [decide_eq_false_iff_not]; have := hpos hi1; omega
        have n5 : 0 ≤ o := hpos hi1
        clear hi1 hpos
        go_wp2_with fail
        rename World => wq
        go_loopw [6, 7, 8, 9, 11] (fun vu vk vc va vj wr => ∃ (ds es : List Int) (u : Value) (k2 ct2 : Int) (j at2 n2 : Nat), Hid (cs = ds ++ es) ∧ Hid (ds.length = j) ∧ j ≤ m ∧ u = vu ∧ vk = .int .i64 k2 ∧ Hid (k2 = s0 + ds.length) ∧ -4294967296 ≤ k2 ∧ k2 ≤ 8589934592 ∧ vc = .int .i64 ct2 ∧ Hid (ct2 = lastC 0 (counts D ++ ds)) ∧ va = .int .i64 (at2 : Int) ∧ Hid (at2 = at0 + j) ∧ at2 ≤ T ∧ vj = .int .u32 (j : Int) ∧ n2 ≤ at2 ∧ Hid (GotT cc 143 w.heap.size n2 (nz (cellsOf D ++ exp s0 ds)) u w wr)) (fun _ _ _ _ j _ => m - (intOf j).toNat)
        case atStart =>
          refine ⟨[], cs, _, ky + o, ct, 0, at0, n, rfl, rfl, Nat.zero_le _, rfl, rfl, ?_, by have := HO.out; omega, by have := HO.out; omega, rfl, ?_, rfl, rfl, haT, rfl, hn, ?_⟩
          · show _ = _; rw [HO.out]; simp
          · show _ = _; rw [List.append_nil]; exact hct.out
          · show GotT _ _ _ _ _ _ _ _; rw [show exp s0 [] = [] from rfl, List.append_nil]; exact hgot.out
        case round =>
          obtain ⟨ds, es, u, k2, ct2, j, at2, n2, hcs, hdj, hjm, rfl, rfl, hk2, k2a, k2b, rfl, hct2, rfl, hat2, haT2, rfl, hn2, hgot2⟩ := hrel
          obtain ⟨au2, cu2, rfl⟩ := row_slice2 hgot2.out.2.1
          obtain ⟨c0, c1⟩ := HRd.out wr hgot2.out.2.2
          have y1 : (0 : Int) ≤ (j : Int) := by omega
          have hsz2 : w.heap.size ≤ wr.heap.size := hgot2.out.2.2.size
          by_cases hjl : j < m
          · obtain ⟨c, es2, hes⟩ : ∃ c es2, es = c :: es2 := by
              cases es with
              | nil => exfalso; have := hcs.out; rw [List.append_nil] at this; have h3 := HM.out; rw [this] at h3; have := hdj.out; omega
              | cons c es2 => exact ⟨c, es2, rfl⟩
            subst hes
            have hcc : counts X = (counts D ++ ds) ++ c :: (es2 ++ counts R2) := by rw [HCnt.out, hcs.out]; simp
            have hlen : (counts D ++ ds).length = at2 := by rw [List.length_append, hdj.out, ← hat.out, hat2.out]
            have hdl2 : at2 < (deltasOf 0 (counts X)).length := by rw [deltasOf_len, hcc, List.length_append, hlen]; simp
            have hd : (deltasOf 0 (counts X))[at2] = wr2 (c - ct2) := by
              have : ∀ (Y : List Int) (p : Nat) (h : p < (deltasOf 0 Y).length), Y = (counts D ++ ds) ++ c :: (es2 ++ counts R2) → p = (counts D ++ ds).length → (deltasOf 0 Y)[p] = wr2 (c - lastC 0 (counts D ++ ds)) := by
                intro Y p h e1 e2
                subst e1 e2
                exact deltasOf_at _ _ _ h
              rw [this (counts X) at2 hdl2 hcc hlen.symm, ← hct2.out]
            have hcr := HC.out c (by rw [hcc]; simp)
            obtain ⟨b3, off3, hbv, hb3, d3⟩ := int_at H2.out hdl2
            rw [hd] at d3
            have c3 : wr.cell? ⟨b3, off3 + at2, none⟩ = some (.int .i64 (wr2 (c - ct2))) := by rw [hgot2.out.2.2.cell (p := ⟨b3, off3 + at2, none⟩) hb3]; exact d3
            have hsum : IntKind.i64.wrap (ct2 + wr2 (c - ct2)) = c := wr_back hcr
            obtain ⟨dl, hdl3⟩ : ∃ dl, wr2 (c - ct2) = dl := ⟨_, rfl⟩
            rw [hdl3] at c3 hsum
            have hatT : at2 < T := by have := HT.out; rw [← this]; rw [deltasOf_len] at hdl2; exact hdl2
            have y2 : (j : Int) < (m : Int) := by omega
            have y3 : (0 : Int) ≤ (at2 : Int) := by omega
            have y4 : (at2 : Int) < (T : Int) := by omega
            have x7 : IntKind.u32.wrap ((j : Int) + 1) = (j : Int) + 1 := by rw [IntKind.wrap_u32]; omega
            have hcs2 : Hid (cs = (ds ++ [c]) ++ es2) := by show _ = _; rw [hcs.out]; simp
            have hdj2 : Hid ((ds ++ [c]).length = j + 1) := by show _ = _; rw [List.length_append, hdj.out]; rfl
            have hk3 : Hid (k2 + 1 = s0 + (ds ++ [c]).length) := by show _ = _; rw [hk2.out, List.length_append]; simp; omega
            have hct3 : Hid (c = lastC 0 (counts D ++ (ds ++ [c]))) := by show _ = _; rw [← List.append_assoc, lastC_snoc]
            have hat3 : Hid (at2 + 1 = at0 + (j + 1)) := by show _ = _; rw [hat2.out]; rfl
            have hex : nz (cellsOf D ++ exp s0 (ds ++ [c])) = nz (cellsOf D ++ exp s0 ds) ++ nz [(k2, c)] := by
              rw [exp_snoc, ← List.append_assoc, nz_app, ← hk2.out]
            have hk2b : k2 ≤ 8589934591 := by
              have h1 := hk2.out
              have h2 := hdj.out
              omega
            have HSub := Lib.hid hbv
            subst hbv
            by_cases hc0 : c = 0
            · have n3 : (c == 0) = true := by rw [hc0]; rfl
              have n4 : (c != 0) = false := by rw [hc0]; rfl
              have hg3 : Hid (GotT cc 143 w.heap.size n2 (nz (cellsOf D ++ exp s0 (ds ++ [c]))) (.slice au2 (nz (cellsOf D ++ exp s0 ds)).length cu2) w wr) := by
                show GotT _ _ _ _ _ _ _ _
                rw [hex, show nz [(k2, c)] = [] by unfold nz; simp [hc0], List.append_nil]; exact hgot2.out
              clear hc0 hcc hlen hdl2 hd hdl3 hex d3 HSub
              go_wp2_with fail
              go_roundw
              case rel => exact ⟨ds ++ [c], es2, _, k2 + 1, c, j + 1, at2 + 1, n2, hcs2.out, hdj2.out, by omega, rfl, by go_num, hk3.out, by omega, by omega, rfl, hct3.out, by go_num, hat3.out, by omega, by go_num, by omega, hg3.out⟩
              case measure => simp [intOf]; omega
            · have n3 : (c == 0) = false := by rw [beq_eq_false_iff_ne]; exact hc0
              have n4 : (c != 0) = true := by simp [hc0]
              have HEx : Hid (nz (cellsOf D ++ exp s0 (ds ++ [c])) = nz (cellsOf D ++ exp s0 ds) ++ [(k2, c)]) := by
                show _ = _
                rw [hex]; unfold nz; simp [hc0]
              have HNews := Lib.hid (Ss.news_one wr #[.int .i64 k2, .int .i64 c] 143)
              obtain ⟨acc, hacc⟩ : ∃ acc, nz (cellsOf D ++ exp s0 ds) = acc := ⟨_, rfl⟩
              rw [hacc] at hgot2 HEx ⊢
              have hal := hgot2.out.1
              clear hcc hlen hdl2 hd hdl3 hex d3 hc0 hacc HSub
              go_wp2_with (first
                | (at_builtin; refine wpList_append_own_at _ rfl _ _ 67 rfl w.heap.size 143 i0 (.agg #[.int .i64 0, .int .i64 0]) 2 16 Tryz.underlying67 hi hz0 hz1 hz2 rfl (by decide) _ _ _ rfl (hgot2.out.2.1.alloc _) ⟨wr.heap.size, 0, none⟩ 1 1 [.int .i64 k2, .int .i64 c] rfl rfl (by simpa using HNews.out) (ones2 [(k2, c)]) (by unfold maxLen; omega) (by omega) (by simp; omega) ?_; intro v2 W4 hown2 hgrow2 hnil2 hloc2; have hg3 : Hid (GotT cc 143 w.heap.size (n2 + 1) (nz (cellsOf D ++ exp s0 (ds ++ [c]))) v2 w W4) := (by show GotT cc 143 _ _ _ _ _ _; rw [HEx.out]; exact hgot2.out.app hsz2 hown2 hgrow2); clear hown2 hgrow2 hnil2 hloc2))
              go_roundw
              case rel => exact ⟨ds ++ [c], es2, _, k2 + 1, c, j + 1, at2 + 1, n2 + 1, hcs2.out, hdj2.out, by omega, rfl, by go_num, hk3.out, by omega, by omega, rfl, hct3.out, by go_num, hat3.out, by omega, by go_num, by omega, hg3.out⟩
              case measure => simp [intOf]; omega
          · obtain rfl : j = m := by omega
            have hes : es = [] := by
              have h1 := HM.out
              rw [hcs.out, List.length_append, hdj.out] at h1
              exact List.length_eq_zero_iff.1 (by omega)
            have hcd : cs = ds := by rw [hcs.out, hes, List.append_nil]
            have hX3 : Hid (X = (D ++ [(s0, cs)]) ++ R2) := by show _ = _; rw [hX2.out]; simp
            have hi3 : Hid ((D ++ [(s0, cs)]).length = i + 1) := by show _ = _; rw [List.length_append, HI.out]; rfl
            have hky3 : Hid (k2 = nxt 0 (D ++ [(s0, cs)])) := by show _ = _; rw [nxt_snoc, hk2.out, hcd]
            have hcn : counts (D ++ [(s0, cs)]) = counts D ++ cs := by unfold counts; simp
            have hct3 : Hid (ct2 = lastC 0 (counts (D ++ [(s0, cs)]))) := by show _ = _; rw [hcn, hct2.out, hcd]
            have hat3 : Hid (at2 = (counts (D ++ [(s0, cs)])).length) := by show _ = _; rw [hcn, List.length_append, ← hat.out, HM.out, hat2.out]
            have hg3 : Hid (GotT cc 143 w.heap.size n2 (nz (cellsOf (D ++ [(s0, cs)]))) (.slice au2 (nz (cellsOf D ++ exp s0 ds)).length cu2) w wr) := by
              show GotT _ _ _ _ _ _ _ _
              have : cellsOf (D ++ [(s0, cs)]) = cellsOf D ++ exp s0 ds := by unfold cellsOf; rw [List.flatMap_append, ← hcd]; simp
              rw [this]; exact hgot2.out
            clear hcd hes hcn
            go_wp2_with fail
            go_roundw
            case rel => exact ⟨D ++ [(s0, cs)], R2, _, k2, ct2, at2, n2, hX3.out, by rw [hi3.out]; omega, rfl, rfl, hky3.out, rfl, hct3.out, rfl, hat3.out, haT2, by rw [hi3.out]; go_num, hn2, hg3.out⟩
            case measure => simp [intOf]; omega
    · have hDX : X = D := by
        have h1 := hX2.out
        have h2 : R = [] := by
          have := congrArg List.length h1
          rw [List.length_append] at this
          exact List.length_eq_zero_iff.1 (by omega)
        rw [h1, h2, List.append_nil]
      have hiT : D.length = X.length := by rw [hDX]
      have haT3 : at0 = T := by have := HT.out; rw [hDX] at this; rw [hat.out]; exact this
      have hfin : Hid (ReadOut X w (.returned (.tuple #[.slice au (nz (cellsOf D)).length cu, .bool true])) wr) := ⟨_, rfl, by rw [hDX]; exact hgot.out.2.1, hgot.out.2.2⟩
      rw [hiT]
      subst haT3
      clear hDX hiT hX2 hky hct hat hgot
      go_wp2_with fail
      go_ret2
      exact hfin.out

end Go.Proofs.YtlolomodcbkblaaGreatDoor.Sp
