/- Pairs sorted by name (spec.FitPairs): the walk. -/
import Derived.Test.YtlolomodcbkblaaGreatDoorMg1
import Derived.Deep.RegionHeld3
set_option linter.unusedVariables false
set_option linter.unusedSimpArgs false
namespace Go.Proofs.YtlolomodcbkblaaGreatDoor.Fp
open Go.RowKit Go.ChangeShapes Go.WideShapes Go.Deep
attribute [local go_sem ↓] Go.wp_at_zero Go.wp_at_succ

theorem GotP.below {B n : Nat} {acc : List P2} {u : Value} {w W W' : World} (h : GotP B n acc u w W) (hs : B ≤ W.heap.size) (hb : Below W.heap.size W W') : GotP B n acc u w W' :=
  ⟨h.1, h.2.1.kept (row := none) ⟨hb.os, hb.tape, hb.output, hb.size, fun i hi _ => hb.block i hi⟩ (by cases u.ownBlock <;> simp), h.2.2.trans (hb.mono hs)⟩
theorem got_cells {B n cu k : Nat} {acc : List P2} {au : Option Addr} {w W : World} (h : GotP B n acc (.slice au acc.length cu) w W) (hk : k < acc.length) :
    ∃ g, au = some ⟨g, 0, none⟩ ∧ W.cell? ⟨g, k * 2, none⟩ = some (.string (acc[k]).1) ∧ W.cell? ⟨g, k * 2 + 1, none⟩ = some (.string (acc[k]).2) ∧ W.frozen? ⟨g, k * 2 + 1, none⟩ = false ∧ g < W.heap.size ∧ B ≤ g ∧ acc.length ≤ cu := by
  have ho := h.2.1
  rcases ho.2 with ⟨_, h0⟩ | ⟨g, cap, cur, hv, hB, hg, hn, hc, hs, ht⟩
  · omega
  · injection hv with h1 _ h3
    subst h1 h3
    have hlt := ho.lt g rfl
    have e0 := ho.cellAt (k * 2) (by omega)
    have e1 := ho.cellAt (k * 2 + 1) (by omega)
    have f0 := Ss.flat_get pc_len acc k hk 0 (by omega)
    have f1 := Ss.flat_get pc_len acc k hk 1 (by omega)
    exact ⟨g, rfl, e0.trans f0, e1.trans f1, ho.frozenAt _, hlt.2, hlt.1, hn⟩
theorem got_at {B n cu k g : Nat} {acc : List P2} {w W : World} (h : GotP B n acc (.slice (some ⟨g, 0, none⟩) acc.length cu) w W) (hk : k < acc.length) :
    W.cell? ⟨g, k * 2, none⟩ = some (.string (acc[k]).1) ∧ W.cell? ⟨g, k * 2 + 1, none⟩ = some (.string (acc[k]).2) ∧ W.frozen? ⟨g, k * 2 + 1, none⟩ = false ∧ g < W.heap.size ∧ B ≤ g ∧ acc.length ≤ cu := by
  obtain ⟨g2, hg, h1⟩ := got_cells h hk
  injection hg with hg
  injection hg with hg _ _
  subst hg
  exact h1
theorem got_set {B n g cu k : Nat} {acc : List P2} {w W : World} (h : GotP B n acc (.slice (some ⟨g, 0, none⟩) acc.length cu) w W) (hk : k < acc.length) (y : ByteArray) :
    GotP B (n + 1) (acc.set k ((acc[k]).1, y)) (.slice (some ⟨g, 0, none⟩) acc.length cu) w (W.setCell ⟨g, k * 2 + 1, none⟩ (.string y)) := by
  obtain ⟨h1, h2, h3⟩ := h
  have hs := h2.stored (k * 2 + 1) (.string y)
  refine ⟨by rw [List.length_set]; omega, ?_, h3.setCell (h2.lt g rfl).1 _⟩
  rw [List.length_set, ← flat_set2 acc k hk y]
  exact hs.1

def FitOut (L : List P2) (w : World) (e : Ending) (w' : World) : Prop :=
  ∃ v, e = .returned v ∧ w'.ownsRow w.heap.size 138 2 v (fit L).length ((fit L).flatMap pc) ∧ Below w.heap.size w w'

set_option maxHeartbeats 16000000 in
set_option maxRecDepth 100000 in
theorem fit_any (L : List P2) (v : Value) (w : World) (hof : Ss.Of 2 pc w v L) (hL : L.length ≤ 2147483647) :
    Calls Tryz.prog 53 #[v] w (FitOut L w) := by
  obtain ⟨i0, hi, hz0, hz1, hz2⟩ := info_parts infoP
  obtain ⟨av, cv, rfl, _, _⟩ := hof.slice
  have HOf := Lib.hid hof
  have HG0 : Hid (GotP w.heap.size 0 [] (.slice none 0 0) w w) := ⟨Nat.le_refl _, World.ownsRow_nil _ _ _ _, Below.refl _ _⟩
  clear hof
  go_enter Tryz.func53, Tryz.ntmps53
  go_wp2_with fail
  go_loopw [3, 4] (fun vu vn wr => ∃ (n : Nat) (u : Value), n ≤ L.length ∧ u = vu ∧ vn = .int .i64 (n : Int) ∧ Hid (GotP w.heap.size n (fit (L.take n)) u w wr)) (fun _ n _ => L.length - (intOf n).toNat)
  case atStart => exact ⟨0, _, Nat.zero_le _, rfl, rfl, HG0.out⟩
  case round =>
    obtain ⟨n, u, hn, rfl, rfl, hgot⟩ := hrel
    by_cases hlt : n < L.length
    · have hnx : fit (L.take (n + 1)) = ins L[n] (fit (L.take n)) := by rw [List.take_succ_eq_append_getElem hlt, fit_snoc]
      obtain ⟨acc, hacc⟩ : ∃ acc, fit (L.take n) = acc := ⟨_, rfl⟩
      rw [hacc] at hgot hnx
      obtain ⟨au, cu, rfl⟩ := row_slice2 hgot.out.2.1
      have hal := hgot.out.1
      obtain ⟨x, y, hb⟩ : ∃ x y, L[n] = (x, y) := ⟨_, _, rfl⟩
      rw [hb] at hnx
      obtain ⟨bq, oq, hav, hbq, d0, d1⟩ : ∃ b off, av = some ⟨b, off, none⟩ ∧ b < w.heap.size ∧ w.cell? ⟨b, off + n * 2, none⟩ = some (.string x) ∧ w.cell? ⟨b, off + n * 2 + 1, none⟩ = some (.string y) := by
        rcases HOf.out with ⟨h, _⟩ | ⟨b, off, cap, h, h0, hcap, hm, hbb, hcell⟩
        · rw [h] at hlt; simp at hlt
        · injection h with h1 h2 h3
          exact ⟨b, off, h1, hbb, hcell n hlt 0 _ (by rw [hb]; rfl), by rw [Nat.add_assoc]; exact hcell n hlt 1 _ (by rw [hb]; rfl)⟩
      subst hav
      have hIn : Hid (∀ W, Below w.heap.size w W → W.cell? ⟨bq, oq + n * 2, none⟩ = some (.string x) ∧ W.cell? ⟨bq, oq + n * 2 + 1, none⟩ = some (.string y)) := fun W hW =>
        ⟨by rw [hW.cell (p := ⟨bq, oq + n * 2, none⟩) hbq]; exact d0, by rw [hW.cell (p := ⟨bq, oq + n * 2 + 1, none⟩) hbq]; exact d1⟩
      have HNx : Hid (∀ T W, GotP w.heap.size (n + 1) (ins (x, y) acc) T w W → GotP w.heap.size (n + 1) (fit (L.take (n + 1))) T w W) := fun T W h => by rw [hnx]; exact h
      have z1 : (0 : Int) ≤ (n : Int) := by omega
      have z2 : (n : Int) < (L.length : Int) := by omega
      have hsz : w.heap.size ≤ wr.heap.size := hgot.out.2.2.size
      clear d0 d1 hb hnx hacc
      obtain ⟨wo, rfl⟩ : ∃ wo, wo = wr := ⟨_, rfl⟩
      go_wp2_with fail
      go_loopw [5] (fun vk wy => ∃ k m : Nat, k ≤ acc.length ∧ vk = .int .i64 (k : Int) ∧ Hid (∀ j (h : j < acc.length), j < k → bl (acc[j]).1 x = true) ∧ Hid (wy = wo.drewN m)) (fun k _ => acc.length - (intOf k).toNat)
      case atStart => exact ⟨0, 0, Nat.zero_le _, rfl, fun j h h' => absurd h' (Nat.not_lt_zero _), rfl⟩
      case round =>
        obtain ⟨k, m, hk, rfl, hall, hwy⟩ := hrel
        have hgw : Hid (GotP w.heap.size n acc (.slice au acc.length cu) w wr) := by
          show GotP _ _ _ _ _ _
          rw [hwy.out]
          exact hgot.out.below hsz (below_drewN (Below.refl _ _) m)
        have c0 := (hIn.out wr hgw.out.2.2).1
        by_cases hlk : k < acc.length
        · obtain ⟨g, hau, e0, e1, e2, hgs, hBg, hcu⟩ := got_cells hgw.out hlk
          subst hau
          have y1 : (0 : Int) ≤ (k : Int) := by omega
          have y2 : (k : Int) < (acc.length : Int) := by omega
          obtain ⟨q, hq⟩ : ∃ q, (acc[k]).1 = q := ⟨_, rfl⟩
          rw [hq] at e0
          cases hbl : Op.bytesLess q.toList x.toList with
          | true =>
            have hall2 : Hid (∀ j (h : j < acc.length), j < k + 1 → bl (acc[j]).1 x = true) := by
              intro j h hj
              rcases Nat.lt_or_ge j k with h1 | h1
              · exact hall.out j h h1
              · have : j = k := by omega
                subst this
                rw [hq]; exact hbl
            clear e1 e2 hq
            go_wp2_with fail
            go_quiet (fail)
            have hw2 : Hid (wr.drewN nq = wo.drewN (m + nq)) := by show _ = _; rw [hwy.out, World.drewN_drewN]
            go_wp2_with fail
            go_roundw
            case rel => exact ⟨k + 1, m + nq, by omega, by go_num, hall2.out, hw2.out⟩
            case measure => simp [intOf]; omega
          | false =>
            have hat := ins_at (x, y) acc k hlk (fun j h hj => hall.out j h hj) (by rw [hq]; exact hbl)
            cases heq : (q.toList == x.toList) with
            | true =>
              have he : eqS (acc[k]).1 x = true := by rw [hq]; exact heq
              have HFin : Hid (∀ W, GotP w.heap.size n acc (.slice (some ⟨g, 0, none⟩) acc.length cu) w W → GotP w.heap.size (n + 1) (fit (L.take (n + 1))) (.slice (some ⟨g, 0, none⟩) acc.length cu) w (W.setCell ⟨g, k * 2 + 1, none⟩ (.string y))) := fun W hW => by
                refine HNx.out _ _ ?_
                rw [hat]
                show GotP _ _ (if eqS (acc[k]).1 x = true then _ else _) _ _ _
                rw [he, if_pos rfl]
                exact got_set hW hlk y
              clear hat hall hwy hq he
              go_wp2_with fail
              go_quiet (fail)
              have hg1 : Hid (GotP w.heap.size n acc (.slice (some ⟨g, 0, none⟩) acc.length cu) w (wr.drewN nq)) := hgw.out.below hgw.out.2.2.size (below_drewN (Below.refl _ _) nq)
              have c0' : (wr.drewN nq).cell? ⟨bq, oq + n * 2, none⟩ = some (.string x) := c0
              have e0' : (wr.drewN nq).cell? ⟨g, k * 2, none⟩ = some (.string q) := e0
              clear c0 e0 e1 e2 hgw
              generalize wr.drewN nq = Wa at *
              go_wp2_with fail
              go_quiet (fail)
              have hg2 : Hid (GotP w.heap.size n acc (.slice (some ⟨g, 0, none⟩) acc.length cu) w (Wa.drewN nq)) := hg1.out.below hg1.out.2.2.size (below_drewN (Below.refl _ _) nq)
              have c1 := (hIn.out _ hg2.out.2.2).2
              obtain ⟨_, e1, e2, _, _, _⟩ := got_at hg2.out hlk
              have hfin := Lib.hid (HFin.out _ hg2.out)
              clear c0' e0' hg1
              go_wp2_with fail
              go_roundw
              case rel => exact ⟨n + 1, _, by omega, rfl, by go_num, hfin.out⟩
              case measure => simp [intOf]; omega
            | false =>
              have he : eqS (acc[k]).1 x = false := by rw [hq]; exact heq
              have HFin : Hid (∀ v2 w2, w2.ownsRow w.heap.size 138 2 v2 (k + (1 + (acc.length - k))) ((acc.take k).flatMap pc ++ ([.string x, .string y] ++ (acc.drop k).flatMap pc)) → Below w.heap.size w w2 → GotP w.heap.size (n + 1) (fit (L.take (n + 1))) v2 w w2) := fun v2 w2 ho hb => by
                refine HNx.out _ _ ?_
                rw [hat]
                show GotP _ _ (if eqS (acc[k]).1 x = true then _ else _) _ _ _
                rw [he, if_neg (by simp)]
                refine ⟨by simp; omega, ?_, hb⟩
                rw [List.flatMap_append, List.flatMap_cons, List.length_append, List.length_cons, List.length_take, List.length_drop]
                rw [show min k acc.length + (acc.length - k + 1) = k + (1 + (acc.length - k)) by omega]
                exact ho
              clear hat hall hwy hq he
              go_wp2_with fail
              go_quiet (fail)
              have hg1 : Hid (GotP w.heap.size n acc (.slice (some ⟨g, 0, none⟩) acc.length cu) w (wr.drewN nq)) := hgw.out.below hgw.out.2.2.size (below_drewN (Below.refl _ _) nq)
              have c0' : (wr.drewN nq).cell? ⟨bq, oq + n * 2, none⟩ = some (.string x) := c0
              have e0' : (wr.drewN nq).cell? ⟨g, k * 2, none⟩ = some (.string q) := e0
              clear c0 e0 e1 e2 hgw
              generalize wr.drewN nq = Wa at *
              go_wp2_with fail
              go_quiet (fail)
              have hg2 : Hid (GotP w.heap.size n acc (.slice (some ⟨g, 0, none⟩) acc.length cu) w (Wa.drewN nq)) := hg1.out.below hg1.out.2.2.size (below_drewN (Below.refl _ _) nq)
              clear c0' e0' hg1
              generalize Wa.drewN nq = Wb at *
              go_wp2_with fail
              have hgd : GotP w.heap.size n acc (.slice (some ⟨g, 0, none⟩) acc.length cu) w Wb.drew := hg2.out.below hg2.out.2.2.size (Below.refl _ _).drew
              have hSd := hIn.out Wb.drew hgd.2.2
              have hSa : Hid (∀ o : Obj, (Wb.drew.alloc o).cell? ⟨bq, oq + n * 2, none⟩ = some (.string x) ∧ (Wb.drew.alloc o).cell? ⟨bq, oq + n * 2 + 1, none⟩ = some (.string y)) := fun o => hIn.out _ (hgd.2.2.alloc hgd.2.2.size o)
              have HBox : Hid ((Wb.drew.alloc (.cells #[.string x, .string y] 138)).ownsRow w.heap.size 138 2 (.slice (some ⟨Wb.drew.heap.size, 0, none⟩) 1 1) 1 [.string x, .string y]) :=
                World.ownsRow_lit Wb.drew #[.string x, .string y] 1 hgd.2.2.size (by decide) rfl
              have hga := hgd.2.1.alloc (.cells #[.string x, .string y] 138)
              have HN1 := Lib.hid (own_from hga (show k ≤ acc.length by omega))
              have HL1 := Lib.hid (show ((acc.drop k).flatMap pc).length = (acc.length - k) * 2 by rw [Ss.flat_len pc_len, List.length_drop])
              have HM : Hid (0 < acc.length - k) := by show _ < _; omega
              have H63 : Hid (1 + (acc.length - k) ≤ maxLen) := by show _ ≤ _; unfold maxLen; omega
              have HBy : Hid ((1 + (acc.length - k)) * 32 ≤ 140737488355328) := by show _ ≤ _; omega
              have H63b : Hid (k + (1 + (acc.length - k)) ≤ maxLen) := by show _ ≤ _; unfold maxLen; omega
              have HByb : Hid ((k + (1 + (acc.length - k))) * 32 ≤ 140737488355328) := by show _ ≤ _; omega
              have HM2 : Hid (0 < 1 + (acc.length - k)) := by show _ < _; omega
              have HBase : Hid (w.heap.size ≤ (Wb.drew.alloc (.cells #[.string x, .string y] 138)).heap.size) := Nat.le_trans hgd.2.2.size (by simp)
              have HNext : Hid (∀ (v1 : Value) (W1 : World), W1.ownsRow w.heap.size 138 2 v1 (1 + (acc.length - k)) ([.string x, .string y] ++ (acc.drop k).flatMap pc) → (Wb.drew.alloc (.cells #[.string x, .string y] 138)).grownBy W1 (some Wb.drew.heap.size) →
                  W1.ownsRow w.heap.size 138 2 (.slice (some ⟨g, 0, none⟩) k cu) k ((acc.take k).flatMap pc) ∧ Below w.heap.size w W1 ∧ (∀ ad m c, v1 = .slice (some ad) m c → ∀ j u, ([Value.string x, .string y] ++ (acc.drop k).flatMap pc)[j]? = some u → W1.cell? (ad.add j) = some u)) := fun v1 W1 ho hg => by
                have hne : g ≠ Wb.drew.heap.size := by have := (hgd.2.1.lt g rfl).2; omega
                refine ⟨own_prefix (hga.kept hg (Or.inr (by show some g ≠ _; intro e; injection e with e; exact hne e))) rfl (by omega), (hgd.2.2.alloc hgd.2.2.size _).grown hg (Nat.le_trans hgd.2.2.size (by simp)) (fun j hj => by cases hj; exact hgd.2.2.size), ?_⟩
                rintro ad m c rfl
                rcases ho.2 with ⟨h', _⟩ | ⟨g', cap', cur, h', _⟩
                · simp at h'
                · injection h' with h1 _ _
                  injection h1 with h1
                  subst h1
                  exact ho.cells rfl
              have HL2 := Lib.hid (show ([Value.string x, .string y] ++ (acc.drop k).flatMap pc).length = (1 + (acc.length - k)) * 2 by rw [List.length_append, HL1.out]; simp; omega)
              have HOne : Hid (∀ u ∈ [Value.string x, .string y] ++ (acc.drop k).flatMap pc, u.oneCell' = true) := ones2 ((x, y) :: acc.drop k)
              have hcuk : ¬ cu = k := by omega
              have y3 : (k : Int) ≤ (cu : Int) := by omega
              have y4 : (k : Int) ≤ (acc.length : Int) := by omega
              have y5 : (acc.length : Int) ≤ (cu : Int) := by omega
              clear hgd hga hg2
              go_region_held3 (fun w' => w'.cell? ⟨bq, oq + n * 2, none⟩ = some (.string x) ∧ w'.cell? ⟨bq, oq + n * 2 + 1, none⟩ = some (.string y)) (first | exact hSd | exact hSa.out _ | exact hS1 | exact hS2)
                (first
                  | (refine step_append_lies _ (by rfl) (.tmp 59) (.tmp 68) 45 (by rfl) w.heap.size 138 i0 (.agg #[.string ByteArray.empty, .string ByteArray.empty]) 2 32 Tryz.underlying45 hi hz0 hz1 hz2 rfl (by decide) _ _ _ (by rfl) HP1.out.1 ⟨g1, 0, none⟩ (1 + (acc.length - k)) cp1 ([.string x, .string y] ++ (acc.drop k).flatMap pc) (by rfl) HL2.out (HP1.out.2.2 _ _ _ rfl) HOne.out HM2.out H63b.out HByb.out HP1.out.2.1.size _ rfl ?_; intro g2 cp2 W2 hown2 hgrow2 hat2 hlt2; have hfin2 : Below w.heap.size w W2 := HP1.out.2.1.grown hgrow2 HP1.out.2.1.size (fun j hj => (HP1.out.1.lt j hj).1); have hS2 := hIn.out W2 hfin2; have hfin := Lib.hid (HFin.out _ _ hown2 hfin2); clear hown2 hgrow2 hat2 hlt2 hfin2)
                  | (refine step_append_lies _ (by rfl) (.tmp 64) (.tmp 67) 45 (by rfl) w.heap.size 138 i0 (.agg #[.string ByteArray.empty, .string ByteArray.empty]) 2 32 Tryz.underlying45 hi hz0 hz1 hz2 rfl (by decide) _ _ _ (by rfl) HBox.out ⟨g, k * 2, none⟩ (acc.length - k) (cu - k) ((acc.drop k).flatMap pc) (by rfl) HL1.out HN1.out (ones2 _) HM.out H63.out HBy.out HBase.out _ rfl ?_; intro g1 cp1 W1 hown1 hgrow1 hat1 hlt1; have HP1 := Lib.hid (HNext.out _ W1 hown1 hgrow1); have hS1 := hIn.out W1 HP1.out.2.1; clear hown1 hgrow1 hat1 hlt1))
              go_wp2_with fail
              go_roundw
              case rel => exact ⟨n + 1, _, by omega, rfl, by go_num, hfin.out⟩
              case measure => simp [intOf]; omega
        · obtain rfl : k = acc.length := by omega
          have hend := ins_end (x, y) acc (fun j h => hall.out j h h)
          have HFin : Hid (∀ v2 w2, w2.ownsRow w.heap.size 138 2 v2 (acc.length + 1) (acc.flatMap pc ++ [.string x, .string y]) → Below w.heap.size w w2 → GotP w.heap.size (n + 1) (fit (L.take (n + 1))) v2 w w2) := fun v2 w2 ho hb => by
            refine HNx.out _ _ ?_
            rw [hend]
            refine ⟨by simp; omega, ?_, hb⟩
            rw [List.flatMap_append, List.length_append]
            exact ho
          have hshape : (au = none ∧ cu = 0 ∧ acc = []) ∨ ∃ g, au = some ⟨g, 0, none⟩ ∧ g < wr.heap.size ∧ acc.length ≤ cu := by
            rcases hgw.out.2.1.2 with ⟨h1, h2⟩ | ⟨g, cap, cur, h1, _, _, h4, _⟩
            · injection h1 with e1 e2 e3
              exact Or.inl ⟨e1, e3, List.length_eq_zero_iff.1 h2⟩
            · have hl := hgw.out.2.1.lt
              injection h1 with e1 e2 e3
              subst e1 e3
              exact Or.inr ⟨g, rfl, (hl g rfl).2, h4⟩
          clear hend hall hwy
          rcases hshape with ⟨rfl, rfl, rfl⟩ | ⟨g, rfl, hgs, hcu⟩
          · have y1 : (0 : Int) ≤ 0 := by omega
            go_wp2_with fail
            go_quiet (fail)
            have hg1 : Hid (GotP w.heap.size n [] (.slice none 0 0) w (wr.drewN nq)) := hgw.out.below hgw.out.2.2.size (below_drewN (Below.refl _ _) nq)
            clear c0 hgw
            generalize wr.drewN nq = Wa at *
            go_wp2_with fail
            go_quiet (fail)
            have hg2 : Hid (GotP w.heap.size n [] (.slice none 0 0) w (Wa.drewN nq)) := hg1.out.below hg1.out.2.2.size (below_drewN (Below.refl _ _) nq)
            clear hg1
            generalize Wa.drewN nq = Wb at *
            go_wp2_with fail
            have hgd : GotP w.heap.size n [] (.slice none 0 0) w Wb.drew := hg2.out.below hg2.out.2.2.size (Below.refl _ _).drew
            have hSd := hIn.out Wb.drew hgd.2.2
            have hSa : Hid (∀ o : Obj, (Wb.drew.alloc o).cell? ⟨bq, oq + n * 2, none⟩ = some (.string x) ∧ (Wb.drew.alloc o).cell? ⟨bq, oq + n * 2 + 1, none⟩ = some (.string y)) := fun o => hIn.out _ (hgd.2.2.alloc hgd.2.2.size o)
            have HBox : Hid ((Wb.drew.alloc (.cells #[.string x, .string y] 138)).ownsRow w.heap.size 138 2 (.slice (some ⟨Wb.drew.heap.size, 0, none⟩) 1 1) 1 [.string x, .string y]) :=
              World.ownsRow_lit Wb.drew #[.string x, .string y] 1 hgd.2.2.size (by decide) rfl
            have hga := hgd.2.1.alloc (.cells #[.string x, .string y] 138)
            have H63b : Hid (0 + 1 ≤ maxLen) := by show _ ≤ _; unfold maxLen; omega
            have HByb : Hid ((0 + 1) * 32 ≤ 140737488355328) := by show _ ≤ _; omega
            have HNext : Hid (∀ (W1 : World), W1.ownsRow w.heap.size 138 2 (.slice (some ⟨Wb.drew.heap.size, 0, none⟩) 1 1) 1 [.string x, .string y] → (Wb.drew.alloc (.cells #[.string x, .string y] 138)).grownBy W1 (some Wb.drew.heap.size) →
                W1.ownsRow w.heap.size 138 2 (.slice none 0 0) 0 ([]) ∧ Below w.heap.size w W1 ∧ (∀ j u, [Value.string x, .string y][j]? = some u → W1.cell? ((⟨Wb.drew.heap.size, 0, none⟩ : Addr).add j) = some u)) := fun W1 ho hg => by
              refine ⟨hga.kept hg ?_, (hgd.2.2.alloc hgd.2.2.size _).grown hg (Nat.le_trans hgd.2.2.size (by simp)) (fun j hj => by cases hj; exact hgd.2.2.size), ho.cells rfl⟩
              left; rfl
            have HOne : Hid (∀ u ∈ [Value.string x, .string y], u.oneCell' = true) := ones2 [(x, y)]
            clear hgd hga hg2
            go_region_held3 (fun w' => w'.cell? ⟨bq, oq + n * 2, none⟩ = some (.string x) ∧ w'.cell? ⟨bq, oq + n * 2 + 1, none⟩ = some (.string y)) (first | exact hSd | exact hSa.out _ | exact hS1 | exact hS2)
              (first
                | (refine step_append_lies _ (by rfl) (.tmp 59) (.tmp 68) 45 (by rfl) w.heap.size 138 i0 (.agg #[.string ByteArray.empty, .string ByteArray.empty]) 2 32 Tryz.underlying45 hi hz0 hz1 hz2 rfl (by decide) _ _ _ (by rfl) HP1.out.1 ⟨Wb.drew.heap.size, 0, none⟩ 1 1 [.string x, .string y] (by rfl) rfl HP1.out.2.2 HOne.out (by decide) H63b.out HByb.out HP1.out.2.1.size _ rfl ?_; intro g2 cp2 W2 hown2 hgrow2 hat2 hlt2; have hfin2 : Below w.heap.size w W2 := HP1.out.2.1.grown hgrow2 HP1.out.2.1.size (fun j hj => (HP1.out.1.lt j hj).1); have hS2 := hIn.out W2 hfin2; have hfin := Lib.hid (HFin.out _ _ hown2 hfin2); clear hown2 hgrow2 hat2 hlt2 hfin2)
                | (refine step_append_zero _ (by rfl) (.tmp 64) (.tmp 67) 45 (by rfl) w.heap.size 138 i0 2 Tryz.underlying45 hi hz1 Wb.drew.heap.size 1 1 [.string x, .string y] (by rfl) HBox.out none 0 (by rfl) (by intro h; first | rfl | (exact absurd h (by simp))) ?_; intro W1 hown1 hgrow1; have HP1 := Lib.hid (HNext.out W1 hown1 hgrow1); have hS1 := hIn.out W1 HP1.out.2.1; clear hown1 hgrow1))
            go_wp2_with fail
            go_roundw
            case rel => exact ⟨n + 1, _, by omega, rfl, by go_num, hfin.out⟩
            case measure => simp [intOf]; omega
          · have y3 : (acc.length : Int) ≤ (cu : Int) := by omega
            have y1 : (0 : Int) ≤ (acc.length : Int) := by omega
            by_cases hcc : cu = acc.length
            · subst hcc
              go_wp2_with fail
              go_quiet (fail)
              have hg1 : Hid (GotP w.heap.size n acc (.slice (some ⟨g, 0, none⟩) acc.length acc.length) w (wr.drewN nq)) := hgw.out.below hgw.out.2.2.size (below_drewN (Below.refl _ _) nq)
              clear c0 hgw
              generalize wr.drewN nq = Wa at *
              go_wp2_with fail
              go_quiet (fail)
              have hg2 : Hid (GotP w.heap.size n acc (.slice (some ⟨g, 0, none⟩) acc.length acc.length) w (Wa.drewN nq)) := hg1.out.below hg1.out.2.2.size (below_drewN (Below.refl _ _) nq)
              clear hg1
              generalize Wa.drewN nq = Wb at *
              go_wp2_with fail
              have hgd : GotP w.heap.size n acc (.slice (some ⟨g, 0, none⟩) acc.length acc.length) w Wb.drew := hg2.out.below hg2.out.2.2.size (Below.refl _ _).drew
              have hSd := hIn.out Wb.drew hgd.2.2
              have hSa : Hid (∀ o : Obj, (Wb.drew.alloc o).cell? ⟨bq, oq + n * 2, none⟩ = some (.string x) ∧ (Wb.drew.alloc o).cell? ⟨bq, oq + n * 2 + 1, none⟩ = some (.string y)) := fun o => hIn.out _ (hgd.2.2.alloc hgd.2.2.size o)
              have HBox : Hid ((Wb.drew.alloc (.cells #[.string x, .string y] 138)).ownsRow w.heap.size 138 2 (.slice (some ⟨Wb.drew.heap.size, 0, none⟩) 1 1) 1 [.string x, .string y]) :=
                World.ownsRow_lit Wb.drew #[.string x, .string y] 1 hgd.2.2.size (by decide) rfl
              have hga := hgd.2.1.alloc (.cells #[.string x, .string y] 138)
              have H63b : Hid (acc.length + 1 ≤ maxLen) := by show _ ≤ _; unfold maxLen; omega
              have HByb : Hid ((acc.length + 1) * 32 ≤ 140737488355328) := by show _ ≤ _; omega
              have HNext : Hid (∀ (W1 : World), W1.ownsRow w.heap.size 138 2 (.slice (some ⟨Wb.drew.heap.size, 0, none⟩) 1 1) 1 [.string x, .string y] → (Wb.drew.alloc (.cells #[.string x, .string y] 138)).grownBy W1 (some Wb.drew.heap.size) →
                  W1.ownsRow w.heap.size 138 2 (.slice (some ⟨g, 0, none⟩) acc.length acc.length) acc.length (acc.flatMap pc) ∧ Below w.heap.size w W1 ∧ (∀ j u, [Value.string x, .string y][j]? = some u → W1.cell? ((⟨Wb.drew.heap.size, 0, none⟩ : Addr).add j) = some u)) := fun W1 ho hg => by
                refine ⟨hga.kept hg ?_, (hgd.2.2.alloc hgd.2.2.size _).grown hg (Nat.le_trans hgd.2.2.size (by simp)) (fun j hj => by cases hj; exact hgd.2.2.size), ho.cells rfl⟩
                right; show some g ≠ _; intro e; injection e with e; have := (hgd.2.1.lt g rfl).2; omega
              have HOne : Hid (∀ u ∈ [Value.string x, .string y], u.oneCell' = true) := ones2 [(x, y)]
              clear hgd hga hg2
              go_region_held3 (fun w' => w'.cell? ⟨bq, oq + n * 2, none⟩ = some (.string x) ∧ w'.cell? ⟨bq, oq + n * 2 + 1, none⟩ = some (.string y)) (first | exact hSd | exact hSa.out _ | exact hS1 | exact hS2)
                (first
                  | (refine step_append_lies _ (by rfl) (.tmp 59) (.tmp 68) 45 (by rfl) w.heap.size 138 i0 (.agg #[.string ByteArray.empty, .string ByteArray.empty]) 2 32 Tryz.underlying45 hi hz0 hz1 hz2 rfl (by decide) _ _ _ (by rfl) HP1.out.1 ⟨Wb.drew.heap.size, 0, none⟩ 1 1 [.string x, .string y] (by rfl) rfl HP1.out.2.2 HOne.out (by decide) H63b.out HByb.out HP1.out.2.1.size _ rfl ?_; intro g2 cp2 W2 hown2 hgrow2 hat2 hlt2; have hfin2 : Below w.heap.size w W2 := HP1.out.2.1.grown hgrow2 HP1.out.2.1.size (fun j hj => (HP1.out.1.lt j hj).1); have hS2 := hIn.out W2 hfin2; have hfin := Lib.hid (HFin.out _ _ hown2 hfin2); clear hown2 hgrow2 hat2 hlt2 hfin2)
                  | (refine step_append_zero _ (by rfl) (.tmp 64) (.tmp 67) 45 (by rfl) w.heap.size 138 i0 2 Tryz.underlying45 hi hz1 Wb.drew.heap.size 1 1 [.string x, .string y] (by rfl) HBox.out _ _ (by rfl) (by intro h; first | rfl | (exact absurd h (by simp))) ?_; intro W1 hown1 hgrow1; have HP1 := Lib.hid (HNext.out W1 hown1 hgrow1); have hS1 := hIn.out W1 HP1.out.2.1; clear hown1 hgrow1))
              go_wp2_with fail
              go_roundw
              case rel => exact ⟨n + 1, _, by omega, rfl, by go_num, hfin.out⟩
              case measure => simp [intOf]; omega
            · have hcuk : ¬ cu = acc.length := hcc
              go_wp2_with fail
              go_quiet (fail)
              have hg1 : Hid (GotP w.heap.size n acc (.slice (some ⟨g, 0, none⟩) acc.length cu) w (wr.drewN nq)) := hgw.out.below hgw.out.2.2.size (below_drewN (Below.refl _ _) nq)
              clear c0 hgw
              generalize wr.drewN nq = Wa at *
              go_wp2_with fail
              go_quiet (fail)
              have hg2 : Hid (GotP w.heap.size n acc (.slice (some ⟨g, 0, none⟩) acc.length cu) w (Wa.drewN nq)) := hg1.out.below hg1.out.2.2.size (below_drewN (Below.refl _ _) nq)
              clear hg1
              generalize Wa.drewN nq = Wb at *
              go_wp2_with fail
              have hgd : GotP w.heap.size n acc (.slice (some ⟨g, 0, none⟩) acc.length cu) w Wb.drew := hg2.out.below hg2.out.2.2.size (Below.refl _ _).drew
              have hSd := hIn.out Wb.drew hgd.2.2
              have hSa : Hid (∀ o : Obj, (Wb.drew.alloc o).cell? ⟨bq, oq + n * 2, none⟩ = some (.string x) ∧ (Wb.drew.alloc o).cell? ⟨bq, oq + n * 2 + 1, none⟩ = some (.string y)) := fun o => hIn.out _ (hgd.2.2.alloc hgd.2.2.size o)
              have HBox : Hid ((Wb.drew.alloc (.cells #[.string x, .string y] 138)).ownsRow w.heap.size 138 2 (.slice (some ⟨Wb.drew.heap.size, 0, none⟩) 1 1) 1 [.string x, .string y]) :=
                World.ownsRow_lit Wb.drew #[.string x, .string y] 1 hgd.2.2.size (by decide) rfl
              have hga := hgd.2.1.alloc (.cells #[.string x, .string y] 138)
              have H63b : Hid (acc.length + 1 ≤ maxLen) := by show _ ≤ _; unfold maxLen; omega
              have HByb : Hid ((acc.length + 1) * 32 ≤ 140737488355328) := by show _ ≤ _; omega
              have HNext : Hid (∀ (W1 : World), W1.ownsRow w.heap.size 138 2 (.slice (some ⟨Wb.drew.heap.size, 0, none⟩) 1 1) 1 [.string x, .string y] → (Wb.drew.alloc (.cells #[.string x, .string y] 138)).grownBy W1 (some Wb.drew.heap.size) →
                  W1.ownsRow w.heap.size 138 2 (.slice (some ⟨g, 0, none⟩) acc.length cu) acc.length (acc.flatMap pc) ∧ Below w.heap.size w W1 ∧ (∀ j u, [Value.string x, .string y][j]? = some u → W1.cell? ((⟨Wb.drew.heap.size, 0, none⟩ : Addr).add j) = some u)) := fun W1 ho hg => by
                refine ⟨hga.kept hg ?_, (hgd.2.2.alloc hgd.2.2.size _).grown hg (Nat.le_trans hgd.2.2.size (by simp)) (fun j hj => by cases hj; exact hgd.2.2.size), ho.cells rfl⟩
                right; show some g ≠ _; intro e; injection e with e; have := (hgd.2.1.lt g rfl).2; omega
              have HOne : Hid (∀ u ∈ [Value.string x, .string y], u.oneCell' = true) := ones2 [(x, y)]
              clear hgd hga hg2
              go_region_held3 (fun w' => w'.cell? ⟨bq, oq + n * 2, none⟩ = some (.string x) ∧ w'.cell? ⟨bq, oq + n * 2 + 1, none⟩ = some (.string y)) (first | exact hSd | exact hSa.out _ | exact hS1 | exact hS2)
                (first
                  | (refine step_append_lies _ (by rfl) (.tmp 59) (.tmp 68) 45 (by rfl) w.heap.size 138 i0 (.agg #[.string ByteArray.empty, .string ByteArray.empty]) 2 32 Tryz.underlying45 hi hz0 hz1 hz2 rfl (by decide) _ _ _ (by rfl) HP1.out.1 ⟨Wb.drew.heap.size, 0, none⟩ 1 1 [.string x, .string y] (by rfl) rfl HP1.out.2.2 HOne.out (by decide) H63b.out HByb.out HP1.out.2.1.size _ rfl ?_; intro g2 cp2 W2 hown2 hgrow2 hat2 hlt2; have hfin2 : Below w.heap.size w W2 := HP1.out.2.1.grown hgrow2 HP1.out.2.1.size (fun j hj => (HP1.out.1.lt j hj).1); have hS2 := hIn.out W2 hfin2; have hfin := Lib.hid (HFin.out _ _ hown2 hfin2); clear hown2 hgrow2 hat2 hlt2 hfin2)
                  | (refine step_append_zero _ (by rfl) (.tmp 64) (.tmp 67) 45 (by rfl) w.heap.size 138 i0 2 Tryz.underlying45 hi hz1 Wb.drew.heap.size 1 1 [.string x, .string y] (by rfl) HBox.out _ _ (by rfl) (by intro h; first | rfl | (exact absurd h (by simp))) ?_; intro W1 hown1 hgrow1; have HP1 := Lib.hid (HNext.out W1 hown1 hgrow1); have hS1 := hIn.out W1 HP1.out.2.1; clear hown1 hgrow1))
              go_wp2_with fail
              go_roundw
              case rel => exact ⟨n + 1, _, by omega, rfl, by go_num, hfin.out⟩
              case measure => simp [intOf]; omega
    · obtain rfl : n = L.length := by omega
      have hg2 := hgot.out
      rw [List.take_length] at hg2
      have hfin : Hid (FitOut L w (.returned u) wr) := ⟨u, rfl, hg2.2.1, hg2.2.2⟩
      clear hg2 hgot
      go_wp2_with fail
      go_ret
      exact hfin.out

end Go.Proofs.YtlolomodcbkblaaGreatDoor.Fp
