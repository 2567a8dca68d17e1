/- Spans: the reference's list of buckets: a bucket put in its place (spec.nativeAdd), walked. -/
import Derived.Test.YtlolomodcbkblaaGreatDoorMg1
import Derived.Deep.RegionHeld3
set_option linter.unusedVariables false
set_option linter.unusedSimpArgs false
namespace Go.Proofs.YtlolomodcbkblaaGreatDoor.Sp
open Go.RowKit Go.ChangeShapes Go.WideShapes Go.Deep Fp
attribute [local go_sem ↓] Go.wp_at_zero Go.wp_at_succ

abbrev N2 := Int × Int
def cc (p : N2) : List Value := [.int .i64 p.1, .int .i64 p.2]
theorem cc_len (p : N2) : (cc p).length = 2 := rfl
theorem infoC : (Tryz.prog.info? 143).map (fun i => (i.zero, i.size, i.bytes)) = some (some (.agg #[.int .i64 0, .int .i64 0]), 2, 16) := by kernel_rfl
def GotN (B n : Nat) (acc : List N2) (u : Value) (w w' : World) : Prop :=
  acc.length ≤ n ∧ w'.ownsRow B 143 2 u acc.length (acc.flatMap cc) ∧ Below B w w'
/-- a bucket in its place: the keys differ -/
def insN (p : N2) : List N2 → List N2
  | [] => [p]
  | q :: r => if q.1 < p.1 then q :: insN p r else p :: q :: r
theorem insN_end (p : N2) : ∀ (L : List N2), (∀ j (h : j < L.length), (L[j]).1 < p.1) → insN p L = L ++ [p]
  | [], _ => rfl
  | q :: r, h => by
    have h0 : q.1 < p.1 := h 0 (by simp)
    unfold insN
    rw [if_pos h0, insN_end p r (fun j hj => h (j + 1) (by simpa using hj))]
    rfl
theorem insN_at (p : N2) : ∀ (L : List N2) (k : Nat) (hk : k < L.length), (∀ j (h : j < L.length), j < k → (L[j]).1 < p.1) → ¬ (L[k]).1 < p.1 → insN p L = L.take k ++ p :: L.drop k
  | [], k, hk, _, _ => absurd hk (by simp)
  | q :: r, 0, _, _, h => by
    have h : ¬ q.1 < p.1 := h
    unfold insN
    rw [if_neg h]
    rfl
  | q :: r, k + 1, hk, hall, h => by
    have h0 : q.1 < p.1 := hall 0 (by simp) (by omega)
    unfold insN
    rw [if_pos h0, insN_at p r k (by simpa using hk) (fun j hj hjk => hall (j + 1) (by simpa using hj) (by omega)) h]
    rfl

section
variable {B e n k cu : Nat} {au : Option Addr} {acc : List N2} {w w' : World} {u : Value}
/-- the first k elements -/
theorem own_prefix (h : w.ownsRow B e 2 (.slice au n cu) n (acc.flatMap cc)) (hn : n = acc.length) (hk : k ≤ n) : w.ownsRow B e 2 (.slice au k cu) k ((acc.take k).flatMap cc) := by
  refine ⟨by rw [Ss.flat_len cc_len, List.length_take]; congr 1; omega, ?_⟩
  rcases h.2 with ⟨h1, h2⟩ | ⟨g, cap, cur, h1, h2, h3, h4, h5, h6, h7⟩
  · injection h1 with e1 e2 e3
    subst e1 e3
    have : k = 0 := by omega
    subst this
    exact Or.inl ⟨rfl, rfl⟩
  · injection h1 with e1 e2 e3
    subst e1 e3
    refine Or.inr ⟨g, cu, cur, rfl, h2, h3, by omega, h5, h6, ?_⟩
    have e : acc.flatMap cc = (acc.take k).flatMap cc ++ (acc.drop k).flatMap cc := by rw [← List.flatMap_append, List.take_append_drop]
    have hl : ((acc.take k).flatMap cc).length = k * 2 := by rw [Ss.flat_len cc_len, List.length_take]; congr 1; omega
    have h8 : (cur.toList.take (n * 2)).take (k * 2) = (acc.take k).flatMap cc := by
      rw [h7, e, List.take_append_of_le_length (by omega), List.take_of_length_le (by omega)]
    rw [List.take_take, show min (k * 2) (n * 2) = k * 2 by omega] at h8
    exact h8
/-- the cells from element k on -/
theorem own_from {g cap : Nat} (h : w.ownsRow B e 2 (.slice (some ⟨g, 0, none⟩) n cap) n (acc.flatMap cc)) (hk : k ≤ acc.length) : ∀ j u, ((acc.drop k).flatMap cc)[j]? = some u → w.cell? ((⟨g, k * 2, none⟩ : Addr).add j) = some u := by
  intro j u hu
  have e : acc.flatMap cc = (acc.take k).flatMap cc ++ (acc.drop k).flatMap cc := by rw [← List.flatMap_append, List.take_append_drop]
  have hl : ((acc.take k).flatMap cc).length = k * 2 := by rw [Ss.flat_len cc_len, List.length_take]; congr 1; omega
  have h1 : (acc.flatMap cc)[k * 2 + j]? = some u := by
    rw [e, List.getElem?_append_right (by omega), hl, show k * 2 + j - k * 2 = j by omega]
    exact hu
  have h2 := h.cells (g := g) rfl (k * 2 + j) u h1
  rw [Addr.add_lit] at h2 ⊢
  simpa using h2
theorem ones2 (zs : List N2) : ∀ u ∈ zs.flatMap cc, u.oneCell' = true := by
  intro u hu
  obtain ⟨c, _, hc⟩ := List.mem_flatMap.1 hu
  unfold cc at hc
  simp at hc
  rcases hc with rfl | rfl <;> rfl
end

theorem GotN.below {B n : Nat} {acc : List N2} {u : Value} {w W W' : World} (h : GotN B n acc u w W) (hs : B ≤ W.heap.size) (hb : Below W.heap.size W W') : GotN B n acc u w W' :=
  ⟨h.1, h.2.1.kept (row := none) ⟨hb.os, hb.tape, hb.output, hb.size, fun i hi _ => hb.block i hi⟩ (by cases u.ownBlock <;> simp), h.2.2.trans (hb.mono hs)⟩
theorem got_cells {B n cu k : Nat} {acc : List N2} {au : Option Addr} {w W : World} (h : GotN B n acc (.slice au acc.length cu) w W) (hk : k < acc.length) :
    ∃ g, au = some ⟨g, 0, none⟩ ∧ W.cell? ⟨g, k * 2, none⟩ = some (.int .i64 (acc[k]).1) ∧ W.cell? ⟨g, k * 2 + 1, none⟩ = some (.int .i64 (acc[k]).2) ∧ W.frozen? ⟨g, k * 2 + 1, none⟩ = false ∧ g < W.heap.size ∧ B ≤ g ∧ acc.length ≤ cu := by
  have ho := h.2.1
  rcases ho.2 with ⟨_, h0⟩ | ⟨g, cap, cur, hv, hB, hg, hn, hc, hs, ht⟩
  · omega
  · injection hv with h1 _ h3
    subst h1 h3
    have hlt := ho.lt g rfl
    have e0 := ho.cellAt (k * 2) (by omega)
    have e1 := ho.cellAt (k * 2 + 1) (by omega)
    have f0 := Ss.flat_get cc_len acc k hk 0 (by omega)
    have f1 := Ss.flat_get cc_len acc k hk 1 (by omega)
    exact ⟨g, rfl, e0.trans f0, e1.trans f1, ho.frozenAt _, hlt.2, hlt.1, hn⟩

def AddOut (B n : Nat) (acc : List N2) (p : N2) (w0 : World) (e : Ending) (w' : World) : Prop :=
  ∃ v, e = .returned v ∧ GotN B (n + 1) (insN p acc) v w0 w'

set_option maxHeartbeats 8000000 in
set_option maxRecDepth 100000 in
theorem add_any (B n : Nat) (acc : List N2) (x y : Int) (u : Value) (w0 w : World) (hB : B ≤ w.heap.size) (hgot : GotN B n acc u w0 w) (hn : n ≤ 2147483647) (hnk : ∀ q ∈ acc, q.1 ≠ x) :
    Calls Tryz.prog 100 #[u, .int .i64 x, .int .i64 y] w (AddOut B n acc (x, y) w0) := by
  obtain ⟨i0, hi, hz0, hz1, hz2⟩ := info_parts infoC
  obtain ⟨au, cu, rfl⟩ := row_slice2 hgot.2.1
  have hal := hgot.1
  have HG := Lib.hid hgot
  have HNk := Lib.hid hnk
  have hsz := hB
  clear hgot hnk hB
  go_enter Tryz.func100, Tryz.ntmps100
  go_wp2_with fail
  go_loopw [7] (fun vk wy => ∃ k : Nat, k ≤ acc.length ∧ vk = .int .i64 (k : Int) ∧ Hid (∀ j (h : j < acc.length), j < k → (acc[j]).1 < x) ∧ w = wy) (fun k _ => acc.length - (intOf k).toNat)
  case atStart => exact ⟨0, Nat.zero_le _, rfl, fun j h h' => absurd h' (Nat.not_lt_zero _), rfl⟩
  case round =>
    obtain ⟨k, hk, rfl, hall, rfl⟩ := hrel
    by_cases hlk : k < acc.length
    · obtain ⟨g, hau, e0, e1, e2, hgs, hBg, hcu⟩ := got_cells HG.out hlk
      subst hau
      have y1 : (0 : Int) ≤ (k : Int) := by omega
      have y2 : (k : Int) < (acc.length : Int) := by omega
      have hne := HNk.out _ (List.getElem_mem hlk)
      by_cases hbl : (acc[k]).1 < x
      · have hall2 : Hid (∀ j (h : j < acc.length), j < k + 1 → (acc[j]).1 < x) := by
          intro j h hj
          rcases Nat.lt_or_ge j k with h1 | h1
          · exact hall.out j h h1
          · have : j = k := by omega
            subst this
            exact hbl
        obtain ⟨q, hq⟩ : ∃ q, (acc[k]).1 = q := ⟨_, rfl⟩
        rw [hq] at e0 hbl hne
        clear e1 e2 hq hne
        go_wp2_with fail
        go_roundw
        case rel => exact ⟨k + 1, by omega, by go_num, hall2.out, by first | rfl | trivial⟩
        case measure => simp [intOf]; omega
      · have hat := insN_at (x, y) acc k hlk (fun j h hj => hall.out j h hj) hbl
        have HFin : Hid (∀ v2 w2, w2.ownsRow B 143 2 v2 (k + (1 + (acc.length - k))) ((acc.take k).flatMap cc ++ ([.int .i64 x, .int .i64 y] ++ (acc.drop k).flatMap cc)) → Below B w0 w2 → AddOut B n acc (x, y) w0 (.returned v2) w2) := fun v2 w2 ho hb => by
          refine ⟨v2, rfl, ?_⟩
          rw [hat]
          refine ⟨by simp; omega, ?_, hb⟩
          rw [List.flatMap_append, List.flatMap_cons, List.length_append, List.length_cons, List.length_take, List.length_drop]
          rw [show min k acc.length + (acc.length - k + 1) = k + (1 + (acc.length - k)) by omega]
          exact ho
        obtain ⟨q, hq⟩ : ∃ q, (acc[k]).1 = q := ⟨_, rfl⟩
        rw [hq] at e0 hbl hne
        have n1 : decide (q < x) = false := by rw [decide_eq_false_iff_not]; exact hbl
        have n2 : (q == x) = false := by rw [beq_eq_false_iff_ne]; exact hne
        clear e1 e2 hat hall hq
        go_wp2_with fail
        have hgd : GotN B n acc (.slice (some ⟨g, 0, none⟩) acc.length cu) w0 w.drew := HG.out.below hsz (Below.refl _ _).drew
        have hsD : B ≤ w.drew.heap.size := hsz
        have HBox : Hid ((w.drew.alloc (.cells #[.int .i64 x, .int .i64 y] 143)).ownsRow B 143 2 (.slice (some ⟨w.drew.heap.size, 0, none⟩) 1 1) 1 [.int .i64 x, .int .i64 y]) :=
          World.ownsRow_lit w.drew #[.int .i64 x, .int .i64 y] 1 hsD (by decide) rfl
        have hga := hgd.2.1.alloc (.cells #[.int .i64 x, .int .i64 y] 143)
        have HN1 := Lib.hid (own_from hga (show k ≤ acc.length by omega))
        have HL1 := Lib.hid (show ((acc.drop k).flatMap cc).length = (acc.length - k) * 2 by rw [Ss.flat_len cc_len, List.length_drop])
        have HM : Hid (0 < acc.length - k) := by show _ < _; omega
        have H63 : Hid (1 + (acc.length - k) ≤ maxLen) := by show _ ≤ _; unfold maxLen; omega
        have HBy : Hid ((1 + (acc.length - k)) * 16 ≤ 140737488355328) := by show _ ≤ _; omega
        have H63b : Hid (k + (1 + (acc.length - k)) ≤ maxLen) := by show _ ≤ _; unfold maxLen; omega
        have HByb : Hid ((k + (1 + (acc.length - k))) * 16 ≤ 140737488355328) := by show _ ≤ _; omega
        have HM2 : Hid (0 < 1 + (acc.length - k)) := by show _ < _; omega
        have HBase : Hid (B ≤ (w.drew.alloc (.cells #[.int .i64 x, .int .i64 y] 143)).heap.size) := Nat.le_trans hsD (by simp)
        have HNext : Hid (∀ (v1 : Value) (W1 : World), W1.ownsRow B 143 2 v1 (1 + (acc.length - k)) ([.int .i64 x, .int .i64 y] ++ (acc.drop k).flatMap cc) → (w.drew.alloc (.cells #[.int .i64 x, .int .i64 y] 143)).grownBy W1 (some w.drew.heap.size) →
            W1.ownsRow B 143 2 (.slice (some ⟨g, 0, none⟩) k cu) k ((acc.take k).flatMap cc) ∧ (Below B w0 W1 ∧ B ≤ W1.heap.size) ∧ (∀ ad m c, v1 = .slice (some ad) m c → ∀ j u, ([Value.int .i64 x, .int .i64 y] ++ (acc.drop k).flatMap cc)[j]? = some u → W1.cell? (ad.add j) = some u)) := fun v1 W1 ho hg => by
          have hne : g ≠ w.drew.heap.size := by have := (hgd.2.1.lt g rfl).2; omega
          refine ⟨own_prefix (hga.kept hg (Or.inr (by show some g ≠ _; intro e; injection e with e; exact hne e))) rfl (by omega), ⟨(hgd.2.2.alloc hsD _).grown hg (Nat.le_trans hsD (by simp)) (fun j hj => by cases hj; exact hsD), Nat.le_trans (Nat.le_trans hsD (by simp)) hg.size⟩, ?_⟩
          rintro ad m c rfl
          rcases ho.2 with ⟨h', _⟩ | ⟨g', cap', cur, h', _⟩
          · simp at h'
          · injection h' with h1 _ _
            injection h1 with h1
            subst h1
            exact ho.cells rfl
        have HL2 := Lib.hid (show ([Value.int .i64 x, .int .i64 y] ++ (acc.drop k).flatMap cc).length = (1 + (acc.length - k)) * 2 by rw [List.length_append, HL1.out]; simp; omega)
        have HOne : Hid (∀ u ∈ [Value.int .i64 x, .int .i64 y] ++ (acc.drop k).flatMap cc, u.oneCell' = true) := ones2 ((x, y) :: acc.drop k)
        have hcuk : ¬ cu = k := by omega
        have y3 : (k : Int) ≤ (cu : Int) := by omega
        have y4 : (k : Int) ≤ (acc.length : Int) := by omega
        have y5 : (acc.length : Int) ≤ (cu : Int) := by omega
        clear hgd hga
        go_region_held3 (fun _ => True) (first | exact trivial)
          (first
            | (refine step_append_lies _ (by rfl) (.tmp 48) (.tmp 56) 67 (by rfl) B 143 i0 (.agg #[.int .i64 0, .int .i64 0]) 2 16 Tryz.underlying67 hi hz0 hz1 hz2 rfl (by decide) _ _ _ (by rfl) HP1.out.1 ⟨g1, 0, none⟩ (1 + (acc.length - k)) cp1 ([.int .i64 x, .int .i64 y] ++ (acc.drop k).flatMap cc) (by rfl) HL2.out (HP1.out.2.2 _ _ _ rfl) HOne.out HM2.out H63b.out HByb.out HP1.out.2.1.2 _ rfl ?_; intro g2 cp2 W2 hown2 hgrow2 hat2 hlt2; have hfin2 : Below B w0 W2 := HP1.out.2.1.1.grown hgrow2 HP1.out.2.1.2 (fun j hj => (HP1.out.1.lt j hj).1); have hfin := Lib.hid (HFin.out _ _ hown2 hfin2); clear hown2 hgrow2 hat2 hlt2 hfin2)
            | (refine step_append_lies _ (by rfl) (.tmp 52) (.tmp 55) 67 (by rfl) B 143 i0 (.agg #[.int .i64 0, .int .i64 0]) 2 16 Tryz.underlying67 hi hz0 hz1 hz2 rfl (by decide) _ _ _ (by rfl) HBox.out ⟨g, k * 2, none⟩ (acc.length - k) (cu - k) ((acc.drop k).flatMap cc) (by rfl) HL1.out HN1.out (ones2 _) HM.out H63.out HBy.out HBase.out _ rfl ?_; intro g1 cp1 W1 hown1 hgrow1 hat1 hlt1; have HP1 := Lib.hid (HNext.out _ W1 hown1 hgrow1); clear hown1 hgrow1 hat1 hlt1))
        go_wp2_with fail
        go_ret
        exact hfin.out
    · obtain rfl : k = acc.length := by omega
      have hend := insN_end (x, y) acc (fun j h => hall.out j h h)
      have HFin : Hid (∀ v2 w2, w2.ownsRow B 143 2 v2 (acc.length + 1) (acc.flatMap cc ++ [.int .i64 x, .int .i64 y]) → Below B w0 w2 → AddOut B n acc (x, y) w0 (.returned v2) w2) := fun v2 w2 ho hb => by
        refine ⟨v2, rfl, ?_⟩
        rw [hend]
        refine ⟨by simp; omega, ?_, hb⟩
        rw [List.flatMap_append, List.length_append]
        exact ho
      have hshape : (au = none ∧ cu = 0 ∧ acc = []) ∨ ∃ g, au = some ⟨g, 0, none⟩ ∧ g < w.heap.size ∧ acc.length ≤ cu := by
        rcases HG.out.2.1.2 with ⟨h1, h2⟩ | ⟨g, cap, cur, h1, _, _, h4, _⟩
        · injection h1 with e1 e2 e3
          exact Or.inl ⟨e1, e3, List.length_eq_zero_iff.1 h2⟩
        · have hl := HG.out.2.1.lt
          injection h1 with e1 e2 e3
          subst e1 e3
          exact Or.inr ⟨g, rfl, (hl g rfl).2, h4⟩
      clear hend hall
      rcases hshape with ⟨rfl, rfl, rfl⟩ | ⟨g, rfl, hgs, hcu⟩
      · have y1 : (0 : Int) ≤ 0 := by omega
        go_wp2_with fail
        have hgd : GotN B n [] (.slice none 0 0) w0 w.drew := HG.out.below hsz (Below.refl _ _).drew
        have hsD : B ≤ w.drew.heap.size := hsz
        have HBox : Hid ((w.drew.alloc (.cells #[.int .i64 x, .int .i64 y] 143)).ownsRow B 143 2 (.slice (some ⟨w.drew.heap.size, 0, none⟩) 1 1) 1 [.int .i64 x, .int .i64 y]) :=
          World.ownsRow_lit w.drew #[.int .i64 x, .int .i64 y] 1 hsD (by decide) rfl
        have hga := hgd.2.1.alloc (.cells #[.int .i64 x, .int .i64 y] 143)
        have H63b : Hid (0 + 1 ≤ maxLen) := by show _ ≤ _; unfold maxLen; omega
        have HByb : Hid ((0 + 1) * 16 ≤ 140737488355328) := by show _ ≤ _; omega
        have HNext : Hid (∀ (W1 : World), W1.ownsRow B 143 2 (.slice (some ⟨w.drew.heap.size, 0, none⟩) 1 1) 1 [.int .i64 x, .int .i64 y] → (w.drew.alloc (.cells #[.int .i64 x, .int .i64 y] 143)).grownBy W1 (some w.drew.heap.size) →
            W1.ownsRow B 143 2 (.slice none 0 0) 0 ([]) ∧ (Below B w0 W1 ∧ B ≤ W1.heap.size) ∧ (∀ j u, [Value.int .i64 x, .int .i64 y][j]? = some u → W1.cell? ((⟨w.drew.heap.size, 0, none⟩ : Addr).add j) = some u)) := fun W1 ho hg => by
          refine ⟨hga.kept hg ?_, ⟨(hgd.2.2.alloc hsD _).grown hg (Nat.le_trans hsD (by simp)) (fun j hj => by cases hj; exact hsD), Nat.le_trans (Nat.le_trans hsD (by simp)) hg.size⟩, ho.cells rfl⟩
          left; rfl
        have HOne : Hid (∀ u ∈ [Value.int .i64 x, .int .i64 y], u.oneCell' = true) := ones2 [(x, y)]
        clear hgd hga
        go_region_held3 (fun _ => True) (first | exact trivial)
          (first
            | (refine step_append_lies _ (by rfl) (.tmp 48) (.tmp 56) 67 (by rfl) B 143 i0 (.agg #[.int .i64 0, .int .i64 0]) 2 16 Tryz.underlying67 hi hz0 hz1 hz2 rfl (by decide) _ _ _ (by rfl) HP1.out.1 ⟨w.drew.heap.size, 0, none⟩ 1 1 [.int .i64 x, .int .i64 y] (by rfl) rfl HP1.out.2.2 HOne.out (by decide) H63b.out HByb.out HP1.out.2.1.2 _ rfl ?_; intro g2 cp2 W2 hown2 hgrow2 hat2 hlt2; have hfin2 : Below B w0 W2 := HP1.out.2.1.1.grown hgrow2 HP1.out.2.1.2 (fun j hj => (HP1.out.1.lt j hj).1); have hfin := Lib.hid (HFin.out _ _ hown2 hfin2); clear hown2 hgrow2 hat2 hlt2 hfin2)
            | (refine step_append_zero _ (by rfl) (.tmp 52) (.tmp 55) 67 (by rfl) B 143 i0 2 Tryz.underlying67 hi hz1 w.drew.heap.size 1 1 [.int .i64 x, .int .i64 y] (by rfl) HBox.out none 0 (by rfl) (by intro h; first | rfl | (exact absurd h (by simp))) ?_; intro W1 hown1 hgrow1; have HP1 := Lib.hid (HNext.out W1 hown1 hgrow1); clear hown1 hgrow1))
        go_wp2_with fail
        go_ret
        exact hfin.out
      · have y3 : (acc.length : Int) ≤ (cu : Int) := by omega
        have y1 : (0 : Int) ≤ (acc.length : Int) := by omega
        by_cases hcc : cu = acc.length
        · subst hcc
          go_wp2_with fail
          have hgd : GotN B n acc (.slice (some ⟨g, 0, none⟩) acc.length acc.length) w0 w.drew := HG.out.below hsz (Below.refl _ _).drew
          have hsD : B ≤ w.drew.heap.size := hsz
          have HBox : Hid ((w.drew.alloc (.cells #[.int .i64 x, .int .i64 y] 143)).ownsRow B 143 2 (.slice (some ⟨w.drew.heap.size, 0, none⟩) 1 1) 1 [.int .i64 x, .int .i64 y]) :=
            World.ownsRow_lit w.drew #[.int .i64 x, .int .i64 y] 1 hsD (by decide) rfl
          have hga := hgd.2.1.alloc (.cells #[.int .i64 x, .int .i64 y] 143)
          have H63b : Hid (acc.length + 1 ≤ maxLen) := by show _ ≤ _; unfold maxLen; omega
          have HByb : Hid ((acc.length + 1) * 16 ≤ 140737488355328) := by show _ ≤ _; omega
          have HNext : Hid (∀ (W1 : World), W1.ownsRow B 143 2 (.slice (some ⟨w.drew.heap.size, 0, none⟩) 1 1) 1 [.int .i64 x, .int .i64 y] → (w.drew.alloc (.cells #[.int .i64 x, .int .i64 y] 143)).grownBy W1 (some w.drew.heap.size) →
              W1.ownsRow B 143 2 (.slice (some ⟨g, 0, none⟩) acc.length acc.length) acc.length (acc.flatMap cc) ∧ (Below B w0 W1 ∧ B ≤ W1.heap.size) ∧ (∀ j u, [Value.int .i64 x, .int .i64 y][j]? = some u → W1.cell? ((⟨w.drew.heap.size, 0, none⟩ : Addr).add j) = some u)) := fun W1 ho hg => by
            refine ⟨hga.kept hg ?_, ⟨(hgd.2.2.alloc hsD _).grown hg (Nat.le_trans hsD (by simp)) (fun j hj => by cases hj; exact hsD), Nat.le_trans (Nat.le_trans hsD (by simp)) hg.size⟩, ho.cells rfl⟩
            right; show some g ≠ _; intro e; injection e with e; have := (hgd.2.1.lt g rfl).2; omega
          have HOne : Hid (∀ u ∈ [Value.int .i64 x, .int .i64 y], u.oneCell' = true) := ones2 [(x, y)]
          clear hgd hga
          go_region_held3 (fun _ => True) (first | exact trivial)
            (first
              | (refine step_append_lies _ (by rfl) (.tmp 48) (.tmp 56) 67 (by rfl) B 143 i0 (.agg #[.int .i64 0, .int .i64 0]) 2 16 Tryz.underlying67 hi hz0 hz1 hz2 rfl (by decide) _ _ _ (by rfl) HP1.out.1 ⟨w.drew.heap.size, 0, none⟩ 1 1 [.int .i64 x, .int .i64 y] (by rfl) rfl HP1.out.2.2 HOne.out (by decide) H63b.out HByb.out HP1.out.2.1.2 _ rfl ?_; intro g2 cp2 W2 hown2 hgrow2 hat2 hlt2; have hfin2 : Below B w0 W2 := HP1.out.2.1.1.grown hgrow2 HP1.out.2.1.2 (fun j hj => (HP1.out.1.lt j hj).1); have hfin := Lib.hid (HFin.out _ _ hown2 hfin2); clear hown2 hgrow2 hat2 hlt2 hfin2)
              | (refine step_append_zero _ (by rfl) (.tmp 52) (.tmp 55) 67 (by rfl) B 143 i0 2 Tryz.underlying67 hi hz1 w.drew.heap.size 1 1 [.int .i64 x, .int .i64 y] (by rfl) HBox.out _ _ (by rfl) (by intro h; first | rfl | (exact absurd h (by simp))) ?_; intro W1 hown1 hgrow1; have HP1 := Lib.hid (HNext.out W1 hown1 hgrow1); clear hown1 hgrow1))
          go_wp2_with fail
          go_ret
          exact hfin.out
        · have hcuk : ¬ cu = acc.length := hcc
          go_wp2_with fail
          have hgd : GotN B n acc (.slice (some ⟨g, 0, none⟩) acc.length cu) w0 w.drew := HG.out.below hsz (Below.refl _ _).drew
          have hsD : B ≤ w.drew.heap.size := hsz
          have HBox : Hid ((w.drew.alloc (.cells #[.int .i64 x, .int .i64 y] 143)).ownsRow B 143 2 (.slice (some ⟨w.drew.heap.size, 0, none⟩) 1 1) 1 [.int .i64 x, .int .i64 y]) :=
            World.ownsRow_lit w.drew #[.int .i64 x, .int .i64 y] 1 hsD (by decide) rfl
          have hga := hgd.2.1.alloc (.cells #[.int .i64 x, .int .i64 y] 143)
          have H63b : Hid (acc.length + 1 ≤ maxLen) := by show _ ≤ _; unfold maxLen; omega
          have HByb : Hid ((acc.length + 1) * 16 ≤ 140737488355328) := by show _ ≤ _; omega
          have HNext : Hid (∀ (W1 : World), W1.ownsRow B 143 2 (.slice (some ⟨w.drew.heap.size, 0, none⟩) 1 1) 1 [.int .i64 x, .int .i64 y] → (w.drew.alloc (.cells #[.int .i64 x, .int .i64 y] 143)).grownBy W1 (some w.drew.heap.size) →
              W1.ownsRow B 143 2 (.slice (some ⟨g, 0, none⟩) acc.length cu) acc.length (acc.flatMap cc) ∧ (Below B w0 W1 ∧ B ≤ W1.heap.size) ∧ (∀ j u, [Value.int .i64 x, .int .i64 y][j]? = some u → W1.cell? ((⟨w.drew.heap.size, 0, none⟩ : Addr).add j) = some u)) := fun W1 ho hg => by
            refine ⟨hga.kept hg ?_, ⟨(hgd.2.2.alloc hsD _).grown hg (Nat.le_trans hsD (by simp)) (fun j hj => by cases hj; exact hsD), Nat.le_trans (Nat.le_trans hsD (by simp)) hg.size⟩, ho.cells rfl⟩
            right; show some g ≠ _; intro e; injection e with e; have := (hgd.2.1.lt g rfl).2; omega
          have HOne : Hid (∀ u ∈ [Value.int .i64 x, .int .i64 y], u.oneCell' = true) := ones2 [(x, y)]
          clear hgd hga
          go_region_held3 (fun _ => True) (first | exact trivial)
            (first
              | (refine step_append_lies _ (by rfl) (.tmp 48) (.tmp 56) 67 (by rfl) B 143 i0 (.agg #[.int .i64 0, .int .i64 0]) 2 16 Tryz.underlying67 hi hz0 hz1 hz2 rfl (by decide) _ _ _ (by rfl) HP1.out.1 ⟨w.drew.heap.size, 0, none⟩ 1 1 [.int .i64 x, .int .i64 y] (by rfl) rfl HP1.out.2.2 HOne.out (by decide) H63b.out HByb.out HP1.out.2.1.2 _ rfl ?_; intro g2 cp2 W2 hown2 hgrow2 hat2 hlt2; have hfin2 : Below B w0 W2 := HP1.out.2.1.1.grown hgrow2 HP1.out.2.1.2 (fun j hj => (HP1.out.1.lt j hj).1); have hfin := Lib.hid (HFin.out _ _ hown2 hfin2); clear hown2 hgrow2 hat2 hlt2 hfin2)
              | (refine step_append_zero _ (by rfl) (.tmp 52) (.tmp 55) 67 (by rfl) B 143 i0 2 Tryz.underlying67 hi hz1 w.drew.heap.size 1 1 [.int .i64 x, .int .i64 y] (by rfl) HBox.out _ _ (by rfl) (by intro h; first | rfl | (exact absurd h (by simp))) ?_; intro W1 hown1 hgrow1; have HP1 := Lib.hid (HNext.out W1 hown1 hgrow1); clear hown1 hgrow1))
          go_wp2_with fail
          go_ret
          exact hfin.out

end Go.Proofs.YtlolomodcbkblaaGreatDoor.Sp
