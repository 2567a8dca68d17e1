/- Spans: small walks: lists of buckets and of runs converted. -/
import Derived.Test.YtkmfedmiaannfaaSpf
set_option linter.unusedVariables false
set_option linter.unusedSimpArgs false
namespace Go.Proofs.Ytkmfedmiaannfaa.Sp
open Go.RowKit Go.ChangeShapes Go.WideShapes Go.Deep Fp

/-- a run: offset, length -/
def rc (p : N2) : List Value := [.int .i32 p.1, .int .u32 p.2]
theorem rc_len (p : N2) : (rc p).length = 2 := rfl
theorem infoIC : (Try.prog.info? 75).map (fun i => (i.zero, i.size, i.bytes)) = some (some (.agg #[.int .i64 0, .int .i64 0]), 2, 16) := by kernel_rfl
theorem infoR : (Try.prog.info? 123).map (fun i => (i.zero, i.size, i.bytes)) = some (some (.agg #[.int .i32 0, .int .u32 0]), 2, 8) := by kernel_rfl
theorem infoIR : (Try.prog.info? 126).map (fun i => (i.zero, i.size, i.bytes)) = some (some (.agg #[.int .i32 0, .int .u32 0]), 2, 8) := by kernel_rfl
theorem ones_r (zs : List N2) : ∀ u ∈ zs.flatMap rc, u.oneCell' = true := by
  intro u hu
  obtain ⟨c, _, hc⟩ := List.mem_flatMap.1 hu
  unfold rc at hc
  simp at hc
  rcases hc with rfl | rfl <;> rfl
/-- a list made: elements of type e -/
def GotT (c : N2 → List Value) (e B n : Nat) (acc : List N2) (u : Value) (w w' : World) : Prop :=
  acc.length ≤ n ∧ w'.ownsRow B e 2 u acc.length (acc.flatMap c) ∧ Below B w w'
theorem GotT.below {c : N2 → List Value} {e B n : Nat} {acc : List N2} {u : Value} {w W W' : World} (h : GotT c e B n acc u w W) (hs : B ≤ W.heap.size) (hb : Below W.heap.size W W') : GotT c e B n acc u w W' :=
  ⟨h.1, h.2.1.kept (row := none) ⟨hb.os, hb.tape, hb.output, hb.size, fun i hi _ => hb.block i hi⟩ (by cases u.ownBlock <;> simp), h.2.2.trans (hb.mono hs)⟩
theorem GotT.app {c : N2 → List Value} {e B n : Nat} {acc : List N2} {u v : Value} {p : N2} {w w' wy : World} {o : Obj} (h : GotT c e B n acc u w w') (hs : B ≤ w'.heap.size) (ho : wy.ownsRow B e 2 v (acc.length + 1) (acc.flatMap c ++ c p)) (hg : (w'.alloc o).grownBy wy u.ownBlock) : GotT c e B (n + 1) (acc ++ [p]) v w wy := by
  refine ⟨by have := h.1; simp; omega, ?_, (h.2.2.alloc hs o).grown hg (by simp; omega) (fun j hj => (h.2.1.lt j hj).1)⟩
  rw [List.length_append, List.flatMap_append]
  simpa using ho
theorem pair_of {c : N2 → List Value} {f g : Int → Value} (hc : ∀ p, c p = [f p.1, g p.2]) {w : World} {a : Option Addr} {n cap : Nat} {L : List N2} (h : Ss.Of 2 c w (.slice a n cap) L) {k : Nat} (hk : k < L.length) :
    ∃ b off, a = some ⟨b, off, none⟩ ∧ b < w.heap.size ∧ w.cell? ⟨b, off + k * 2, none⟩ = some (f (L[k]).1) ∧ w.cell? ⟨b, off + k * 2 + 1, none⟩ = some (g (L[k]).2) := by
  rcases h with ⟨rfl, _⟩ | ⟨b, off, cap, h, h0, hcap, hm, hbb, hcell⟩
  · simp at hk
  · injection h with h1 h2 h3
    exact ⟨b, off, h1, hbb, hcell k hk 0 _ (by rw [hc]; rfl), by rw [Nat.add_assoc]; exact hcell k hk 1 _ (by rw [hc]; rfl)⟩

def ListOut (c : N2 → List Value) (L : List N2) (w : World) (e : Ending) (w' : World) : Prop := ∃ v, e = .returned v ∧ Ss.Of 2 c w' v L ∧ Below w.heap.size w w'
set_option maxHeartbeats 1000000 in
set_option maxRecDepth 100000 in
theorem cellTo_any (x y : Int) (w : World) :
    Calls Try.prog 64 #[.agg #[.int .i64 x, .int .i64 y]] w fun e w' => e = .returned (.agg #[.int .i64 x, .int .i64 y]) ∧ Below w.heap.size w w' := by
  go_enter Try.func64, Try.ntmps64
  go_wp2
  exact bodyPost_ret (v := .agg #[.int .i64 x, .int .i64 y]) (by simp [results, Try.results64, go_sem]) rfl ⟨rfl, ((Below.refl _ _).alloc (Nat.le_refl _) _).alloc (by simp) _⟩

set_option maxHeartbeats 4000000 in
set_option maxRecDepth 100000 in
theorem cellsTo_any (L : List N2) (v : Value) (w : World) (hof : Ss.Of 2 cc w v L) (hL : L.length ≤ 2147483647) :
    Calls Try.prog 34 #[v] w (ListOut cc L w) := by
  obtain ⟨i0, hi, hz0, hz1, hz2⟩ := info_parts infoIC
  obtain ⟨av, cv, rfl, _, _⟩ := hof.slice
  have HOf := Lib.hid hof
  have HG0 : Hid (GotT cc 75 w.heap.size 0 [] (.slice none 0 0) w w) := ⟨Nat.le_refl _, World.ownsRow_nil _ _ _ _, Below.refl _ _⟩
  clear hof
  go_enter Try.func34, Try.ntmps34
  go_wp2_with fail
  go_loopw [3, 4] (fun vu vk wr => ∃ (k : Nat) (u : Value), k ≤ L.length ∧ u = vu ∧ vk = .int .i64 (k : Int) ∧ Hid (GotT cc 75 w.heap.size k (L.take k) u w wr)) (fun _ k _ => L.length - (intOf k).toNat)
  case atStart => exact ⟨0, _, Nat.zero_le _, rfl, rfl, HG0.out⟩
  case round =>
    obtain ⟨k, u, hk, rfl, rfl, hgot⟩ := hrel
    by_cases hlt : k < L.length
    · obtain ⟨b, off, hav, hb, d0, d1⟩ := pair_of (c := cc) (f := .int .i64) (g := .int .i64) (fun _ => rfl) HOf.out hlt
      have htk : L.take (k + 1) = L.take k ++ [L[k]] := List.take_succ_eq_append_getElem hlt
      subst hav
      obtain ⟨x, y, hxy⟩ : ∃ x y, L[k] = (x, y) := ⟨_, _, rfl⟩
      obtain ⟨acc, hacc⟩ : ∃ acc, L.take k = acc := ⟨_, rfl⟩
      rw [hxy] at d0 d1 htk
      rw [hacc] at hgot htk
      have hbw := hgot.out.2.2
      have hal := hgot.out.1
      have hsz : w.heap.size ≤ wr.heap.size := hbw.size
      have c0 : wr.cell? ⟨b, off + k * 2, none⟩ = some (.int .i64 x) := by rw [hbw.cell (p := ⟨b, off + k * 2, none⟩) hb]; exact d0
      have c1 : wr.cell? ⟨b, off + k * 2 + 1, none⟩ = some (.int .i64 y) := by rw [hbw.cell (p := ⟨b, off + k * 2 + 1, none⟩) hb]; exact d1
      have z1 : (0 : Int) ≤ (k : Int) := by omega
      have z2 : (k : Int) < (L.length : Int) := by omega
      obtain ⟨au, cu, rfl⟩ := row_slice2 hgot.out.2.1
      have HTk := Lib.hid htk
      clear d0 d1 hxy hbw htk hacc
      go_wp2_with fail
      refine (cellTo_any x y wr).mono ?_
      rintro e w1 ⟨rfl, hb1⟩
      have hg1 : Hid (GotT cc 75 w.heap.size k acc (.slice au acc.length cu) w w1) := hgot.out.below hsz hb1
      have hs1 : w.heap.size ≤ w1.heap.size := Nat.le_trans hsz hb1.size
      have HNews := Lib.hid (Ss.news_one w1 #[.int .i64 x, .int .i64 y] 75)
      clear hb1 hgot c0 c1
      go_wp2_with (first
        | (at_builtin; refine wpList_append_own_at _ rfl _ _ 69 rfl w.heap.size 75 i0 (.agg #[.int .i64 0, .int .i64 0]) 2 16 Try.underlying69 hi hz0 hz1 hz2 rfl (by decide) _ _ _ rfl (hg1.out.2.1.alloc _) ⟨w1.heap.size, 0, none⟩ 1 1 [.int .i64 x, .int .i64 y] rfl rfl (by simpa using HNews.out) (ones2 [(x, y)]) (by unfold maxLen; omega) (by omega) (by simp; omega) ?_; intro v2 W4 hown2 hgrow2 hnil2 hloc2; have hg3 : Hid (GotT cc 75 w.heap.size (k + 1) (L.take (k + 1)) v2 w W4) := (by show GotT cc 75 _ _ _ _ _ _; rw [HTk.out]; exact hg1.out.app hs1 hown2 hgrow2); clear hown2 hgrow2 hnil2 hloc2))
      go_roundw
      case rel => exact ⟨k + 1, _, by omega, rfl, by go_num, hg3.out⟩
      case measure => simp [intOf]; omega
    · obtain rfl : k = L.length := by omega
      have hg2 := hgot.out
      rw [List.take_length] at hg2
      have hfin : Hid (ListOut cc L w (.returned u) wr) := ⟨u, rfl, Ss.Of.own cc_len hg2.2.1, hg2.2.2⟩
      clear hg2 hgot
      go_wp2_with fail
      go_ret
      exact hfin.out

set_option maxHeartbeats 1000000 in
set_option maxRecDepth 100000 in
theorem runTo_any (x y : Int) (w : World) :
    Calls Try.prog 65 #[.agg #[.int .i32 x, .int .u32 y]] w fun e w' => e = .returned (.agg #[.int .i32 x, .int .u32 y]) ∧ Below w.heap.size w w' := by
  go_enter Try.func65, Try.ntmps65
  go_wp2
  exact bodyPost_ret (v := .agg #[.int .i32 x, .int .u32 y]) (by simp [results, Try.results65, go_sem]) rfl ⟨rfl, ((Below.refl _ _).alloc (Nat.le_refl _) _).alloc (by simp) _⟩

set_option maxHeartbeats 4000000 in
set_option maxRecDepth 100000 in
theorem runsTo_any (L : List N2) (v : Value) (w : World) (hof : Ss.Of 2 rc w v L) (hL : L.length ≤ 2147483647) :
    Calls Try.prog 36 #[v] w (ListOut rc L w) := by
  obtain ⟨i0, hi, hz0, hz1, hz2⟩ := info_parts infoR
  obtain ⟨av, cv, rfl, _, _⟩ := hof.slice
  have HOf := Lib.hid hof
  have HG0 : Hid (GotT rc 123 w.heap.size 0 [] (.slice none 0 0) w w) := ⟨Nat.le_refl _, World.ownsRow_nil _ _ _ _, Below.refl _ _⟩
  clear hof
  go_enter Try.func36, Try.ntmps36
  go_wp2_with fail
  go_loopw [3, 4] (fun vu vk wr => ∃ (k : Nat) (u : Value), k ≤ L.length ∧ u = vu ∧ vk = .int .i64 (k : Int) ∧ Hid (GotT rc 123 w.heap.size k (L.take k) u w wr)) (fun _ k _ => L.length - (intOf k).toNat)
  case atStart => exact ⟨0, _, Nat.zero_le _, rfl, rfl, HG0.out⟩
  case round =>
    obtain ⟨k, u, hk, rfl, rfl, hgot⟩ := hrel
    by_cases hlt : k < L.length
    · obtain ⟨b, off, hav, hb, d0, d1⟩ := pair_of (c := rc) (f := .int .i32) (g := .int .u32) (fun _ => rfl) HOf.out hlt
      have htk : L.take (k + 1) = L.take k ++ [L[k]] := List.take_succ_eq_append_getElem hlt
      subst hav
      obtain ⟨x, y, hxy⟩ : ∃ x y, L[k] = (x, y) := ⟨_, _, rfl⟩
      obtain ⟨acc, hacc⟩ : ∃ acc, L.take k = acc := ⟨_, rfl⟩
      rw [hxy] at d0 d1 htk
      rw [hacc] at hgot htk
      have hbw := hgot.out.2.2
      have hal := hgot.out.1
      have hsz : w.heap.size ≤ wr.heap.size := hbw.size
      have c0 : wr.cell? ⟨b, off + k * 2, none⟩ = some (.int .i32 x) := by rw [hbw.cell (p := ⟨b, off + k * 2, none⟩) hb]; exact d0
      have c1 : wr.cell? ⟨b, off + k * 2 + 1, none⟩ = some (.int .u32 y) := by rw [hbw.cell (p := ⟨b, off + k * 2 + 1, none⟩) hb]; exact d1
      have z1 : (0 : Int) ≤ (k : Int) := by omega
      have z2 : (k : Int) < (L.length : Int) := by omega
      obtain ⟨au, cu, rfl⟩ := row_slice2 hgot.out.2.1
      have HTk := Lib.hid htk
      clear d0 d1 hxy hbw htk hacc
      go_wp2_with fail
      refine (runTo_any x y wr).mono ?_
      rintro e w1 ⟨rfl, hb1⟩
      have hg1 : Hid (GotT rc 123 w.heap.size k acc (.slice au acc.length cu) w w1) := hgot.out.below hsz hb1
      have hs1 : w.heap.size ≤ w1.heap.size := Nat.le_trans hsz hb1.size
      have HNews := Lib.hid (Ss.news_one w1 #[.int .i32 x, .int .u32 y] 123)
      clear hb1 hgot c0 c1
      go_wp2_with (first
        | (at_builtin; refine wpList_append_own_at _ rfl _ _ 73 rfl w.heap.size 123 i0 (.agg #[.int .i32 0, .int .u32 0]) 2 8 Try.underlying73 hi hz0 hz1 hz2 rfl (by decide) _ _ _ rfl (hg1.out.2.1.alloc _) ⟨w1.heap.size, 0, none⟩ 1 1 [.int .i32 x, .int .u32 y] rfl rfl (by simpa using HNews.out) (ones_r [(x, y)]) (by unfold maxLen; omega) (by omega) (by simp; omega) ?_; intro v2 W4 hown2 hgrow2 hnil2 hloc2; have hg3 : Hid (GotT rc 123 w.heap.size (k + 1) (L.take (k + 1)) v2 w W4) := (by show GotT rc 123 _ _ _ _ _ _; rw [HTk.out]; exact hg1.out.app hs1 hown2 hgrow2); clear hown2 hgrow2 hnil2 hloc2))
      go_roundw
      case rel => exact ⟨k + 1, _, by omega, rfl, by go_num, hg3.out⟩
      case measure => simp [intOf]; omega
    · obtain rfl : k = L.length := by omega
      have hg2 := hgot.out
      rw [List.take_length] at hg2
      have hfin : Hid (ListOut rc L w (.returned u) wr) := ⟨u, rfl, Ss.Of.own rc_len hg2.2.1, hg2.2.2⟩
      clear hg2 hgot
      go_wp2_with fail
      go_ret
      exact hfin.out

end Go.Proofs.Ytkmfedmiaannfaa.Sp
