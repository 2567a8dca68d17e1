/- FnReBucketKeeps: the walks of the thin package's ReBucket, and of the powers. -/
import Derived.Test.YtaglcklbngoknaaRebC
set_option linter.unusedVariables false
set_option linter.unusedSimpArgs false
namespace Go.Proofs.Ytaglcklbngoknaa.ReBucketKeeps
open Go.RowKit Plf

set_option maxHeartbeats 4000000 in
set_option maxRecDepth 100000 in
theorem door_any (b off cap : Nat) (l : List Nat) (base : Nat) (hbase : Fac base) (w : World) (h0 : 0 < l.length) (hcap : l.length ≤ cap) (hm : cap ≤ 9223372036854775807) (hb : b < w.heap.size)
    (hcell : ∀ i (h : i < l.length), w.cell? ⟨b, off + i, none⟩ = some (.float .f64 l[i])) (hp : ∀ z ∈ l, Pos z) (hl : l.length ≤ 2147483647) :
    Calls Try.prog 35 #[.slice (some ⟨b, off, none⟩) l.length cap, .float .f64 base] w (Kept base l w) := by
  have H := Lib.hid (exp_any b off cap l base hbase w h0 hcap hm hb hcell hp hl)
  clear hcell hp hbase
  go_enter Try.func35, Try.ntmps35
  go_wp2_with fail
  refine H.out.mono ?_
  rintro e w1 ⟨v', rfl, hv, b1⟩
  have HV := Lib.hid hv
  clear hv
  have hex : ∃ ao n c, v' = .slice ao n c := by
    rcases HV.out with ⟨_, a, cap, h, _⟩ | ⟨b, off, cap, h, _⟩
    · exact ⟨_, _, _, h⟩
    · exact ⟨_, _, _, h⟩
  obtain ⟨ao, n, c, hu⟩ := hex
  subst hu
  go_wp2
  go_ret
  exact ⟨_, rfl, HV.out, b1⟩

/-- rebucketed, if there are two bounds or more; else nothing -/
def Two (base : Nat) (l : List Nat) (w : World) (e : Ending) (w' : World) : Prop :=
  ∃ v', e = .returned v' ∧ Sl.Of (Value.float .f64) w' v' (if l.length < 2 then [] else rebucket base l) ∧ Below w.heap.size w w'

set_option maxHeartbeats 4000000 in
set_option maxRecDepth 100000 in
theorem impl_any (v : Value) (l : List Nat) (base : Nat) (hbase : Fac base) (w : World) (hv : Sl.Of (Value.float .f64) w v l) (hp : ∀ z ∈ l, Pos z) (hl : l.length ≤ 2147483647) :
    Calls Try.prog 18 #[v, .float .f64 base] w (Two base l w) := by
  obtain ⟨i0, hi, hz0, hz1, hz2⟩ := info_parts infoF
  by_cases h2 : l.length < 2
  · have hex : ∃ a cap, v = .slice a l.length cap := by
      rcases hv with ⟨h0, a, cap, h, hc⟩ | ⟨b, off, cap, h, _⟩
      · exact ⟨a, cap, by rw [h, h0]; rfl⟩
      · exact ⟨_, _, h⟩
    obtain ⟨a, cap, rfl⟩ := hex
    have h2' : (l.length : Int) < 2 := by omega
    clear hp hbase hv
    go_enter Try.func18, Try.ntmps18
    go_wp2
    go_ret
    refine ⟨_, rfl, ?_, Below.refl _ _⟩
    rw [if_pos h2]
    exact Or.inl ⟨rfl, none, 0, rfl, by omega⟩
  · rcases hv with ⟨h0, a, cap, h, hc⟩ | ⟨b, off, cap, rfl, h0, hcap, hm, hb, hcell⟩
    · rw [h0] at h2; simp at h2
    have hcm : ∀ j u, (l.map (Value.float .f64))[j]? = some u → w.cell? ((⟨b, off, none⟩ : Addr).add j) = some u := by
      intro j u hj
      rw [List.getElem?_map] at hj
      cases hjl : l[j]? with
      | none => rw [hjl] at hj; cases hj
      | some z =>
        rw [hjl] at hj
        obtain ⟨hjl', rfl⟩ := List.getElem?_eq_some_iff.1 hjl
        have := hcell j hjl'
        rw [Addr.add_lit, this]
        exact hj
    have HM := Lib.hid hcm
    have HB := Lib.hid hbase
    have HP := Lib.hid hp
    clear hcm hcell hbase hp
    have h2' : ¬ (l.length : Int) < 2 := by omega
    go_enter Try.func18, Try.ntmps18
    go_wp2_with (at_builtin; refine wpList_append_own _ rfl _ _ 22 rfl w.heap.size 23 i0 (.float .f64 0) 1 8 Try.underlying22 hi hz0 hz1 hz2 rfl (by decide) _ _ _ rfl (World.ownsRow_nil _ _ _ _) ⟨b, off, none⟩ l.length cap (l.map (Value.float .f64)) rfl (by simp) HM.out ?c2 ?c3 ?c4 ?c5 ?_)
    all_goals try (first | (intro a _; rfl) | (intro u hu; obtain ⟨z, _, rfl⟩ := List.mem_map.1 hu; rfl) | (unfold maxLen; omega) | omega)
    intro v' w2 hown3 hgrow _
    have hown4 : w2.ownsRow w.heap.size 23 1 v' l.length (l.map (Value.float .f64)) := by simpa using hown3
    have hbw : Below w.heap.size w w2 := (Below.refl _ w).grown hgrow (Nat.le_refl _) (fun j hj => by simp [Value.ownBlock] at hj)
    have hsl := Sl.Of.own hown4
    clear hown3 hgrow hown4
    rcases hsl with ⟨hx, _⟩ | ⟨g, off', cap', rfl, h0', hcap', hm', hb', hcell'⟩
    · rw [hx] at h0; simp at h0
    have HC := Lib.hid hcell'
    clear hcell'
    go_wp2_with fail
    refine (door_any g off' cap' l base HB.out w2 h0 hcap' hm' hb' HC.out HP.out hl).mono ?_
    rintro e w3 ⟨v', rfl, hv, b1⟩
    have HV := Lib.hid hv
    clear hv
    have hex : ∃ ao n c, v' = .slice ao n c := by
      rcases HV.out with ⟨_, a, cap, h, _⟩ | ⟨b, off, cap, h, _⟩
      · exact ⟨_, _, _, h⟩
      · exact ⟨_, _, _, h⟩
    obtain ⟨ao, n, c, hu⟩ := hex
    subst hu
    go_wp2
    go_ret
    refine ⟨_, rfl, ?_, hbw.trans (b1.mono hbw.size)⟩
    rw [if_neg h2]
    exact HV.out

/-- the row of powers when i of them are written -/
def rowAt (b k n i : Nat) : List Value := (List.range n).map (fun j => Value.float .f64 (if j < i then pow b k j else 0))
theorem rowAt_zero (b k n : Nat) : (madeCells (Value.float .f64 0).cells (n * 1)).toList = rowAt b k n 0 := by
  have := toList_madeCells_one (.float .f64 0) (n * 1)
  show (madeCells #[.float .f64 0] (n * 1)).toList = _
  rw [this, Nat.mul_one]
  unfold rowAt
  apply List.ext_getElem?
  intro j
  by_cases hj : j < n <;> simp [hj]
theorem rowAt_next (b k n i : Nat) : (rowAt b k n i).set i (.float .f64 (pow b k i)) = rowAt b k n (i + 1) := by
  unfold rowAt
  apply List.ext_getElem?
  intro j
  rw [List.getElem?_set]
  by_cases hj : i = j
  · subst hj
    by_cases hn : i < n <;> simp [hn]
  · rw [if_neg hj]
    by_cases hn : j < n
    · have : (j < i + 1) ↔ j < i := by omega
      simp [hn, this]
    · simp [hn]
theorem rowAt_all (b k n : Nat) : rowAt b k n n = (pows b k n).map (Value.float .f64) := by
  rw [pows_eq, rowAt, List.map_map]
  apply List.map_congr_left
  intro j hj
  have := List.mem_range.1 hj
  simp [this]
theorem rowAt_cell (b k n i j : Nat) (h : j < n) : (rowAt b k n i)[j]? = some (.float .f64 (if j < i then pow b k j else 0)) := by
  unfold rowAt; simp [h]

-- n powers of b in new memory
set_option maxHeartbeats 4000000 in
set_option maxRecDepth 100000 in
theorem pows_any (k b : Nat) (n : Nat) (hk : Pos k) (hb : Fac b) (hk1 : (D.order k 0 == some .lt || D.order k 0 == some .eq) = false) (hb1 : (D.order b 4607182418800017408 == some .lt || D.order b 4607182418800017408 == some .eq) = false) (h1 : 1 ≤ n) (hn : n ≤ 1000) (w : World) :
    Calls Try.prog 33 #[.float .f64 k, .float .f64 b, .int .i64 n] w fun e w' => ∃ g, e = .returned (.slice (some ⟨g, 0, none⟩) n n) ∧ w'.ownsRow w.heap.size 23 1 (.slice (some ⟨g, 0, none⟩) n n) n ((pows b k n).map (Value.float .f64)) ∧ Below w.heap.size w w' := by
  obtain ⟨i0, hi, hz0, hz1, hz2⟩ := info_parts infoF
  obtain ⟨W, hmk, hrow, hgr⟩ := run_make_full (P := Try.prog) w w.heap.size 22 23 i0 (.float .f64 0) 1 Try.underlying22 hi hz0 hz1 .i64 .i64 n (by rw [hz2]; omega) (by unfold maxLen; omega) (Nat.le_refl _)
  have hk1' : (FloatKind.f64.format.order k 0 == some .lt || FloatKind.f64.format.order k 0 == some .eq) = false := hk1
  have hb1' : (FloatKind.f64.format.order b 4607182418800017408 == some .lt || FloatKind.f64.format.order b 4607182418800017408 == some .eq) = false := hb1
  have HK := Lib.hid hk
  have HB := Lib.hid hb
  have HR := Lib.hid hrow
  have hbel : Below w.heap.size w W := (Below.refl _ w).grown hgr (Nat.le_refl _) (fun j hj => by cases hj)
  clear hk hb hrow hgr hk1 hb1
  go_enter Try.func33, Try.ntmps33
  go_wp2
  go_loopw [0, 22] (fun s x wr => ∃ i : Nat, i ≤ n ∧ x = .int .i64 i ∧ s = .float .f64 (pow b k i) ∧ Hid (wr.ownsRow w.heap.size 23 1 (.slice (some ⟨w.heap.size, 0, none⟩) n n) n (rowAt b k n i)) ∧ Below w.heap.size w wr) (fun _ x _ => n - (intOf x).toNat)
  case atStart =>
    refine ⟨0, Nat.zero_le _, rfl, rfl, ?_, hbel⟩
    have := HR.out
    rw [rowAt_zero b k n] at this
    exact this
  case round =>
    obtain ⟨i, hi2, rfl, rfl, hown, hbw⟩ := hrel
    by_cases hlt : i < n
    · have hc : wr.cell? ⟨w.heap.size, i, none⟩ = some (.float .f64 0) := by
        rw [hown.out.cellAt i (by omega), rowAt_cell b k n i i hlt, if_neg (Nat.lt_irrefl i)]
      have hf : wr.frozen? ⟨w.heap.size, i, none⟩ = false := hown.out.frozenAt i
      have hst := hown.out.stored i (.float .f64 (pow b k i))
      rw [rowAt_next] at hst
      have HST := Lib.hid hst
      obtain ⟨p, hmul, hpp⟩ := (pow_pos HB.out HK.out i).mul HB.out
      have hnx : Hid (pow b k (i + 1) = p) := by show (D.mul (pow b k i) b).getD 0 = p; rw [hmul]; rfl
      generalize hpw : pow b k i = pw at *
      have hm2 : ∀ W : World, (binOp .mul 23 (.float .f64 pw) (.float .f64 b)).run Try.prog W = .ok (.float .f64 p) W := fun W => run_float_arith W .mul 23 .f64 pw b p hmul
      have hb3 : Below w.heap.size w (wr.setCell ⟨w.heap.size, i, none⟩ (.float .f64 pw)) := hbw.setCell (p := ⟨w.heap.size, i, none⟩) (Nat.le_refl _) _
      clear hst hmul hpw
      have hfs := fun (a : Addr) (z : Nat) (m : Mode) (W : World) => Flo.run_store_float (P := Try.prog) a .f64 z m W
      go_wp2
      go_roundw
      case rel => exact ⟨i + 1, by omega, by go_num, by rw [hnx.out], HST.out.1, hb3⟩
      case measure => simp [intOf]; omega
    · have hin : i = n := by omega
      have HI := Lib.hid hin
      clear hin
      go_wp2
      go_ret
      refine ⟨w.heap.size, rfl, ?_, hbw⟩
      have := hown.out
      rw [HI.out, rowAt_all] at this
      exact this

end Go.Proofs.Ytaglcklbngoknaa.ReBucketKeeps
