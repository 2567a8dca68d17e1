/- Spans: the buckets by rising key (spec.NativeFits), walked. Spans: small walks: lists of buckets and of runs converted. Spans: what spans and deltas denote: the plain words (a segment: its first key and its counts). -/
import Derived.Test.YtlolomodcbkblaaGreatDoorSpn
import Derived.StillTailTactics
set_option linter.unusedVariables false
set_option linter.unusedSimpArgs false
namespace Go.Proofs.YtlolomodcbkblaaGreatDoor.Sp
open Go.RowKit Go.ChangeShapes Go.WideShapes Go.Deep Fp

def later (L : List N2) (x : Int) : Bool := L.any fun p => p.1 == x
def fitR : List N2 → List N2 → List N2
  | acc, [] => acc
  | acc, p :: r => if !later r p.1 && p.2 != 0 then fitR (insN p acc) r else fitR acc r
def fitsN (L : List N2) : List N2 := fitR [] L
theorem fitR_drop {acc L : List N2} {k : Nat} (h : k < L.length) : fitR acc (L.drop k) = if !later (L.drop (k + 1)) (L[k]).1 && (L[k]).2 != 0 then fitR (insN L[k] acc) (L.drop (k + 1)) else fitR acc (L.drop (k + 1)) := by
  rw [List.drop_eq_getElem_cons h]; rfl
def lat (L : List N2) (k j : Nat) (x : Int) : Bool := later ((L.take j).drop k) x
theorem lat_zero (L : List N2) (k : Nat) (x : Int) : lat L k k x = false := by
  unfold lat later
  rw [List.drop_eq_nil_of_le (by rw [List.length_take]; omega)]; rfl
theorem lat_succ {L : List N2} {k j : Nat} {x : Int} (h : j < L.length) (hk : k ≤ j) : lat L k (j + 1) x = (lat L k j x || (L[j]).1 == x) := by
  unfold lat later
  rw [List.take_succ_eq_append_getElem h, List.drop_append_of_le_length (by rw [List.length_take]; omega), List.any_append]
  simp
theorem lat_all (L : List N2) (k : Nat) (x : Int) : lat L k L.length x = later (L.drop k) x := by
  unfold lat; rw [List.take_length]
theorem insN_mem {p q : N2} : ∀ {L : List N2}, q ∈ insN p L → q = p ∨ q ∈ L
  | [], h => by unfold insN at h; exact Or.inl (List.mem_singleton.1 h)
  | x :: L, h => by
    unfold insN at h
    split at h
    · rcases List.mem_cons.1 h with h | h
      · exact Or.inr (by simp [h])
      · rcases insN_mem h with h | h
        · exact Or.inl h
        · exact Or.inr (by simp [h])
    · rcases List.mem_cons.1 h with h | h
      · exact Or.inl h
      · exact Or.inr h
def Apart (acc L : List N2) : Prop := ∀ q ∈ acc, ∀ p ∈ L, q.1 ≠ p.1
theorem Apart.ins {acc L : List N2} {k : Nat} (hk : k < L.length) (h : Apart acc (L.drop k)) (hl : later (L.drop (k + 1)) (L[k]).1 = false) : Apart (insN L[k] acc) (L.drop (k + 1)) := by
  intro q hq p hp
  rcases insN_mem hq with rfl | hq
  · intro e
    unfold later at hl
    rw [List.any_eq_false] at hl
    exact hl p hp (by simp [e])
  · exact h q hq p (by rw [List.drop_eq_getElem_cons hk]; exact List.mem_cons_of_mem _ hp)
theorem Apart.next {acc L : List N2} {k : Nat} (hk : k < L.length) (h : Apart acc (L.drop k)) : Apart acc (L.drop (k + 1)) := fun q hq p hp => h q hq p (by rw [List.drop_eq_getElem_cons hk]; exact List.mem_cons_of_mem _ hp)
theorem GotN.up {B n m : Nat} {acc : List N2} {u : Value} {w w' : World} (h : GotN B n acc u w w') (hm : n ≤ m) : GotN B m acc u w w' := ⟨Nat.le_trans h.1 hm, h.2.1, h.2.2⟩

/-- bucket k of a slice of buckets -/
theorem cell_at {w : World} {a : Option Addr} {n cap : Nat} {L : List N2} (h : Ss.Of 2 cc w (.slice a n cap) L) {k : Nat} (hk : k < L.length) :
    ∃ b off, a = some ⟨b, off, none⟩ ∧ b < w.heap.size ∧ w.cell? ⟨b, off + k * 2, none⟩ = some (.int .i64 (L[k]).1) ∧ w.cell? ⟨b, off + k * 2 + 1, none⟩ = some (.int .i64 (L[k]).2) := by
  rcases h with ⟨rfl, _⟩ | ⟨b, off, cap, h, h0, hcap, hm, hbb, hcell⟩
  · simp at hk
  · injection h with h1 h2 h3
    exact ⟨b, off, h1, hbb, hcell k hk 0 _ rfl, by rw [Nat.add_assoc]; exact hcell k hk 1 _ rfl⟩

def FitsOut (L : List N2) (w : World) (e : Ending) (w' : World) : Prop :=
  ∃ v, e = .returned v ∧ w'.ownsRow w.heap.size 143 2 v (fitsN L).length ((fitsN L).flatMap cc) ∧ Below w.heap.size w w'

set_option maxHeartbeats 8000000 in
set_option maxRecDepth 100000 in
theorem fits_any (L : List N2) (v : Value) (w : World) (hof : Ss.Of 2 cc w v L) (hL : L.length ≤ 2147483647) :
    Calls Tryz.prog 64 #[v] w (FitsOut L w) := by
  obtain ⟨av, cv, rfl, _, _⟩ := hof.slice
  have HOf := Lib.hid hof
  have HG0 : Hid (GotN w.heap.size 0 [] (.slice none 0 0) w w) := ⟨Nat.le_refl _, World.ownsRow_nil _ _ _ _, Below.refl _ _⟩
  clear hof
  go_enter Tryz.func64, Tryz.ntmps64
  go_wp2_with fail
  go_loopw [3, 4] (fun vu vk wr => ∃ (k : Nat) (acc : List N2) (u : Value), k ≤ L.length ∧ u = vu ∧ vk = .int .i64 (k : Int) ∧ Hid (fitR acc (L.drop k) = fitsN L) ∧ Hid (Apart acc (L.drop k)) ∧ Hid (GotN w.heap.size k acc u w wr)) (fun _ k _ => L.length - (intOf k).toNat)
  case atStart => exact ⟨0, [], _, Nat.zero_le _, rfl, rfl, by rw [List.drop_zero]; rfl, fun q hq => by simp at hq, HG0.out⟩
  case round =>
    obtain ⟨k, acc, u, hk, rfl, rfl, hfr, hap, hgot⟩ := hrel
    obtain ⟨au, cu, rfl⟩ := row_slice2 hgot.out.2.1
    by_cases hlt : k < L.length
    · have hst : Hid (fitR acc (L.drop k) = if !later (L.drop (k + 1)) (L[k]).1 && (L[k]).2 != 0 then fitR (insN L[k] acc) (L.drop (k + 1)) else fitR acc (L.drop (k + 1))) := fitR_drop hlt
      have hap1 : Hid (Apart acc (L.drop (k + 1))) := hap.out.next hlt
      have hap2 : Hid (later (L.drop (k + 1)) (L[k]).1 = false → Apart (insN L[k] acc) (L.drop (k + 1))) := fun h => hap.out.ins hlt h
      have hnk : Hid (∀ q ∈ acc, q.1 ≠ (L[k]).1) := fun q hq => hap.out q hq _ (by rw [List.drop_eq_getElem_cons hlt]; exact List.mem_cons_self)
      have hsz : w.heap.size ≤ wr.heap.size := hgot.out.2.2.size
      have HIn : Hid (∀ W, Below w.heap.size w W → ∀ i (h : i < L.length), ∃ b off, av = some ⟨b, off, none⟩ ∧ W.cell? ⟨b, off + i * 2, none⟩ = some (.int .i64 (L[i]).1) ∧ W.cell? ⟨b, off + i * 2 + 1, none⟩ = some (.int .i64 (L[i]).2)) := by
        intro W hW i hi
        obtain ⟨b, off, h1, hb, d0, d1⟩ := cell_at HOf.out hi
        exact ⟨b, off, h1, by rw [hW.cell (p := ⟨b, off + i * 2, none⟩) hb]; exact d0, by rw [hW.cell (p := ⟨b, off + i * 2 + 1, none⟩) hb]; exact d1⟩
      obtain ⟨b, off, hav, _, _⟩ := HIn.out wr hgot.out.2.2 k hlt
      have HAt : Hid (∀ W, Below w.heap.size w W → ∀ i (h : i < L.length), W.cell? ⟨b, off + i * 2, none⟩ = some (.int .i64 (L[i]).1) ∧ W.cell? ⟨b, off + i * 2 + 1, none⟩ = some (.int .i64 (L[i]).2)) := by
        intro W hW i hi
        obtain ⟨b2, off2, h1, d⟩ := HIn.out W hW i hi
        rw [hav] at h1
        injection h1 with h1
        injection h1 with h1 h2 _
        rw [h1, h2]; exact d
      subst hav
      obtain ⟨x, y, hxy⟩ : ∃ x y, L[k] = (x, y) := ⟨_, _, rfl⟩
      have HXY := Lib.hid hxy
      have HK1 : Hid (∀ W, Below w.heap.size w W → W.cell? ⟨b, off + k * 2, none⟩ = some (.int .i64 x) ∧ W.cell? ⟨b, off + k * 2 + 1, none⟩ = some (.int .i64 y)) := fun W hW => by
        have := HAt.out W hW k hlt
        rw [hxy] at this; exact this
      rw [hxy] at hst hap2 hnk
      have z1 : (0 : Int) ≤ (k : Int) := by omega
      have z2 : (k : Int) < (L.length : Int) := by omega
      have hbw0 := Lib.hid hgot.out.2.2
      clear hxy hap HIn
      go_wp2_with fail
      rename World => wq
      go_loopw [5, 6] (fun vf vj wr => ∃ (j m : Nat) (f : Bool), k + 1 ≤ j ∧ j ≤ L.length ∧ vf = .bool f ∧ vj = .int .i64 (j : Int) ∧ Hid (f = lat L (k + 1) j x) ∧ Hid (wr = wq.drewN m)) (fun _ j _ => L.length - (intOf j).toNat)
      case atStart => exact ⟨k + 1, 0, false, Nat.le_refl _, hlt, rfl, by go_num, (lat_zero _ _ _).symm, rfl⟩
      case round =>
        obtain ⟨j, m, f, hkj, hj, rfl, rfl, hf, hwm⟩ := hrel
        have hbj : Hid (Below w.heap.size w wr) := by show Below _ _ _; rw [hwm.out]; exact below_drewN hbw0.out m
        by_cases hlj : j < L.length
        · have e0 := (HAt.out wr hbj.out j hlj).1
          have d0 := (HK1.out wr hbj.out).1
          have hls : Hid (lat L (k + 1) (j + 1) x = (lat L (k + 1) j x || (L[j]).1 == x)) := lat_succ hlj hkj
          obtain ⟨q, hq⟩ : ∃ q, (L[j]).1 = q := ⟨_, rfl⟩
          rw [hq] at e0 hls
          have z3 : (0 : Int) ≤ (j : Int) := by omega
          have z4 : (j : Int) < (L.length : Int) := by omega
          clear hq
          cases f with
          | true =>
            have hf2 : Hid (true = lat L (k + 1) (j + 1) x) := by show _ = _; rw [hls.out, ← hf.out]; rfl
            clear hf hls
            go_wp2_with fail
            go_quiet (fail)
            have hw2 : Hid (wr.drewN nq = wq.drewN (m + nq)) := by show _ = _; rw [hwm.out, World.drewN_drewN]
            go_wp2_with fail
            go_roundw
            case rel => exact ⟨j + 1, m + nq, true, by omega, by omega, rfl, by go_num, hf2.out, hw2.out⟩
            case measure => simp [intOf]; omega
          | false =>
            cases hqx : (q == x) with
            | true =>
              have hf2 : Hid (true = lat L (k + 1) (j + 1) x) := by show _ = _; rw [hls.out, ← hf.out, hqx]; rfl
              clear hf hls
              go_wp2_with fail
              go_quiet (fail)
              have hw2 : Hid (wr.drewN nq = wq.drewN (m + nq)) := by show _ = _; rw [hwm.out, World.drewN_drewN]
              go_wp2_with fail
              go_roundw
              case rel => exact ⟨j + 1, m + nq, true, by omega, by omega, rfl, by go_num, hf2.out, hw2.out⟩
              case measure => simp [intOf]; omega
            | false =>
              have hf2 : Hid (false = lat L (k + 1) (j + 1) x) := by show _ = _; rw [hls.out, ← hf.out, hqx]; rfl
              clear hf hls
              go_wp2_with fail
              go_quiet (fail)
              have hw2 : Hid (wr.drewN nq = wq.drewN (m + nq)) := by show _ = _; rw [hwm.out, World.drewN_drewN]
              go_wp2_with fail
              go_roundw
              case rel => exact ⟨j + 1, m + nq, false, by omega, by omega, rfl, by go_num, hf2.out, hw2.out⟩
              case measure => simp [intOf]; omega
        · obtain rfl : j = L.length := by omega
          have hf2 : Hid (f = later (L.drop (k + 1)) x) := by show _ = _; rw [hf.out, lat_all]
          have hgw : Hid (GotN w.heap.size k acc (.slice au acc.length cu) w wr) := by show GotN _ _ _ _ _ _; rw [hwm.out]; exact hgot.out.below hsz (below_drewN (Below.refl _ _) m)
          have d1 := (HK1.out wr hbj.out).2
          clear hf
          cases f with
          | true =>
            have hfr2 : Hid (fitR acc (L.drop (k + 1)) = fitsN L) := by
              show _ = _
              rw [← hfr.out, hst.out, show later (L.drop (k + 1)) x = true from hf2.out.symm]; rfl
            have hg2 : Hid (GotN w.heap.size (k + 1) acc (.slice au acc.length cu) w wr) := hgw.out.up (Nat.le_succ _)
            clear hfr hst
            go_wp2_with fail
            go_roundw
            case rel => exact ⟨k + 1, acc, _, by omega, rfl, by go_num, hfr2.out, hap1.out, hg2.out⟩
            case measure => simp [intOf]; omega
          | false =>
            have hl2 : later (L.drop (k + 1)) x = false := hf2.out.symm
            have HL2 := Lib.hid hl2
            clear hl2
            by_cases hy : y = 0
            · have hfr2 : Hid (fitR acc (L.drop (k + 1)) = fitsN L) := by
                show _ = _
                rw [← hfr.out, hst.out, HL2.out, hy]; rfl
              have hg2 : Hid (GotN w.heap.size (k + 1) acc (.slice au acc.length cu) w wr) := hgw.out.up (Nat.le_succ _)
              have n1 : (y == 0) = true := by rw [hy]; rfl
              have n2 : (y != 0) = false := by rw [hy]; rfl
              clear hfr hst hy
              go_wp2_with fail
              go_roundw
              case rel => exact ⟨k + 1, acc, _, by omega, rfl, by go_num, hfr2.out, hap1.out, hg2.out⟩
              case measure => simp [intOf]; omega
            · have n1 : (y == 0) = false := by rw [beq_eq_false_iff_ne]; exact hy
              have n2 : (y != 0) = true := by simp [hy]
              have hfr2 : Hid (fitR (insN (x, y) acc) (L.drop (k + 1)) = fitsN L) := by
                show _ = _
                rw [← hfr.out, hst.out, HL2.out, n2]; rfl
              have hap3 : Hid (Apart (insN (x, y) acc) (L.drop (k + 1))) := hap2.out HL2.out
              have d0 := (HK1.out wr hbj.out).1
              have hbd : Below w.heap.size w wr.drew := hbj.out.trans (Below.refl _ _).drew
              have e0 := (HK1.out wr.drew hbd).1
              have e1 := (HK1.out wr.drew hbd).2
              have CA := Lib.hid (add_any w.heap.size k acc x y (.slice au acc.length cu) w wr.drew hbd.size (hgw.out.below hbj.out.size (Below.refl _ _).drew) (by omega) hnk.out)
              clear hfr hst hbd hgw
              go_wp2_with fail
              refine wp_region_still_tail 11 (by kernel_rfl) (by kernel_rfl) ?_
              simp only [List.take_succ_cons, List.take_zero, List.drop_succ_cons, List.drop_zero]
              repeat still_step
              refine wpStill_nil ?_
              change wpList _ _ _ _ _ wr.drew
              generalize wr.drew = wd at *
              go_wp2_with fail
              refine CA.out.mono ?_
              rintro e w3 ⟨v3, rfl, hg3⟩
              have HG3 := Lib.hid hg3
              clear hg3 CA d0 d1 e0 e1
              go_wp2_with fail
              go_roundw
              case rel => exact ⟨k + 1, insN (x, y) acc, _, by omega, rfl, by go_num, hfr2.out, hap3.out, HG3.out⟩
              case measure => simp [intOf]; omega
    · obtain rfl : k = L.length := by omega
      have he : acc = fitsN L := by
        have := hfr.out
        rw [List.drop_length] at this
        exact this
      have hfin : Hid (FitsOut L w (.returned (.slice au acc.length cu)) wr) := ⟨_, rfl, by rw [← he]; exact hgot.out.2.1, hgot.out.2.2⟩
      clear hfr hap hgot he
      go_wp2_with fail
      go_ret
      exact hfin.out

end Go.Proofs.YtlolomodcbkblaaGreatDoor.Sp

set_option linter.unusedVariables false
set_option linter.unusedSimpArgs false
namespace Go.Proofs.YtlolomodcbkblaaGreatDoor.Sp
open Go.RowKit Go.ChangeShapes Go.WideShapes Go.Deep Fp

/-- a run: offset, length -/
def rc (p : N2) : List Value := [.int .i32 p.1, .int .u32 p.2]
theorem rc_len (p : N2) : (rc p).length = 2 := rfl
theorem infoIC : (Tryz.prog.info? 155).map (fun i => (i.zero, i.size, i.bytes)) = some (some (.agg #[.int .i64 0, .int .i64 0]), 2, 16) := by kernel_rfl
theorem infoR : (Tryz.prog.info? 260).map (fun i => (i.zero, i.size, i.bytes)) = some (some (.agg #[.int .i32 0, .int .u32 0]), 2, 8) := by kernel_rfl
theorem infoIR : (Tryz.prog.info? 320).map (fun i => (i.zero, i.size, i.bytes)) = some (some (.agg #[.int .i32 0, .int .u32 0]), 2, 8) := by kernel_rfl
theorem ones_r (zs : List N2) : ∀ u ∈ zs.flatMap rc, u.oneCell' = true := by
  intro u hu
  obtain ⟨c, _, hc⟩ := List.mem_flatMap.1 hu
  unfold rc at hc
  simp at hc
  rcases hc with rfl | rfl <;> rfl
/-- a list made: elements of type e -/
def GotT (c : N2 → List Value) (e B n : Nat) (acc : List N2) (u : Value) (w w' : World) : Prop :=
  acc.length ≤ n ∧ w'.ownsRow B e 2 u acc.length (acc.flatMap c) ∧ Below B w w'
theorem GotT.below {c : N2 → List Value} {e B n : Nat} {acc : List N2} {u : Value} {w W W' : World} (h : GotT c e B n acc u w W) (hs : B ≤ W.heap.size) (hb : Below W.heap.size W W') : GotT c e B n acc u w W' :=
  ⟨h.1, h.2.1.kept (row := none) ⟨hb.os, hb.tape, hb.output, hb.size, fun i hi _ => hb.block i hi⟩ (by cases u.ownBlock <;> simp), h.2.2.trans (hb.mono hs)⟩
theorem GotT.app {c : N2 → List Value} {e B n : Nat} {acc : List N2} {u v : Value} {p : N2} {w w' wy : World} {o : Obj} (h : GotT c e B n acc u w w') (hs : B ≤ w'.heap.size) (ho : wy.ownsRow B e 2 v (acc.length + 1) (acc.flatMap c ++ c p)) (hg : (w'.alloc o).grownBy wy u.ownBlock) : GotT c e B (n + 1) (acc ++ [p]) v w wy := by
  refine ⟨by have := h.1; simp; omega, ?_, (h.2.2.alloc hs o).grown hg (by simp; omega) (fun j hj => (h.2.1.lt j hj).1)⟩
  rw [List.length_append, List.flatMap_append]
  simpa using ho
theorem pair_of {c : N2 → List Value} {f g : Int → Value} (hc : ∀ p, c p = [f p.1, g p.2]) {w : World} {a : Option Addr} {n cap : Nat} {L : List N2} (h : Ss.Of 2 c w (.slice a n cap) L) {k : Nat} (hk : k < L.length) :
    ∃ b off, a = some ⟨b, off, none⟩ ∧ b < w.heap.size ∧ w.cell? ⟨b, off + k * 2, none⟩ = some (f (L[k]).1) ∧ w.cell? ⟨b, off + k * 2 + 1, none⟩ = some (g (L[k]).2) := by
  rcases h with ⟨rfl, _⟩ | ⟨b, off, cap, h, h0, hcap, hm, hbb, hcell⟩
  · simp at hk
  · injection h with h1 h2 h3
    exact ⟨b, off, h1, hbb, hcell k hk 0 _ (by rw [hc]; rfl), by rw [Nat.add_assoc]; exact hcell k hk 1 _ (by rw [hc]; rfl)⟩

def ListOut (c : N2 → List Value) (L : List N2) (w : World) (e : Ending) (w' : World) : Prop := ∃ v, e = .returned v ∧ Ss.Of 2 c w' v L ∧ Below w.heap.size w w'
set_option maxHeartbeats 1000000 in
set_option maxRecDepth 100000 in
theorem cellTo_any (x y : Int) (w : World) :
    Calls Tryz.prog 69 #[.agg #[.int .i64 x, .int .i64 y]] w fun e w' => e = .returned (.agg #[.int .i64 x, .int .i64 y]) ∧ Below w.heap.size w w' := by
  go_enter Tryz.func69, Tryz.ntmps69
  go_wp2
  exact bodyPost_ret (v := .agg #[.int .i64 x, .int .i64 y]) (by simp [results, Tryz.results69, go_sem]) rfl ⟨rfl, ((Below.refl _ _).alloc (Nat.le_refl _) _).alloc (by simp) _⟩

set_option maxHeartbeats 4000000 in
set_option maxRecDepth 100000 in
theorem cellsTo_any (L : List N2) (v : Value) (w : World) (hof : Ss.Of 2 cc w v L) (hL : L.length ≤ 2147483647) :
    Calls Tryz.prog 24 #[v] w (ListOut cc L w) := by
  obtain ⟨i0, hi, hz0, hz1, hz2⟩ := info_parts infoIC
  obtain ⟨av, cv, rfl, _, _⟩ := hof.slice
  have HOf := Lib.hid hof
  have HG0 : Hid (GotT cc 155 w.heap.size 0 [] (.slice none 0 0) w w) := ⟨Nat.le_refl _, World.ownsRow_nil _ _ _ _, Below.refl _ _⟩
  clear hof
  go_enter Tryz.func24, Tryz.ntmps24
  go_wp2_with fail
  go_loopw [3, 4] (fun vu vk wr => ∃ (k : Nat) (u : Value), k ≤ L.length ∧ u = vu ∧ vk = .int .i64 (k : Int) ∧ Hid (GotT cc 155 w.heap.size k (L.take k) u w wr)) (fun _ k _ => L.length - (intOf k).toNat)
  case atStart => exact ⟨0, _, Nat.zero_le _, rfl, rfl, HG0.out⟩
  case round =>
    obtain ⟨k, u, hk, rfl, rfl, hgot⟩ := hrel
    by_cases hlt : k < L.length
    · obtain ⟨b, off, hav, hb, d0, d1⟩ := pair_of (c := cc) (f := .int .i64) (g := .int .i64) (fun _ => rfl) HOf.out hlt
      have htk : L.take (k + 1) = L.take k ++ [L[k]] := List.take_succ_eq_append_getElem hlt
      subst hav
      obtain ⟨x, y, hxy⟩ : ∃ x y, L[k] = (x, y) := ⟨_, _, rfl⟩
      obtain ⟨acc, hacc⟩ : ∃ acc, L.take k = acc := ⟨_, rfl⟩
      rw [hxy] at d0 d1 htk
      rw [hacc] at hgot htk
      have hbw := hgot.out.2.2
      have hal := hgot.out.1
      have hsz : w.heap.size ≤ wr.heap.size := hbw.size
      have c0 : wr.cell? ⟨b, off + k * 2, none⟩ = some (.int .i64 x) := by rw [hbw.cell (p := ⟨b, off + k * 2, none⟩) hb]; exact d0
      have c1 : wr.cell? ⟨b, off + k * 2 + 1, none⟩ = some (.int .i64 y) := by rw [hbw.cell (p := ⟨b, off + k * 2 + 1, none⟩) hb]; exact d1
      have z1 : (0 : Int) ≤ (k : Int) := by omega
      have z2 : (k : Int) < (L.length : Int) := by omega
      obtain ⟨au, cu, rfl⟩ := row_slice2 hgot.out.2.1
      have HTk := Lib.hid htk
      clear d0 d1 hxy hbw htk hacc
      go_wp2_with fail
      refine (cellTo_any x y wr).mono ?_
      rintro e w1 ⟨rfl, hb1⟩
      have hg1 : Hid (GotT cc 155 w.heap.size k acc (.slice au acc.length cu) w w1) := hgot.out.below hsz hb1
      have hs1 : w.heap.size ≤ w1.heap.size := Nat.le_trans hsz hb1.size
      have HNews := Lib.hid (Ss.news_one w1 #[.int .i64 x, .int .i64 y] 155)
      clear hb1 hgot c0 c1
      go_wp2_with (first
        | (at_builtin; refine wpList_append_own_at _ rfl _ _ 76 rfl w.heap.size 155 i0 (.agg #[.int .i64 0, .int .i64 0]) 2 16 Tryz.underlying76 hi hz0 hz1 hz2 rfl (by decide) _ _ _ rfl (hg1.out.2.1.alloc _) ⟨w1.heap.size, 0, none⟩ 1 1 [.int .i64 x, .int .i64 y] rfl rfl (by simpa using HNews.out) (ones2 [(x, y)]) (by unfold maxLen; omega) (by omega) (by simp; omega) ?_; intro v2 W4 hown2 hgrow2 hnil2 hloc2; have hg3 : Hid (GotT cc 155 w.heap.size (k + 1) (L.take (k + 1)) v2 w W4) := (by show GotT cc 155 _ _ _ _ _ _; rw [HTk.out]; exact hg1.out.app hs1 hown2 hgrow2); clear hown2 hgrow2 hnil2 hloc2))
      go_roundw
      case rel => exact ⟨k + 1, _, by omega, rfl, by go_num, hg3.out⟩
      case measure => simp [intOf]; omega
    · obtain rfl : k = L.length := by omega
      have hg2 := hgot.out
      rw [List.take_length] at hg2
      have hfin : Hid (ListOut cc L w (.returned u) wr) := ⟨u, rfl, Ss.Of.own cc_len hg2.2.1, hg2.2.2⟩
      clear hg2 hgot
      go_wp2_with fail
      go_ret
      exact hfin.out

set_option maxHeartbeats 1000000 in
set_option maxRecDepth 100000 in
theorem runTo_any (x y : Int) (w : World) :
    Calls Tryz.prog 132 #[.agg #[.int .i32 x, .int .u32 y]] w fun e w' => e = .returned (.agg #[.int .i32 x, .int .u32 y]) ∧ Below w.heap.size w w' := by
  go_enter Tryz.func132, Tryz.ntmps132
  go_wp2
  exact bodyPost_ret (v := .agg #[.int .i32 x, .int .u32 y]) (by simp [results, Tryz.results132, go_sem]) rfl ⟨rfl, ((Below.refl _ _).alloc (Nat.le_refl _) _).alloc (by simp) _⟩

def RowOut (L : List N2) (w : World) (e : Ending) (w' : World) : Prop := ∃ v, e = .returned v ∧ w'.ownsRow w.heap.size 260 2 v L.length (L.flatMap rc) ∧ Below w.heap.size w w'
set_option maxHeartbeats 4000000 in
set_option maxRecDepth 100000 in
theorem runsTo_own (L : List N2) (v : Value) (w : World) (hof : Ss.Of 2 rc w v L) (hL : L.length ≤ 2147483647) :
    Calls Tryz.prog 93 #[v] w (RowOut L w) := by
  obtain ⟨i0, hi, hz0, hz1, hz2⟩ := info_parts infoR
  obtain ⟨av, cv, rfl, _, _⟩ := hof.slice
  have HOf := Lib.hid hof
  have HG0 : Hid (GotT rc 260 w.heap.size 0 [] (.slice none 0 0) w w) := ⟨Nat.le_refl _, World.ownsRow_nil _ _ _ _, Below.refl _ _⟩
  clear hof
  go_enter Tryz.func93, Tryz.ntmps93
  go_wp2_with fail
  go_loopw [3, 4] (fun vu vk wr => ∃ (k : Nat) (u : Value), k ≤ L.length ∧ u = vu ∧ vk = .int .i64 (k : Int) ∧ Hid (GotT rc 260 w.heap.size k (L.take k) u w wr)) (fun _ k _ => L.length - (intOf k).toNat)
  case atStart => exact ⟨0, _, Nat.zero_le _, rfl, rfl, HG0.out⟩
  case round =>
    obtain ⟨k, u, hk, rfl, rfl, hgot⟩ := hrel
    by_cases hlt : k < L.length
    · obtain ⟨b, off, hav, hb, d0, d1⟩ := pair_of (c := rc) (f := .int .i32) (g := .int .u32) (fun _ => rfl) HOf.out hlt
      have htk : L.take (k + 1) = L.take k ++ [L[k]] := List.take_succ_eq_append_getElem hlt
      subst hav
      obtain ⟨x, y, hxy⟩ : ∃ x y, L[k] = (x, y) := ⟨_, _, rfl⟩
      obtain ⟨acc, hacc⟩ : ∃ acc, L.take k = acc := ⟨_, rfl⟩
      rw [hxy] at d0 d1 htk
      rw [hacc] at hgot htk
      have hbw := hgot.out.2.2
      have hal := hgot.out.1
      have hsz : w.heap.size ≤ wr.heap.size := hbw.size
      have c0 : wr.cell? ⟨b, off + k * 2, none⟩ = some (.int .i32 x) := by rw [hbw.cell (p := ⟨b, off + k * 2, none⟩) hb]; exact d0
      have c1 : wr.cell? ⟨b, off + k * 2 + 1, none⟩ = some (.int .u32 y) := by rw [hbw.cell (p := ⟨b, off + k * 2 + 1, none⟩) hb]; exact d1
      have z1 : (0 : Int) ≤ (k : Int) := by omega
      have z2 : (k : Int) < (L.length : Int) := by omega
      obtain ⟨au, cu, rfl⟩ := row_slice2 hgot.out.2.1
      have HTk := Lib.hid htk
      clear d0 d1 hxy hbw htk hacc
      go_wp2_with fail
      refine (runTo_any x y wr).mono ?_
      rintro e w1 ⟨rfl, hb1⟩
      have hg1 : Hid (GotT rc 260 w.heap.size k acc (.slice au acc.length cu) w w1) := hgot.out.below hsz hb1
      have hs1 : w.heap.size ≤ w1.heap.size := Nat.le_trans hsz hb1.size
      have HNews := Lib.hid (Ss.news_one w1 #[.int .i32 x, .int .u32 y] 260)
      clear hb1 hgot c0 c1
      go_wp2_with (first
        | (at_builtin; refine wpList_append_own_at _ rfl _ _ 49 rfl w.heap.size 260 i0 (.agg #[.int .i32 0, .int .u32 0]) 2 8 Tryz.underlying49 hi hz0 hz1 hz2 rfl (by decide) _ _ _ rfl (hg1.out.2.1.alloc _) ⟨w1.heap.size, 0, none⟩ 1 1 [.int .i32 x, .int .u32 y] rfl rfl (by simpa using HNews.out) (ones_r [(x, y)]) (by unfold maxLen; omega) (by omega) (by simp; omega) ?_; intro v2 W4 hown2 hgrow2 hnil2 hloc2; have hg3 : Hid (GotT rc 260 w.heap.size (k + 1) (L.take (k + 1)) v2 w W4) := (by show GotT rc 260 _ _ _ _ _ _; rw [HTk.out]; exact hg1.out.app hs1 hown2 hgrow2); clear hown2 hgrow2 hnil2 hloc2))
      go_roundw
      case rel => exact ⟨k + 1, _, by omega, rfl, by go_num, hg3.out⟩
      case measure => simp [intOf]; omega
    · obtain rfl : k = L.length := by omega
      have hg2 := hgot.out
      rw [List.take_length] at hg2
      have hfin : Hid (RowOut L w (.returned u) wr) := ⟨u, rfl, hg2.2.1, hg2.2.2⟩
      clear hg2 hgot
      go_wp2_with fail
      go_ret
      exact hfin.out
theorem runsTo_any (L : List N2) (v : Value) (w : World) (hof : Ss.Of 2 rc w v L) (hL : L.length ≤ 2147483647) :
    Calls Tryz.prog 93 #[v] w (ListOut rc L w) := by
  refine (runsTo_own L v w hof hL).mono ?_
  rintro e w' ⟨u, rfl, ho, hb⟩
  exact ⟨u, rfl, Ss.Of.own rc_len ho, hb⟩

end Go.Proofs.YtlolomodcbkblaaGreatDoor.Sp

set_option linter.unusedVariables false
set_option linter.unusedSimpArgs false
namespace Go.Proofs.YtlolomodcbkblaaGreatDoor.Sp
open Go.RowKit Go.ChangeShapes Go.WideShapes Go.Deep Fp

abbrev Seg := Int × List Int
def nxt (nx : Int) (X : List Seg) : Int := X.foldl (fun _ s => s.1 + s.2.length) nx
def runsOf (nx : Int) : List Seg → List N2
  | [] => []
  | s :: r => (s.1 - nx, (s.2.length : Int)) :: runsOf (s.1 + s.2.length) r
def wr2 (x : Int) : Int := IntKind.i64.wrap x
def lastC (p : Int) (l : List Int) : Int := l.foldl (fun _ c => c) p
def deltasOf (p : Int) : List Int → List Int
  | [] => []
  | c :: r => wr2 (c - p) :: deltasOf c r
def counts (X : List Seg) : List Int := X.flatMap (·.2)
def exp (s : Int) : List Int → List N2
  | [] => []
  | c :: r => (s, c) :: exp (s + 1) r
def cellsOf (X : List Seg) : List N2 := X.flatMap fun s => exp s.1 s.2
def nz (L : List N2) : List N2 := L.filter fun p => p.2 != 0

theorem runsOf_app : ∀ (D R : List Seg) (nx : Int), runsOf nx (D ++ R) = runsOf nx D ++ runsOf (nxt nx D) R
  | [], R, nx => rfl
  | s :: D, R, nx => by
    show _ :: runsOf _ (D ++ R) = _ :: (runsOf _ D ++ _)
    rw [runsOf_app D R]; rfl
theorem runsOf_len : ∀ (X : List Seg) (nx : Int), (runsOf nx X).length = X.length
  | [], _ => rfl
  | s :: X, nx => by show (runsOf _ X).length + 1 = _; rw [runsOf_len X]; rfl
theorem runsOf_at (D R : List Seg) (s : Seg) (h : D.length < (runsOf 0 (D ++ s :: R)).length) : (runsOf 0 (D ++ s :: R))[D.length] = (s.1 - nxt 0 D, (s.2.length : Int)) := by
  apply Option.some.inj
  rw [← List.getElem?_eq_getElem h, runsOf_app, List.getElem?_append_right (by rw [runsOf_len]; exact Nat.le_refl _), runsOf_len, Nat.sub_self]
  rfl
theorem deltasOf_app : ∀ (A B : List Int) (p : Int), deltasOf p (A ++ B) = deltasOf p A ++ deltasOf (lastC p A) B
  | [], B, p => rfl
  | c :: A, B, p => by
    show _ :: deltasOf _ (A ++ B) = _ :: (deltasOf _ A ++ _)
    rw [deltasOf_app A B]; rfl
theorem deltasOf_len : ∀ (A : List Int) (p : Int), (deltasOf p A).length = A.length
  | [], _ => rfl
  | s :: X, nx => by show (deltasOf _ X).length + 1 = _; rw [deltasOf_len X]; rfl
theorem deltasOf_at (A B : List Int) (c : Int) (h : A.length < (deltasOf 0 (A ++ c :: B)).length) : (deltasOf 0 (A ++ c :: B))[A.length] = wr2 (c - lastC 0 A) := by
  apply Option.some.inj
  rw [← List.getElem?_eq_getElem h, deltasOf_app, List.getElem?_append_right (by rw [deltasOf_len]; exact Nat.le_refl _), deltasOf_len, Nat.sub_self]
  rfl
theorem nxt_snoc (nx : Int) (D : List Seg) (s : Seg) : nxt nx (D ++ [s]) = s.1 + s.2.length := by unfold nxt; rw [List.foldl_append]; rfl
theorem lastC_snoc (p : Int) (A : List Int) (c : Int) : lastC p (A ++ [c]) = c := by unfold lastC; rw [List.foldl_append]; rfl
theorem exp_app : ∀ (A B : List Int) (s : Int), exp s (A ++ B) = exp s A ++ exp (s + A.length) B
  | [], B, s => by simp [exp]
  | c :: A, B, s => by
    show _ :: exp _ (A ++ B) = _ :: (exp _ A ++ _)
    rw [exp_app A B, List.length_cons]
    congr 3
    omega
theorem exp_snoc (A : List Int) (c s : Int) : exp s (A ++ [c]) = exp s A ++ [(s + A.length, c)] := by rw [exp_app]; rfl
theorem nz_app (A B : List N2) : nz (A ++ B) = nz A ++ nz B := List.filter_append ..
theorem wr_back {c p : Int} (h : -9223372036854775808 ≤ c ∧ c ≤ 9223372036854775807) : IntKind.i64.wrap (p + wr2 (c - p)) = c := by
  unfold wr2
  rw [IntKind.wrap_i64, IntKind.wrap_i64]
  omega

end Go.Proofs.YtlolomodcbkblaaGreatDoor.Sp
