/- Descriptors: the reference's equality of descriptors (spec.DescSame) walked. Descriptors: label pairs read as pairs (impl.pairs), converted (laws.pairsFrom), compared (spec.SamePairs). -/
import Derived.Test.YtlolomodcbkblaaGreatDoorMg7
import Derived.Deep.RegionHeld3
import Derived.Deep.QuietTactic
import Derived.BigQuiet
import Derived.Test.YtlolomodcbkblaaGreatDoorNla
import Derived.Laws.StructEq
set_option linter.unusedVariables false
set_option linter.unusedSimpArgs false
namespace Go.Proofs.YtlolomodcbkblaaGreatDoor.Nd
open Go.RowKit Go.ChangeShapes Go.WideShapes Go.Deep Fp Obs

open Classical in
noncomputable def sameB (n1 n2 : ByteArray) (F1 F2 : List P2) : Bool := decide (n1 = n2 ∧ F1.map (·.2) = F2.map (·.2))
theorem sameB_iff {n1 n2 : ByteArray} {F1 F2 : List P2} : sameB n1 n2 F1 F2 = true ↔ n1 = n2 ∧ F1.map (·.2) = F2.map (·.2) := by classical exact ⟨fun h => of_decide_eq_true h, fun h => decide_eq_true h⟩
theorem sameB_no {n1 n2 : ByteArray} {F1 F2 : List P2} (h : ¬ (n1 = n2 ∧ F1.map (·.2) = F2.map (·.2))) : sameB n1 n2 F1 F2 = false := by
  cases hb : sameB n1 n2 F1 F2 with
  | false => rfl
  | true => exact absurd (sameB_iff.1 hb) h
theorem ba_eq {s t : ByteArray} (h : (s.toList == t.toList) = true) : s = t := by
  have h := eq_of_beq h
  rw [Lib.toList_data, Lib.toList_data] at h
  exact dl_inj h
end Go.Proofs.YtlolomodcbkblaaGreatDoor.Nd

set_option linter.unusedVariables false
set_option linter.unusedSimpArgs false
namespace Go.Proofs.YtlolomodcbkblaaGreatDoor.Nd
open Go.RowKit Go.Maps Go.WideMaps Go.ChangeShapes Go.WideShapes Go.Deep Fp Obs

set_option maxHeartbeats 4000000 in
set_option maxRecDepth 100000 in
theorem pairs_own (F : List P2) (v : Value) (w : World) (hp : Pairs w v F) (hF : F.length ≤ 2147483647) :
    Calls Tryz.prog 127 #[v] w (ListOwn F w) := by
  obtain ⟨i0, hi, hz0, hz1, hz2⟩ := info_parts infoIP
  obtain ⟨qs, hql, hq, hqa⟩ := hp
  obtain ⟨av, cv, rfl, _, _⟩ := sl_slice hq
  rw [hql] at hq
  rw [hql]
  have HQ := Lib.hid hq
  have HQA := Lib.hid hqa
  have HQL := Lib.hid hql
  have HG0 : Hid (GotT 211 w.heap.size 0 [] (.slice none 0 0) w w) := ⟨Nat.le_refl _, World.ownsRow_nil _ _ _ _, Below.refl _ _⟩
  clear hq hqa hql
  go_enter Tryz.func127, Tryz.ntmps127
  go_wp2_with fail
  go_loopw [3, 8] (fun vu vk wr => ∃ (k : Nat) (u : Value), k ≤ F.length ∧ u = vu ∧ vk = .int .i64 (k : Int) ∧ Hid (GotT 211 w.heap.size k (F.take k) u w wr)) (fun _ k _ => F.length - (intOf k).toNat)
  case atStart => exact ⟨0, _, Nat.zero_le _, rfl, rfl, HG0.out⟩
  case round =>
    obtain ⟨k, u, hk, rfl, rfl, hgot⟩ := hrel
    by_cases hlt : k < F.length
    · have hlq : k < qs.length := by have := HQL.out; omega
      obtain ⟨b, off, hav, hb, c0⟩ := sl_at HQ.out hlq
      have htk : F.take (k + 1) = F.take k ++ [F[k]] := List.take_succ_eq_append_getElem hlt
      have hat := HQA.out k hlq hlt
      subst hav
      obtain ⟨⟨b1, b2, b3⟩, hqk⟩ : ∃ q, qs[k] = q := ⟨_, rfl⟩
      obtain ⟨x, y, hxy⟩ : ∃ x y, F[k] = (x, y) := ⟨_, _, rfl⟩
      obtain ⟨acc, hacc⟩ : ∃ acc, F.take k = acc := ⟨_, rfl⟩
      rw [hxy] at htk hat
      rw [hqk] at c0 hat
      rw [hacc] at hgot htk
      have hbw := hgot.out.2.2
      have hal := hgot.out.1
      have hsz : w.heap.size ≤ wr.heap.size := hbw.size
      have hatr := hat.below hbw
      have d0 : wr.cell? ⟨b, off + k, none⟩ = some (.pointer (some ⟨b1, 0, none⟩)) := by rw [hbw.cell (p := ⟨b, off + k, none⟩) hb]; exact c0
      have d1 : wr.cell? ⟨b1, 0, none⟩ = some (.pointer (some ⟨b2, 0, none⟩)) := hatr.nm
      have d2 : wr.cell? ⟨b1, 1, none⟩ = some (.pointer (some ⟨b3, 0, none⟩)) := hatr.vl
      have d3 : wr.cell? ⟨b2, 0, none⟩ = some (.string x) := hatr.n
      have d4 : wr.cell? ⟨b3, 0, none⟩ = some (.string y) := hatr.v
      have C1 := Lib.hid ((getName_any b1 b2 x wr d1 d3).mono (fun e w' h => And.intro h.1 h.2.symm) : Calls _ _ _ _ (fun e w' => e = .returned (.string x) ∧ wr = w'))
      have C2 := Lib.hid ((getValue_any b1 b3 y wr d2 d4).mono (fun e w' h => And.intro h.1 h.2.symm) : Calls _ _ _ _ (fun e w' => e = .returned (.string y) ∧ wr = w'))
      have z1 : (0 : Int) ≤ (k : Int) := by omega
      have z2 : (k : Int) < (F.length : Int) := by omega
      obtain ⟨au, cu, rfl⟩ := row_slice2 hgot.out.2.1
      have HTk := Lib.hid htk
      have HNews := Lib.hid (Ss.news_one wr #[.string x, .string y] 211)
      clear c0 hat hatr hqk hxy hbw htk hacc d1 d2 d3 d4
      go_wp2_with fail
      refine C1.out.mono ?_
      rintro e w1 ⟨rfl, rfl⟩
      go_wp2_with fail
      refine C2.out.mono ?_
      rintro e w1 ⟨rfl, rfl⟩
      go_wp2_with (first
        | (at_builtin; refine wpList_append_own_at _ rfl _ _ 28 rfl w.heap.size 211 i0 (.agg #[.string ByteArray.empty, .string ByteArray.empty]) 2 32 Tryz.underlying28 hi hz0 hz1 hz2 rfl (by decide) _ _ _ rfl (hgot.out.2.1.alloc _) ⟨wr.heap.size, 0, none⟩ 1 1 [.string x, .string y] rfl rfl (by simpa using HNews.out) (ones2 [(x, y)]) (by unfold maxLen; omega) (by omega) (by simp; omega) ?_; intro v2 W4 hown2 hgrow2 hnil2 hloc2; have hg3 : Hid (GotT 211 w.heap.size (k + 1) (F.take (k + 1)) v2 w W4) := (by show GotT 211 _ _ _ _ _ _; rw [HTk.out]; exact hgot.out.app hsz hown2 hgrow2); clear hown2 hgrow2 hnil2 hloc2))
      go_roundw
      case rel => exact ⟨k + 1, _, by omega, rfl, by go_num, hg3.out⟩
      case measure => simp [intOf]; omega
    · obtain rfl : k = F.length := by omega
      have hg2 := hgot.out
      rw [List.take_length] at hg2
      have hfin : Hid (ListOwn F w (.returned u) wr) := ⟨u, rfl, hg2.2.1, hg2.2.2⟩
      clear hg2 hgot
      go_wp2_with fail
      go_ret
      exact hfin.out

theorem infoSP : (Tryz.prog.info? 138).map (fun i => (i.zero, i.size, i.bytes)) = some (some (.agg #[.string ByteArray.empty, .string ByteArray.empty]), 2, 32) := by kernel_rfl
set_option maxHeartbeats 1000000 in
set_option maxRecDepth 100000 in
theorem pairFrom_any (x y : ByteArray) (w : World) :
    Calls Tryz.prog 91 #[.agg #[.string x, .string y]] w fun e w' => e = .returned (.agg #[.string x, .string y]) ∧ Below w.heap.size w w' := by
  go_enter Tryz.func91, Tryz.ntmps91
  go_wp2
  exact bodyPost_ret (v := .agg #[.string x, .string y]) (by simp [results, Tryz.results91, go_sem]) rfl ⟨rfl, ((Below.refl _ _).alloc (Nat.le_refl _) _).alloc (by simp) _⟩
def FromOwn (L : List P2) (w : World) (e : Ending) (w' : World) : Prop := ∃ v, e = .returned v ∧ w'.ownsRow w.heap.size 138 2 v L.length (L.flatMap pc) ∧ Below w.heap.size w w'
set_option maxHeartbeats 4000000 in
set_option maxRecDepth 100000 in
theorem pairsFrom_own (L : List P2) (v : Value) (w : World) (hof : Ss.Of 2 pc w v L) (hL : L.length ≤ 2147483647) :
    Calls Tryz.prog 47 #[v] w (FromOwn L w) := by
  obtain ⟨i0, hi, hz0, hz1, hz2⟩ := info_parts infoSP
  obtain ⟨av, cv, rfl, _, _⟩ := hof.slice
  have HOf := Lib.hid hof
  have HG0 : Hid (GotT 138 w.heap.size 0 [] (.slice none 0 0) w w) := ⟨Nat.le_refl _, World.ownsRow_nil _ _ _ _, Below.refl _ _⟩
  clear hof
  go_enter Tryz.func47, Tryz.ntmps47
  go_wp2_with fail
  go_loopw [3, 4] (fun vu vk wr => ∃ (k : Nat) (u : Value), k ≤ L.length ∧ u = vu ∧ vk = .int .i64 (k : Int) ∧ Hid (GotT 138 w.heap.size k (L.take k) u w wr)) (fun _ k _ => L.length - (intOf k).toNat)
  case atStart => exact ⟨0, _, Nat.zero_le _, rfl, rfl, HG0.out⟩
  case round =>
    obtain ⟨k, u, hk, rfl, rfl, hgot⟩ := hrel
    by_cases hlt : k < L.length
    · obtain ⟨b, off, hav, hb, d0, d1⟩ := pair_of HOf.out hlt
      have htk : L.take (k + 1) = L.take k ++ [L[k]] := List.take_succ_eq_append_getElem hlt
      subst hav
      obtain ⟨x, y, hxy⟩ : ∃ x y, L[k] = (x, y) := ⟨_, _, rfl⟩
      obtain ⟨acc, hacc⟩ : ∃ acc, L.take k = acc := ⟨_, rfl⟩
      rw [hxy] at d0 d1 htk
      rw [hacc] at hgot htk
      have hbw := hgot.out.2.2
      have hal := hgot.out.1
      have hsz : w.heap.size ≤ wr.heap.size := hbw.size
      have c0 : wr.cell? ⟨b, off + k * 2, none⟩ = some (.string x) := by rw [hbw.cell (p := ⟨b, off + k * 2, none⟩) hb]; exact d0
      have c1 : wr.cell? ⟨b, off + k * 2 + 1, none⟩ = some (.string y) := by rw [hbw.cell (p := ⟨b, off + k * 2 + 1, none⟩) hb]; exact d1
      have z1 : (0 : Int) ≤ (k : Int) := by omega
      have z2 : (k : Int) < (L.length : Int) := by omega
      obtain ⟨au, cu, rfl⟩ := row_slice2 hgot.out.2.1
      have HTk := Lib.hid htk
      clear d0 d1 hxy hbw htk hacc
      go_wp2_with fail
      refine (pairFrom_any x y wr).mono ?_
      rintro e w1 ⟨rfl, hb1⟩
      have hg1 : Hid (GotT 138 w.heap.size k acc (.slice au acc.length cu) w w1) := hgot.out.below hsz hb1
      have hs1 : w.heap.size ≤ w1.heap.size := Nat.le_trans hsz hb1.size
      have HNews := Lib.hid (Ss.news_one w1 #[.string x, .string y] 138)
      clear hb1 hgot c0 c1
      go_wp2_with (first
        | (at_builtin; refine wpList_append_own_at _ rfl _ _ 45 rfl w.heap.size 138 i0 (.agg #[.string ByteArray.empty, .string ByteArray.empty]) 2 32 Tryz.underlying45 hi hz0 hz1 hz2 rfl (by decide) _ _ _ rfl (hg1.out.2.1.alloc _) ⟨w1.heap.size, 0, none⟩ 1 1 [.string x, .string y] rfl rfl (by simpa using HNews.out) (ones2 [(x, y)]) (by unfold maxLen; omega) (by omega) (by simp; omega) ?_; intro v2 W4 hown2 hgrow2 hnil2 hloc2; have hg3 : Hid (GotT 138 w.heap.size (k + 1) (L.take (k + 1)) v2 w W4) := (by show GotT 138 _ _ _ _ _ _; rw [HTk.out]; exact hg1.out.app hs1 hown2 hgrow2); clear hown2 hgrow2 hnil2 hloc2))
      go_roundw
      case rel => exact ⟨k + 1, _, by omega, rfl, by go_num, hg3.out⟩
      case measure => simp [intOf]; omega
    · obtain rfl : k = L.length := by omega
      have hg2 := hgot.out
      rw [List.take_length] at hg2
      have hfin : Hid (FromOwn L w (.returned u) wr) := ⟨u, rfl, hg2.2.1, hg2.2.2⟩
      clear hg2 hgot
      go_wp2_with fail
      go_ret
      exact hfin.out

open Classical in
noncomputable def pairsB (A B : List P2) : Bool := decide (A = B)
theorem pairsB_iff {A B : List P2} : pairsB A B = true ↔ A = B := by classical exact ⟨fun h => of_decide_eq_true h, fun h => decide_eq_true h⟩
theorem pairsB_no {A B : List P2} (h : A ≠ B) : pairsB A B = false := by
  cases hb : pairsB A B with
  | false => rfl
  | true => exact absurd (pairsB_iff.1 hb) h

theorem neq_pair (x y p q : ByteArray) (W : World) : (binOp .neq 138 (.agg #[.string x, .string y]) (.agg #[.string p, .string q])).run Tryz.prog W = .ok (.bool (!((x.toList == p.toList) && (y.toList == q.toList)))) W := by
  have hf : Tryz.prog.fieldsOf 138 = Tryz.prog.fieldsOf 138 := rfl
  have hu : Tryz.prog.underlying 138 = some (.struct (Tryz.prog.fieldsOf 138)) := by kernel_rfl
  have hp : Tryz.prog.stoodInHeld 138 = false := by kernel_rfl
  rw [run_neq_struct, run_equalIn_agg W 9999 _ _ _ hu hp]
  simp only [Program.fieldsOf, Tryz.underlying138]
  cases h1 : (x.toList == p.toList) <;> cases h2 : (y.toList == q.toList) <;> simp [Op.eqFields, go_sem, h1, h2]
set_option maxHeartbeats 4000000 in
set_option maxRecDepth 100000 in
theorem samePairs_any (A B : List P2) (va vb : Value) (w : World) (ha : Ss.Of 2 pc w va A) (hb : Ss.Of 2 pc w vb B) (hA : A.length ≤ 2147483647) (hB : B.length ≤ 2147483647) :
    Calls Tryz.prog 43 #[va, vb] w fun e w' => e = .returned (.bool (pairsB A B)) ∧ Below w.heap.size w w' := by
  obtain ⟨a1, c1, rfl, _, _⟩ := ha.slice
  obtain ⟨a2, c2, rfl, _, _⟩ := hb.slice
  have HA := Lib.hid ha
  have HB := Lib.hid hb
  clear ha hb
  by_cases hl : A.length = B.length
  · have HL := Lib.hid hl
    have hl2 : ((A.length : Int) != (B.length : Int)) = false := by rw [bne_eq_false_iff_eq]; omega
    clear hl
    go_enter Tryz.func43, Tryz.ntmps43
    go_wp2_with fail
    go_loopw [5] (fun vk wr => ∃ k m : Nat, k ≤ A.length ∧ vk = .int .i64 (k : Int) ∧ Hid (∀ j (h1 : j < A.length) (h2 : j < B.length), j < k → A[j] = B[j]) ∧ Hid (wr = w.drewN m)) (fun k _ => A.length - (intOf k).toNat)
    case atStart => exact ⟨0, 0, Nat.zero_le _, rfl, fun j _ _ h => absurd h (Nat.not_lt_zero _), rfl⟩
    case round =>
      obtain ⟨k, m, hk, rfl, hall, hwy⟩ := hrel
      by_cases hlk : k < A.length
      · have hlk2 : k < B.length := by rw [← HL.out]; exact hlk
        obtain ⟨g1, o1, h1, _, d0, d1⟩ := pair_of HA.out hlk
        obtain ⟨g2, o2, h2, _, d2, d3⟩ := pair_of HB.out hlk2
        subst h1
        subst h2
        obtain ⟨x, y, hx⟩ : ∃ x y, A[k] = (x, y) := ⟨_, _, rfl⟩
        obtain ⟨p, q, hy⟩ : ∃ p q, B[k] = (p, q) := ⟨_, _, rfl⟩
        rw [hx] at d0 d1
        rw [hy] at d2 d3
        have e0 : wr.cell? ⟨g1, o1 + k * 2, none⟩ = some (.string x) := by rw [hwy.out]; exact d0
        have e1 : wr.cell? ⟨g1, o1 + k * 2 + 1, none⟩ = some (.string y) := by rw [hwy.out]; exact d1
        have e2 : wr.cell? ⟨g2, o2 + k * 2, none⟩ = some (.string p) := by rw [hwy.out]; exact d2
        have e3 : wr.cell? ⟨g2, o2 + k * 2 + 1, none⟩ = some (.string q) := by rw [hwy.out]; exact d3
        have y1 : (0 : Int) ≤ (k : Int) := by omega
        have y2 : (k : Int) < (A.length : Int) := by omega
        have y3 : (k : Int) < (B.length : Int) := by omega
        have HX := Lib.hid hx
        have HY := Lib.hid hy
        clear d0 d1 d2 d3 hx hy
        have hgt : Tryz.prog.eqGuardType Tryz.prog.depth 138 = false := by kernel_rfl
        have hne : ∀ W, (binOp .neq 138 (.agg #[.string x, .string y]) (.agg #[.string p, .string q])).run Tryz.prog W = .ok (.bool (!((x.toList == p.toList) && (y.toList == q.toList)))) W := neq_pair x y p q
        cases hq : ((x.toList == p.toList) && (y.toList == q.toList)) with
        | true =>
          rw [hq] at hne
          have hall2 : Hid (∀ j (h1 : j < A.length) (h2 : j < B.length), j < k + 1 → A[j] = B[j]) := fun j h1 h2 h => by
            rcases Nat.lt_or_ge j k with h3 | h3
            · exact hall.out j h1 h2 h3
            · have : j = k := by omega
              subst this
              rw [Bool.and_eq_true] at hq
              rw [HX.out, HY.out, ba_eq hq.1, ba_eq hq.2]
          clear hall hq
          go_wp2_with fail
          go_quiet (fail)
          have hw2 : Hid (wr.drewN nq = w.drewN (m + nq)) := by show _ = _; rw [hwy.out, World.drewN_drewN]
          go_wp2_with fail
          go_roundw
          case rel => exact ⟨k + 1, m + nq, by omega, by go_num, hall2.out, hw2.out⟩
          case measure => simp [intOf]; omega
        | false =>
          rw [hq] at hne
          have HR : Hid (pairsB A B = false) := pairsB_no fun h => by
            have e : A[k] = B[k] := by simp only [h]
            rw [HX.out, HY.out] at e
            injection e with e1 e2
            rw [e1, e2] at hq
            simp at hq
          clear hall hq
          go_wp2_with fail
          go_quiet (fail)
          have hfin : Hid (Below w.heap.size w (wr.drewN nq)) := by show Below _ _ _; rw [hwy.out, World.drewN_drewN]; exact bdr (Below.refl _ _) _
          go_wp2_with fail
          go_ret
          exact ⟨by rw [HR.out]; rfl, hfin.out⟩
      · have HR : Hid (pairsB A B = true) := pairsB_iff.2 (List.ext_getElem HL.out fun j h1 h2 => hall.out j h1 h2 (by omega))
        have hge : ¬ ((k : Int) < (A.length : Int)) := by omega
        have hfin : Hid (Below w.heap.size w wr) := by show Below _ _ _; rw [hwy.out]; exact bdr (Below.refl _ _) _
        clear hall
        go_wp2_with fail
        go_ret
        exact ⟨by rw [HR.out]; rfl, hfin.out⟩
  · have hl2 : ((A.length : Int) != (B.length : Int)) = true := by rw [bne_iff_ne]; omega
    have HR : Hid (pairsB A B = false) := pairsB_no fun h => hl (by rw [h])
    clear hl
    go_enter Tryz.func43, Tryz.ntmps43
    go_wp2_with fail
    go_ret
    exact ⟨by rw [HR.out]; rfl, Below.refl _ _⟩

end Go.Proofs.YtlolomodcbkblaaGreatDoor.Nd
