/- Descriptors: the reference's equality of descriptors (spec.DescSame) walked. -/
import Derived.Test.YtfcpapbokefdmaaGreatDoorNsf
import Derived.Deep.RegionHeld3
import Derived.Deep.QuietTactic
import Derived.BigQuiet
set_option linter.unusedVariables false
set_option linter.unusedSimpArgs false
namespace Go.Proofs.YtfcpapbokefdmaaGreatDoor.Nd
open Go.RowKit Go.ChangeShapes Go.WideShapes Go.Deep Fp Obs

open Classical in
noncomputable def sameB (n1 n2 : ByteArray) (F1 F2 : List P2) : Bool := decide (n1 = n2 ∧ F1.map (·.2) = F2.map (·.2))
theorem sameB_iff {n1 n2 : ByteArray} {F1 F2 : List P2} : sameB n1 n2 F1 F2 = true ↔ n1 = n2 ∧ F1.map (·.2) = F2.map (·.2) := by classical exact ⟨fun h => of_decide_eq_true h, fun h => decide_eq_true h⟩
theorem sameB_no {n1 n2 : ByteArray} {F1 F2 : List P2} (h : ¬ (n1 = n2 ∧ F1.map (·.2) = F2.map (·.2))) : sameB n1 n2 F1 F2 = false := by
  cases hb : sameB n1 n2 F1 F2 with
  | false => rfl
  | true => exact absurd (sameB_iff.1 hb) h
theorem ba_eq {s t : ByteArray} (h : (s.toList == t.toList) = true) : s = t := by
  have h := eq_of_beq h
  rw [Lib.toList_data, Lib.toList_data] at h
  exact dl_inj h
set_option maxHeartbeats 8000000 in
set_option maxRecDepth 100000 in
theorem same_any (mv1 mv2 : Value) (n1 h1 u1 n2 h2 u2 : ByteArray) (V1 V2 : List ByteArray) (L1 L2 : List P2) (w : World) (hm1 : MetaAt w mv1 n1 h1 u1 V1 L1) (hm2 : MetaAt w mv2 n2 h2 u2 V2 L2) :
    Calls Tryz.prog 15 #[mv1, mv2] w fun e w' => e = .returned (.bool (sameB n1 n2 (fit L1) (fit L2))) ∧ Below w.heap.size w w' := by
  obtain ⟨vv1, cv1, rfl, hvv1, hcv1⟩ := hm1.val
  obtain ⟨vv2, cv2, rfl, hvv2, hcv2⟩ := hm2.val
  have s1 : (w.alloc (.cells #[.string n1, .string h1, .string u1, vv1, cv1] 25)).heap.size = w.heap.size + 1 := by simp
  have s2 : ((w.alloc (.cells #[.string n1, .string h1, .string u1, vv1, cv1] 25)).alloc (.cells #[.string n2, .string h2, .string u2, vv2, cv2] 25)).heap.size = w.heap.size + 1 + 1 := by simp
  have hqb : Below w.heap.size w ((w.alloc (.cells #[.string n1, .string h1, .string u1, vv1, cv1] 25)).alloc (.cells #[.string n2, .string h2, .string u2, vv2, cv2] 25)) := ((Below.refl _ _).alloc (Nat.le_refl _) _).alloc (by simp) _
  obtain ⟨A, hA⟩ : ∃ A, ((w.alloc (.cells #[.string n1, .string h1, .string u1, vv1, cv1] 25)).alloc (.cells #[.string n2, .string h2, .string u2, vv2, cv2] 25)) = A := ⟨_, rfl⟩
  have HUp : Hid (∀ W : World, Below (w.heap.size + 1 + 1) ((w.alloc (.cells #[.string n1, .string h1, .string u1, vv1, cv1] 25)).alloc (.cells #[.string n2, .string h2, .string u2, vv2, cv2] 25)) W → Below w.heap.size w W) := fun W h => hqb.trans (h.mono (by omega))
  have HC : Hid (∀ w' : World, Below (w.heap.size + 1 + 1) ((w.alloc (.cells #[.string n1, .string h1, .string u1, vv1, cv1] 25)).alloc (.cells #[.string n2, .string h2, .string u2, vv2, cv2] 25)) w' → (w'.cell? ⟨w.heap.size, 4, none⟩ = some cv1 ∧ w'.cell? ⟨w.heap.size + 1, 4, none⟩ = some cv2) ∧ w'.cell? ⟨w.heap.size, 0, none⟩ = some (.string n1) ∧ w'.cell? ⟨w.heap.size + 1, 0, none⟩ = some (.string n2)) := fun W h => by
    have e : ∀ j, W.cell? ⟨w.heap.size, j, none⟩ = (#[.string n1, .string h1, .string u1, vv1, cv1] : Array Value)[j]? := fun j => ((h.cell (p := ⟨w.heap.size, j, none⟩) (by show w.heap.size < w.heap.size + 1 + 1; omega)).trans (Sl.cell_old (w.alloc (.cells #[.string n1, .string h1, .string u1, vv1, cv1] 25)) _ _ _ (by rw [s1]; omega))).trans (Sl.cell_new w _ _ j)
    have e2 : ∀ j, W.cell? ⟨w.heap.size + 1, j, none⟩ = (#[.string n2, .string h2, .string u2, vv2, cv2] : Array Value)[j]? := fun j => by
      have h1 := Sl.cell_new (w.alloc (.cells #[.string n1, .string h1, .string u1, vv1, cv1] 25)) #[.string n2, .string h2, .string u2, vv2, cv2] 25 j
      rw [s1] at h1
      exact (h.cell (p := ⟨w.heap.size + 1, j, none⟩) (by show w.heap.size + 1 < w.heap.size + 1 + 1; omega)).trans h1
    exact ⟨⟨e 4, e2 4⟩, e 0, e2 0⟩
  have HF1 : Hid (∀ W : World, Below (w.heap.size + 1 + 1) ((w.alloc (.cells #[.string n1, .string h1, .string u1, vv1, cv1] 25)).alloc (.cells #[.string n2, .string h2, .string u2, vv2, cv2] 25)) W → Calls Tryz.prog 24 #[cv1] W (fun e w' => ∃ a c, e = .returned (.slice a (fit L1).length c) ∧ (∃ B, w'.ownsRow B 88 2 (.slice a (fit L1).length c) (fit L1).length ((fit L1).flatMap pc)) ∧ Below (w.heap.size + 1 + 1) ((w.alloc (.cells #[.string n1, .string h1, .string u1, vv1, cv1] 25)).alloc (.cells #[.string n2, .string h2, .string u2, vv2, cv2] 25)) w')) := fun W h => by
    have hz := h.size
    refine (fit_any L1 cv1 W (hcv1.below (HUp.out W h)) (by have := hm1.lenL; omega)).mono ?_
    rintro e w' ⟨v, rfl, ho, hb⟩
    obtain ⟨a, c, rfl⟩ := row_slice2 ho
    exact ⟨a, c, rfl, ⟨_, ho⟩, h.trans (hb.mono (by omega))⟩
  have HF2 : Hid (∀ W : World, Below (w.heap.size + 1 + 1) ((w.alloc (.cells #[.string n1, .string h1, .string u1, vv1, cv1] 25)).alloc (.cells #[.string n2, .string h2, .string u2, vv2, cv2] 25)) W → Calls Tryz.prog 24 #[cv2] W (fun e w' => ∃ a c, e = .returned (.slice a (fit L2).length c) ∧ (∃ B, w'.ownsRow B 88 2 (.slice a (fit L2).length c) (fit L2).length ((fit L2).flatMap pc)) ∧ Below W.heap.size W w' ∧ Below (w.heap.size + 1 + 1) ((w.alloc (.cells #[.string n1, .string h1, .string u1, vv1, cv1] 25)).alloc (.cells #[.string n2, .string h2, .string u2, vv2, cv2] 25)) w')) := fun W h => by
    have hz := h.size
    refine (fit_any L2 cv2 W (hcv2.below (HUp.out W h)) (by have := hm2.lenL; omega)).mono ?_
    rintro e w' ⟨v, rfl, ho, hb⟩
    obtain ⟨a, c, rfl⟩ := row_slice2 ho
    exact ⟨a, c, rfl, ⟨_, ho⟩, hb, h.trans (hb.mono (by omega))⟩
  have HQ := Lib.hid (bdr (Below.refl (w.heap.size + 1 + 1) ((w.alloc (.cells #[.string n1, .string h1, .string u1, vv1, cv1] 25)).alloc (.cells #[.string n2, .string h2, .string u2, vv2, cv2] 25))) 1)
  have k1 := (HC.out _ HQ.out).1
  have k0 := (HC.out _ (Below.refl _ _)).1
  obtain ⟨F1, hF1⟩ : ∃ F, fit L1 = F := ⟨_, rfl⟩
  obtain ⟨F2, hF2⟩ : ∃ F, fit L2 = F := ⟨_, rfl⟩
  have l1 : F1.length ≤ 1048576 := by rw [← hF1]; exact Nat.le_trans (fit_le L1) hm1.lenL
  have l2 : F2.length ≤ 1048576 := by rw [← hF2]; exact Nat.le_trans (fit_le L2) hm2.lenL
  have HNx : Hid (∀ (W2 W3 : World) a1 c1 a2 c2, (∃ B, W2.ownsRow B 88 2 (.slice a1 F1.length c1) F1.length (F1.flatMap pc)) → (∃ B, W3.ownsRow B 88 2 (.slice a2 F2.length c2) F2.length (F2.flatMap pc)) → Below W2.heap.size W2 W3 →
      (∀ k (h : k < F1.length), ∃ g, a1 = some ⟨g, 0, none⟩ ∧ g < W3.heap.size ∧ W3.cell? ⟨g, k * 2 + 1, none⟩ = some (.string (F1[k]).2)) ∧ (∀ k (h : k < F2.length), ∃ g, a2 = some ⟨g, 0, none⟩ ∧ g < W3.heap.size ∧ W3.cell? ⟨g, k * 2 + 1, none⟩ = some (.string (F2[k]).2))) := fun W2 W3 a1 c1 a2 c2 ⟨B1, o1⟩ ⟨B2, o2⟩ hb => by
    have o1 := own_below o1 hb
    refine ⟨fun k hk => ?_, fun k hk => ?_⟩
    · obtain ⟨g, rfl, _, e⟩ := ps_cells (B := B1) o1 hk
      exact ⟨g, rfl, (o1.lt g rfl).2, e⟩
    · obtain ⟨g, rfl, _, e⟩ := ps_cells (B := B2) o2 hk
      exact ⟨g, rfl, (o2.lt g rfl).2, e⟩
  rw [hF1] at HF1
  rw [hF2] at HF2
  rw [hF1, hF2]
  have HS : Hid (∀ b : Bool, (b = true ↔ (n1 = n2 ∧ F1.map (·.2) = F2.map (·.2))) → sameB n1 n2 F1 F2 = b) := fun b hb => by
    cases b with
    | true => exact sameB_iff.2 (hb.1 rfl)
    | false => exact sameB_no fun h => Bool.noConfusion (hb.2 h)
  clear hm1 hm2 hvv1 hcv1 hvv2 hcv2 hqb hF1 hF2 hA s1 s2
  clear A
  go_enter Tryz.func15, Tryz.ntmps15
  go_wp2_with fail
  go_region_held3 (fun w' => w'.cell? ⟨w.heap.size, 4, none⟩ = some cv1 ∧ w'.cell? ⟨w.heap.size + 1, 4, none⟩ = some cv2) (first | exact k0 | exact k1 | exact k2 | exact k3)
    (first
      | (go_at_call 24; refine (HF2.out _ HA.out.2).mono ?_; rintro e W3 ⟨a2, c2, rfl, ho2, hb2, hb3⟩; have HE := Lib.hid (HNx.out _ _ _ _ _ _ HA.out.1 ho2 hb2); have HB3 := Lib.hid hb3; have k3 := (HC.out W3 hb3).1; clear ho2 hb2 hb3)
      | (go_at_call 24; refine (HF1.out _ HQ.out).mono ?_; rintro e W2 ⟨a1, c1, rfl, ho1, hb1⟩; have HA := Lib.hid (And.intro ho1 hb1); have k2 := (HC.out W2 hb1).1; clear ho1 hb1))
  have kk := HC.out W3 HB3.out
  obtain ⟨_, kn1, kn2⟩ := kk
  have HFin := Lib.hid (HUp.out W3 HB3.out)
  clear k0 k1 k2 k3 HF1 HF2 HQ HA HC HUp HNx
  cases hn : (n1.toList == n2.toList) with
  | false =>
    have hn2 : (n1.toList != n2.toList) = true := by unfold bne; rw [hn]; rfl
    have HR : Hid (sameB n1 n2 F1 F2 = false) := HS.out false ⟨fun h => Bool.noConfusion h, fun h => by rw [h.1] at hn; simp at hn⟩
    go_wp2_with fail
    go_ret
    exact ⟨by rw [HR.out]; rfl, HFin.out⟩
  | true =>
    have hne := Lib.hid (ba_eq hn)
    have hn2 : (n1.toList != n2.toList) = false := by unfold bne; rw [hn]; rfl
    by_cases hl : F1.length = F2.length
    · have HL := Lib.hid hl
      have hl2 : ((F1.length : Int) != (F2.length : Int)) = false := by rw [bne_eq_false_iff_eq]; omega
      clear hl
      have HE1 := Lib.hid HE.out.1
      have HE2 := Lib.hid HE.out.2
      have HAll : Hid (∀ (h : ∀ j (h1 : j < F1.length) (h2 : j < F2.length), (F1[j]).2 = (F2[j]).2), sameB n1 n2 F1 F2 = true) := fun h => HS.out true ⟨fun _ => ⟨hne.out, by
        apply List.ext_getElem (by simpa using HL.out)
        intro j h1 h2
        simp only [List.getElem_map]
        exact h j _ _⟩, fun _ => rfl⟩
      have HNo : Hid (∀ j (h1 : j < F1.length) (h2 : j < F2.length), (F1[j]).2 ≠ (F2[j]).2 → sameB n1 n2 F1 F2 = false) := fun j h1 h2 hne => HS.out false ⟨fun h => Bool.noConfusion h, fun h => by
        exfalso
        have h3 := h.2
        have e1 : (F1.map (·.2))[j]'(by simpa using h1) = (F1[j]).2 := List.getElem_map _
        have e2 : (F2.map (·.2))[j]'(by simpa using h2) = (F2[j]).2 := List.getElem_map _
        exact hne (by rw [← e1, ← e2]; simp only [h3])⟩
      go_wp2_with fail
      go_loopw [7] (fun vk wr => ∃ k m : Nat, k ≤ F1.length ∧ vk = .int .i64 (k : Int) ∧ Hid (∀ j (h1 : j < F1.length) (h2 : j < F2.length), j < k → (F1[j]).2 = (F2[j]).2) ∧ Hid (wr = W3.drewN m)) (fun k _ => F1.length - (intOf k).toNat)
      case atStart => exact ⟨0, 0, Nat.zero_le _, rfl, fun j _ _ h => absurd h (Nat.not_lt_zero _), rfl⟩
      case round =>
        obtain ⟨k, m, hk, rfl, hall, hwy⟩ := hrel
        by_cases hlk : k < F1.length
        · have hlk2 : k < F2.length := by rw [← HL.out]; exact hlk
          obtain ⟨g1, rfl, _, c1⟩ := HE1.out k hlk
          obtain ⟨g2, rfl, _, c2⟩ := HE2.out k hlk2
          obtain ⟨x, hx⟩ : ∃ x, (F1[k]).2 = x := ⟨_, rfl⟩
          obtain ⟨y, hy⟩ : ∃ y, (F2[k]).2 = y := ⟨_, rfl⟩
          rw [hx] at c1
          rw [hy] at c2
          have d1 : wr.cell? ⟨g1, k * 2 + 1, none⟩ = some (.string x) := by rw [hwy.out]; exact c1
          have d2 : wr.cell? ⟨g2, k * 2 + 1, none⟩ = some (.string y) := by rw [hwy.out]; exact c2
          have y1 : (0 : Int) ≤ (k : Int) := by omega
          have y2 : (k : Int) < (F1.length : Int) := by omega
          have y3 : (k : Int) < (F2.length : Int) := by omega
          have HX := Lib.hid hx
          have HY := Lib.hid hy
          clear c1 c2 hx hy
          cases hxy : (x.toList == y.toList) with
          | true =>
            have hxy2 : (x.toList != y.toList) = false := by unfold bne; rw [hxy]; rfl
            have hall2 : Hid (∀ j (h1 : j < F1.length) (h2 : j < F2.length), j < k + 1 → (F1[j]).2 = (F2[j]).2) := fun j h1 h2 h => by
              rcases Nat.lt_or_ge j k with h3 | h3
              · exact hall.out j h1 h2 h3
              · have : j = k := by omega
                subst this
                rw [HX.out, HY.out]
                exact ba_eq hxy
            clear hall
            go_wp2_with fail
            go_quiet (fail)
            have hw2 : Hid (wr.drewN nq = W3.drewN (m + nq)) := by show _ = _; rw [hwy.out, World.drewN_drewN]
            go_wp2_with fail
            go_roundw
            case rel => exact ⟨k + 1, m + nq, by omega, by go_num, hall2.out, hw2.out⟩
            case measure => simp [intOf]; omega
          | false =>
            have hxy2 : (x.toList != y.toList) = true := by unfold bne; rw [hxy]; rfl
            have HR : Hid (sameB n1 n2 F1 F2 = false) := HNo.out k hlk hlk2 (by rw [HX.out, HY.out]; rintro rfl; simp at hxy)
            clear hall
            go_wp2_with fail
            go_quiet (fail)
            have hfin : Hid (Below w.heap.size w (wr.drewN nq)) := by show Below _ _ _; rw [hwy.out, World.drewN_drewN]; exact bdr HFin.out _
            go_wp2_with fail
            go_ret
            exact ⟨by rw [HR.out]; rfl, hfin.out⟩
        · have HR : Hid (sameB n1 n2 F1 F2 = true) := HAll.out fun j h1 h2 => hall.out j h1 h2 (by omega)
          have hge : ¬ ((k : Int) < (F1.length : Int)) := by omega
          have hfin : Hid (Below w.heap.size w wr) := by show Below _ _ _; rw [hwy.out]; exact bdr HFin.out _
          clear hall
          go_wp2_with fail
          go_ret
          exact ⟨by rw [HR.out]; rfl, hfin.out⟩
    · have hl2 : ((F1.length : Int) != (F2.length : Int)) = true := by rw [bne_iff_ne]; omega
      have HR : Hid (sameB n1 n2 F1 F2 = false) := HS.out false ⟨fun h => Bool.noConfusion h, fun h => absurd (by simpa using congrArg List.length h.2) hl⟩
      clear hl
      go_wp2_with fail
      go_ret
      exact ⟨by rw [HR.out]; rfl, HFin.out⟩

end Go.Proofs.YtfcpapbokefdmaaGreatDoor.Nd
