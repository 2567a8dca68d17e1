/- FnMetaText: two plain descriptors have the same text if and only if they have the same name, help, constant labels and variable labels, these in the same order: how the arguments are read, and the walk of the law. -/
import Derived.Test.YtfcpapbokefdmaaGreatDoorTxm
import Derived.Test.YtfcpapbokefdmaaGreatDoorTxt
import Derived.Test.YtfcpapbokefdmaaGreatDoorTxg
import Derived.Test.YtfcpapbokefdmaaGreatDoorNlb
import Derived.Test.YtfcpapbokefdmaaGreatDoorNsf
import Derived.Deep.DeepCutAuto
import Derived.Test.YtfcpapbokefdmaaGreatDoorNsh
import Derived.Test.YtfcpapbokefdmaaGreatDoorNsi
import Derived.Test.YtfcpapbokefdmaaGreatDoorNgl
import Derived.Test.YtfcpapbokefdmaaGreatDoorFq
set_option linter.unusedVariables false
set_option linter.unusedSimpArgs false
namespace Go.Proofs.YtfcpapbokefdmaaGreatDoor.MetaText
open Go.RowKit Go.ChangeShapes Go.WideShapes Go.Deep Fp Obs _root_.Go.Proofs.YtfcpapbokefdmaaGreatDoor.Nd

def Good (w : World) (v : Value) : Prop := ∃ nm hp un V L, MetaAt w v nm hp un V L ∧ Small nm hp un V L
set_option maxRecDepth 100000 in
theorem read0 {H : Type} {enc : TypeId × Value → H} {W : World} {base b0 : Nat} {held : Bool} {r : Reach} {v : Value} {d : DataW H} {p : List MemPlace}
    (hv : Value.okWide Tryz.prog W r b0 25 v) (h : DataW.Trod enc Tryz.prog W base (fun _ => true) held 25 v d p) (hb : Rows.uptoBulk d ≤ 1048576) : Good W v := by
  obtain ⟨nm, hp, un, V, L, h1, h2, _⟩ := meta_read hv h hb
  exact ⟨nm, hp, un, V, L, h1, h2⟩
set_option maxRecDepth 100000 in
theorem read1 {H : Type} {enc : TypeId × Value → H} {W : World} {base b0 : Nat} {held : Bool} {r : Reach} {v : Value} {d : DataW H} {p : List MemPlace}
    (hv : Value.okWide Tryz.prog W r b0 25 v) (h : DataW.Trod enc Tryz.prog W base (fun _ => true) held 25 v d p) (hb : Rows.uptoBulk d ≤ 1048576) : Good W v := read0 hv h hb

set_option maxHeartbeats 16000000 in
set_option maxRecDepth 100000 in
theorem law_any (v v1 : Value) (w : World) (g1 : Good w v) (g2 : Good w v1) (hG : Tx.GlobQ w) :
    Calls Tryz.prog 6 #[v, v1] w fun e w' => e = .returned (.bool true) ∧ Below w.heap.size w w' := by
  obtain ⟨n1, h1, u1, V1, L1, hm1, hs1⟩ := g1
  obtain ⟨n2, h2, u2, V2, L2, hm2, hs2⟩ := g2
  obtain ⟨vv1, cv1, rfl, hvv1, hcv1⟩ := id hm1.val
  obtain ⟨vv2, cv2, rfl, hvv2, hcv2⟩ := id hm2.val
  obtain ⟨A, hA⟩ : ∃ A, A = ((w.alloc (.cells #[.string n1, .string h1, .string u1, vv1, cv1] 25)).alloc (.cells #[.string n2, .string h2, .string u2, vv2, cv2] 25)) := ⟨_, rfl⟩
  have s1 : (w.alloc (.cells #[.string n1, .string h1, .string u1, vv1, cv1] 25)).heap.size = w.heap.size + 1 := by simp
  have s2 : A.heap.size = w.heap.size + 1 + 1 := by rw [hA]; simp
  have hqb : Below w.heap.size w A := by rw [hA]; exact ((Below.refl _ _).alloc (Nat.le_refl _) _).alloc (by simp) _
  have HUp : Hid (∀ W : World, Below (w.heap.size + 1 + 1) A W → Below w.heap.size w W) := fun W h => hqb.trans (h.mono (by omega))
  have HTr : Hid (∀ W W' : World, Below (w.heap.size + 1 + 1) A W → Below W.heap.size W W' → Below (w.heap.size + 1 + 1) A W') := fun W W' h h' => h.trans (h'.mono (by have := h.size; omega))
  have HC : Hid (∀ w' : World, Below (w.heap.size + 1 + 1) A w' → w'.cell? ⟨w.heap.size, 0, none⟩ = some (.string n1) ∧ w'.cell? ⟨w.heap.size, 1, none⟩ = some (.string h1) ∧ w'.cell? ⟨w.heap.size, 2, none⟩ = some (.string u1) ∧ w'.cell? ⟨w.heap.size, 3, none⟩ = some vv1 ∧ w'.cell? ⟨w.heap.size, 4, none⟩ = some cv1 ∧ w'.cell? ⟨w.heap.size + 1, 0, none⟩ = some (.string n2) ∧ w'.cell? ⟨w.heap.size + 1, 1, none⟩ = some (.string h2) ∧ w'.cell? ⟨w.heap.size + 1, 2, none⟩ = some (.string u2) ∧ w'.cell? ⟨w.heap.size + 1, 3, none⟩ = some vv2 ∧ w'.cell? ⟨w.heap.size + 1, 4, none⟩ = some cv2) := fun W h => by
    rw [hA] at h
    have e : ∀ j, W.cell? ⟨w.heap.size, j, none⟩ = (#[.string n1, .string h1, .string u1, vv1, cv1] : Array Value)[j]? := fun j => ((h.cell (p := ⟨w.heap.size, j, none⟩) (by show w.heap.size < w.heap.size + 1 + 1; omega)).trans (Sl.cell_old (w.alloc (.cells #[.string n1, .string h1, .string u1, vv1, cv1] 25)) _ _ _ (by rw [s1]; omega))).trans (Sl.cell_new w _ _ j)
    have e2 : ∀ j, W.cell? ⟨w.heap.size + 1, j, none⟩ = (#[.string n2, .string h2, .string u2, vv2, cv2] : Array Value)[j]? := fun j => by
      have h1 := Sl.cell_new (w.alloc (.cells #[.string n1, .string h1, .string u1, vv1, cv1] 25)) #[.string n2, .string h2, .string u2, vv2, cv2] 25 j
      rw [s1] at h1
      exact (h.cell (p := ⟨w.heap.size + 1, j, none⟩) (by show w.heap.size + 1 < w.heap.size + 1 + 1; omega)).trans h1
    exact ⟨e 0, e 1, e 2, e 3, e 4, e2 0, e2 1, e2 2, e2 3, e2 4⟩
  have HF1 : Hid (∀ W : World, Below (w.heap.size + 1 + 1) A W → Calls Tryz.prog 10 #[.agg #[.string n1, .string h1, .string u1, vv1, cv1]] W (fun e w' => e = .returned (.bool true) ∧ Below (w.heap.size + 1 + 1) A w')) := fun W h => (fits4_any _ n1 h1 u1 V1 L1 W (hm1.below (HUp.out W h)) hs1).mono fun e w' ⟨he, hb⟩ => ⟨he, HTr.out _ _ h hb⟩
  have HF2 : Hid (∀ W : World, Below (w.heap.size + 1 + 1) A W → Calls Tryz.prog 10 #[.agg #[.string n2, .string h2, .string u2, vv2, cv2]] W (fun e w' => e = .returned (.bool true) ∧ Below (w.heap.size + 1 + 1) A w')) := fun W h => (fits4_any _ n2 h2 u2 V2 L2 W (hm2.below (HUp.out W h)) hs2).mono fun e w' ⟨he, hb⟩ => ⟨he, HTr.out _ _ h hb⟩
  have HS1 : Hid (∀ W : World, Below (w.heap.size + 1 + 1) A W → Calls Tryz.prog 11 #[.agg #[.string n1, .string h1, .string u1, vv1, cv1]] W (fun e w' => e = .returned (.bool (sayB n1 h1 u1 V1 L1)) ∧ Below (w.heap.size + 1 + 1) A w')) := fun W h => (say_any _ n1 h1 u1 V1 L1 W (hm1.below (HUp.out W h))).mono fun e w' ⟨he, hb⟩ => ⟨he, HTr.out _ _ h hb⟩
  have HS2 : Hid (∀ W : World, Below (w.heap.size + 1 + 1) A W → Calls Tryz.prog 11 #[.agg #[.string n2, .string h2, .string u2, vv2, cv2]] W (fun e w' => e = .returned (.bool (sayB n2 h2 u2 V2 L2)) ∧ Below (w.heap.size + 1 + 1) A w')) := fun W h => (say_any _ n2 h2 u2 V2 L2 W (hm2.below (HUp.out W h))).mono fun e w' ⟨he, hb⟩ => ⟨he, HTr.out _ _ h hb⟩
  have HLv : Hid (∀ W : World, Below (w.heap.size + 1 + 1) A W → Calls Tryz.prog 12 #[] W (fun e w' => e = .returned (.bool true) ∧ Below (w.heap.size + 1 + 1) A w')) := fun W h => (Fq.lives_any W).mono fun e w' ⟨he, hb⟩ => ⟨he, HTr.out _ _ h hb⟩
  have k0 := HC.out A (Below.refl _ _)
  have HB0 : Hid (Below (w.heap.size + 1 + 1) A A) := Below.refl _ _
  cases hb1 : sayB n1 h1 u1 V1 L1 with
  | false =>
    rw [hb1] at HS1
    clear hm1 hm2 hs1 hs2 hvv1 hvv2 hcv1 hcv2 hqb hb1 s1 s2 HS2 HTr hG
    go_enter Tryz.func6, Tryz.ntmps6
    go_wp2_with fail
    rw [← hA]
    clear hA
    refine (HF1.out A HB0.out).mono ?_
    rintro e w1 ⟨rfl, hb1⟩
    have k1 := HC.out w1 hb1
    have HB1 := Lib.hid hb1
    clear hb1
    go_wp2_with fail
    refine (HF2.out w1 HB1.out).mono ?_
    rintro e w2 ⟨rfl, hb2⟩
    have k2 := HC.out w2 hb2
    have HB2 := Lib.hid hb2
    clear hb2 k1
    go_wp2_with fail
    refine (HS1.out w2 HB2.out).mono ?_
    rintro e w3 ⟨rfl, hb3⟩
    have k3 := HC.out w3 hb3
    have HB3 := Lib.hid hb3
    clear hb3 k2
    go_wp2_with fail
    refine (HLv.out w3 HB3.out).mono ?_
    rintro e w4 ⟨rfl, hb4⟩
    have HB4 := Lib.hid (HUp.out w4 hb4)
    clear hb4 k3
    go_wp2_with fail
    go_ret
    exact ⟨rfl, HB4.out⟩
  | true =>
    rw [hb1] at HS1
    cases hb2 : sayB n2 h2 u2 V2 L2 with
    | false =>
      rw [hb2] at HS2
      clear hm1 hm2 hs1 hs2 hvv1 hvv2 hcv1 hcv2 hqb hb1 hb2 s1 s2 HTr hG
      go_enter Tryz.func6, Tryz.ntmps6
      go_wp2_with fail
      rw [← hA]
      clear hA
      refine (HF1.out A HB0.out).mono ?_
      rintro e w1 ⟨rfl, hb1⟩
      have k1 := HC.out w1 hb1
      have HB1 := Lib.hid hb1
      clear hb1
      go_wp2_with fail
      refine (HF2.out w1 HB1.out).mono ?_
      rintro e w2 ⟨rfl, hb2⟩
      have k2 := HC.out w2 hb2
      have HB2 := Lib.hid hb2
      clear hb2 k1
      go_wp2_with fail
      refine (HS1.out w2 HB2.out).mono ?_
      rintro e w3 ⟨rfl, hb3⟩
      have k3 := HC.out w3 hb3
      have HB3 := Lib.hid hb3
      clear hb3 k2
      go_wp2_with fail
      refine (HS2.out w3 HB3.out).mono ?_
      rintro e w4 ⟨rfl, hb4⟩
      have k4 := HC.out w4 hb4
      have HB4 := Lib.hid hb4
      clear hb4 k3
      go_wp2_with fail
      refine (HLv.out w4 HB4.out).mono ?_
      rintro e w5 ⟨rfl, hb5⟩
      have HB5 := Lib.hid (HUp.out w5 hb5)
      clear hb5 k4
      go_wp2_with fail
      go_ret
      exact ⟨rfl, HB5.out⟩
    | true =>
      rw [hb2] at HS2
      have hp1 := sayB_iff.1 hb1
      have hp2 := sayB_iff.1 hb2
      obtain rfl := Tx.empty_of hp1.un
      obtain rfl := Tx.empty_of hp2.un
      have ok1 := new_ok hb1 hs1
      have ok2 := new_ok hb2 hs2
      have hL1 := fit_le L1
      have hL2 := fit_le L2
      have hl1 := hm1.lenL
      have hl2 := hm2.lenL
      obtain ⟨T1, hT1⟩ : ∃ T, Tx.textB n1 h1 V1 (fit L1) = T := ⟨_, rfl⟩
      obtain ⟨T2, hT2⟩ : ∃ T, Tx.textB n2 h2 V2 (fit L2) = T := ⟨_, rfl⟩
      obtain ⟨SB, hSB⟩ : ∃ b, ((((n1.toList == n2.toList) && (h1.toList == h2.toList)) && decide (V1 = V2)) && pairsB (fit L1) (fit L2)) = b := ⟨_, rfl⟩
      have htx : (T1.toList == T2.toList) = SB := by
        have e1 : (T1.toList == T2.toList) = true ↔ T1 = T2 := eqS_iff T1 T2
        have e2 : (n1.toList == n2.toList) = true ↔ n1 = n2 := eqS_iff n1 n2
        have e3 : (h1.toList == h2.toList) = true ↔ h1 = h2 := eqS_iff h1 h2
        rw [Bool.eq_iff_iff, e1, ← hSB, Bool.and_eq_true, Bool.and_eq_true, Bool.and_eq_true, e2, e3, decide_eq_true_eq, pairsB_iff, ← hT1, ← hT2, Tx.textB_iff hp1 hp2]
        exact ⟨fun ⟨a, b, c, d⟩ => ⟨⟨⟨a, b⟩, c⟩, d⟩, fun ⟨⟨⟨a, b⟩, c⟩, d⟩ => ⟨a, b, c, d⟩⟩
      obtain ⟨B3, hB3⟩ : ∃ b, decide (V1 = V2) = b := ⟨_, rfl⟩
      obtain ⟨B4, hB4⟩ : ∃ b, pairsB (fit L1) (fit L2) = b := ⟨_, rfl⟩
      have CT : Hid (∀ W : World, Below (w.heap.size + 1 + 1) A W → Calls Tryz.prog 28 #[vv1, vv2] W (fun e w' => e = .returned (.bool B3) ∧ Below (w.heap.size + 1 + 1) A w')) := fun W h => (Tx.sameTexts_any vv1 vv2 V1 V2 W (hvv1.below (HUp.out W h)) (hvv2.below (HUp.out W h))).mono fun e w' ⟨he, m, hw⟩ => ⟨by rw [he, hB3], by rw [hw]; exact bdr h m⟩
      have CF1 : Hid (∀ W : World, Below (w.heap.size + 1 + 1) A W → Calls Tryz.prog 24 #[cv1] W (fun e w' => ∃ a c, e = .returned (.slice a (fit L1).length c) ∧ Ss.Of 2 pc w' (.slice a (fit L1).length c) (fit L1) ∧ Below (w.heap.size + 1 + 1) A w' ∧ Below W.heap.size W w')) := fun W h => by
        refine (fit_any L1 cv1 W (hcv1.below (HUp.out W h)) (by omega)).mono ?_
        rintro e w' ⟨v, rfl, ho, hb⟩
        obtain ⟨a, c, rfl⟩ := row_slice2 ho
        exact ⟨a, c, rfl, Ss.Of.own pc_len ho, HTr.out _ _ h hb, hb⟩
      have CF2 : Hid (∀ W : World, Below (w.heap.size + 1 + 1) A W → Calls Tryz.prog 24 #[cv2] W (fun e w' => ∃ a c, e = .returned (.slice a (fit L2).length c) ∧ Ss.Of 2 pc w' (.slice a (fit L2).length c) (fit L2) ∧ Below (w.heap.size + 1 + 1) A w' ∧ Below W.heap.size W w')) := fun W h => by
        refine (fit_any L2 cv2 W (hcv2.below (HUp.out W h)) (by omega)).mono ?_
        rintro e w' ⟨v, rfl, ho, hb⟩
        obtain ⟨a, c, rfl⟩ := row_slice2 ho
        exact ⟨a, c, rfl, Ss.Of.own pc_len ho, HTr.out _ _ h hb, hb⟩
      have CP : Hid (∀ (W : World) va vb, Below (w.heap.size + 1 + 1) A W → Ss.Of 2 pc W va (fit L1) → Ss.Of 2 pc W vb (fit L2) → Calls Tryz.prog 19 #[va, vb] W (fun e w' => e = .returned (.bool B4) ∧ Below (w.heap.size + 1 + 1) A w')) := fun W va vb h h1 h2 => (samePairs_any _ _ va vb W h1 h2 (by omega) (by omega)).mono fun e w' ⟨he, hb⟩ => ⟨by rw [he, hB4], HTr.out _ _ h hb⟩
      have HM1 : Hid (∀ W : World, Below (w.heap.size + 1 + 1) A W → Calls Tryz.prog 14 #[.agg #[.string n1, .string h1, .string ⟨#[]⟩, vv1, cv1]] W (fun e w' => ∃ v2 c2, e = .returned (.agg #[.string n1, .string h1, .string ⟨#[]⟩, v2, c2]) ∧ (Sl.Of Value.string w' v2 V1 ∧ Ss.Of 2 pc w' c2 L1) ∧ Below (w.heap.size + 1 + 1) A w')) := fun W h =>
        (metaTo_any _ n1 h1 ⟨#[]⟩ V1 L1 W (hm1.below (HUp.out W h))).mono fun e w' ⟨v2, c2, he, hv, hc, hb⟩ => ⟨v2, c2, he, ⟨hv, hc⟩, HTr.out _ _ h hb⟩
      have HM2 : Hid (∀ W : World, Below (w.heap.size + 1 + 1) A W → Calls Tryz.prog 14 #[.agg #[.string n2, .string h2, .string ⟨#[]⟩, vv2, cv2]] W (fun e w' => ∃ v2 c2, e = .returned (.agg #[.string n2, .string h2, .string ⟨#[]⟩, v2, c2]) ∧ (Sl.Of Value.string w' v2 V2 ∧ Ss.Of 2 pc w' c2 L2) ∧ Below (w.heap.size + 1 + 1) A w')) := fun W h =>
        (metaTo_any _ n2 h2 ⟨#[]⟩ V2 L2 W (hm2.below (HUp.out W h))).mono fun e w' ⟨v2, c2, he, hv, hc, hb⟩ => ⟨v2, c2, he, ⟨hv, hc⟩, HTr.out _ _ h hb⟩
      have HT1 : Hid (∀ (W : World) va ca, Below (w.heap.size + 1 + 1) A W → (Sl.Of Value.string W va V1 ∧ Ss.Of 2 pc W ca L1) → Calls Tryz.prog 29 #[.agg #[.string n1, .string h1, .string ⟨#[]⟩, va, ca]] W (fun e w' => e = .returned (.string T1) ∧ Below (w.heap.size + 1 + 1) A w')) := fun W va ca h x =>
        (Tx.metaText_any n1 h1 V1 L1 va ca W (hG.below (HUp.out W h)) ok1 hs1 hp1 x.1 x.2).mono fun e w' ⟨he, hb⟩ => ⟨by rw [he, hT1], HTr.out _ _ h hb⟩
      have HT2 : Hid (∀ (W : World) va ca, Below (w.heap.size + 1 + 1) A W → (Sl.Of Value.string W va V2 ∧ Ss.Of 2 pc W ca L2) → Calls Tryz.prog 29 #[.agg #[.string n2, .string h2, .string ⟨#[]⟩, va, ca]] W (fun e w' => e = .returned (.string T2) ∧ Below (w.heap.size + 1 + 1) A w')) := fun W va ca h x =>
        (Tx.metaText_any n2 h2 V2 L2 va ca W (hG.below (HUp.out W h)) ok2 hs2 hp2 x.1 x.2).mono fun e w' ⟨he, hb⟩ => ⟨by rw [he, hT2], HTr.out _ _ h hb⟩
      rw [hB3, hB4] at hSB
      have HDr : Hid (∀ (W : World), Below (w.heap.size + 1 + 1) A W → Below (w.heap.size + 1 + 1) A W.drew) := fun W h => bdr h 1
      have HTx := Lib.hid htx
      clear hm1 hm2 hs1 hs2 hvv1 hvv2 hcv1 hcv2 hqb hb1 hb2 s1 s2 HTr hG ok1 ok2 hp1 hp2 hT1 hT2 hB3 hB4 htx hL1 hL2 hl1 hl2
      go_enter Tryz.func6, Tryz.ntmps6
      go_wp2_with fail
      rw [← hA]
      clear hA
      refine (HF1.out A HB0.out).mono ?_
      rintro e w1 ⟨rfl, hb1⟩
      have k1 := HC.out w1 hb1
      have HB1 := Lib.hid hb1
      clear hb1
      go_wp2_with fail
      refine (HF2.out w1 HB1.out).mono ?_
      rintro e w2 ⟨rfl, hb2⟩
      have k2 := HC.out w2 hb2
      have HB2 := Lib.hid hb2
      clear hb2 k1
      go_wp2_with fail
      refine (HS1.out w2 HB2.out).mono ?_
      rintro e w3 ⟨rfl, hb3⟩
      have k3 := HC.out w3 hb3
      have HB3 := Lib.hid hb3
      clear hb3 k2
      go_wp2_with fail
      refine (HS2.out w3 HB3.out).mono ?_
      rintro e w4 ⟨rfl, hb4⟩
      have k5 := HC.out w4.drew (HDr.out _ hb4)
      have HB5 := Lib.hid (HDr.out _ hb4)
      clear hb4 k3 k0 HB0 HB1 HB2 HB3 HF1 HF2 HS1 HS2
      go_upto_region 5 with fail
      go_cut [5] (fun s5 wx => s5 = .bool SB ∧ Hid (Below (w.heap.size + 1 + 1) A wx))
      case first => as_aux_lemma =>
        cases hc1 : (n1.toList == n2.toList) with
        | false =>
          have HSB : Hid (Value.bool false = .bool SB) := by show _ = _; rw [← hSB, hc1]; rfl
          clear hSB
          refine wp_region_noPanic ?_
          refine wp_region_held_drew (S := fun W => W.cell? ⟨w.heap.size, 0, none⟩ = some (.string n1) ∧ W.cell? ⟨w.heap.size, 1, none⟩ = some (.string h1) ∧ W.cell? ⟨w.heap.size, 2, none⟩ = some (.string ⟨#[]⟩) ∧ W.cell? ⟨w.heap.size, 3, none⟩ = some (vv1) ∧ W.cell? ⟨w.heap.size, 4, none⟩ = some (cv1) ∧ W.cell? ⟨w.heap.size + 1, 0, none⟩ = some (.string n2) ∧ W.cell? ⟨w.heap.size + 1, 1, none⟩ = some (.string h2) ∧ W.cell? ⟨w.heap.size + 1, 2, none⟩ = some (.string ⟨#[]⟩) ∧ W.cell? ⟨w.heap.size + 1, 3, none⟩ = some (vv2) ∧ W.cell? ⟨w.heap.size + 1, 4, none⟩ = some (cv2)) (by kernel_rfl) (by (with_reducible exact k5)) (fun hHeld => ?_)
          refine wpAnyH_take (i := 0) (v := ?_) rfl (by kernel_rfl) (by kernel_rfl) (by kernel_rfl) (fun _ _ _ h => h) (Or.inl ⟨by rfl, ?_⟩) hHeld ?_
          rotate_left
          · intro w hSw; (try dsimp only at hSw); go_simp; (try with_reducible rfl)
          try simp only [Act.put, List.setIfInBounds_toArray, List.set_cons_zero, List.set_cons_succ, List.getElem_toArray, List.getElem_cons_zero, List.getElem_cons_succ]
          refine wpAnyH_take (i := 1) (v := ?_) rfl (by kernel_rfl) (by kernel_rfl) (by kernel_rfl) (fun _ _ _ h => h) (Or.inl ⟨by rfl, ?_⟩) hHeld ?_
          rotate_left
          · intro w hSw; (try dsimp only at hSw); go_simp; (try with_reducible rfl)
          try simp only [Act.put, List.setIfInBounds_toArray, List.set_cons_zero, List.set_cons_succ, List.getElem_toArray, List.getElem_cons_zero, List.getElem_cons_succ]
          refine wpAnyH_take (i := 2) (v := ?_) rfl (by kernel_rfl) (by kernel_rfl) (by kernel_rfl) (fun _ _ _ h => h) (Or.inl ⟨by rfl, ?_⟩) hHeld ?_
          rotate_left
          · intro w hSw; (try dsimp only at hSw); go_simp; (try with_reducible rfl)
          try simp only [Act.put, List.setIfInBounds_toArray, List.set_cons_zero, List.set_cons_succ, List.getElem_toArray, List.getElem_cons_zero, List.getElem_cons_succ]
          refine wpAnyH_take (i := 3) (v := ?_) rfl (by kernel_rfl) (by kernel_rfl) (by kernel_rfl) (fun _ _ _ h => h) (Or.inl ⟨by rfl, ?_⟩) hHeld ?_
          rotate_left
          · intro w hSw; (try dsimp only at hSw); go_simp; (try with_reducible rfl)
          try simp only [Act.put, List.setIfInBounds_toArray, List.set_cons_zero, List.set_cons_succ, List.getElem_toArray, List.getElem_cons_zero, List.getElem_cons_succ]
          refine wpAnyH_take (i := 4) (v := ?_) rfl (by kernel_rfl) (by kernel_rfl) (by kernel_rfl) (fun _ _ _ h => h) (Or.inl ⟨by rfl, ?_⟩) hHeld ?_
          rotate_left
          · intro w hSw; (try dsimp only at hSw); go_simp; (try with_reducible rfl)
          try simp only [Act.put, List.setIfInBounds_toArray, List.set_cons_zero, List.set_cons_succ, List.getElem_toArray, List.getElem_cons_zero, List.getElem_cons_succ]
          refine wpAnyH_take (i := 5) (v := ?_) rfl (by kernel_rfl) (by kernel_rfl) (by kernel_rfl) (fun _ _ _ h => h) (Or.inl ⟨by rfl, ?_⟩) hHeld ?_
          rotate_left
          · intro w hSw; (try dsimp only at hSw); go_simp; (try with_reducible rfl)
          try simp only [Act.put, List.setIfInBounds_toArray, List.set_cons_zero, List.set_cons_succ, List.getElem_toArray, List.getElem_cons_zero, List.getElem_cons_succ]
          refine wpAnyH_take (i := 6) (v := undef) rfl (by kernel_rfl) (by kernel_rfl) (by kernel_rfl) (fun _ _ _ h => h) (Or.inr ⟨by rfl, rfl⟩) hHeld ?_
          try simp only [Act.put, List.setIfInBounds_toArray, List.set_cons_zero, List.set_cons_succ, List.getElem_toArray, List.getElem_cons_zero, List.getElem_cons_succ]
          refine wpAnyH_take (i := 7) (v := undef) rfl (by kernel_rfl) (by kernel_rfl) (by kernel_rfl) (fun _ _ _ h => h) (Or.inr ⟨by rfl, rfl⟩) hHeld ?_
          try simp only [Act.put, List.setIfInBounds_toArray, List.set_cons_zero, List.set_cons_succ, List.getElem_toArray, List.getElem_cons_zero, List.getElem_cons_succ]
          refine wpAnyH_take (i := 8) (v := undef) rfl (by kernel_rfl) (by kernel_rfl) (by kernel_rfl) (fun _ _ _ h => h) (Or.inr ⟨by rfl, rfl⟩) hHeld ?_
          try simp only [Act.put, List.setIfInBounds_toArray, List.set_cons_zero, List.set_cons_succ, List.getElem_toArray, List.getElem_cons_zero, List.getElem_cons_succ]
          refine wpAnyH_take (i := 9) (v := undef) rfl (by kernel_rfl) (by kernel_rfl) (by kernel_rfl) (fun _ _ _ h => h) (Or.inr ⟨by rfl, rfl⟩) hHeld ?_
          try simp only [Act.put, List.setIfInBounds_toArray, List.set_cons_zero, List.set_cons_succ, List.getElem_toArray, List.getElem_cons_zero, List.getElem_cons_succ]
          refine wpAnyH_take (i := 10) (v := undef) rfl (by kernel_rfl) (by kernel_rfl) (by kernel_rfl) (fun _ _ _ h => h) (Or.inr ⟨by rfl, rfl⟩) hHeld ?_
          try simp only [Act.put, List.setIfInBounds_toArray, List.set_cons_zero, List.set_cons_succ, List.getElem_toArray, List.getElem_cons_zero, List.getElem_cons_succ]
          refine wpAnyH_take (i := 11) (v := ?_) rfl (by kernel_rfl) (by kernel_rfl) (by kernel_rfl) (fun _ _ _ h => h) (Or.inl ⟨by rfl, ?_⟩) hHeld ?_
          rotate_left
          · intro w hSw; (try dsimp only at hSw); go_simp; (try with_reducible rfl)
          try simp only [Act.put, List.setIfInBounds_toArray, List.set_cons_zero, List.set_cons_succ, List.getElem_toArray, List.getElem_cons_zero, List.getElem_cons_succ]
          refine wpAnyH_take (i := 12) (v := ?_) rfl (by kernel_rfl) (by kernel_rfl) (by kernel_rfl) (fun _ _ _ h => h) (Or.inl ⟨by rfl, ?_⟩) hHeld ?_
          rotate_left
          · intro w hSw; (try dsimp only at hSw); go_simp; (try with_reducible rfl)
          try simp only [Act.put, List.setIfInBounds_toArray, List.set_cons_zero, List.set_cons_succ, List.getElem_toArray, List.getElem_cons_zero, List.getElem_cons_succ]
          refine wpAnyH_take (i := 13) (v := undef) rfl (by kernel_rfl) (by kernel_rfl) (by kernel_rfl) (fun _ _ _ h => h) (Or.inr ⟨by rfl, rfl⟩) hHeld ?_
          try simp only [Act.put, List.setIfInBounds_toArray, List.set_cons_zero, List.set_cons_succ, List.getElem_toArray, List.getElem_cons_zero, List.getElem_cons_succ]
          refine wpAnyH_take (i := 14) (v := undef) rfl (by kernel_rfl) (by kernel_rfl) (by kernel_rfl) (fun _ _ _ h => h) (Or.inr ⟨by rfl, rfl⟩) hHeld ?_
          try simp only [Act.put, List.setIfInBounds_toArray, List.set_cons_zero, List.set_cons_succ, List.getElem_toArray, List.getElem_cons_zero, List.getElem_cons_succ]
          refine wpAnyH_take (i := 15) (v := undef) rfl (by kernel_rfl) (by kernel_rfl) (by kernel_rfl) (fun _ _ _ h => h) (Or.inr ⟨by rfl, rfl⟩) hHeld ?_
          try simp only [Act.put, List.setIfInBounds_toArray, List.set_cons_zero, List.set_cons_succ, List.getElem_toArray, List.getElem_cons_zero, List.getElem_cons_succ]
          refine wpAnyH_take (i := 16) (v := undef) rfl (by kernel_rfl) (by kernel_rfl) (by kernel_rfl) (fun _ _ _ h => h) (Or.inr ⟨by rfl, rfl⟩) hHeld ?_
          try simp only [Act.put, List.setIfInBounds_toArray, List.set_cons_zero, List.set_cons_succ, List.getElem_toArray, List.getElem_cons_zero, List.getElem_cons_succ]
          refine wpAnyH_take (i := 17) (v := undef) rfl (by kernel_rfl) (by kernel_rfl) (by kernel_rfl) (fun _ _ _ h => h) (Or.inr ⟨by rfl, rfl⟩) hHeld ?_
          try simp only [Act.put, List.setIfInBounds_toArray, List.set_cons_zero, List.set_cons_succ, List.getElem_toArray, List.getElem_cons_zero, List.getElem_cons_succ]
          refine wpAnyH_take (i := 18) (v := ?_) rfl (by kernel_rfl) (by kernel_rfl) (by kernel_rfl) (fun _ _ _ h => h) (Or.inl ⟨by rfl, ?_⟩) hHeld ?_
          rotate_left
          · intro w hSw; (try dsimp only at hSw); go_simp; (try with_reducible rfl)
          try simp only [Act.put, List.setIfInBounds_toArray, List.set_cons_zero, List.set_cons_succ, List.getElem_toArray, List.getElem_cons_zero, List.getElem_cons_succ]
          refine wpAnyH_take (i := 19) (v := ?_) rfl (by kernel_rfl) (by kernel_rfl) (by kernel_rfl) (fun _ _ _ h => h) (Or.inl ⟨by rfl, ?_⟩) hHeld ?_
          rotate_left
          · intro w hSw; (try dsimp only at hSw); go_simp; (try with_reducible rfl)
          try simp only [Act.put, List.setIfInBounds_toArray, List.set_cons_zero, List.set_cons_succ, List.getElem_toArray, List.getElem_cons_zero, List.getElem_cons_succ]
          refine wpAnyH_take (i := 20) (v := undef) rfl (by kernel_rfl) (by kernel_rfl) (by kernel_rfl) (fun _ _ _ h => h) (Or.inr ⟨by rfl, rfl⟩) hHeld ?_
          try simp only [Act.put, List.setIfInBounds_toArray, List.set_cons_zero, List.set_cons_succ, List.getElem_toArray, List.getElem_cons_zero, List.getElem_cons_succ]
          refine wpAnyH_take (i := 21) (v := undef) rfl (by kernel_rfl) (by kernel_rfl) (by kernel_rfl) (fun _ _ _ h => h) (Or.inr ⟨by rfl, rfl⟩) hHeld ?_
          try simp only [Act.put, List.setIfInBounds_toArray, List.set_cons_zero, List.set_cons_succ, List.getElem_toArray, List.getElem_cons_zero, List.getElem_cons_succ]
          refine wpAnyH_take (i := 22) (v := undef) rfl (by kernel_rfl) (by kernel_rfl) (by kernel_rfl) (fun _ _ _ h => h) (Or.inr ⟨by rfl, rfl⟩) hHeld ?_
          try simp only [Act.put, List.setIfInBounds_toArray, List.set_cons_zero, List.set_cons_succ, List.getElem_toArray, List.getElem_cons_zero, List.getElem_cons_succ]
          refine wpAnyH_take (i := 23) (v := undef) rfl (by kernel_rfl) (by kernel_rfl) (by kernel_rfl) (fun _ _ _ h => h) (Or.inr ⟨by rfl, rfl⟩) hHeld ?_
          try simp only [Act.put, List.setIfInBounds_toArray, List.set_cons_zero, List.set_cons_succ, List.getElem_toArray, List.getElem_cons_zero, List.getElem_cons_succ]
          refine wpAnyH_take (i := 24) (v := undef) rfl (by kernel_rfl) (by kernel_rfl) (by kernel_rfl) (fun _ _ _ h => h) (Or.inr ⟨by rfl, rfl⟩) hHeld ?_
          try simp only [Act.put, List.setIfInBounds_toArray, List.set_cons_zero, List.set_cons_succ, List.getElem_toArray, List.getElem_cons_zero, List.getElem_cons_succ]
          refine wpAnyH_take (i := 25) (v := undef) rfl (by kernel_rfl) (by kernel_rfl) (by kernel_rfl) (fun _ _ _ h => h) (Or.inr ⟨by rfl, rfl⟩) hHeld ?_
          try simp only [Act.put, List.setIfInBounds_toArray, List.set_cons_zero, List.set_cons_succ, List.getElem_toArray, List.getElem_cons_zero, List.getElem_cons_succ]
          refine wpAnyH_take (i := 26) (v := undef) rfl (by kernel_rfl) (by kernel_rfl) (by kernel_rfl) (fun _ _ _ h => h) (Or.inr ⟨by rfl, rfl⟩) hHeld ?_
          try simp only [Act.put, List.setIfInBounds_toArray, List.set_cons_zero, List.set_cons_succ, List.getElem_toArray, List.getElem_cons_zero, List.getElem_cons_succ]
          refine wpAnyH_take (i := 27) (v := ?_) rfl (by kernel_rfl) (by kernel_rfl) (by kernel_rfl) (fun _ _ _ h => h) (Or.inl ⟨by rfl, ?_⟩) hHeld ?_
          rotate_left
          · intro w hSw; (try dsimp only at hSw); go_simp; (try with_reducible rfl)
          try simp only [Act.put, List.setIfInBounds_toArray, List.set_cons_zero, List.set_cons_succ, List.getElem_toArray, List.getElem_cons_zero, List.getElem_cons_succ]
          refine wpAnyH_take (i := 28) (v := ?_) rfl (by kernel_rfl) (by kernel_rfl) (by kernel_rfl) (fun _ _ _ h => h) (Or.inl ⟨by rfl, ?_⟩) hHeld ?_
          rotate_left
          · intro w hSw; (try dsimp only at hSw); go_simp; (try with_reducible rfl)
          try simp only [Act.put, List.setIfInBounds_toArray, List.set_cons_zero, List.set_cons_succ, List.getElem_toArray, List.getElem_cons_zero, List.getElem_cons_succ]
          refine wpAnyH_done (by kernel_rfl) ?_ _
          refine NoPanic.normal ?_
          go_wp2_with fail
          go_meet
          exact ⟨HSB.out, HB5.out⟩
        | true =>
          cases hc2 : (h1.toList == h2.toList) with
          | false =>
            have HSB : Hid (Value.bool false = .bool SB) := by show _ = _; rw [← hSB, hc1, hc2]; rfl
            clear hSB
            refine wp_region_noPanic ?_
            refine wp_region_held_drew (S := fun W => W.cell? ⟨w.heap.size, 0, none⟩ = some (.string n1) ∧ W.cell? ⟨w.heap.size, 1, none⟩ = some (.string h1) ∧ W.cell? ⟨w.heap.size, 2, none⟩ = some (.string ⟨#[]⟩) ∧ W.cell? ⟨w.heap.size, 3, none⟩ = some (vv1) ∧ W.cell? ⟨w.heap.size, 4, none⟩ = some (cv1) ∧ W.cell? ⟨w.heap.size + 1, 0, none⟩ = some (.string n2) ∧ W.cell? ⟨w.heap.size + 1, 1, none⟩ = some (.string h2) ∧ W.cell? ⟨w.heap.size + 1, 2, none⟩ = some (.string ⟨#[]⟩) ∧ W.cell? ⟨w.heap.size + 1, 3, none⟩ = some (vv2) ∧ W.cell? ⟨w.heap.size + 1, 4, none⟩ = some (cv2)) (by kernel_rfl) (by (with_reducible exact k5)) (fun hHeld => ?_)
            refine wpAnyH_take (i := 0) (v := ?_) rfl (by kernel_rfl) (by kernel_rfl) (by kernel_rfl) (fun _ _ _ h => h) (Or.inl ⟨by rfl, ?_⟩) hHeld ?_
            rotate_left
            · intro w hSw; (try dsimp only at hSw); go_simp; (try with_reducible rfl)
            try simp only [Act.put, List.setIfInBounds_toArray, List.set_cons_zero, List.set_cons_succ, List.getElem_toArray, List.getElem_cons_zero, List.getElem_cons_succ]
            refine wpAnyH_take (i := 1) (v := ?_) rfl (by kernel_rfl) (by kernel_rfl) (by kernel_rfl) (fun _ _ _ h => h) (Or.inl ⟨by rfl, ?_⟩) hHeld ?_
            rotate_left
            · intro w hSw; (try dsimp only at hSw); go_simp; (try with_reducible rfl)
            try simp only [Act.put, List.setIfInBounds_toArray, List.set_cons_zero, List.set_cons_succ, List.getElem_toArray, List.getElem_cons_zero, List.getElem_cons_succ]
            refine wpAnyH_take (i := 2) (v := ?_) rfl (by kernel_rfl) (by kernel_rfl) (by kernel_rfl) (fun _ _ _ h => h) (Or.inl ⟨by rfl, ?_⟩) hHeld ?_
            rotate_left
            · intro w hSw; (try dsimp only at hSw); go_simp; (try with_reducible rfl)
            try simp only [Act.put, List.setIfInBounds_toArray, List.set_cons_zero, List.set_cons_succ, List.getElem_toArray, List.getElem_cons_zero, List.getElem_cons_succ]
            refine wpAnyH_take (i := 3) (v := ?_) rfl (by kernel_rfl) (by kernel_rfl) (by kernel_rfl) (fun _ _ _ h => h) (Or.inl ⟨by rfl, ?_⟩) hHeld ?_
            rotate_left
            · intro w hSw; (try dsimp only at hSw); go_simp; (try with_reducible rfl)
            try simp only [Act.put, List.setIfInBounds_toArray, List.set_cons_zero, List.set_cons_succ, List.getElem_toArray, List.getElem_cons_zero, List.getElem_cons_succ]
            refine wpAnyH_take (i := 4) (v := ?_) rfl (by kernel_rfl) (by kernel_rfl) (by kernel_rfl) (fun _ _ _ h => h) (Or.inl ⟨by rfl, ?_⟩) hHeld ?_
            rotate_left
            · intro w hSw; (try dsimp only at hSw); go_simp; (try with_reducible rfl)
            try simp only [Act.put, List.setIfInBounds_toArray, List.set_cons_zero, List.set_cons_succ, List.getElem_toArray, List.getElem_cons_zero, List.getElem_cons_succ]
            refine wpAnyH_take (i := 5) (v := ?_) rfl (by kernel_rfl) (by kernel_rfl) (by kernel_rfl) (fun _ _ _ h => h) (Or.inl ⟨by rfl, ?_⟩) hHeld ?_
            rotate_left
            · intro w hSw; (try dsimp only at hSw); go_simp; (try with_reducible rfl)
            try simp only [Act.put, List.setIfInBounds_toArray, List.set_cons_zero, List.set_cons_succ, List.getElem_toArray, List.getElem_cons_zero, List.getElem_cons_succ]
            refine wpAnyH_take (i := 6) (v := ?_) rfl (by kernel_rfl) (by kernel_rfl) (by kernel_rfl) (fun _ _ _ h => h) (Or.inl ⟨by rfl, ?_⟩) hHeld ?_
            rotate_left
            · intro w hSw; (try dsimp only at hSw); go_simp; (try with_reducible rfl)
            try simp only [Act.put, List.setIfInBounds_toArray, List.set_cons_zero, List.set_cons_succ, List.getElem_toArray, List.getElem_cons_zero, List.getElem_cons_succ]
            refine wpAnyH_take (i := 7) (v := ?_) rfl (by kernel_rfl) (by kernel_rfl) (by kernel_rfl) (fun _ _ _ h => h) (Or.inl ⟨by rfl, ?_⟩) hHeld ?_
            rotate_left
            · intro w hSw; (try dsimp only at hSw); go_simp; (try with_reducible rfl)
            try simp only [Act.put, List.setIfInBounds_toArray, List.set_cons_zero, List.set_cons_succ, List.getElem_toArray, List.getElem_cons_zero, List.getElem_cons_succ]
            refine wpAnyH_take (i := 8) (v := ?_) rfl (by kernel_rfl) (by kernel_rfl) (by kernel_rfl) (fun _ _ _ h => h) (Or.inl ⟨by rfl, ?_⟩) hHeld ?_
            rotate_left
            · intro w hSw; (try dsimp only at hSw); go_simp; (try with_reducible rfl)
            try simp only [Act.put, List.setIfInBounds_toArray, List.set_cons_zero, List.set_cons_succ, List.getElem_toArray, List.getElem_cons_zero, List.getElem_cons_succ]
            refine wpAnyH_take (i := 9) (v := ?_) rfl (by kernel_rfl) (by kernel_rfl) (by kernel_rfl) (fun _ _ _ h => h) (Or.inl ⟨by rfl, ?_⟩) hHeld ?_
            rotate_left
            · intro w hSw; (try dsimp only at hSw); go_simp; (try with_reducible rfl)
            try simp only [Act.put, List.setIfInBounds_toArray, List.set_cons_zero, List.set_cons_succ, List.getElem_toArray, List.getElem_cons_zero, List.getElem_cons_succ]
            refine wpAnyH_take (i := 10) (v := ?_) rfl (by kernel_rfl) (by kernel_rfl) (by kernel_rfl) (fun _ _ _ h => h) (Or.inl ⟨by rfl, ?_⟩) hHeld ?_
            rotate_left
            · intro w hSw; (try dsimp only at hSw); go_simp; (try with_reducible rfl)
            try simp only [Act.put, List.setIfInBounds_toArray, List.set_cons_zero, List.set_cons_succ, List.getElem_toArray, List.getElem_cons_zero, List.getElem_cons_succ]
            refine wpAnyH_take (i := 11) (v := ?_) rfl (by kernel_rfl) (by kernel_rfl) (by kernel_rfl) (fun _ _ _ h => h) (Or.inl ⟨by rfl, ?_⟩) hHeld ?_
            rotate_left
            · intro w hSw; (try dsimp only at hSw); go_simp; (try with_reducible rfl)
            try simp only [Act.put, List.setIfInBounds_toArray, List.set_cons_zero, List.set_cons_succ, List.getElem_toArray, List.getElem_cons_zero, List.getElem_cons_succ]
            refine wpAnyH_take (i := 12) (v := ?_) rfl (by kernel_rfl) (by kernel_rfl) (by kernel_rfl) (fun _ _ _ h => h) (Or.inl ⟨by rfl, ?_⟩) hHeld ?_
            rotate_left
            · intro w hSw; (try dsimp only at hSw); go_simp; (try with_reducible rfl)
            try simp only [Act.put, List.setIfInBounds_toArray, List.set_cons_zero, List.set_cons_succ, List.getElem_toArray, List.getElem_cons_zero, List.getElem_cons_succ]
            refine wpAnyH_take (i := 13) (v := undef) rfl (by kernel_rfl) (by kernel_rfl) (by kernel_rfl) (fun _ _ _ h => h) (Or.inr ⟨by rfl, rfl⟩) hHeld ?_
            try simp only [Act.put, List.setIfInBounds_toArray, List.set_cons_zero, List.set_cons_succ, List.getElem_toArray, List.getElem_cons_zero, List.getElem_cons_succ]
            refine wpAnyH_take (i := 14) (v := undef) rfl (by kernel_rfl) (by kernel_rfl) (by kernel_rfl) (fun _ _ _ h => h) (Or.inr ⟨by rfl, rfl⟩) hHeld ?_
            try simp only [Act.put, List.setIfInBounds_toArray, List.set_cons_zero, List.set_cons_succ, List.getElem_toArray, List.getElem_cons_zero, List.getElem_cons_succ]
            refine wpAnyH_take (i := 15) (v := undef) rfl (by kernel_rfl) (by kernel_rfl) (by kernel_rfl) (fun _ _ _ h => h) (Or.inr ⟨by rfl, rfl⟩) hHeld ?_
            try simp only [Act.put, List.setIfInBounds_toArray, List.set_cons_zero, List.set_cons_succ, List.getElem_toArray, List.getElem_cons_zero, List.getElem_cons_succ]
            refine wpAnyH_take (i := 16) (v := undef) rfl (by kernel_rfl) (by kernel_rfl) (by kernel_rfl) (fun _ _ _ h => h) (Or.inr ⟨by rfl, rfl⟩) hHeld ?_
            try simp only [Act.put, List.setIfInBounds_toArray, List.set_cons_zero, List.set_cons_succ, List.getElem_toArray, List.getElem_cons_zero, List.getElem_cons_succ]
            refine wpAnyH_take (i := 17) (v := undef) rfl (by kernel_rfl) (by kernel_rfl) (by kernel_rfl) (fun _ _ _ h => h) (Or.inr ⟨by rfl, rfl⟩) hHeld ?_
            try simp only [Act.put, List.setIfInBounds_toArray, List.set_cons_zero, List.set_cons_succ, List.getElem_toArray, List.getElem_cons_zero, List.getElem_cons_succ]
            refine wpAnyH_take (i := 18) (v := ?_) rfl (by kernel_rfl) (by kernel_rfl) (by kernel_rfl) (fun _ _ _ h => h) (Or.inl ⟨by rfl, ?_⟩) hHeld ?_
            rotate_left
            · intro w hSw; (try dsimp only at hSw); go_simp; (try with_reducible rfl)
            try simp only [Act.put, List.setIfInBounds_toArray, List.set_cons_zero, List.set_cons_succ, List.getElem_toArray, List.getElem_cons_zero, List.getElem_cons_succ]
            refine wpAnyH_take (i := 19) (v := ?_) rfl (by kernel_rfl) (by kernel_rfl) (by kernel_rfl) (fun _ _ _ h => h) (Or.inl ⟨by rfl, ?_⟩) hHeld ?_
            rotate_left
            · intro w hSw; (try dsimp only at hSw); go_simp; (try with_reducible rfl)
            try simp only [Act.put, List.setIfInBounds_toArray, List.set_cons_zero, List.set_cons_succ, List.getElem_toArray, List.getElem_cons_zero, List.getElem_cons_succ]
            refine wpAnyH_take (i := 20) (v := undef) rfl (by kernel_rfl) (by kernel_rfl) (by kernel_rfl) (fun _ _ _ h => h) (Or.inr ⟨by rfl, rfl⟩) hHeld ?_
            try simp only [Act.put, List.setIfInBounds_toArray, List.set_cons_zero, List.set_cons_succ, List.getElem_toArray, List.getElem_cons_zero, List.getElem_cons_succ]
            refine wpAnyH_take (i := 21) (v := undef) rfl (by kernel_rfl) (by kernel_rfl) (by kernel_rfl) (fun _ _ _ h => h) (Or.inr ⟨by rfl, rfl⟩) hHeld ?_
            try simp only [Act.put, List.setIfInBounds_toArray, List.set_cons_zero, List.set_cons_succ, List.getElem_toArray, List.getElem_cons_zero, List.getElem_cons_succ]
            refine wpAnyH_take (i := 22) (v := undef) rfl (by kernel_rfl) (by kernel_rfl) (by kernel_rfl) (fun _ _ _ h => h) (Or.inr ⟨by rfl, rfl⟩) hHeld ?_
            try simp only [Act.put, List.setIfInBounds_toArray, List.set_cons_zero, List.set_cons_succ, List.getElem_toArray, List.getElem_cons_zero, List.getElem_cons_succ]
            refine wpAnyH_take (i := 23) (v := undef) rfl (by kernel_rfl) (by kernel_rfl) (by kernel_rfl) (fun _ _ _ h => h) (Or.inr ⟨by rfl, rfl⟩) hHeld ?_
            try simp only [Act.put, List.setIfInBounds_toArray, List.set_cons_zero, List.set_cons_succ, List.getElem_toArray, List.getElem_cons_zero, List.getElem_cons_succ]
            refine wpAnyH_take (i := 24) (v := undef) rfl (by kernel_rfl) (by kernel_rfl) (by kernel_rfl) (fun _ _ _ h => h) (Or.inr ⟨by rfl, rfl⟩) hHeld ?_
            try simp only [Act.put, List.setIfInBounds_toArray, List.set_cons_zero, List.set_cons_succ, List.getElem_toArray, List.getElem_cons_zero, List.getElem_cons_succ]
            refine wpAnyH_take (i := 25) (v := undef) rfl (by kernel_rfl) (by kernel_rfl) (by kernel_rfl) (fun _ _ _ h => h) (Or.inr ⟨by rfl, rfl⟩) hHeld ?_
            try simp only [Act.put, List.setIfInBounds_toArray, List.set_cons_zero, List.set_cons_succ, List.getElem_toArray, List.getElem_cons_zero, List.getElem_cons_succ]
            refine wpAnyH_take (i := 26) (v := undef) rfl (by kernel_rfl) (by kernel_rfl) (by kernel_rfl) (fun _ _ _ h => h) (Or.inr ⟨by rfl, rfl⟩) hHeld ?_
            try simp only [Act.put, List.setIfInBounds_toArray, List.set_cons_zero, List.set_cons_succ, List.getElem_toArray, List.getElem_cons_zero, List.getElem_cons_succ]
            refine wpAnyH_take (i := 27) (v := ?_) rfl (by kernel_rfl) (by kernel_rfl) (by kernel_rfl) (fun _ _ _ h => h) (Or.inl ⟨by rfl, ?_⟩) hHeld ?_
            rotate_left
            · intro w hSw; (try dsimp only at hSw); go_simp; (try with_reducible rfl)
            try simp only [Act.put, List.setIfInBounds_toArray, List.set_cons_zero, List.set_cons_succ, List.getElem_toArray, List.getElem_cons_zero, List.getElem_cons_succ]
            refine wpAnyH_take (i := 28) (v := ?_) rfl (by kernel_rfl) (by kernel_rfl) (by kernel_rfl) (fun _ _ _ h => h) (Or.inl ⟨by rfl, ?_⟩) hHeld ?_
            rotate_left
            · intro w hSw; (try dsimp only at hSw); go_simp; (try with_reducible rfl)
            try simp only [Act.put, List.setIfInBounds_toArray, List.set_cons_zero, List.set_cons_succ, List.getElem_toArray, List.getElem_cons_zero, List.getElem_cons_succ]
            refine wpAnyH_done (by kernel_rfl) ?_ _
            refine NoPanic.normal ?_
            go_wp2_with fail
            go_meet
            exact ⟨HSB.out, HB5.out⟩
          | true =>
            cases B3 with
            | false =>
              have HSB : Hid (Value.bool false = .bool SB) := by show _ = _; rw [← hSB, hc1, hc2]; rfl
              clear hSB
              refine wp_region_noPanic ?_
              refine wp_region_held_drew (S := fun W => W.cell? ⟨w.heap.size, 0, none⟩ = some (.string n1) ∧ W.cell? ⟨w.heap.size, 1, none⟩ = some (.string h1) ∧ W.cell? ⟨w.heap.size, 2, none⟩ = some (.string ⟨#[]⟩) ∧ W.cell? ⟨w.heap.size, 3, none⟩ = some (vv1) ∧ W.cell? ⟨w.heap.size, 4, none⟩ = some (cv1) ∧ W.cell? ⟨w.heap.size + 1, 0, none⟩ = some (.string n2) ∧ W.cell? ⟨w.heap.size + 1, 1, none⟩ = some (.string h2) ∧ W.cell? ⟨w.heap.size + 1, 2, none⟩ = some (.string ⟨#[]⟩) ∧ W.cell? ⟨w.heap.size + 1, 3, none⟩ = some (vv2) ∧ W.cell? ⟨w.heap.size + 1, 4, none⟩ = some (cv2)) (by kernel_rfl) (by (with_reducible exact k5)) (fun hHeld => ?_)
              refine wpAnyH_take (i := 0) (v := ?_) rfl (by kernel_rfl) (by kernel_rfl) (by kernel_rfl) (fun _ _ _ h => h) (Or.inl ⟨by rfl, ?_⟩) hHeld ?_
              rotate_left
              · intro w hSw; (try dsimp only at hSw); go_simp; (try with_reducible rfl)
              try simp only [Act.put, List.setIfInBounds_toArray, List.set_cons_zero, List.set_cons_succ, List.getElem_toArray, List.getElem_cons_zero, List.getElem_cons_succ]
              refine wpAnyH_take (i := 1) (v := ?_) rfl (by kernel_rfl) (by kernel_rfl) (by kernel_rfl) (fun _ _ _ h => h) (Or.inl ⟨by rfl, ?_⟩) hHeld ?_
              rotate_left
              · intro w hSw; (try dsimp only at hSw); go_simp; (try with_reducible rfl)
              try simp only [Act.put, List.setIfInBounds_toArray, List.set_cons_zero, List.set_cons_succ, List.getElem_toArray, List.getElem_cons_zero, List.getElem_cons_succ]
              refine wpAnyH_take (i := 2) (v := ?_) rfl (by kernel_rfl) (by kernel_rfl) (by kernel_rfl) (fun _ _ _ h => h) (Or.inl ⟨by rfl, ?_⟩) hHeld ?_
              rotate_left
              · intro w hSw; (try dsimp only at hSw); go_simp; (try with_reducible rfl)
              try simp only [Act.put, List.setIfInBounds_toArray, List.set_cons_zero, List.set_cons_succ, List.getElem_toArray, List.getElem_cons_zero, List.getElem_cons_succ]
              refine wpAnyH_take (i := 3) (v := ?_) rfl (by kernel_rfl) (by kernel_rfl) (by kernel_rfl) (fun _ _ _ h => h) (Or.inl ⟨by rfl, ?_⟩) hHeld ?_
              rotate_left
              · intro w hSw; (try dsimp only at hSw); go_simp; (try with_reducible rfl)
              try simp only [Act.put, List.setIfInBounds_toArray, List.set_cons_zero, List.set_cons_succ, List.getElem_toArray, List.getElem_cons_zero, List.getElem_cons_succ]
              refine wpAnyH_take (i := 4) (v := ?_) rfl (by kernel_rfl) (by kernel_rfl) (by kernel_rfl) (fun _ _ _ h => h) (Or.inl ⟨by rfl, ?_⟩) hHeld ?_
              rotate_left
              · intro w hSw; (try dsimp only at hSw); go_simp; (try with_reducible rfl)
              try simp only [Act.put, List.setIfInBounds_toArray, List.set_cons_zero, List.set_cons_succ, List.getElem_toArray, List.getElem_cons_zero, List.getElem_cons_succ]
              refine wpAnyH_take (i := 5) (v := ?_) rfl (by kernel_rfl) (by kernel_rfl) (by kernel_rfl) (fun _ _ _ h => h) (Or.inl ⟨by rfl, ?_⟩) hHeld ?_
              rotate_left
              · intro w hSw; (try dsimp only at hSw); go_simp; (try with_reducible rfl)
              try simp only [Act.put, List.setIfInBounds_toArray, List.set_cons_zero, List.set_cons_succ, List.getElem_toArray, List.getElem_cons_zero, List.getElem_cons_succ]
              refine wpAnyH_take (i := 6) (v := ?_) rfl (by kernel_rfl) (by kernel_rfl) (by kernel_rfl) (fun _ _ _ h => h) (Or.inl ⟨by rfl, ?_⟩) hHeld ?_
              rotate_left
              · intro w hSw; (try dsimp only at hSw); go_simp; (try with_reducible rfl)
              try simp only [Act.put, List.setIfInBounds_toArray, List.set_cons_zero, List.set_cons_succ, List.getElem_toArray, List.getElem_cons_zero, List.getElem_cons_succ]
              refine wpAnyH_take (i := 7) (v := ?_) rfl (by kernel_rfl) (by kernel_rfl) (by kernel_rfl) (fun _ _ _ h => h) (Or.inl ⟨by rfl, ?_⟩) hHeld ?_
              rotate_left
              · intro w hSw; (try dsimp only at hSw); go_simp; (try with_reducible rfl)
              try simp only [Act.put, List.setIfInBounds_toArray, List.set_cons_zero, List.set_cons_succ, List.getElem_toArray, List.getElem_cons_zero, List.getElem_cons_succ]
              refine wpAnyH_take (i := 8) (v := ?_) rfl (by kernel_rfl) (by kernel_rfl) (by kernel_rfl) (fun _ _ _ h => h) (Or.inl ⟨by rfl, ?_⟩) hHeld ?_
              rotate_left
              · intro w hSw; (try dsimp only at hSw); go_simp; (try with_reducible rfl)
              try simp only [Act.put, List.setIfInBounds_toArray, List.set_cons_zero, List.set_cons_succ, List.getElem_toArray, List.getElem_cons_zero, List.getElem_cons_succ]
              refine wpAnyH_take (i := 9) (v := ?_) rfl (by kernel_rfl) (by kernel_rfl) (by kernel_rfl) (fun _ _ _ h => h) (Or.inl ⟨by rfl, ?_⟩) hHeld ?_
              rotate_left
              · intro w hSw; (try dsimp only at hSw); go_simp; (try with_reducible rfl)
              try simp only [Act.put, List.setIfInBounds_toArray, List.set_cons_zero, List.set_cons_succ, List.getElem_toArray, List.getElem_cons_zero, List.getElem_cons_succ]
              refine wpAnyH_take (i := 10) (v := ?_) rfl (by kernel_rfl) (by kernel_rfl) (by kernel_rfl) (fun _ _ _ h => h) (Or.inl ⟨by rfl, ?_⟩) hHeld ?_
              rotate_left
              · intro w hSw; (try dsimp only at hSw); go_simp; (try with_reducible rfl)
              try simp only [Act.put, List.setIfInBounds_toArray, List.set_cons_zero, List.set_cons_succ, List.getElem_toArray, List.getElem_cons_zero, List.getElem_cons_succ]
              refine wpAnyH_take (i := 11) (v := ?_) rfl (by kernel_rfl) (by kernel_rfl) (by kernel_rfl) (fun _ _ _ h => h) (Or.inl ⟨by rfl, ?_⟩) hHeld ?_
              rotate_left
              · intro w hSw; (try dsimp only at hSw); go_simp; (try with_reducible rfl)
              try simp only [Act.put, List.setIfInBounds_toArray, List.set_cons_zero, List.set_cons_succ, List.getElem_toArray, List.getElem_cons_zero, List.getElem_cons_succ]
              refine wpAnyH_take (i := 12) (v := ?_) rfl (by kernel_rfl) (by kernel_rfl) (by kernel_rfl) (fun _ _ _ h => h) (Or.inl ⟨by rfl, ?_⟩) hHeld ?_
              rotate_left
              · intro w hSw; (try dsimp only at hSw); go_simp; (try with_reducible rfl)
              try simp only [Act.put, List.setIfInBounds_toArray, List.set_cons_zero, List.set_cons_succ, List.getElem_toArray, List.getElem_cons_zero, List.getElem_cons_succ]
              refine wpAnyH_take (i := 13) (v := ?_) rfl (by kernel_rfl) (by kernel_rfl) (by kernel_rfl) (fun _ _ _ h => h) (Or.inl ⟨by rfl, ?_⟩) hHeld ?_
              rotate_left
              · intro w hSw; (try dsimp only at hSw); go_simp; (try with_reducible rfl)
              try simp only [Act.put, List.setIfInBounds_toArray, List.set_cons_zero, List.set_cons_succ, List.getElem_toArray, List.getElem_cons_zero, List.getElem_cons_succ]
              refine wpAnyH_take (i := 14) (v := ?_) rfl (by kernel_rfl) (by kernel_rfl) (by kernel_rfl) (fun _ _ _ h => h) (Or.inl ⟨by rfl, ?_⟩) hHeld ?_
              rotate_left
              · intro w hSw; (try dsimp only at hSw); go_simp; (try with_reducible rfl)
              try simp only [Act.put, List.setIfInBounds_toArray, List.set_cons_zero, List.set_cons_succ, List.getElem_toArray, List.getElem_cons_zero, List.getElem_cons_succ]
              refine wpAnyH_take (i := 15) (v := ?_) rfl (by kernel_rfl) (by kernel_rfl) (by kernel_rfl) (fun _ _ _ h => h) (Or.inl ⟨by rfl, ?_⟩) hHeld ?_
              rotate_left
              · intro w hSw; (try dsimp only at hSw); go_simp; (try with_reducible rfl)
              try simp only [Act.put, List.setIfInBounds_toArray, List.set_cons_zero, List.set_cons_succ, List.getElem_toArray, List.getElem_cons_zero, List.getElem_cons_succ]
              refine wpAnyH_take (i := 16) (v := ?_) rfl (by kernel_rfl) (by kernel_rfl) (by kernel_rfl) (fun _ _ _ h => h) (Or.inl ⟨by rfl, ?_⟩) hHeld ?_
              rotate_left
              · intro w hSw; (try dsimp only at hSw); go_simp; (try with_reducible rfl)
              try simp only [Act.put, List.setIfInBounds_toArray, List.set_cons_zero, List.set_cons_succ, List.getElem_toArray, List.getElem_cons_zero, List.getElem_cons_succ]
              refine wpAnyH_ready (rs := [17]) (by kernel_rfl) (by simp) (AllReadyH.cons rfl (fun K hK => ?_) AllReadyH.nil)
              go_simp
              go_at_call 28; refine (CT.out _ HB5.out).mono ?_; rintro e y1 ⟨rfl, hb⟩; have HE1 := Lib.hid hb; have q1 := HC.out _ hb; clear hb
              refine hK.out _ _ ?_ (fun hHeld2 => ?_)
              · first | (with_reducible exact q1) | (with_reducible exact q2) | (with_reducible exact q3) | (with_reducible exact q4)
              clear hK K hHeld; have hHeld := hHeld2; clear hHeld2
              try simp only [Act.put, List.setIfInBounds_toArray, List.set_cons_zero, List.set_cons_succ, List.getElem_toArray, List.getElem_cons_zero, List.getElem_cons_succ]
              refine wpAnyH_take (i := 18) (v := ?_) rfl (by kernel_rfl) (by kernel_rfl) (by kernel_rfl) (fun _ _ _ h => h) (Or.inl ⟨by rfl, ?_⟩) hHeld ?_
              rotate_left
              · intro w hSw; (try dsimp only at hSw); go_simp; (try with_reducible rfl)
              try simp only [Act.put, List.setIfInBounds_toArray, List.set_cons_zero, List.set_cons_succ, List.getElem_toArray, List.getElem_cons_zero, List.getElem_cons_succ]
              refine wpAnyH_take (i := 19) (v := ?_) rfl (by kernel_rfl) (by kernel_rfl) (by kernel_rfl) (fun _ _ _ h => h) (Or.inl ⟨by rfl, ?_⟩) hHeld ?_
              rotate_left
              · intro w hSw; (try dsimp only at hSw); go_simp; (try with_reducible rfl)
              try simp only [Act.put, List.setIfInBounds_toArray, List.set_cons_zero, List.set_cons_succ, List.getElem_toArray, List.getElem_cons_zero, List.getElem_cons_succ]
              refine wpAnyH_take (i := 20) (v := undef) rfl (by kernel_rfl) (by kernel_rfl) (by kernel_rfl) (fun _ _ _ h => h) (Or.inr ⟨by rfl, rfl⟩) hHeld ?_
              try simp only [Act.put, List.setIfInBounds_toArray, List.set_cons_zero, List.set_cons_succ, List.getElem_toArray, List.getElem_cons_zero, List.getElem_cons_succ]
              refine wpAnyH_take (i := 21) (v := undef) rfl (by kernel_rfl) (by kernel_rfl) (by kernel_rfl) (fun _ _ _ h => h) (Or.inr ⟨by rfl, rfl⟩) hHeld ?_
              try simp only [Act.put, List.setIfInBounds_toArray, List.set_cons_zero, List.set_cons_succ, List.getElem_toArray, List.getElem_cons_zero, List.getElem_cons_succ]
              refine wpAnyH_take (i := 22) (v := undef) rfl (by kernel_rfl) (by kernel_rfl) (by kernel_rfl) (fun _ _ _ h => h) (Or.inr ⟨by rfl, rfl⟩) hHeld ?_
              try simp only [Act.put, List.setIfInBounds_toArray, List.set_cons_zero, List.set_cons_succ, List.getElem_toArray, List.getElem_cons_zero, List.getElem_cons_succ]
              refine wpAnyH_take (i := 23) (v := undef) rfl (by kernel_rfl) (by kernel_rfl) (by kernel_rfl) (fun _ _ _ h => h) (Or.inr ⟨by rfl, rfl⟩) hHeld ?_
              try simp only [Act.put, List.setIfInBounds_toArray, List.set_cons_zero, List.set_cons_succ, List.getElem_toArray, List.getElem_cons_zero, List.getElem_cons_succ]
              refine wpAnyH_take (i := 24) (v := undef) rfl (by kernel_rfl) (by kernel_rfl) (by kernel_rfl) (fun _ _ _ h => h) (Or.inr ⟨by rfl, rfl⟩) hHeld ?_
              try simp only [Act.put, List.setIfInBounds_toArray, List.set_cons_zero, List.set_cons_succ, List.getElem_toArray, List.getElem_cons_zero, List.getElem_cons_succ]
              refine wpAnyH_take (i := 25) (v := undef) rfl (by kernel_rfl) (by kernel_rfl) (by kernel_rfl) (fun _ _ _ h => h) (Or.inr ⟨by rfl, rfl⟩) hHeld ?_
              try simp only [Act.put, List.setIfInBounds_toArray, List.set_cons_zero, List.set_cons_succ, List.getElem_toArray, List.getElem_cons_zero, List.getElem_cons_succ]
              refine wpAnyH_take (i := 26) (v := undef) rfl (by kernel_rfl) (by kernel_rfl) (by kernel_rfl) (fun _ _ _ h => h) (Or.inr ⟨by rfl, rfl⟩) hHeld ?_
              try simp only [Act.put, List.setIfInBounds_toArray, List.set_cons_zero, List.set_cons_succ, List.getElem_toArray, List.getElem_cons_zero, List.getElem_cons_succ]
              refine wpAnyH_take (i := 27) (v := ?_) rfl (by kernel_rfl) (by kernel_rfl) (by kernel_rfl) (fun _ _ _ h => h) (Or.inl ⟨by rfl, ?_⟩) hHeld ?_
              rotate_left
              · intro w hSw; (try dsimp only at hSw); go_simp; (try with_reducible rfl)
              try simp only [Act.put, List.setIfInBounds_toArray, List.set_cons_zero, List.set_cons_succ, List.getElem_toArray, List.getElem_cons_zero, List.getElem_cons_succ]
              refine wpAnyH_take (i := 28) (v := ?_) rfl (by kernel_rfl) (by kernel_rfl) (by kernel_rfl) (fun _ _ _ h => h) (Or.inl ⟨by rfl, ?_⟩) hHeld ?_
              rotate_left
              · intro w hSw; (try dsimp only at hSw); go_simp; (try with_reducible rfl)
              try simp only [Act.put, List.setIfInBounds_toArray, List.set_cons_zero, List.set_cons_succ, List.getElem_toArray, List.getElem_cons_zero, List.getElem_cons_succ]
              refine wpAnyH_done (by kernel_rfl) ?_ _
              refine NoPanic.normal ?_
              go_wp2_with fail
              go_meet
              exact ⟨HSB.out, HE1.out⟩
            | true =>
              have HSB : Hid (Value.bool B4 = .bool SB) := by show _ = _; rw [← hSB, hc1, hc2]; rfl
              clear hSB
              refine wp_region_noPanic ?_
              refine wp_region_held_drew (S := fun W => W.cell? ⟨w.heap.size, 0, none⟩ = some (.string n1) ∧ W.cell? ⟨w.heap.size, 1, none⟩ = some (.string h1) ∧ W.cell? ⟨w.heap.size, 2, none⟩ = some (.string ⟨#[]⟩) ∧ W.cell? ⟨w.heap.size, 3, none⟩ = some (vv1) ∧ W.cell? ⟨w.heap.size, 4, none⟩ = some (cv1) ∧ W.cell? ⟨w.heap.size + 1, 0, none⟩ = some (.string n2) ∧ W.cell? ⟨w.heap.size + 1, 1, none⟩ = some (.string h2) ∧ W.cell? ⟨w.heap.size + 1, 2, none⟩ = some (.string ⟨#[]⟩) ∧ W.cell? ⟨w.heap.size + 1, 3, none⟩ = some (vv2) ∧ W.cell? ⟨w.heap.size + 1, 4, none⟩ = some (cv2)) (by kernel_rfl) (by (with_reducible exact k5)) (fun hHeld => ?_)
              refine wpAnyH_take (i := 0) (v := ?_) rfl (by kernel_rfl) (by kernel_rfl) (by kernel_rfl) (fun _ _ _ h => h) (Or.inl ⟨by rfl, ?_⟩) hHeld ?_
              rotate_left
              · intro w hSw; (try dsimp only at hSw); go_simp; (try with_reducible rfl)
              try simp only [Act.put, List.setIfInBounds_toArray, List.set_cons_zero, List.set_cons_succ, List.getElem_toArray, List.getElem_cons_zero, List.getElem_cons_succ]
              refine wpAnyH_take (i := 1) (v := ?_) rfl (by kernel_rfl) (by kernel_rfl) (by kernel_rfl) (fun _ _ _ h => h) (Or.inl ⟨by rfl, ?_⟩) hHeld ?_
              rotate_left
              · intro w hSw; (try dsimp only at hSw); go_simp; (try with_reducible rfl)
              try simp only [Act.put, List.setIfInBounds_toArray, List.set_cons_zero, List.set_cons_succ, List.getElem_toArray, List.getElem_cons_zero, List.getElem_cons_succ]
              refine wpAnyH_take (i := 2) (v := ?_) rfl (by kernel_rfl) (by kernel_rfl) (by kernel_rfl) (fun _ _ _ h => h) (Or.inl ⟨by rfl, ?_⟩) hHeld ?_
              rotate_left
              · intro w hSw; (try dsimp only at hSw); go_simp; (try with_reducible rfl)
              try simp only [Act.put, List.setIfInBounds_toArray, List.set_cons_zero, List.set_cons_succ, List.getElem_toArray, List.getElem_cons_zero, List.getElem_cons_succ]
              refine wpAnyH_take (i := 3) (v := ?_) rfl (by kernel_rfl) (by kernel_rfl) (by kernel_rfl) (fun _ _ _ h => h) (Or.inl ⟨by rfl, ?_⟩) hHeld ?_
              rotate_left
              · intro w hSw; (try dsimp only at hSw); go_simp; (try with_reducible rfl)
              try simp only [Act.put, List.setIfInBounds_toArray, List.set_cons_zero, List.set_cons_succ, List.getElem_toArray, List.getElem_cons_zero, List.getElem_cons_succ]
              refine wpAnyH_take (i := 4) (v := ?_) rfl (by kernel_rfl) (by kernel_rfl) (by kernel_rfl) (fun _ _ _ h => h) (Or.inl ⟨by rfl, ?_⟩) hHeld ?_
              rotate_left
              · intro w hSw; (try dsimp only at hSw); go_simp; (try with_reducible rfl)
              try simp only [Act.put, List.setIfInBounds_toArray, List.set_cons_zero, List.set_cons_succ, List.getElem_toArray, List.getElem_cons_zero, List.getElem_cons_succ]
              refine wpAnyH_take (i := 5) (v := ?_) rfl (by kernel_rfl) (by kernel_rfl) (by kernel_rfl) (fun _ _ _ h => h) (Or.inl ⟨by rfl, ?_⟩) hHeld ?_
              rotate_left
              · intro w hSw; (try dsimp only at hSw); go_simp; (try with_reducible rfl)
              try simp only [Act.put, List.setIfInBounds_toArray, List.set_cons_zero, List.set_cons_succ, List.getElem_toArray, List.getElem_cons_zero, List.getElem_cons_succ]
              refine wpAnyH_take (i := 6) (v := ?_) rfl (by kernel_rfl) (by kernel_rfl) (by kernel_rfl) (fun _ _ _ h => h) (Or.inl ⟨by rfl, ?_⟩) hHeld ?_
              rotate_left
              · intro w hSw; (try dsimp only at hSw); go_simp; (try with_reducible rfl)
              try simp only [Act.put, List.setIfInBounds_toArray, List.set_cons_zero, List.set_cons_succ, List.getElem_toArray, List.getElem_cons_zero, List.getElem_cons_succ]
              refine wpAnyH_take (i := 7) (v := ?_) rfl (by kernel_rfl) (by kernel_rfl) (by kernel_rfl) (fun _ _ _ h => h) (Or.inl ⟨by rfl, ?_⟩) hHeld ?_
              rotate_left
              · intro w hSw; (try dsimp only at hSw); go_simp; (try with_reducible rfl)
              try simp only [Act.put, List.setIfInBounds_toArray, List.set_cons_zero, List.set_cons_succ, List.getElem_toArray, List.getElem_cons_zero, List.getElem_cons_succ]
              refine wpAnyH_take (i := 8) (v := ?_) rfl (by kernel_rfl) (by kernel_rfl) (by kernel_rfl) (fun _ _ _ h => h) (Or.inl ⟨by rfl, ?_⟩) hHeld ?_
              rotate_left
              · intro w hSw; (try dsimp only at hSw); go_simp; (try with_reducible rfl)
              try simp only [Act.put, List.setIfInBounds_toArray, List.set_cons_zero, List.set_cons_succ, List.getElem_toArray, List.getElem_cons_zero, List.getElem_cons_succ]
              refine wpAnyH_take (i := 9) (v := ?_) rfl (by kernel_rfl) (by kernel_rfl) (by kernel_rfl) (fun _ _ _ h => h) (Or.inl ⟨by rfl, ?_⟩) hHeld ?_
              rotate_left
              · intro w hSw; (try dsimp only at hSw); go_simp; (try with_reducible rfl)
              try simp only [Act.put, List.setIfInBounds_toArray, List.set_cons_zero, List.set_cons_succ, List.getElem_toArray, List.getElem_cons_zero, List.getElem_cons_succ]
              refine wpAnyH_take (i := 10) (v := ?_) rfl (by kernel_rfl) (by kernel_rfl) (by kernel_rfl) (fun _ _ _ h => h) (Or.inl ⟨by rfl, ?_⟩) hHeld ?_
              rotate_left
              · intro w hSw; (try dsimp only at hSw); go_simp; (try with_reducible rfl)
              try simp only [Act.put, List.setIfInBounds_toArray, List.set_cons_zero, List.set_cons_succ, List.getElem_toArray, List.getElem_cons_zero, List.getElem_cons_succ]
              refine wpAnyH_take (i := 11) (v := ?_) rfl (by kernel_rfl) (by kernel_rfl) (by kernel_rfl) (fun _ _ _ h => h) (Or.inl ⟨by rfl, ?_⟩) hHeld ?_
              rotate_left
              · intro w hSw; (try dsimp only at hSw); go_simp; (try with_reducible rfl)
              try simp only [Act.put, List.setIfInBounds_toArray, List.set_cons_zero, List.set_cons_succ, List.getElem_toArray, List.getElem_cons_zero, List.getElem_cons_succ]
              refine wpAnyH_take (i := 12) (v := ?_) rfl (by kernel_rfl) (by kernel_rfl) (by kernel_rfl) (fun _ _ _ h => h) (Or.inl ⟨by rfl, ?_⟩) hHeld ?_
              rotate_left
              · intro w hSw; (try dsimp only at hSw); go_simp; (try with_reducible rfl)
              try simp only [Act.put, List.setIfInBounds_toArray, List.set_cons_zero, List.set_cons_succ, List.getElem_toArray, List.getElem_cons_zero, List.getElem_cons_succ]
              refine wpAnyH_take (i := 13) (v := ?_) rfl (by kernel_rfl) (by kernel_rfl) (by kernel_rfl) (fun _ _ _ h => h) (Or.inl ⟨by rfl, ?_⟩) hHeld ?_
              rotate_left
              · intro w hSw; (try dsimp only at hSw); go_simp; (try with_reducible rfl)
              try simp only [Act.put, List.setIfInBounds_toArray, List.set_cons_zero, List.set_cons_succ, List.getElem_toArray, List.getElem_cons_zero, List.getElem_cons_succ]
              refine wpAnyH_take (i := 14) (v := ?_) rfl (by kernel_rfl) (by kernel_rfl) (by kernel_rfl) (fun _ _ _ h => h) (Or.inl ⟨by rfl, ?_⟩) hHeld ?_
              rotate_left
              · intro w hSw; (try dsimp only at hSw); go_simp; (try with_reducible rfl)
              try simp only [Act.put, List.setIfInBounds_toArray, List.set_cons_zero, List.set_cons_succ, List.getElem_toArray, List.getElem_cons_zero, List.getElem_cons_succ]
              refine wpAnyH_take (i := 15) (v := ?_) rfl (by kernel_rfl) (by kernel_rfl) (by kernel_rfl) (fun _ _ _ h => h) (Or.inl ⟨by rfl, ?_⟩) hHeld ?_
              rotate_left
              · intro w hSw; (try dsimp only at hSw); go_simp; (try with_reducible rfl)
              try simp only [Act.put, List.setIfInBounds_toArray, List.set_cons_zero, List.set_cons_succ, List.getElem_toArray, List.getElem_cons_zero, List.getElem_cons_succ]
              refine wpAnyH_take (i := 16) (v := ?_) rfl (by kernel_rfl) (by kernel_rfl) (by kernel_rfl) (fun _ _ _ h => h) (Or.inl ⟨by rfl, ?_⟩) hHeld ?_
              rotate_left
              · intro w hSw; (try dsimp only at hSw); go_simp; (try with_reducible rfl)
              try simp only [Act.put, List.setIfInBounds_toArray, List.set_cons_zero, List.set_cons_succ, List.getElem_toArray, List.getElem_cons_zero, List.getElem_cons_succ]
              refine wpAnyH_ready (rs := [17]) (by kernel_rfl) (by simp) (AllReadyH.cons rfl (fun K hK => ?_) AllReadyH.nil)
              go_simp
              go_at_call 28; refine (CT.out _ HB5.out).mono ?_; rintro e y1 ⟨rfl, hb⟩; have HE1 := Lib.hid hb; have q1 := HC.out _ hb; clear hb
              refine hK.out _ _ ?_ (fun hHeld2 => ?_)
              · first | (with_reducible exact q1) | (with_reducible exact q2) | (with_reducible exact q3) | (with_reducible exact q4)
              clear hK K hHeld; have hHeld := hHeld2; clear hHeld2
              try simp only [Act.put, List.setIfInBounds_toArray, List.set_cons_zero, List.set_cons_succ, List.getElem_toArray, List.getElem_cons_zero, List.getElem_cons_succ]
              refine wpAnyH_take (i := 18) (v := ?_) rfl (by kernel_rfl) (by kernel_rfl) (by kernel_rfl) (fun _ _ _ h => h) (Or.inl ⟨by rfl, ?_⟩) hHeld ?_
              rotate_left
              · intro w hSw; (try dsimp only at hSw); go_simp; (try with_reducible rfl)
              try simp only [Act.put, List.setIfInBounds_toArray, List.set_cons_zero, List.set_cons_succ, List.getElem_toArray, List.getElem_cons_zero, List.getElem_cons_succ]
              refine wpAnyH_take (i := 19) (v := ?_) rfl (by kernel_rfl) (by kernel_rfl) (by kernel_rfl) (fun _ _ _ h => h) (Or.inl ⟨by rfl, ?_⟩) hHeld ?_
              rotate_left
              · intro w hSw; (try dsimp only at hSw); go_simp; (try with_reducible rfl)
              try simp only [Act.put, List.setIfInBounds_toArray, List.set_cons_zero, List.set_cons_succ, List.getElem_toArray, List.getElem_cons_zero, List.getElem_cons_succ]
              refine wpAnyH_take (i := 20) (v := ?_) rfl (by kernel_rfl) (by kernel_rfl) (by kernel_rfl) (fun _ _ _ h => h) (Or.inl ⟨by rfl, ?_⟩) hHeld ?_
              rotate_left
              · intro w hSw; (try dsimp only at hSw); go_simp; (try with_reducible rfl)
              try simp only [Act.put, List.setIfInBounds_toArray, List.set_cons_zero, List.set_cons_succ, List.getElem_toArray, List.getElem_cons_zero, List.getElem_cons_succ]
              refine wpAnyH_take (i := 21) (v := ?_) rfl (by kernel_rfl) (by kernel_rfl) (by kernel_rfl) (fun _ _ _ h => h) (Or.inl ⟨by rfl, ?_⟩) hHeld ?_
              rotate_left
              · intro w hSw; (try dsimp only at hSw); go_simp; (try with_reducible rfl)
              try simp only [Act.put, List.setIfInBounds_toArray, List.set_cons_zero, List.set_cons_succ, List.getElem_toArray, List.getElem_cons_zero, List.getElem_cons_succ]
              refine wpAnyH_take (i := 23) (v := ?_) rfl (by kernel_rfl) (by kernel_rfl) (by kernel_rfl) (fun _ _ _ h => h) (Or.inl ⟨by rfl, ?_⟩) hHeld ?_
              rotate_left
              · intro w hSw; (try dsimp only at hSw); go_simp; (try with_reducible rfl)
              try simp only [Act.put, List.setIfInBounds_toArray, List.set_cons_zero, List.set_cons_succ, List.getElem_toArray, List.getElem_cons_zero, List.getElem_cons_succ]
              refine wpAnyH_take (i := 24) (v := ?_) rfl (by kernel_rfl) (by kernel_rfl) (by kernel_rfl) (fun _ _ _ h => h) (Or.inl ⟨by rfl, ?_⟩) hHeld ?_
              rotate_left
              · intro w hSw; (try dsimp only at hSw); go_simp; (try with_reducible rfl)
              try simp only [Act.put, List.setIfInBounds_toArray, List.set_cons_zero, List.set_cons_succ, List.getElem_toArray, List.getElem_cons_zero, List.getElem_cons_succ]
              refine wpAnyH_ready (rs := [22]) (by kernel_rfl) (by simp) (AllReadyH.cons rfl (fun K hK => ?_) AllReadyH.nil)
              go_simp
              go_at_call 24; refine (CF1.out _ HE1.out).mono ?_; rintro e y2 ⟨a2, c2, rfl, ho, hb, hb'⟩; have HO2 := Lib.hid ho; have HE2 := Lib.hid hb; have q2 := HC.out _ hb; clear hb hb' ho
              refine hK.out _ _ ?_ (fun hHeld2 => ?_)
              · first | (with_reducible exact q1) | (with_reducible exact q2) | (with_reducible exact q3) | (with_reducible exact q4)
              clear hK K hHeld; have hHeld := hHeld2; clear hHeld2
              try simp only [Act.put, List.setIfInBounds_toArray, List.set_cons_zero, List.set_cons_succ, List.getElem_toArray, List.getElem_cons_zero, List.getElem_cons_succ]
              refine wpAnyH_ready (rs := [25]) (by kernel_rfl) (by simp) (AllReadyH.cons rfl (fun K hK => ?_) AllReadyH.nil)
              go_simp
              go_at_call 24; refine (CF2.out _ HE2.out).mono ?_; rintro e y3 ⟨a3, c3, rfl, ho, hb, hb'⟩; have HO3 := Lib.hid (And.intro (HO2.out.below hb') ho); have HE3 := Lib.hid hb; have q3 := HC.out _ hb; clear hb hb' ho
              refine hK.out _ _ ?_ (fun hHeld2 => ?_)
              · first | (with_reducible exact q1) | (with_reducible exact q2) | (with_reducible exact q3) | (with_reducible exact q4)
              clear hK K hHeld; have hHeld := hHeld2; clear hHeld2
              try simp only [Act.put, List.setIfInBounds_toArray, List.set_cons_zero, List.set_cons_succ, List.getElem_toArray, List.getElem_cons_zero, List.getElem_cons_succ]
              refine wpAnyH_ready (rs := [26]) (by kernel_rfl) (by simp) (AllReadyH.cons rfl (fun K hK => ?_) AllReadyH.nil)
              go_simp
              go_at_call 19; refine (CP.out _ _ _ HE3.out HO3.out.1 HO3.out.2).mono ?_; rintro e y4 ⟨rfl, hb⟩; have HE4 := Lib.hid hb; have q4 := HC.out _ hb; clear hb
              refine hK.out _ _ ?_ (fun hHeld2 => ?_)
              · first | (with_reducible exact q1) | (with_reducible exact q2) | (with_reducible exact q3) | (with_reducible exact q4)
              clear hK K hHeld; have hHeld := hHeld2; clear hHeld2
              try simp only [Act.put, List.setIfInBounds_toArray, List.set_cons_zero, List.set_cons_succ, List.getElem_toArray, List.getElem_cons_zero, List.getElem_cons_succ]
              refine wpAnyH_take (i := 27) (v := ?_) rfl (by kernel_rfl) (by kernel_rfl) (by kernel_rfl) (fun _ _ _ h => h) (Or.inl ⟨by rfl, ?_⟩) hHeld ?_
              rotate_left
              · intro w hSw; (try dsimp only at hSw); go_simp; (try with_reducible rfl)
              try simp only [Act.put, List.setIfInBounds_toArray, List.set_cons_zero, List.set_cons_succ, List.getElem_toArray, List.getElem_cons_zero, List.getElem_cons_succ]
              refine wpAnyH_take (i := 28) (v := ?_) rfl (by kernel_rfl) (by kernel_rfl) (by kernel_rfl) (fun _ _ _ h => h) (Or.inl ⟨by rfl, ?_⟩) hHeld ?_
              rotate_left
              · intro w hSw; (try dsimp only at hSw); go_simp; (try with_reducible rfl)
              try simp only [Act.put, List.setIfInBounds_toArray, List.set_cons_zero, List.set_cons_succ, List.getElem_toArray, List.getElem_cons_zero, List.getElem_cons_succ]
              refine wpAnyH_done (by kernel_rfl) ?_ _
              refine NoPanic.normal ?_
              go_wp2_with fail
              go_meet
              exact ⟨HSB.out, HE4.out⟩
      case rest => as_aux_lemma =>
        obtain ⟨rfl, hbx⟩ := hcut
        obtain ⟨W5, rfl⟩ : ∃ W5, W5 = wc := ⟨_, rfl⟩
        have htx := HTx.out
        have hbb : (SB == SB) = true := beq_self_eq_true _
        have HE0 := Lib.hid (HDr.out _ hbx.out)
        have k6 := HC.out _ HE0.out
        clear hSB k5 CT CF1 CF2 CP
        go_wp2_with fail
        refine wp_region_noPanic ?_
        refine wp_region_held_drew (S := fun W => W.cell? ⟨w.heap.size, 0, none⟩ = some (.string n1) ∧ W.cell? ⟨w.heap.size, 1, none⟩ = some (.string h1) ∧ W.cell? ⟨w.heap.size, 2, none⟩ = some (.string ⟨#[]⟩) ∧ W.cell? ⟨w.heap.size, 3, none⟩ = some (vv1) ∧ W.cell? ⟨w.heap.size, 4, none⟩ = some (cv1) ∧ W.cell? ⟨w.heap.size + 1, 0, none⟩ = some (.string n2) ∧ W.cell? ⟨w.heap.size + 1, 1, none⟩ = some (.string h2) ∧ W.cell? ⟨w.heap.size + 1, 2, none⟩ = some (.string ⟨#[]⟩) ∧ W.cell? ⟨w.heap.size + 1, 3, none⟩ = some (vv2) ∧ W.cell? ⟨w.heap.size + 1, 4, none⟩ = some (cv2)) (by kernel_rfl) (by (with_reducible exact k6)) (fun hHeld => ?_)
        refine wpAnyH_take (i := 0) (v := ?_) rfl (by kernel_rfl) (by kernel_rfl) (by kernel_rfl) (fun _ _ _ h => h) (Or.inl ⟨by rfl, ?_⟩) hHeld ?_
        rotate_left
        · intro w hSw; (try dsimp only at hSw); go_simp; (try with_reducible rfl)
        try simp only [Act.put, List.setIfInBounds_toArray, List.set_cons_zero, List.set_cons_succ, List.getElem_toArray, List.getElem_cons_zero, List.getElem_cons_succ]
        refine wpAnyH_take (i := 3) (v := ?_) rfl (by kernel_rfl) (by kernel_rfl) (by kernel_rfl) (fun _ _ _ h => h) (Or.inl ⟨by rfl, ?_⟩) hHeld ?_
        rotate_left
        · intro w hSw; (try dsimp only at hSw); go_simp; (try with_reducible rfl)
        try simp only [Act.put, List.setIfInBounds_toArray, List.set_cons_zero, List.set_cons_succ, List.getElem_toArray, List.getElem_cons_zero, List.getElem_cons_succ]
        refine wpAnyH_take (i := 7) (v := ?_) rfl (by kernel_rfl) (by kernel_rfl) (by kernel_rfl) (fun _ _ _ h => h) (Or.inl ⟨by rfl, ?_⟩) hHeld ?_
        rotate_left
        · intro w hSw; (try dsimp only at hSw); go_simp; (try with_reducible rfl)
        try simp only [Act.put, List.setIfInBounds_toArray, List.set_cons_zero, List.set_cons_succ, List.getElem_toArray, List.getElem_cons_zero, List.getElem_cons_succ]
        refine wpAnyH_ready (rs := [1]) (by kernel_rfl) (by simp) (AllReadyH.cons rfl (fun K hK => ?_) AllReadyH.nil)
        go_simp
        go_at_call 14; refine (HM1.out _ HE0.out).mono ?_; rintro e z1 ⟨va1, ca1, rfl, hv, hb⟩; have HV1 := Lib.hid hv; have HE1 := Lib.hid hb; have q1 := HC.out _ hb; clear hb hv
        refine hK.out _ _ ?_ (fun hHeld2 => ?_)
        · first | (with_reducible exact q1) | (with_reducible exact q2) | (with_reducible exact q3) | (with_reducible exact q4) | (with_reducible exact q5)
        clear hK K hHeld; have hHeld := hHeld2; clear hHeld2
        try simp only [Act.put, List.setIfInBounds_toArray, List.set_cons_zero, List.set_cons_succ, List.getElem_toArray, List.getElem_cons_zero, List.getElem_cons_succ]
        refine wpAnyH_ready (rs := [2]) (by kernel_rfl) (by simp) (AllReadyH.cons rfl (fun K hK => ?_) AllReadyH.nil)
        go_simp
        go_at_call 29; refine (HT1.out _ _ _ HE1.out HV1.out).mono ?_; rintro e z2 ⟨rfl, hb⟩; have HE2 := Lib.hid hb; have q2 := HC.out _ hb; clear hb
        refine hK.out _ _ ?_ (fun hHeld2 => ?_)
        · first | (with_reducible exact q1) | (with_reducible exact q2) | (with_reducible exact q3) | (with_reducible exact q4) | (with_reducible exact q5)
        clear hK K hHeld; have hHeld := hHeld2; clear hHeld2
        try simp only [Act.put, List.setIfInBounds_toArray, List.set_cons_zero, List.set_cons_succ, List.getElem_toArray, List.getElem_cons_zero, List.getElem_cons_succ]
        refine wpAnyH_ready (rs := [4]) (by kernel_rfl) (by simp) (AllReadyH.cons rfl (fun K hK => ?_) AllReadyH.nil)
        go_simp
        go_at_call 14; refine (HM2.out _ HE2.out).mono ?_; rintro e z3 ⟨va3, ca3, rfl, hv, hb⟩; have HV3 := Lib.hid hv; have HE3 := Lib.hid hb; have q3 := HC.out _ hb; clear hb hv
        refine hK.out _ _ ?_ (fun hHeld2 => ?_)
        · first | (with_reducible exact q1) | (with_reducible exact q2) | (with_reducible exact q3) | (with_reducible exact q4) | (with_reducible exact q5)
        clear hK K hHeld; have hHeld := hHeld2; clear hHeld2
        try simp only [Act.put, List.setIfInBounds_toArray, List.set_cons_zero, List.set_cons_succ, List.getElem_toArray, List.getElem_cons_zero, List.getElem_cons_succ]
        refine wpAnyH_ready (rs := [5]) (by kernel_rfl) (by simp) (AllReadyH.cons rfl (fun K hK => ?_) AllReadyH.nil)
        go_simp
        go_at_call 29; refine (HT2.out _ _ _ HE3.out HV3.out).mono ?_; rintro e z4 ⟨rfl, hb⟩; have HE4 := Lib.hid hb; have q4 := HC.out _ hb; clear hb
        refine hK.out _ _ ?_ (fun hHeld2 => ?_)
        · first | (with_reducible exact q1) | (with_reducible exact q2) | (with_reducible exact q3) | (with_reducible exact q4) | (with_reducible exact q5)
        clear hK K hHeld; have hHeld := hHeld2; clear hHeld2
        try simp only [Act.put, List.setIfInBounds_toArray, List.set_cons_zero, List.set_cons_succ, List.getElem_toArray, List.getElem_cons_zero, List.getElem_cons_succ]
        refine wpAnyH_take (i := 6) (v := ?_) rfl (by kernel_rfl) (by kernel_rfl) (by kernel_rfl) (fun _ _ _ h => h) (Or.inl ⟨by rfl, ?_⟩) hHeld ?_
        rotate_left
        · intro w hSw; (try dsimp only at hSw); go_simp; (try with_reducible rfl)
        try simp only [Act.put, List.setIfInBounds_toArray, List.set_cons_zero, List.set_cons_succ, List.getElem_toArray, List.getElem_cons_zero, List.getElem_cons_succ]
        refine wpAnyH_take (i := 8) (v := ?_) rfl (by kernel_rfl) (by kernel_rfl) (by kernel_rfl) (fun _ _ _ h => h) (Or.inl ⟨by rfl, ?_⟩) hHeld ?_
        rotate_left
        · intro w hSw; (try dsimp only at hSw); go_simp; (try with_reducible rfl)
        try simp only [Act.put, List.setIfInBounds_toArray, List.set_cons_zero, List.set_cons_succ, List.getElem_toArray, List.getElem_cons_zero, List.getElem_cons_succ]
        refine wpAnyH_take (i := 9) (v := ?_) rfl (by kernel_rfl) (by kernel_rfl) (by kernel_rfl) (fun _ _ _ h => h) (Or.inl ⟨by rfl, ?_⟩) hHeld ?_
        rotate_left
        · intro w hSw; (try dsimp only at hSw); go_simp; (try with_reducible rfl)
        try simp only [Act.put, List.setIfInBounds_toArray, List.set_cons_zero, List.set_cons_succ, List.getElem_toArray, List.getElem_cons_zero, List.getElem_cons_succ]
        refine wpAnyH_ready (rs := [10]) (by kernel_rfl) (by simp) (AllReadyH.cons rfl (fun K hK => ?_) AllReadyH.nil)
        go_simp
        go_at_call 12; refine (HLv.out _ HE4.out).mono ?_; rintro e z5 ⟨rfl, hb⟩; have HE5 := Lib.hid hb; have q5 := HC.out _ hb; clear hb
        refine hK.out _ _ ?_ (fun hHeld2 => ?_)
        · first | (with_reducible exact q1) | (with_reducible exact q2) | (with_reducible exact q3) | (with_reducible exact q4) | (with_reducible exact q5)
        clear hK K hHeld; have hHeld := hHeld2; clear hHeld2
        try simp only [Act.put, List.setIfInBounds_toArray, List.set_cons_zero, List.set_cons_succ, List.getElem_toArray, List.getElem_cons_zero, List.getElem_cons_succ]
        refine wpAnyH_take (i := 11) (v := ?_) rfl (by kernel_rfl) (by kernel_rfl) (by kernel_rfl) (fun _ _ _ h => h) (Or.inl ⟨by rfl, ?_⟩) hHeld ?_
        rotate_left
        · intro w hSw; (try dsimp only at hSw); go_simp; (try with_reducible rfl)
        try simp only [Act.put, List.setIfInBounds_toArray, List.set_cons_zero, List.set_cons_succ, List.getElem_toArray, List.getElem_cons_zero, List.getElem_cons_succ]
        refine wpAnyH_take (i := 12) (v := ?_) rfl (by kernel_rfl) (by kernel_rfl) (by kernel_rfl) (fun _ _ _ h => h) (Or.inl ⟨by rfl, ?_⟩) hHeld ?_
        rotate_left
        · intro w hSw; (try dsimp only at hSw); go_simp; (try with_reducible rfl)
        try simp only [Act.put, List.setIfInBounds_toArray, List.set_cons_zero, List.set_cons_succ, List.getElem_toArray, List.getElem_cons_zero, List.getElem_cons_succ]
        refine wpAnyH_done (by kernel_rfl) ?_ _
        refine NoPanic.normal ?_
        go_wp2_with fail
        go_ret
        exact ⟨rfl, HUp.out _ HE5.out⟩

/-- what the listed variables hold -/
theorem glob_of {W : World} (h : laidMetH Tryz.prog Tx.laidT W) : Tx.GlobQ W := Tx.glob_of h

end Go.Proofs.YtfcpapbokefdmaaGreatDoor.MetaText
