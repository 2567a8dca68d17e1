/- FnMetaSame: two plain descriptors are equal if and only if they have the same name and the same values of their constant labels: how the arguments are read, and the walk of the law. -/
import Derived.Test.YtfcpapbokefdmaaGreatDoorNsg
import Derived.Test.YtfcpapbokefdmaaGreatDoorNsh
import Derived.Test.YtfcpapbokefdmaaGreatDoorNsi
import Derived.Test.YtfcpapbokefdmaaGreatDoorNgl
import Derived.Test.YtfcpapbokefdmaaGreatDoorFq
set_option linter.unusedVariables false
set_option linter.unusedSimpArgs false
namespace Go.Proofs.YtfcpapbokefdmaaGreatDoor.MetaSame
open Go.RowKit Go.ChangeShapes Go.WideShapes Go.Deep Fp _root_.Go.Proofs.YtfcpapbokefdmaaGreatDoor.Nd

def Good (w : World) (v : Value) : Prop := ∃ nm hp un V L, MetaAt w v nm hp un V L ∧ Small nm hp un V L
set_option maxRecDepth 100000 in
theorem read0 {H : Type} {enc : TypeId × Value → H} {W : World} {base b0 : Nat} {held : Bool} {r : Reach} {v : Value} {d : DataW H} {p : List MemPlace}
    (hv : Value.okWide Tryz.prog W r b0 25 v) (h : DataW.Trod enc Tryz.prog W base (fun _ => true) held 25 v d p) (hb : Rows.uptoBulk d ≤ 1048576) : Good W v := by
  obtain ⟨nm, hp, un, V, L, h1, h2, _⟩ := meta_read hv h hb
  exact ⟨nm, hp, un, V, L, h1, h2⟩
set_option maxRecDepth 100000 in
theorem read1 {H : Type} {enc : TypeId × Value → H} {W : World} {base b0 : Nat} {held : Bool} {r : Reach} {v : Value} {d : DataW H} {p : List MemPlace}
    (hv : Value.okWide Tryz.prog W r b0 25 v) (h : DataW.Trod enc Tryz.prog W base (fun _ => true) held 25 v d p) (hb : Rows.uptoBulk d ≤ 1048576) : Good W v := read0 hv h hb

theorem asc_clean {s : ByteArray} (h : Asc s) : (255 : UInt8) ∉ dl s := fun hm => by
  have := h _ hm
  revert this
  decide
theorem say_clean {nm hp un : ByteArray} {V : List ByteArray} {L : List P2} (h : sayB nm hp un V L = true) : Nd.Clean (nm :: (fit L).map (·.2)) := by
  have hp' := sayB_iff.1 h
  intro x hx
  rcases List.mem_cons.1 hx with rfl | hx
  · exact asc_clean (plain_asc (plainB_iff.1 hp'.nm))
  · obtain ⟨p, hpm, rfl⟩ := List.mem_map.1 hx
    obtain ⟨k, hk, rfl⟩ := List.mem_iff_getElem.1 hpm
    exact asc_clean (ascii_asc (hp'.vals k hk))
theorem id_same {n1 h1 u1 n2 h2 u2 : ByteArray} {V1 V2 : List ByteArray} {L1 L2 : List P2} (hs1 : sayB n1 h1 u1 V1 L1 = true) (hs2 : sayB n2 h2 u2 V2 L2 = true) :
    ((mkB (idOf n1 (fit L1))).toList == (mkB (idOf n2 (fit L2))).toList) = sameB n1 n2 (fit L1) (fit L2) := by
  have hc := id_iff (say_clean hs1) (say_clean hs2)
  have e : ∀ l : L8, (mkB l).toList = l := fun l => by rw [Lib.toList_data]; exact dl_mk l
  rw [e, e, Bool.eq_iff_iff, beq_iff_eq, sameB_iff]
  exact hc

set_option maxHeartbeats 16000000 in
set_option maxRecDepth 100000 in
theorem law_any (v v1 : Value) (w : World) (g1 : Good w v) (g2 : Good w v1) (hG : Glob w) :
    Calls Tryz.prog 3 #[v, v1] w fun e w' => e = .returned (.bool true) ∧ Below w.heap.size w w' := by
  obtain ⟨n1, h1, u1, V1, L1, hm1, hs1⟩ := g1
  obtain ⟨n2, h2, u2, V2, L2, hm2, hs2⟩ := g2
  obtain ⟨vv1, cv1, rfl, hvv1, hcv1⟩ := id hm1.val
  obtain ⟨vv2, cv2, rfl, hvv2, hcv2⟩ := id hm2.val
  obtain ⟨A, hA⟩ : ∃ A, A = ((w.alloc (.cells #[.string n1, .string h1, .string u1, vv1, cv1] 25)).alloc (.cells #[.string n2, .string h2, .string u2, vv2, cv2] 25)) := ⟨_, rfl⟩
  have s1 : (w.alloc (.cells #[.string n1, .string h1, .string u1, vv1, cv1] 25)).heap.size = w.heap.size + 1 := by simp
  have s2 : A.heap.size = w.heap.size + 1 + 1 := by rw [hA]; simp
  have hqb : Below w.heap.size w A := by rw [hA]; exact ((Below.refl _ _).alloc (Nat.le_refl _) _).alloc (by simp) _
  have HUp : Hid (∀ W : World, Below (w.heap.size + 1 + 1) A W → Below w.heap.size w W) := fun W h => hqb.trans (h.mono (by omega))
  have HTr : Hid (∀ W W' : World, Below (w.heap.size + 1 + 1) A W → Below W.heap.size W W' → Below (w.heap.size + 1 + 1) A W') := fun W W' h h' => h.trans (h'.mono (by have := h.size; omega))
  have HC : Hid (∀ w' : World, Below (w.heap.size + 1 + 1) A w' → w'.cell? ⟨w.heap.size, 0, none⟩ = some (.string n1) ∧ w'.cell? ⟨w.heap.size, 1, none⟩ = some (.string h1) ∧ w'.cell? ⟨w.heap.size, 2, none⟩ = some (.string u1) ∧ w'.cell? ⟨w.heap.size, 3, none⟩ = some vv1 ∧ w'.cell? ⟨w.heap.size, 4, none⟩ = some cv1 ∧ w'.cell? ⟨w.heap.size + 1, 0, none⟩ = some (.string n2) ∧ w'.cell? ⟨w.heap.size + 1, 1, none⟩ = some (.string h2) ∧ w'.cell? ⟨w.heap.size + 1, 2, none⟩ = some (.string u2) ∧ w'.cell? ⟨w.heap.size + 1, 3, none⟩ = some vv2 ∧ w'.cell? ⟨w.heap.size + 1, 4, none⟩ = some cv2) := fun W h => by
    rw [hA] at h
    have e : ∀ j, W.cell? ⟨w.heap.size, j, none⟩ = (#[.string n1, .string h1, .string u1, vv1, cv1] : Array Value)[j]? := fun j => ((h.cell (p := ⟨w.heap.size, j, none⟩) (by show w.heap.size < w.heap.size + 1 + 1; omega)).trans (Sl.cell_old (w.alloc (.cells #[.string n1, .string h1, .string u1, vv1, cv1] 25)) _ _ _ (by rw [s1]; omega))).trans (Sl.cell_new w _ _ j)
    have e2 : ∀ j, W.cell? ⟨w.heap.size + 1, j, none⟩ = (#[.string n2, .string h2, .string u2, vv2, cv2] : Array Value)[j]? := fun j => by
      have h1 := Sl.cell_new (w.alloc (.cells #[.string n1, .string h1, .string u1, vv1, cv1] 25)) #[.string n2, .string h2, .string u2, vv2, cv2] 25 j
      rw [s1] at h1
      exact (h.cell (p := ⟨w.heap.size + 1, j, none⟩) (by show w.heap.size + 1 < w.heap.size + 1 + 1; omega)).trans h1
    exact ⟨e 0, e 1, e 2, e 3, e 4, e2 0, e2 1, e2 2, e2 3, e2 4⟩
  have HF1 : Hid (∀ W : World, Below (w.heap.size + 1 + 1) A W → Calls Tryz.prog 10 #[.agg #[.string n1, .string h1, .string u1, vv1, cv1]] W (fun e w' => e = .returned (.bool true) ∧ Below (w.heap.size + 1 + 1) A w')) := fun W h => (fits4_any _ n1 h1 u1 V1 L1 W (hm1.below (HUp.out W h)) hs1).mono fun e w' ⟨he, hb⟩ => ⟨he, HTr.out _ _ h hb⟩
  have HF2 : Hid (∀ W : World, Below (w.heap.size + 1 + 1) A W → Calls Tryz.prog 10 #[.agg #[.string n2, .string h2, .string u2, vv2, cv2]] W (fun e w' => e = .returned (.bool true) ∧ Below (w.heap.size + 1 + 1) A w')) := fun W h => (fits4_any _ n2 h2 u2 V2 L2 W (hm2.below (HUp.out W h)) hs2).mono fun e w' ⟨he, hb⟩ => ⟨he, HTr.out _ _ h hb⟩
  have HS1 : Hid (∀ W : World, Below (w.heap.size + 1 + 1) A W → Calls Tryz.prog 11 #[.agg #[.string n1, .string h1, .string u1, vv1, cv1]] W (fun e w' => e = .returned (.bool (sayB n1 h1 u1 V1 L1)) ∧ Below (w.heap.size + 1 + 1) A w')) := fun W h => (say_any _ n1 h1 u1 V1 L1 W (hm1.below (HUp.out W h))).mono fun e w' ⟨he, hb⟩ => ⟨he, HTr.out _ _ h hb⟩
  have HS2 : Hid (∀ W : World, Below (w.heap.size + 1 + 1) A W → Calls Tryz.prog 11 #[.agg #[.string n2, .string h2, .string u2, vv2, cv2]] W (fun e w' => e = .returned (.bool (sayB n2 h2 u2 V2 L2)) ∧ Below (w.heap.size + 1 + 1) A w')) := fun W h => (say_any _ n2 h2 u2 V2 L2 W (hm2.below (HUp.out W h))).mono fun e w' ⟨he, hb⟩ => ⟨he, HTr.out _ _ h hb⟩
  have HLv : Hid (∀ W : World, Below (w.heap.size + 1 + 1) A W → Calls Tryz.prog 12 #[] W (fun e w' => e = .returned (.bool true) ∧ Below (w.heap.size + 1 + 1) A w')) := fun W h => (Fq.lives_any W).mono fun e w' ⟨he, hb⟩ => ⟨he, HTr.out _ _ h hb⟩
  have k0 := HC.out A (Below.refl _ _)
  have HB0 : Hid (Below (w.heap.size + 1 + 1) A A) := Below.refl _ _
  cases hb1 : sayB n1 h1 u1 V1 L1 with
  | false =>
    rw [hb1] at HS1
    clear hm1 hm2 hs1 hs2 hvv1 hvv2 hcv1 hcv2 hqb hb1 s1 s2 HS2 HTr hG
    go_enter Tryz.func3, Tryz.ntmps3
    go_wp2_with fail
    rw [← hA]
    clear hA
    refine (HF1.out A HB0.out).mono ?_
    rintro e w1 ⟨rfl, hb1⟩
    have k1 := HC.out w1 hb1
    have HB1 := Lib.hid hb1
    clear hb1
    go_wp2_with fail
    refine (HF2.out w1 HB1.out).mono ?_
    rintro e w2 ⟨rfl, hb2⟩
    have k2 := HC.out w2 hb2
    have HB2 := Lib.hid hb2
    clear hb2 k1
    go_wp2_with fail
    refine (HS1.out w2 HB2.out).mono ?_
    rintro e w3 ⟨rfl, hb3⟩
    have k3 := HC.out w3 hb3
    have HB3 := Lib.hid hb3
    clear hb3 k2
    go_wp2_with fail
    refine (HLv.out w3 HB3.out).mono ?_
    rintro e w4 ⟨rfl, hb4⟩
    have HB4 := Lib.hid (HUp.out w4 hb4)
    clear hb4 k3
    go_wp2_with fail
    go_ret
    exact ⟨rfl, HB4.out⟩
  | true =>
    rw [hb1] at HS1
    cases hb2 : sayB n2 h2 u2 V2 L2 with
    | false =>
      rw [hb2] at HS2
      clear hm1 hm2 hs1 hs2 hvv1 hvv2 hcv1 hcv2 hqb hb1 hb2 s1 s2 HTr hG
      go_enter Tryz.func3, Tryz.ntmps3
      go_wp2_with fail
      rw [← hA]
      clear hA
      refine (HF1.out A HB0.out).mono ?_
      rintro e w1 ⟨rfl, hb1⟩
      have k1 := HC.out w1 hb1
      have HB1 := Lib.hid hb1
      clear hb1
      go_wp2_with fail
      refine (HF2.out w1 HB1.out).mono ?_
      rintro e w2 ⟨rfl, hb2⟩
      have k2 := HC.out w2 hb2
      have HB2 := Lib.hid hb2
      clear hb2 k1
      go_wp2_with fail
      refine (HS1.out w2 HB2.out).mono ?_
      rintro e w3 ⟨rfl, hb3⟩
      have k3 := HC.out w3 hb3
      have HB3 := Lib.hid hb3
      clear hb3 k2
      go_wp2_with fail
      refine (HS2.out w3 HB3.out).mono ?_
      rintro e w4 ⟨rfl, hb4⟩
      have k4 := HC.out w4 hb4
      have HB4 := Lib.hid hb4
      clear hb4 k3
      go_wp2_with fail
      refine (HLv.out w4 HB4.out).mono ?_
      rintro e w5 ⟨rfl, hb5⟩
      have HB5 := Lib.hid (HUp.out w5 hb5)
      clear hb5 k4
      go_wp2_with fail
      go_ret
      exact ⟨rfl, HB5.out⟩
    | true =>
      rw [hb2] at HS2
      have ok1 := new_ok hb1 hs1
      have ok2 := new_ok hb2 hs2
      have hid := id_same (V1 := V1) (V2 := V2) (h1 := h1) (h2 := h2) (u1 := u1) (u2 := u2) hb1 hb2
      have r1 : ∀ p ∈ L1, p.1.size ≤ 2147483647 ∧ p.2.size ≤ 2147483647 := fun p hp => by have := mem_wp hp; have := hs1.all; omega
      have r2 : ∀ p ∈ L2, p.1.size ≤ 2147483647 ∧ p.2.size ≤ 2147483647 := fun p hp => by have := mem_wp hp; have := hs2.all; omega
      have HM1 : Hid (∀ W : World, Below (w.heap.size + 1 + 1) A W → Calls Tryz.prog 14 #[.agg #[.string n1, .string h1, .string u1, vv1, cv1]] W (fun e w' => ∃ v2 c2, e = .returned (.agg #[.string n1, .string h1, .string u1, v2, c2]) ∧ (Sl.Of Value.string w' v2 V1 ∧ Ss.Of 2 pc w' c2 L1) ∧ Below W.heap.size W w' ∧ Below (w.heap.size + 1 + 1) A w')) := fun W h =>
        (metaTo_any _ n1 h1 u1 V1 L1 W (hm1.below (HUp.out W h))).mono fun e w' ⟨v2, c2, he, hv, hc, hb⟩ => ⟨v2, c2, he, ⟨hv, hc⟩, hb, HTr.out _ _ h hb⟩
      have HM2 : Hid (∀ W : World, Below (w.heap.size + 1 + 1) A W → Calls Tryz.prog 14 #[.agg #[.string n2, .string h2, .string u2, vv2, cv2]] W (fun e w' => ∃ v2 c2, e = .returned (.agg #[.string n2, .string h2, .string u2, v2, c2]) ∧ (Sl.Of Value.string w' v2 V2 ∧ Ss.Of 2 pc w' c2 L2) ∧ Below W.heap.size W w' ∧ Below (w.heap.size + 1 + 1) A w')) := fun W h =>
        (metaTo_any _ n2 h2 u2 V2 L2 W (hm2.below (HUp.out W h))).mono fun e w' ⟨v2, c2, he, hv, hc, hb⟩ => ⟨v2, c2, he, ⟨hv, hc⟩, hb, HTr.out _ _ h hb⟩
      obtain ⟨sb, hsb⟩ : ∃ b, sameB n1 n2 (fit L1) (fit L2) = b := ⟨_, rfl⟩
      have HMS : Hid (∀ (W : World) va ca vb cb, Below (w.heap.size + 1 + 1) A W → (Sl.Of Value.string W va V1 ∧ Ss.Of 2 pc W ca L1) → (Sl.Of Value.string W vb V2 ∧ Ss.Of 2 pc W cb L2) → Calls Tryz.prog 13 #[.agg #[.string n1, .string h1, .string u1, va, ca], .agg #[.string n2, .string h2, .string u2, vb, cb]] W (fun e w' => e = .returned (.bool sb) ∧ Below (w.heap.size + 1 + 1) A w')) := fun W va ca vb cb h x y => by
        refine (metaSame_any n1 h1 u1 n2 h2 u2 V1 V2 L1 L2 va ca vb cb W (hG.below (HUp.out W h)) ok1 x.1 x.2 r1 ok2 y.1 y.2 r2).mono ?_
        rintro e w' ⟨rfl, hb⟩
        exact ⟨by rw [hid, hsb], HTr.out _ _ h hb⟩
      have HMT : Hid (∀ (W : World) va ca vb cb, Below (w.heap.size + 1 + 1) A W → (Sl.Of Value.string W va V1 ∧ Ss.Of 2 pc W ca L1) → (Sl.Of Value.string W vb V1 ∧ Ss.Of 2 pc W cb L1) → Calls Tryz.prog 13 #[.agg #[.string n1, .string h1, .string u1, va, ca], .agg #[.string n1, .string h1, .string u1, vb, cb]] W (fun e w' => e = .returned (.bool true) ∧ Below (w.heap.size + 1 + 1) A w')) := fun W va ca vb cb h x y => by
        refine (metaSame_any n1 h1 u1 n1 h1 u1 V1 V1 L1 L1 va ca vb cb W (hG.below (HUp.out W h)) ok1 x.1 x.2 r1 ok1 y.1 y.2 r1).mono ?_
        rintro e w' ⟨rfl, hb⟩
        exact ⟨by rw [beq_self_eq_true], HTr.out _ _ h hb⟩
      have HDS : Hid (∀ W : World, Below (w.heap.size + 1 + 1) A W → Calls Tryz.prog 15 #[.agg #[.string n1, .string h1, .string u1, vv1, cv1], .agg #[.string n2, .string h2, .string u2, vv2, cv2]] W (fun e w' => e = .returned (.bool sb) ∧ Below (w.heap.size + 1 + 1) A w')) := fun W h => by
        refine (same_any _ _ n1 h1 u1 n2 h2 u2 V1 V2 L1 L2 W (hm1.below (HUp.out W h)) (hm2.below (HUp.out W h))).mono ?_
        rintro e w' ⟨rfl, hb⟩
        exact ⟨by rw [hsb], HTr.out _ _ h hb⟩
      have HBl : Hid (∀ (W W' : World) va ca (V : List ByteArray) (L : List P2), (Sl.Of Value.string W va V ∧ Ss.Of 2 pc W ca L) → Below W.heap.size W W' → (Sl.Of Value.string W' va V ∧ Ss.Of 2 pc W' ca L)) := fun W W' va ca V L h hb => ⟨h.1.below hb, h.2.below hb⟩
      have HDr : Hid (∀ (W : World), Below (w.heap.size + 1 + 1) A W → Below (w.heap.size + 1 + 1) A W.drew) := fun W h => bdr h 1
      have hbb : (sb == sb) = true := beq_self_eq_true _
      clear hm1 hm2 hs1 hs2 hvv1 hvv2 hcv1 hcv2 hqb hb1 hb2 s1 s2 HTr hG ok1 ok2 hid r1 r2 hsb
      go_enter Tryz.func3, Tryz.ntmps3
      go_wp2_with fail
      rw [← hA]
      clear hA
      refine (HF1.out A HB0.out).mono ?_
      rintro e w1 ⟨rfl, hb1⟩
      have k1 := HC.out w1 hb1
      have HB1 := Lib.hid hb1
      clear hb1
      go_wp2_with fail
      refine (HF2.out w1 HB1.out).mono ?_
      rintro e w2 ⟨rfl, hb2⟩
      have k2 := HC.out w2 hb2
      have HB2 := Lib.hid hb2
      clear hb2 k1
      go_wp2_with fail
      refine (HS1.out w2 HB2.out).mono ?_
      rintro e w3 ⟨rfl, hb3⟩
      have k3 := HC.out w3 hb3
      have HB3 := Lib.hid hb3
      clear hb3 k2
      go_wp2_with fail
      refine (HS2.out w3 HB3.out).mono ?_
      rintro e w4 ⟨rfl, hb4⟩
      have k4 := HC.out w4 hb4
      have k5 := HC.out w4.drew (HDr.out _ hb4)
      have HB5 := Lib.hid (HDr.out _ hb4)
      clear hb4 k3 k0 HB0 HB1 HB2 HB3 HF1 HF2 HS1 HS2
      go_wp2_with fail
      go_region_held3 (fun w' => w'.cell? ⟨w.heap.size, 0, none⟩ = some (.string n1) ∧ w'.cell? ⟨w.heap.size, 1, none⟩ = some (.string h1) ∧ w'.cell? ⟨w.heap.size, 2, none⟩ = some (.string u1) ∧ w'.cell? ⟨w.heap.size, 3, none⟩ = some vv1 ∧ w'.cell? ⟨w.heap.size, 4, none⟩ = some cv1 ∧ w'.cell? ⟨w.heap.size + 1, 0, none⟩ = some (.string n2) ∧ w'.cell? ⟨w.heap.size + 1, 1, none⟩ = some (.string h2) ∧ w'.cell? ⟨w.heap.size + 1, 2, none⟩ = some (.string u2) ∧ w'.cell? ⟨w.heap.size + 1, 3, none⟩ = some vv2 ∧ w'.cell? ⟨w.heap.size + 1, 4, none⟩ = some cv2)
        (first | (with_reducible exact k4) | (with_reducible exact k5) | (with_reducible exact q1) | (with_reducible exact q2) | (with_reducible exact q3) | (with_reducible exact q4) | (with_reducible exact q5) | (with_reducible exact q6) | (with_reducible exact q7) | (with_reducible exact q8))
        (first
          | (go_at_call 12; refine (HLv.out _ HE7.out).mono ?_; rintro e x8 ⟨rfl, hb⟩; have HE8 := Lib.hid hb; have q8 := HC.out _ hb; clear hb)
          | (go_at_call 13; refine (HMT.out _ _ _ _ _ HE6.out HV6.out.1 HV6.out.2).mono ?_; rintro e x7 ⟨rfl, hb⟩; have HE7 := Lib.hid hb; have q7 := HC.out _ hb; clear hb)
          | (go_at_call 14; refine (HM1.out _ HE5.out).mono ?_; rintro e x6 ⟨va6, ca6, rfl, hv, hb', hb⟩; have HV6 := Lib.hid (And.intro (HBl.out _ _ _ _ _ _ HV5.out hb') hv); have HE6 := Lib.hid hb; have q6 := HC.out _ hb; clear hb hb' hv)
          | (go_at_call 14; refine (HM1.out _ HE4.out).mono ?_; rintro e x5 ⟨va5, ca5, rfl, hv, hb', hb⟩; have HV5 := Lib.hid hv; have HE5 := Lib.hid hb; have q5 := HC.out _ hb; clear hb hb' hv)
          | (go_at_call 15; refine (HDS.out _ HE3.out).mono ?_; rintro e x4 ⟨rfl, hb⟩; have HE4 := Lib.hid hb; have q4 := HC.out _ hb; clear hb)
          | (go_at_call 13; refine (HMS.out _ _ _ _ _ HE2.out HV2.out.1 HV2.out.2).mono ?_; rintro e x3 ⟨rfl, hb⟩; have HE3 := Lib.hid hb; have q3 := HC.out _ hb; clear hb)
          | (go_at_call 14; refine (HM2.out _ HE1.out).mono ?_; rintro e x2 ⟨va2, ca2, rfl, hv, hb', hb⟩; have HV2 := Lib.hid (And.intro (HBl.out _ _ _ _ _ _ HV1.out hb') hv); have HE2 := Lib.hid hb; have q2 := HC.out _ hb; clear hb hb' hv)
          | (go_at_call 14; refine (HM1.out _ HB5.out).mono ?_; rintro e x1 ⟨va1, ca1, rfl, hv, hb', hb⟩; have HV1 := Lib.hid hv; have HE1 := Lib.hid hb; have q1 := HC.out _ hb; clear hb hb' hv))
      have HB6 := Lib.hid (HUp.out _ HE8.out)
      clear k4 k5 q1 q2 q3 q4 q5 q6 q7 q8
      go_wp2_with fail
      go_ret
      exact ⟨rfl, HB6.out⟩

end Go.Proofs.YtfcpapbokefdmaaGreatDoor.MetaSame
