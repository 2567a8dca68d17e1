/- FnLabelTurned: the labels of a metric are the same if the variable labels and their values are given in the opposite order, and the descriptors are consistent: how the arguments are read, and the walk of the law. -/
import Derived.Test.YtfcpapbokefdmaaGreatDoorNlc
import Derived.Test.YtfcpapbokefdmaaGreatDoorNsh
import Derived.Test.YtfcpapbokefdmaaGreatDoorNsf
import Derived.Test.YtfcpapbokefdmaaGreatDoorNgl
import Derived.Test.YtfcpapbokefdmaaGreatDoorFq
import Derived.Deep.AppendLies
import Derived.Deep.RegionLaw
set_option linter.unusedVariables false
set_option linter.unusedSimpArgs false
namespace Go.Proofs.YtfcpapbokefdmaaGreatDoor.LabelTurned
open Go.RowKit Go.ChangeShapes Go.WideShapes Go.Deep Fp Obs _root_.Go.Proofs.YtfcpapbokefdmaaGreatDoor.Nd

def Good (w : World) (v : Value) : Prop := ∃ nm hp un V L, MetaAt w v nm hp un V L ∧ Small nm hp un V L
def GoodS (w : World) (v : Value) : Prop := ∃ X : List ByteArray, Sl.Of Value.string w v X ∧ wt X ≤ 1048576
set_option maxRecDepth 100000 in
theorem read0 {H : Type} {enc : TypeId × Value → H} {W : World} {base b0 : Nat} {held : Bool} {r : Reach} {v : Value} {d : DataW H} {p : List MemPlace}
    (hv : Value.okWide Tryz.prog W r b0 25 v) (h : DataW.Trod enc Tryz.prog W base (fun _ => true) held 25 v d p) (hb : Rows.uptoBulk d ≤ 1048576) : Good W v := by
  obtain ⟨nm, hp, un, V, L, h1, h2, _⟩ := meta_read hv h hb
  exact ⟨nm, hp, un, V, L, h1, h2⟩
set_option maxRecDepth 100000 in
theorem read1 {H : Type} {enc : TypeId × Value → H} {W : World} {base b0 : Nat} {held : Bool} {r : Reach} {v : Value} {d : DataW H} {p : List MemPlace}
    (hv : Value.okWide Tryz.prog W r b0 22 v) (h : DataW.Trod enc Tryz.prog W base (fun _ => true) held 22 v d p) (hb : Rows.uptoBulk d ≤ 1048576) : GoodS W v := by
  obtain ⟨zs, h1, _, h2⟩ := Sl.open_strings_bulk Tryz.underlying22 Tryz.underlying9 (by kernel_rfl) hv h
  exact ⟨zs, h1, Nat.le_trans h2 hb⟩

/-! the plain part: the opposite order -/
theorem labs_rev {V X : List ByteArray} {F : List P2} (hl : X.length = V.length) (hn : (F.map (·.1) ++ V).Nodup) : labs V.reverse X.reverse F = labs V X F := by
  have e : V.reverse.zip X.reverse = (V.zip X).reverse := by
    apply List.ext_getElem
    · simp
    · intro i h1 h2
      simp only [List.length_zip, List.length_reverse] at h1
      simp [List.getElem_reverse, hl]
  have hz : (V.zip X).map (·.1) = V := by rw [List.map_fst_zip]; omega
  have h1 : ((F ++ V.zip X).map (·.1)).Nodup := by rw [List.map_append, hz]; exact hn
  have hp : (F ++ (V.zip X).reverse).Perm (F ++ V.zip X) := List.Perm.append_left F (List.reverse_perm _)
  unfold labs
  rw [e]
  refine srt_eq (fit_srt _) (fit_srt _) fun q => ?_
  rw [fit_keys h1, fit_keys ((hp.map (·.1)).nodup_iff.2 h1), hp.mem_iff]
theorem dim_rev (hp un : ByteArray) (V : List ByteArray) (F : List P2) : dimOf hp un V.reverse F = dimOf hp un V F := by
  unfold dimOf
  rw [sortB_eq (List.Perm.append_left _ ((List.reverse_perm V).map dollar))]
theorem ok_rev {nm hp un : ByteArray} {V : List ByteArray} {L : List P2} (h : NewOk nm hp un V L) : NewOk nm hp un V.reverse L :=
  ⟨h.nm0, h.nmA, h.nmS, h.keys, fun v hv => h.vars v (List.mem_reverse.1 hv), (List.Perm.append_left _ (List.reverse_perm V)).nodup_iff.2 h.apart, h.lenL, by rw [List.length_reverse]; exact h.lenV, h.idl, by rw [dim_rev]; exact h.dml⟩

/-- the copy with no variable labels yet -/
theorem back_start (w : World) (nm hp un : ByteArray) (cv : Value) (T : TypeId) :
    Sts w.heap.size w [obBlock w.heap.size T #[.string nm, .string hp, .string un, .slice none 0 0, cv], Row w.heap.size (.slice none 0 0) [], Row w.heap.size (.slice none 0 0) []] (w.alloc (.cells #[.string nm, .string hp, .string un, .slice none 0 0, cv] T)) := by
  refine ⟨fun o ho => ?_, by simp [blocks, obBlock, obRow, Value.ownBlock], fun b hb2 => ?_, (Below.refl _ _).alloc (Nat.le_refl _) _⟩
  · simp only [List.mem_cons, List.not_mem_nil, or_false] at ho
    rcases ho with rfl | rfl | rfl
    · exact Whole.made w _ _
    · exact World.ownsRow_nil _ _ _ _
    · exact World.ownsRow_nil _ _ _ _
  · have : b = w.heap.size := by simpa [blocks, obBlock, obRow, Value.ownBlock] using hb2
    subst this
    exact ⟨Nat.le_refl _, by simp⟩

set_option maxHeartbeats 16000000 in
set_option maxRecDepth 100000 in
theorem law_any (v v1 : Value) (w : World) (g1 : Good w v) (g2 : GoodS w v1) (hG : Glob w) :
    Calls Tryz.prog 4 #[v, v1] w fun e w' => e = .returned (.bool true) ∧ Below w.heap.size w w' := by
  obtain ⟨nm, hp, un, V, L, hm, hs⟩ := g1
  obtain ⟨X, hx, hxw⟩ := g2
  have hall := hs.all
  have hxl := wt_len X
  have hxs : ∀ s ∈ X, s.size ≤ 1048576 := fun s h => Nat.le_trans (mem_wt h) hxw
  obtain ⟨vv, cv, rfl, hvv, hcv⟩ := id hm.val
  obtain ⟨A, hA⟩ : ∃ A, A = w.alloc (.cells #[.string nm, .string hp, .string un, vv, cv] 25) := ⟨_, rfl⟩
  have s2 : A.heap.size = w.heap.size + 1 := by rw [hA]; simp
  have hqb : Below w.heap.size w A := by rw [hA]; exact (Below.refl _ _).alloc (Nat.le_refl _) _
  have HUp : Hid (∀ W : World, Below (w.heap.size + 1) A W → Below w.heap.size w W) := fun W h => hqb.trans (h.mono (by omega))
  have HTr : Hid (∀ W W' : World, Below (w.heap.size + 1) A W → Below W.heap.size W W' → Below (w.heap.size + 1) A W') := fun W W' h h' => h.trans (h'.mono (by have := h.size; omega))
  have HC : Hid (∀ w' : World, Below (w.heap.size + 1) A w' → w'.cell? ⟨w.heap.size, 0, none⟩ = some (.string nm) ∧ w'.cell? ⟨w.heap.size, 1, none⟩ = some (.string hp) ∧ w'.cell? ⟨w.heap.size, 2, none⟩ = some (.string un) ∧ w'.cell? ⟨w.heap.size, 3, none⟩ = some vv ∧ w'.cell? ⟨w.heap.size, 4, none⟩ = some cv) := fun W h => by
    rw [hA] at h
    have e : ∀ j, W.cell? ⟨w.heap.size, j, none⟩ = (#[.string nm, .string hp, .string un, vv, cv] : Array Value)[j]? := fun j => (h.cell (p := ⟨w.heap.size, j, none⟩) (by show w.heap.size < w.heap.size + 1; omega)).trans (Sl.cell_new w _ _ j)
    exact ⟨e 0, e 1, e 2, e 3, e 4⟩
  have HF4 : Hid (∀ W : World, Below (w.heap.size + 1) A W → Calls Tryz.prog 10 #[.agg #[.string nm, .string hp, .string un, vv, cv]] W (fun e w' => e = .returned (.bool true) ∧ Below (w.heap.size + 1) A w')) := fun W h => (fits4_any _ nm hp un V L W (hm.below (HUp.out W h)) hs).mono fun e w' ⟨he, hb⟩ => ⟨he, HTr.out _ _ h hb⟩
  have HF3 : Hid (∀ W : World, Below (w.heap.size + 1) A W → Calls Tryz.prog 16 #[v1] W (fun e w' => e = .returned (.bool true) ∧ W = w')) := fun W h => Fits.fits3_any v1 X W (hx.below (HUp.out W h)) (by omega) (fun z hz => by have := hxs z hz; omega)
  have HSM : Hid (∀ W : World, Below (w.heap.size + 1) A W → Calls Tryz.prog 11 #[.agg #[.string nm, .string hp, .string un, vv, cv]] W (fun e w' => e = .returned (.bool (sayB nm hp un V L)) ∧ Below (w.heap.size + 1) A w')) := fun W h => (say_any _ nm hp un V L W (hm.below (HUp.out W h))).mono fun e w' ⟨he, hb⟩ => ⟨he, HTr.out _ _ h hb⟩
  have HSV : Hid (∀ W : World, Below (w.heap.size + 1) A W → Calls Tryz.prog 17 #[.agg #[.string nm, .string hp, .string un, vv, cv], v1] W (fun e w' => e = .returned (.bool (sayVB V X)) ∧ Below (w.heap.size + 1) A w')) := fun W h => (sayValues_any _ nm hp un V X L v1 W (hm.below (HUp.out W h)) (hx.below (HUp.out W h)) (by omega) (fun s h => by have := hxs s h; omega)).mono fun e w' ⟨he, hb⟩ => ⟨he, HTr.out _ _ h hb⟩
  have HLv : Hid (∀ W : World, Below (w.heap.size + 1) A W → Calls Tryz.prog 12 #[] W (fun e w' => e = .returned (.bool true) ∧ Below (w.heap.size + 1) A w')) := fun W h => (Fq.lives_any W).mono fun e w' ⟨he, hb⟩ => ⟨he, HTr.out _ _ h hb⟩
  have k0 := HC.out A (Below.refl _ _)
  have HB0 : Hid (Below (w.heap.size + 1) A A) := Below.refl _ _
  cases hb1 : sayB nm hp un V L with
  | false =>
    rw [hb1] at HSM
    clear hm hs hvv hcv hqb hb1 s2 HSV HTr hG hx hxw hxl hxs hall
    go_enter Tryz.func4, Tryz.ntmps4
    go_wp2_with fail
    rw [← hA]
    clear hA
    refine (HF4.out A HB0.out).mono ?_
    rintro e w1 ⟨rfl, hb1⟩
    have k1 := HC.out w1 hb1
    have HB1 := Lib.hid hb1
    clear hb1
    go_wp2_with fail
    refine (HF3.out w1 HB1.out).mono ?_
    rintro e w2 ⟨rfl, rfl⟩
    go_wp2_with fail
    refine (HSM.out w1 HB1.out).mono ?_
    rintro e w3 ⟨rfl, hb3⟩
    have HB3 := Lib.hid hb3
    clear hb3 k1
    go_wp2_with fail
    refine (HLv.out w3 HB3.out).mono ?_
    rintro e w4 ⟨rfl, hb4⟩
    have HB4 := Lib.hid (HUp.out w4 hb4)
    clear hb4
    go_wp2_with fail
    go_ret
    exact ⟨rfl, HB4.out⟩
  | true =>
    rw [hb1] at HSM
    cases hb2 : sayVB V X with
    | false =>
      rw [hb2] at HSV
      clear hm hs hvv hcv hqb hb1 hb2 s2 HTr hG hx hxw hxl hxs hall
      go_enter Tryz.func4, Tryz.ntmps4
      go_wp2_with fail
      rw [← hA]
      clear hA
      refine (HF4.out A HB0.out).mono ?_
      rintro e w1 ⟨rfl, hb1⟩
      have k1 := HC.out w1 hb1
      have HB1 := Lib.hid hb1
      clear hb1
      go_wp2_with fail
      refine (HF3.out w1 HB1.out).mono ?_
      rintro e w2 ⟨rfl, rfl⟩
      go_wp2_with fail
      refine (HSM.out w1 HB1.out).mono ?_
      rintro e w3 ⟨rfl, hb3⟩
      have k3 := HC.out w3 hb3
      have HB3 := Lib.hid hb3
      clear hb3 k1
      go_wp2_with fail
      refine (HSV.out w3 HB3.out).mono ?_
      rintro e w4 ⟨rfl, hb4⟩
      have HB4 := Lib.hid hb4
      clear hb4 k3
      go_wp2_with fail
      refine (HLv.out w4 HB4.out).mono ?_
      rintro e w5 ⟨rfl, hb5⟩
      have HB5 := Lib.hid (HUp.out w5 hb5)
      clear hb5
      go_wp2_with fail
      go_ret
      exact ⟨rfl, HB5.out⟩
    | true =>
      rw [hb2] at HSV
      obtain ⟨hxa, hxV⟩ := sayVB_iff.1 hb2
      have ok := new_ok hb1 hs
      have okr := ok_rev ok
      have hr : ∀ p ∈ L, p.1.size ≤ 2147483647 ∧ p.2.size ≤ 2147483647 := fun p hp => by have := mem_wp hp; omega
      have hxs2 : ∀ s ∈ X, Asc s ∧ s.size ≤ 9223372036854775807 := fun s h => ⟨ascii_asc (hxa s h), by have := hxs s h; omega⟩
      obtain ⟨av, cv2, rfl, hcv21, hcv22⟩ := sl_slice hvv
      obtain ⟨ax, cx, rfl, hcx1, hcx2⟩ := sl_slice hx
      obtain ⟨ac, cc, rfl, hcc1, hcc2⟩ := hcv.slice
      have HV := Lib.hid hvv
      have HX := Lib.hid hx
      have HCv := Lib.hid hcv
      have HM := Lib.hid hm
      have HG := Lib.hid hG
      have HOk := Lib.hid ok
      have HOkr := Lib.hid okr
      have HR := Lib.hid hr
      have HXs := Lib.hid hxs2
      have HXV := Lib.hid hxV
      have hVn : V.length ≤ 1048576 := hs.lenV
      have HLen : Hid (X.length ≤ 1048576) := by show _ ≤ _; omega
      clear hm hs hvv hcv hx hqb hb1 hb2 s2 hG hxw hxl hxs hall hxa hxV ok okr hr hxs2
      go_enter Tryz.func4, Tryz.ntmps4
      go_wp2_with fail
      rw [← hA]
      clear hA
      refine (HF4.out A HB0.out).mono ?_
      rintro e w1 ⟨rfl, hb1⟩
      have k1 := HC.out w1 hb1
      have HB1 := Lib.hid hb1
      clear hb1
      go_wp2_with fail
      refine (HF3.out w1 HB1.out).mono ?_
      rintro e w2 ⟨rfl, rfl⟩
      go_wp2_with fail
      refine (HSM.out w1 HB1.out).mono ?_
      rintro e w3 ⟨rfl, hb3⟩
      have k3 := HC.out w3 hb3
      have HB3 := Lib.hid hb3
      clear hb3 k1
      go_wp2_with fail
      refine (HSV.out w3 HB3.out).mono ?_
      rintro e w4 ⟨rfl, hb4⟩
      have k4 := HC.out w4 hb4
      have HB4 := Lib.hid hb4
      clear hb4 k3 HF4 HF3 HSM HSV HB3 HB1 k0
      go_wp2_with fail
      obtain ⟨i0, hi, hz0, hz1, hz2⟩ := info_parts infoS
      have HSt0 := Lib.hid (back_start w4 nm hp un (.slice ac L.length cc) 25)
      clear k4
      go_loopw [6, 7] (fun vt vi wr => ∃ (k : Nat) (i : Int) (Y Z : List ByteArray) (ab az : Option Addr) (cb cz : Nat), k ≤ X.length ∧ vt = .slice az Z.length cz ∧ vi = .int .i64 i ∧ Hid (i = (k : Int) - 1) ∧ Hid (Y = (V.drop k).reverse ∧ Z = (X.drop k).reverse) ∧
        Hid (Sts w4.heap.size w4 [obBlock w4.heap.size 25 #[.string nm, .string hp, .string un, .slice ab Y.length cb, .slice ac L.length cc], Row w4.heap.size (.slice ab Y.length cb) Y, Row w4.heap.size (.slice az Z.length cz) Z] wr)) (fun _ i _ => (intOf i + 1).toNat)
      case atStart => exact ⟨X.length, _, [], [], none, none, 0, 0, Nat.le_refl _, rfl, rfl, rfl, ⟨by rw [HXV.out, List.drop_length]; rfl, by rw [List.drop_length]; rfl⟩, HSt0.out⟩
      case round =>
        clear HSt0
        obtain ⟨k, i, Y, Z, ab, az, cb, cz, hk, rfl, rfl, hik, hyz, hst⟩ := hrel
        have hbel := hst.out.bel
        have hBw : w4.heap.size ≤ wr.heap.size := hbel.size
        have hbA := HTr.out _ _ HB4.out hbel
        have hbw := HUp.out _ hbA
        have HYl : Hid (Y.length ≤ 1048576) := by
          show _ ≤ _
          rw [hyz.out.1, List.length_reverse, List.length_drop]; omega
        have HZl : Hid (Z.length ≤ 1048576) := by
          have := HLen.out
          show _ ≤ _
          rw [hyz.out.2, List.length_reverse, List.length_drop]; omega
        by_cases hk0 : 0 < k
        · obtain ⟨k', rfl⟩ : ∃ k', k = k' + 1 := ⟨k - 1, by omega⟩
          obtain rfl : i = (k' : Int) := by have := hik.out; omega
          have hkX : k' < X.length := by omega
          have hkV : k' < V.length := by rw [← HXV.out]; exact hkX
          obtain ⟨bv, ov, hav, hbv, cV⟩ := sl_at HV.out hkV
          obtain ⟨bx, ox, hax, hbx, cX⟩ := sl_at HX.out hkX
          subst hav
          subst hax
          obtain ⟨x, hx⟩ : ∃ x, V[k'] = x := ⟨_, rfl⟩
          obtain ⟨y, hy⟩ : ∃ y, X[k'] = y := ⟨_, rfl⟩
          rw [hx] at cV
          rw [hy] at cX
          have HNx : Hid (Y ++ [x] = (V.drop k').reverse ∧ Z ++ [y] = (X.drop k').reverse) := by
            refine ⟨?_, ?_⟩
            · rw [List.drop_eq_getElem_cons hkV, List.reverse_cons, hx, ← hyz.out.1]
            · rw [List.drop_eq_getElem_cons hkX, List.reverse_cons, hy, ← hyz.out.2]
          have hD : Whole wr w4.heap.size 25 #[.string nm, .string hp, .string un, .slice ab Y.length cb, .slice ac L.length cc] := Sts.here (l := []) hst.out
          have d3 : wr.cell? ⟨w4.heap.size, 3, none⟩ = some (.slice ab Y.length cb) := hD.cell 3
          have e3 : wr.cell? ⟨w.heap.size, 3, none⟩ = some (.slice (some ⟨bv, ov, none⟩) V.length cv2) := (HC.out wr hbA).2.2.2.1
          have dV : wr.cell? ⟨bv, ov + k', none⟩ = some (.string x) := by rw [hbw.cell (p := ⟨bv, ov + k', none⟩) hbv]; exact cV
          have hstA : Sts w4.heap.size w4 [obBlock w4.heap.size 25 #[.string nm, .string hp, .string un, .slice ab Y.length cb, .slice ac L.length cc], Row w4.heap.size (.slice ab Y.length cb) Y, Row w4.heap.size (.slice az Z.length cz) Z] (wr.drew.alloc (.cells #[.string x] 9)) := (hst.out.below hBw (Below.refl _ _).drew).alloc hBw _
          have hsA : (wr.drew.alloc (.cells #[.string x] 9)).heap.size = wr.heap.size + 1 := by simp
          have HRowY : Hid ((wr.drew.alloc (.cells #[.string x] 9)).ownsRow w4.heap.size 9 1 (.slice ab Y.length cb) Y.length (Y.map Value.string)) := Sts.here (l := [_]) hstA
          have HNews := Lib.hid (cell_box wr.drew (.string x) 9)
          have HBase : Hid (w4.heap.size ≤ (wr.drew.alloc (.cells #[.string x] 9)).heap.size) := hstA.bel.size
          have HOne : Hid (∀ u ∈ [Value.string x], u.oneCell' = true) := one_str x
          have HSp : Hid (∀ (g5 cu5 : Nat) (W5 : World), W5.ownsRow w4.heap.size 9 1 (.slice (some ⟨g5, 0, none⟩) (Y.length + 1) cu5) (Y.length + 1) (Y.map Value.string ++ [.string x]) → (wr.drew.alloc (.cells #[.string x] 9)).grownBy W5 (Value.ownBlock (.slice ab Y.length cb)) → (Value.ownBlock (.slice ab Y.length cb) = some g5 ∨ g5 = wr.heap.size + 1) →
              (W5.cell? ⟨w4.heap.size, 3, none⟩ = some (.slice ab Y.length cb) ∧ W5.frozen? ⟨w4.heap.size, 3, none⟩ = false) ∧ Sts w4.heap.size w4 [obBlock w4.heap.size 25 #[.string nm, .string hp, .string un, .slice (some ⟨g5, 0, none⟩) (Y.length + 1) cu5, .slice ac L.length cc], Row w4.heap.size (.slice (some ⟨g5, 0, none⟩) (Y.length + 1) cu5) (Y ++ [x]), Row w4.heap.size (.slice az Z.length cz) Z] (W5.setCell ⟨w4.heap.size, 3, none⟩ (.slice (some ⟨g5, 0, none⟩) (Y.length + 1) cu5))) := fun g5 cu5 W5 ho hg hl => by
            have h1 : Sts w4.heap.size w4 [obBlock w4.heap.size 25 #[.string nm, .string hp, .string un, .slice ab Y.length cb, .slice ac L.length cc], Row w4.heap.size (.slice (some ⟨g5, 0, none⟩) (Y.length + 1) cu5) (Y ++ [x]), Row w4.heap.size (.slice az Z.length cz) Z] W5 :=
              Sts.row (l := [_]) hstA HBase.out hg (by rw [List.length_append, List.map_append]; exact ho) (by
                rcases hl with hl | hl
                · exact Or.inl hl.symm
                · refine Or.inr fun b hb => ?_
                  have hb2 : some g5 = some b := hb
                  injection hb2 with hb2
                  rw [hsA]; omega)
            have hD5 : Whole W5 w4.heap.size 25 #[.string nm, .string hp, .string un, .slice ab Y.length cb, .slice ac L.length cc] := Sts.here (l := []) h1
            exact ⟨⟨hD5.cell 3, hD5.free 3⟩, Sts.put (l := []) h1 h1.bel.size 3 _⟩
          have z1 : (0 : Int) ≤ (k' : Int) := by omega
          have z2 : (k' : Int) < (V.length : Int) := by omega
          have z3 : (k' : Int) < (X.length : Int) := by omega
          have hYs := HYl.out
          have l1 : w4.heap.size < wr.heap.size + 1 := by omega
          have l2 : w4.heap.size < wr.heap.size := hD.lt
          clear hstA hD hst hbel hbA hik hx hy cV hk hk0 hkV hsA
          go_wp2_with fail
          go_region_law
            (first
            | (refine step_append_lies _ (by rfl) (.tmp 40) (.tmp 46) 22 (by rfl) w4.heap.size 9 i0 (.string ⟨#[]⟩) 1 16 Tryz.underlying22 hi hz0 hz1 hz2 rfl (by decide) _ _ _ (by simp [Act.eval, Act.put]) HRowY.out ⟨wr.heap.size, 0, none⟩ 1 1 [.string x] (by simp [Act.eval, Act.put]) rfl HNews.out HOne.out (by decide) (by unfold maxLen; omega) (by omega) HBase.out (wr.heap.size + 1) (by simp) ?_; intro g5 cu5 W5 hown5 hgrow5 hat5 hlt5; obtain ⟨⟨e5, f5⟩, hF⟩ := HSp.out g5 cu5 W5 hown5 hgrow5 hat5; have HF := Lib.hid hF; clear hown5 hgrow5 hat5 hlt5 hF))
          all_goals
            have hbw6 := HUp.out _ (HTr.out _ _ HB4.out HF.out.bel)
            generalize (W5.setCell ⟨w4.heap.size, 3, none⟩ (.slice (some ⟨g5, 0, none⟩) (Y.length + 1) cu5)) = W6 at *
            clear e5 f5 d3 e3 dV HRowY HNews HBase HSp
            have dX : W6.cell? ⟨bx, ox + k', none⟩ = some (.string y) := by rw [hbw6.cell (p := ⟨bx, ox + k', none⟩) hbx]; exact cX
            have HStB := Lib.hid (HF.out.alloc HF.out.bel.size (.cells #[.string y] 9))
            have HRowZ : Hid ((W6.alloc (.cells #[.string y] 9)).ownsRow w4.heap.size 9 1 (.slice az Z.length cz) Z.length (Z.map Value.string)) := Sts.here (l := [_, _]) (r := []) HStB.out
            have HNewsB := Lib.hid (cell_box W6 (.string y) 9)
            have HOneB : Hid (∀ u ∈ [Value.string y], u.oneCell' = true) := one_str y
            have hszB : w4.heap.size ≤ (W6.alloc (.cells #[.string y] 9)).heap.size := HStB.out.bel.size
            have hZs := HZl.out
            have HSq : Hid (∀ a11 c11 W7, W7.ownsRow w4.heap.size 9 1 (.slice a11 (Z.length + 1) c11) (Z.length + 1) (Z.map Value.string ++ [.string y]) → (W6.alloc (.cells #[.string y] 9)).grownBy W7 (Value.ownBlock (.slice az Z.length cz)) → ((Value.slice a11 (Z.length + 1) c11).ownBlock = Value.ownBlock (.slice az Z.length cz) ∨ (Value.slice a11 (Z.length + 1) c11).ownBlock = some (W6.alloc (.cells #[.string y] 9)).heap.size) →
                Sts w4.heap.size w4 [obBlock w4.heap.size 25 #[.string nm, .string hp, .string un, .slice (some ⟨g5, 0, none⟩) (Y ++ [x]).length cu5, .slice ac L.length cc], Row w4.heap.size (.slice (some ⟨g5, 0, none⟩) (Y ++ [x]).length cu5) (Y ++ [x]), Row w4.heap.size (.slice a11 (Z ++ [y]).length c11) (Z ++ [y])] W7) := fun a11 c11 W7 ho hg hl => by
              have e1 : (Y ++ [x]).length = Y.length + 1 := by simp
              have e2 : (Z ++ [y]).length = Z.length + 1 := by simp
              rw [e1, e2]
              exact Sts.row (l := [_, _]) (r := []) HStB.out hszB hg (by rw [List.length_append, List.map_append]; exact ho) (loc_at hl)
            clear cX
            go_wp2_with (first
              | (at_builtin; refine wpList_append_own_at _ rfl _ _ 22 rfl w4.heap.size 9 i0 (.string ⟨#[]⟩) 1 16 Tryz.underlying22 hi hz0 hz1 hz2 rfl (by decide) _ _ _ rfl HRowZ.out ⟨W6.heap.size, 0, none⟩ 1 1 [.string y] rfl rfl HNewsB.out HOneB.out (by unfold maxLen; omega) (by omega) hszB ?_; intro v11 W11 hown11 hgrow11 hnil11 hloc11; obtain ⟨a11, c11, rfl⟩ := row_slice2 hown11; have HSt11 := Lib.hid (HSq.out a11 c11 W11 hown11 hgrow11 hloc11); clear hown11 hgrow11 hnil11 hloc11))
            go_roundw
            case rel => exact ⟨k', _, Y ++ [x], Z ++ [y], _, a11, _, c11, by omega, by rw [List.length_append]; rfl, rfl, rfl, HNx.out, HSt11.out⟩
            case measure => first | (simp [intOf]; done) | (simp [intOf]; omega)
        · obtain rfl : k = 0 := by omega
          obtain rfl : i = -1 := by have := hik.out; omega
          have hYV : Y = V.reverse := hyz.out.1
          have hZX : Z = X.reverse := hyz.out.2
          have hD : Whole wr w4.heap.size 25 #[.string nm, .string hp, .string un, .slice ab Y.length cb, .slice ac L.length cc] := Sts.here (l := []) hst.out
          have hRY : wr.ownsRow w4.heap.size 9 1 (.slice ab Y.length cb) Y.length (Y.map Value.string) := Sts.here (l := [_]) (r := [_]) hst.out
          have hRZ : wr.ownsRow w4.heap.size 9 1 (.slice az Z.length cz) Z.length (Z.map Value.string) := Sts.here (l := [_, _]) (r := []) hst.out
          have OfY : Sl.Of Value.string wr (.slice ab Y.length cb) Y := Sl.Of.own hRY
          have OfZ : Sl.Of Value.string wr (.slice az Z.length cz) Z := Sl.Of.own hRZ
          have OfL := HCv.out.below hbw
          have HMB : Hid (MetaAt wr (MetaV nm hp un (.slice ab Y.length cb) (.slice ac L.length cc)) nm hp un Y L) :=
            ⟨⟨_, _, rfl, OfY, OfL⟩, HYl.out, HM.out.lenL, HM.out.nmS, HM.out.hpS, fun s hs => HM.out.varS s (by rw [hYV] at hs; exact List.mem_reverse.1 hs), HM.out.conS⟩
          have HOkY : Hid (NewOk nm hp un Y L) := by show NewOk _ _ _ _ _; rw [hYV]; exact HOkr.out
          have HZs : Hid (∀ s ∈ Z, Asc s ∧ s.size ≤ 9223372036854775807) := fun s hs => HXs.out s (by rw [hZX] at hs; exact List.mem_reverse.1 hs)
          have HZY : Hid (Z.length = Y.length) := by show _ = _; rw [hYV, hZX, List.length_reverse, List.length_reverse]; exact HXV.out
          have HLab : Hid (labs Y Z (fit L) = labs V X (fit L)) := by show _ = _; rw [hYV, hZX]; exact labs_rev HXV.out HOk.out.apart
          have HDim : Hid (dimOf hp un V (fit L) = dimOf hp un Y (fit L)) := by show _ = _; rw [hYV, dim_rev]
          have HOfZ := Lib.hid OfZ
          have HBz : Hid (Below (w.heap.size + 1) A wr) := hbA
          have HB4z : Hid (w4.heap.size < wr.heap.size) := hD.lt
          have HUz : Hid (∀ W, Below wr.heap.size wr W → Below (w.heap.size + 1) A W) := fun W h => HTr.out _ _ hbA h
          have HTz : Hid (∀ W W', Below wr.heap.size wr W → Below W.heap.size W W' → Below wr.heap.size wr W') := fun W W' h h' => h.trans (h'.mono h.size)
          have HSC : Hid (∀ W, Below wr.heap.size wr W → W.cell? ⟨w.heap.size, 0, none⟩ = some (.string nm) ∧ W.cell? ⟨w.heap.size, 1, none⟩ = some (.string hp) ∧ W.cell? ⟨w.heap.size, 2, none⟩ = some (.string un) ∧ W.cell? ⟨w.heap.size, 3, none⟩ = some (.slice av V.length cv2) ∧ W.cell? ⟨w.heap.size, 4, none⟩ = some (.slice ac L.length cc) ∧
              W.cell? ⟨w4.heap.size, 0, none⟩ = some (.string nm) ∧ W.cell? ⟨w4.heap.size, 1, none⟩ = some (.string hp) ∧ W.cell? ⟨w4.heap.size, 2, none⟩ = some (.string un) ∧ W.cell? ⟨w4.heap.size, 3, none⟩ = some (.slice ab Y.length cb) ∧ W.cell? ⟨w4.heap.size, 4, none⟩ = some (.slice ac L.length cc)) := fun W h => by
            obtain ⟨c0, c1, c2, c3, c4⟩ := HC.out W (HUz.out W h)
            have e : ∀ j, W.cell? ⟨w4.heap.size, j, none⟩ = (#[.string nm, .string hp, .string un, .slice ab Y.length cb, .slice ac L.length cc] : Array Value)[j]? := fun j => (h.cell (p := ⟨w4.heap.size, j, none⟩) HB4z.out).trans (hD.cell j)
            exact ⟨c0, c1, c2, c3, c4, e 0, e 1, e 2, e 3, e 4⟩
          have CM1 : Hid (∀ W : World, Below wr.heap.size wr W → Calls Tryz.prog 14 #[.agg #[.string nm, .string hp, .string un, .slice av V.length cv2, .slice ac L.length cc]] W (fun e w' => ∃ v2 c2, e = .returned (.agg #[.string nm, .string hp, .string un, v2, c2]) ∧ (Sl.Of Value.string w' v2 V ∧ Ss.Of 2 pc w' c2 L) ∧ Below W.heap.size W w' ∧ Below wr.heap.size wr w')) := fun W h =>
            (metaTo_any _ nm hp un V L W (HM.out.below (HUp.out _ (HUz.out W h)))).mono fun e w' ⟨v2, c2, he, hv, hc, hb⟩ => ⟨v2, c2, he, ⟨hv, hc⟩, hb, HTz.out _ _ h hb⟩
          have CM2 : Hid (∀ W : World, Below wr.heap.size wr W → Calls Tryz.prog 14 #[.agg #[.string nm, .string hp, .string un, .slice ab Y.length cb, .slice ac L.length cc]] W (fun e w' => ∃ v2 c2, e = .returned (.agg #[.string nm, .string hp, .string un, v2, c2]) ∧ (Sl.Of Value.string w' v2 Y ∧ Ss.Of 2 pc w' c2 L) ∧ Below W.heap.size W w' ∧ Below wr.heap.size wr w')) := fun W h =>
            (metaTo_any _ nm hp un Y L W (HMB.out.below h)).mono fun e w' ⟨v2, c2, he, hv, hc, hb⟩ => ⟨v2, c2, he, ⟨hv, hc⟩, hb, HTz.out _ _ h hb⟩
          have CL1 : Hid (∀ (W : World) va ca, Below wr.heap.size wr W → (Sl.Of Value.string W va V ∧ Ss.Of 2 pc W ca L) → Calls Tryz.prog 18 #[.agg #[.string nm, .string hp, .string un, va, ca], .slice ax X.length cx] W (fun e w' => ∃ u, e = .returned (.tuple #[u, .bool true]) ∧ Ss.Of 2 pc w' u (labs V X (fit L)) ∧ Below W.heap.size W w' ∧ Below wr.heap.size wr w')) := fun W va ca h x =>
            (labelPairs_any nm hp un V X L va ca _ W (HG.out.below (HUp.out _ (HUz.out W h))) HOk.out x.1 x.2 HR.out (HX.out.below (HUp.out _ (HUz.out W h))) HXV.out HXs.out).mono fun e w' ⟨u, he, ho, hb⟩ => ⟨u, he, ho, hb, HTz.out _ _ h hb⟩
          have CL2 : Hid (∀ (W : World) va ca, Below wr.heap.size wr W → (Sl.Of Value.string W va Y ∧ Ss.Of 2 pc W ca L) → Calls Tryz.prog 18 #[.agg #[.string nm, .string hp, .string un, va, ca], .slice az Z.length cz] W (fun e w' => ∃ u, e = .returned (.tuple #[u, .bool true]) ∧ Ss.Of 2 pc w' u (labs V X (fit L)) ∧ Below W.heap.size W w' ∧ Below wr.heap.size wr w')) := fun W va ca h x =>
            (labelPairs_any nm hp un Y Z L va ca _ W (HG.out.below (HUp.out _ (HUz.out W h))) HOkY.out x.1 x.2 HR.out (HOfZ.out.below h) HZY.out HZs.out).mono fun e w' ⟨u, he, ho, hb⟩ => ⟨u, he, by rw [HLab.out] at ho; exact ho, hb, HTz.out _ _ h hb⟩
          have HLb : Hid ((labs V X (fit L)).length ≤ 2147483647) := by
            have := labs_len (V := V) (X := X) (F := fit L)
            have := fit_le L
            have := HOk.out.lenL
            show _ ≤ _
            omega
          have CP : Hid (∀ (W : World) u, Below wr.heap.size wr W → Ss.Of 2 pc W u (labs V X (fit L)) → Calls Tryz.prog 20 #[u] W (fun e w' => ∃ v, e = .returned v ∧ Ss.Of 2 pc w' v (labs V X (fit L)) ∧ Below W.heap.size W w' ∧ Below wr.heap.size wr w')) := fun W u h x =>
            (pairsFrom_own _ u W x HLb.out).mono fun e w' ⟨v, he, ho, hb⟩ => ⟨v, he, Ss.Of.own pc_len ho, hb, HTz.out _ _ h hb⟩
          have CS : Hid (∀ (W : World) u v, Below wr.heap.size wr W → Ss.Of 2 pc W u (labs V X (fit L)) → Ss.Of 2 pc W v (labs V X (fit L)) → Calls Tryz.prog 19 #[u, v] W (fun e w' => e = .returned (.bool true) ∧ Below wr.heap.size wr w')) := fun W u v h x y =>
            (samePairs_any _ _ u v W x y HLb.out HLb.out).mono fun e w' ⟨he, hb⟩ => ⟨by rw [he, pairsB_iff.2 rfl], HTz.out _ _ h hb⟩
          have CA : Hid (∀ (W : World) va ca vb cb', Below wr.heap.size wr W → (Sl.Of Value.string W va V ∧ Ss.Of 2 pc W ca L) → (Sl.Of Value.string W vb Y ∧ Ss.Of 2 pc W cb' L) → Calls Tryz.prog 21 #[.agg #[.string nm, .string hp, .string un, va, ca], .agg #[.string nm, .string hp, .string un, vb, cb']] W (fun e w' => e = .returned (.bool true) ∧ Below wr.heap.size wr w')) := fun W va ca vb cb' h x y => by
            refine (metaAlike_any nm hp un nm hp un V Y L L va ca vb cb' W (HG.out.below (HUp.out _ (HUz.out W h))) HOk.out x.1 x.2 HR.out HOkY.out y.1 y.2 HR.out).mono ?_
            rintro e w' ⟨rfl, hb⟩
            exact ⟨by rw [HDim.out, beq_self_eq_true], HTz.out _ _ h hb⟩
          have CV : Hid (∀ W : World, Below wr.heap.size wr W → Calls Tryz.prog 12 #[] W (fun e w' => e = .returned (.bool true) ∧ Below wr.heap.size wr w')) := fun W h => (Fq.lives_any W).mono fun e w' ⟨he, hb⟩ => ⟨he, HTz.out _ _ h hb⟩
          have HBl : Hid (∀ (W W' : World) va ca (V : List ByteArray) (L : List P2), (Sl.Of Value.string W va V ∧ Ss.Of 2 pc W ca L) → Below W.heap.size W W' → (Sl.Of Value.string W' va V ∧ Ss.Of 2 pc W' ca L)) := fun W W' va ca V L h hb => ⟨h.1.below hb, h.2.below hb⟩
          have HSb : Hid (∀ (W W' : World) u (L : List P2), Ss.Of 2 pc W u L → Below W.heap.size W W' → Ss.Of 2 pc W' u L) := fun W W' u L h hb => h.below hb
          have HDr : Hid (∀ (W : World), Below wr.heap.size wr W → Below wr.heap.size wr W.drew) := fun W h => bdr h 1
          have HFz : Hid (∀ W, Below wr.heap.size wr W → Below w.heap.size w W) := fun W h => HUp.out _ (HUz.out W h)
          have k0 := HSC.out wr (Below.refl _ _)
          have HB0z : Hid (Below wr.heap.size wr wr) := Below.refl _ _
          clear hD hRY hRZ OfY OfZ OfL hYV hZX hst hbel hBw hbA hbw hyz hik hk hk0 HYl HZl HMB HOkY HZs HZY HLab HDim HOfZ HUz HTz HLb HOk HOkr HR HXs HXV HM HG HX HV HCv HLv HC HTr HB4 hi hz0 hz1 hz2
          go_wp2_with fail
          refine (CM1.out wr HB0z.out).mono ?_
          rintro e x1 ⟨va1, ca1, rfl, hv1, hb1', hb1⟩
          have CLa := Lib.hid (CL1.out _ _ _ hb1 hv1)
          clear k0 hv1 hb1' hb1
          go_wp2_with fail
          refine CLa.out.mono ?_
          rintro e x2 ⟨u1, rfl, hu1, hb2', hb2⟩
          have k2 := HSC.out _ hb2
          have HB2 := Lib.hid hb2
          have HU1 := Lib.hid hu1
          clear hu1 hb2' hb2 CLa
          go_wp2_with fail
          refine (CM2.out _ HB2.out).mono ?_
          rintro e x3 ⟨va3, ca3, rfl, hv3, hb3', hb3⟩
          have CLb := Lib.hid (CL2.out _ _ _ hb3 hv3)
          have HU3 := Lib.hid (HSb.out _ _ _ _ HU1.out hb3')
          clear k2 hv3 hb3' hb3 HU1
          go_wp2_with fail
          refine CLb.out.mono ?_
          rintro e x4 ⟨u2, rfl, hu2, hb4', hb4⟩
          have k4 := HSC.out _ hb4
          have k5 := HSC.out _ (HDr.out _ hb4)
          have HU4 := Lib.hid (And.intro (HSb.out _ _ _ _ HU3.out hb4') hu2)
          have HE0 := Lib.hid (HDr.out _ hb4)
          clear hu2 hb4' hb4 CLb HU3
          go_wp2_with fail
          go_region_held3 (fun W => W.cell? ⟨w.heap.size, 0, none⟩ = some (.string nm) ∧ W.cell? ⟨w.heap.size, 1, none⟩ = some (.string hp) ∧ W.cell? ⟨w.heap.size, 2, none⟩ = some (.string un) ∧ W.cell? ⟨w.heap.size, 3, none⟩ = some (.slice av V.length cv2) ∧ W.cell? ⟨w.heap.size, 4, none⟩ = some (.slice ac L.length cc) ∧
              W.cell? ⟨w4.heap.size, 0, none⟩ = some (.string nm) ∧ W.cell? ⟨w4.heap.size, 1, none⟩ = some (.string hp) ∧ W.cell? ⟨w4.heap.size, 2, none⟩ = some (.string un) ∧ W.cell? ⟨w4.heap.size, 3, none⟩ = some (.slice ab Y.length cb) ∧ W.cell? ⟨w4.heap.size, 4, none⟩ = some (.slice ac L.length cc))
            (first | (with_reducible exact k4) | (with_reducible exact k5) | (with_reducible exact q1) | (with_reducible exact q2) | (with_reducible exact q3) | (with_reducible exact q4) | (with_reducible exact q5) | (with_reducible exact q6) | (with_reducible exact q7))
            (first
              | (go_at_call 12; refine (CV.out _ HE6.out).mono ?_; rintro e y7 ⟨rfl, hb⟩; have HE7 := Lib.hid hb; have q7 := HSC.out _ hb; clear hb)
              | (go_at_call 21; refine (CA.out _ _ _ _ _ HE5.out HM5.out.1 HM5.out.2).mono ?_; rintro e y6 ⟨rfl, hb⟩; have HE6 := Lib.hid hb; have q6 := HSC.out _ hb; clear hb)
              | (go_at_call 14; refine (CM2.out _ HE4.out).mono ?_; rintro e y5 ⟨va5, ca5, rfl, hv, hb', hb⟩; have HM5 := Lib.hid (And.intro (HBl.out _ _ _ _ _ _ HM4.out hb') hv); have HE5 := Lib.hid hb; have q5 := HSC.out _ hb; clear hb hb' hv)
              | (go_at_call 14; refine (CM1.out _ HE3.out).mono ?_; rintro e y4 ⟨va4, ca4, rfl, hv, hb', hb⟩; have HM4 := Lib.hid hv; have HE4 := Lib.hid hb; have q4 := HSC.out _ hb; clear hb hb' hv)
              | (go_at_call 19; refine (CS.out _ _ _ HE2.out HP2.out.1 HP2.out.2).mono ?_; rintro e y3 ⟨rfl, hb⟩; have HE3 := Lib.hid hb; have q3 := HSC.out _ hb; clear hb)
              | (go_at_call 20; refine (CP.out _ _ HE1.out HP1.out.2).mono ?_; rintro e y2 ⟨p2, rfl, hp2, hb', hb⟩; have HP2 := Lib.hid (And.intro (HSb.out _ _ _ _ HP1.out.1 hb') hp2); have HE2 := Lib.hid hb; have q2 := HSC.out _ hb; clear hb hb' hp2)
              | (go_at_call 20; refine (CP.out _ _ HE0.out (HSb.out _ _ _ _ HU4.out.1 (bdr (Below.refl _ _) 1))).mono ?_; rintro e y1 ⟨p1, rfl, hp1, hb', hb⟩; have HP1 := Lib.hid (And.intro hp1 ((HSb.out _ _ _ _ HU4.out.2 (bdr (Below.refl _ _) 1)).below hb')); have HE1 := Lib.hid hb; have q1 := HSC.out _ hb; clear hb hb' hp1))
          have HFin := Lib.hid (HFz.out _ HE7.out)
          clear k4 k5 q1 q2 q3 q4 q5 q6 q7
          go_wp2_with fail
          go_ret
          exact ⟨rfl, HFin.out⟩

end Go.Proofs.YtfcpapbokefdmaaGreatDoor.LabelTurned
