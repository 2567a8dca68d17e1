/- A descriptor's text: (*Desc).String walked. -/
import Derived.Test.YtfcpapbokefdmaaGreatDoorTxj
import Derived.Test.YtfcpapbokefdmaaGreatDoorNsd
import Derived.Test.YtfcpapbokefdmaaGreatDoorNst
import Derived.Test.YtfcpapbokefdmaaGreatDoorNse
import Derived.Test.YtfcpapbokefdmaaGreatDoorNla
import Derived.Test.YtfcpapbokefdmaaGreatDoorNsf
import Derived.Deep.RegionHeld3
import Derived.Maps.OwnSet
import Derived.Test.YtfcpapbokefdmaaGreatDoorNdm
set_option linter.unusedVariables false
set_option linter.unusedSimpArgs false
namespace Go.Proofs.YtfcpapbokefdmaaGreatDoor.Tx
open Go.RowKit Go.Maps Go.WideMaps Go.ChangeShapes Go.WideShapes Go.Deep Fp Obs _root_.Go.Proofs.YtfcpapbokefdmaaGreatDoor.Nd

def ptB (p : P2) : ByteArray := mkB (pt (dl p.1, dl p.2))
theorem ptB_eq (x y : ByteArray) : (x ++ (⟨#[61]⟩ : ByteArray)) ++ mkB (qz (dl y)) = ptB (x, y) := by
  apply ByteArray.ext
  apply Array.ext'
  simp [ptB, mkB, pt, dl]
theorem esc_len : ∀ s : L8, (s.flatMap esc).length ≤ 2 * s.length
  | [] => Nat.le_refl _
  | c :: s => by
    have := esc_len s
    have h : (esc c).length ≤ 2 := by unfold esc; split <;> simp
    rw [List.flatMap_cons, List.length_append, List.length_cons]
    omega
theorem qz_size (y : ByteArray) : (mkB (qz (dl y))).size ≤ 2 * y.size + 2 := by
  have h := esc_len (dl y)
  have h2 : (mkB (qz (dl y))).size = (qz (dl y)).length := by unfold mkB; simp [ByteArray.size]
  have h3 : (dl y).length = y.size := by unfold dl; exact (Lib.size_eq y).symm
  rw [h2]
  unfold qz
  simp only [List.length_cons, List.length_append, List.length_nil]
  omega
theorem text_eq (nm hp : ByteArray) (F : List P2) (V : List ByteArray) (Qn Qh Qe J1 J2 : ByteArray) (h1 : mkB (qz (dl nm)) = Qn) (h2 : mkB (qz (dl hp)) = Qh) (h3 : mkB (qz (dl ⟨#[]⟩)) = Qe) (h4 : mkB (jn ((F.map ptB).map dl)) = J1) (h5 : mkB (jn (V.map dl)) = J2) :
    (⟨#[68, 101, 115, 99, 123, 102, 113, 78, 97, 109, 101, 58, 32]⟩ : ByteArray) ++ Qn ++ (⟨#[44, 32, 104, 101, 108, 112, 58, 32]⟩ : ByteArray) ++ Qh ++ (⟨#[44, 32, 117, 110, 105, 116, 58, 32]⟩ : ByteArray) ++ Qe ++ (⟨#[44, 32, 99, 111, 110, 115, 116, 76, 97, 98, 101, 108, 115, 58, 32, 123]⟩ : ByteArray) ++ J1 ++ (⟨#[125, 44, 32, 118, 97, 114, 105, 97, 98, 108, 101, 76, 97, 98, 101, 108, 115, 58, 32, 123]⟩ : ByteArray) ++ J2 ++ (⟨#[125, 125]⟩ : ByteArray) = mkB (text (dl nm) (dl hp) (F.map fun p => (dl p.1, dl p.2)) (V.map dl)) := by
  subst h1 h2 h3 h4 h5
  have e : ((F.map ptB).map dl) = (F.map fun p => (dl p.1, dl p.2)).map pt := by
    rw [List.map_map, List.map_map]
    apply List.map_congr_left
    intro p _
    simp [ptB, mkB, dl]
  have e0 : dl ⟨#[]⟩ = [] := rfl
  apply ByteArray.ext
  apply Array.ext'
  rw [e, e0]
  simp [text, mkB]
/-- an own row of strings under way -/
def GotS (B : Nat) (u : Value) (l : List ByteArray) (w W : World) : Prop := W.ownsRow B 9 1 u l.length (l.map Value.string) ∧ Below B w W
theorem info9 : (Tryz.prog.info? 9).map (fun i => (i.zero, i.size, i.bytes)) = some (some (.string ByteArray.empty), 1, 16) := by kernel_rfl
def StrOut (nm hp : ByteArray) (V : List ByteArray) (F : List P2) (w : World) (e : Ending) (w' : World) : Prop :=
  e = .returned (.string (mkB (text (dl nm) (dl hp) (F.map fun p => (dl p.1, dl p.2)) (V.map dl)))) ∧ Below w.heap.size w w'
theorem zeroFn (w : World) : (zeroValue 145).run Tryz.prog w = .ok .nilFunc w := by
  have h : (Tryz.prog.info? 145).map (·.zero) = some (some .nilFunc) := by kernel_rfl
  cases hq : Tryz.prog.info? 145 with
  | none => rw [hq] at h; simp at h
  | some i =>
    rw [hq] at h
    have hz : i.zero = some .nilFunc := by simpa using h
    simp [zeroValue, typeInfo, hq, hz]
theorem look_nil (s : ByteArray) (hs : s.size ≤ maxLen) (W : World) : (Instr.lookup 139 (.map none) (.string s) true).run Tryz.prog W = .ok (.tuple #[.nilFunc, .bool false]) W :=
  Maps.look_nil true lawS Tryz.underlying139 (zeroFn W) (keyOf_string_mk Tryz.underlying9 (s := s) hs)
set_option maxHeartbeats 16000000 in
set_option maxRecDepth 100000 in
theorem string_any (d c : Nat) (nm hp un : ByteArray) (V : List ByteArray) (F : List P2) (v3 vn : Value) (w : World) (hG : GlobQ w) (hd : DescAt w d nm hp un V F v3 c vn) (hV : V.length ≤ 1048576) (hF : F.length ≤ 1048576)
    (hnm : asciiB nm = true ∧ nm.size ≤ 1073741824) (hhp : asciiB hp = true ∧ hp.size ≤ 1073741824) (hun : un = ⟨#[]⟩) (hVs : ∀ v ∈ V, v.size ≤ maxLen) (hJn : (jn ((F.map ptB).map dl)).length ≤ 140737488355328 ∧ (jn (V.map dl)).length ≤ 140737488355328) (hFa : ∀ p ∈ F, asciiB p.2 = true ∧ p.1.size ≤ 1073741824 ∧ p.2.size ≤ 1073741824) :
    Calls Tryz.prog 56 #[.pointer (some ⟨d, 0, none⟩)] w (StrOut nm hp V F w) := by
  obtain ⟨i0, hi, hz0, hz1, hz2⟩ := info_parts info9
  obtain ⟨qs, hql, hq, hqa⟩ := hd.pairs
  obtain ⟨a3, c3, rfl, hc31, hc32⟩ := sl_slice hq
  obtain ⟨an, cn, rfl, hcn1, hcn2⟩ := sl_slice hd.names
  have k3 := hd.c3
  have k4 := hd.c4
  have n0 := hd.n0
  have n1 := hd.n1
  rw [hql] at hq k3
  have HQ := Lib.hid hq
  have HQA := Lib.hid hqa
  have HQL := Lib.hid hql
  have HD := Lib.hid hd
  have HG := Lib.hid hG
  have HFa := Lib.hid hFa
  have HJn : Hid ((jn ((F.map ptB).map dl)).length ≤ 140737488355328 ∧ (jn (V.map dl)).length ≤ 140737488355328) := hJn
  have HUn : Hid True := trivial
  have HNm := Lib.hid hnm
  have HHp := Lib.hid hhp
  have HVs := Lib.hid hVs
  have hFn : F.length ≤ c3 := by omega
  have HMk : Hid (∀ W : World, W.ownsRow w.heap.size 9 1 (.slice (some ⟨w.heap.size, 0, none⟩) 0 F.length) 0 [] → w.grownBy W none → GotS w.heap.size (.slice (some ⟨w.heap.size, 0, none⟩) 0 F.length) [] w W) := fun W ho hg =>
    ⟨ho, (Below.refl _ _).grown hg (Nat.le_refl _) (fun j hj => by cases hj)⟩
  have HDW : Hid (∀ W, Below w.heap.size w W → W.cell? ⟨d, 3, none⟩ = some (.slice a3 F.length c3) ∧ W.cell? ⟨d, 4, none⟩ = some (.pointer (some ⟨c, 0, none⟩)) ∧ W.cell? ⟨c, 0, none⟩ = some (.slice an V.length cn) ∧ W.cell? ⟨c, 1, none⟩ = some (.map none)) := fun W h => by
    have h1 := (HD.out.below h)
    have h2 := h1.c3
    rw [HQL.out] at h2
    exact ⟨h2, h1.c4, h1.n0, h1.n1⟩
  clear hq hqa hql hd hG hFa hnm hhp hVs hJn
  subst hun
  go_enter Tryz.func56, Tryz.ntmps56
  go_wp2_with (first
    | (at_make; refine wpList_make_own _ rfl _ _ 22 rfl w.heap.size 9 i0 (.string ByteArray.empty) 1 Tryz.underlying22 hi hz0 hz1 _ _ _ F.length rfl rfl rfl (by rw [hz2]; omega) (by unfold maxLen; omega) (Nat.le_refl _) ?_; intro Wk hrowk hgk; have HSk := Lib.hid (HMk.out Wk hrowk hgk); obtain ⟨e3, e4, e5, e6⟩ := HDW.out Wk HSk.out.2; clear hrowk hgk))
  clear k3 k4 n0 n1 e3 e4 e5 e6 HMk
  go_loopw [3, 22] (fun vu vk wr => ∃ (k : Nat) (au : Option Addr) (cu : Nat), k ≤ F.length ∧ vu = .slice au k cu ∧ vk = .int .i64 (k : Int) ∧ Hid (GotS w.heap.size (.slice au k cu) ((F.take k).map ptB) w wr)) (fun _ k _ => F.length - (intOf k).toNat)
  case atStart => exact ⟨0, _, _, Nat.zero_le _, rfl, rfl, HSk.out⟩
  case round =>
    clear HSk
    obtain ⟨k, au, cu, hk, rfl, rfl, hgot⟩ := hrel
    have hbw := hgot.out.2
    have hsz : w.heap.size ≤ wr.heap.size := hbw.size
    by_cases hlt : k < F.length
    · have hlq : k < qs.length := by have := HQL.out; omega
      obtain ⟨b, off, hav, hb, c0⟩ := sl_at HQ.out hlq
      have htk : F.take (k + 1) = F.take k ++ [F[k]] := List.take_succ_eq_append_getElem hlt
      have hat := HQA.out k hlq hlt
      subst hav
      obtain ⟨⟨b1, b2, b3⟩, hqk⟩ : ∃ q, qs[k] = q := ⟨_, rfl⟩
      have hfa := HFa.out F[k] (List.getElem_mem hlt)
      obtain ⟨x, y, hxy⟩ : ∃ x y, F[k] = (x, y) := ⟨_, _, rfl⟩
      rw [hxy] at htk hat hfa
      rw [hqk] at c0 hat
      obtain ⟨acc, hacc⟩ : ∃ acc, (F.take k).map ptB = acc := ⟨_, rfl⟩
      have hacl : acc.length = k := by rw [← hacc, List.length_map, List.length_take]; omega
      have hT2 : Hid ((F.take (k + 1)).map ptB = acc ++ [ptB (x, y)]) := by show _ = _; rw [htk, List.map_append, hacc]; rfl
      rw [hacc] at hgot
      have hatr := hat.below hbw
      have d0 : wr.cell? ⟨b, off + k, none⟩ = some (.pointer (some ⟨b1, 0, none⟩)) := by rw [hbw.cell (p := ⟨b, off + k, none⟩) hb]; exact c0
      have C1 := Lib.hid ((getName_any b1 b2 x wr hatr.nm hatr.n).mono (fun e w' h => And.intro h.1 h.2.symm) : Calls _ _ _ _ (fun e w' => e = .returned (.string x) ∧ wr = w'))
      have C2 := Lib.hid ((getValue_any b1 b3 y wr hatr.vl hatr.v).mono (fun e w' h => And.intro h.1 h.2.symm) : Calls _ _ _ _ (fun e w' => e = .returned (.string y) ∧ wr = w'))
      obtain ⟨Q, hQ⟩ : ∃ Q, mkB (qz (dl y)) = Q := ⟨_, rfl⟩
      have hT3 : ptB (x, y) = x ++ (⟨#[61]⟩ : ByteArray) ++ Q := by rw [← hQ]; exact (ptB_eq x y).symm
      have C3 : Hid (Calls Tryz.prog 80 #[.string y] wr fun e w' => e = .returned (.string Q) ∧ Below wr.heap.size wr w') := by
        have h := quote_any y wr (HG.out.below hbw) hfa.1 hfa.2.2
        rw [hQ] at h
        exact h
      rw [hT3] at hT2
      have hQs : Q.size ≤ 2147483652 := by have := qz_size y; rw [hQ] at this; have h9 : y.size ≤ 1073741824 := hfa.2.2; omega
      have z1 : (0 : Int) ≤ (k : Int) := by omega
      have z2 : (k : Int) < (F.length : Int) := by omega
      have hxs : x.size ≤ 1073741824 := hfa.2.1
      have HAl := Lib.hid hacl
      clear c0 hat hatr hqk hxy htk hacc hacl hfa hbw hQ hT3
      go_wp2_with fail
      refine C1.out.mono ?_
      rintro e w1 ⟨rfl, rfl⟩
      go_wp2_with fail
      refine C2.out.mono ?_
      rintro e w1 ⟨rfl, rfl⟩
      go_wp2_with fail
      refine C3.out.mono ?_
      rintro e w2 ⟨rfl, hb2⟩
      have hg2 : Hid (GotS w.heap.size (.slice au k cu) acc w w2) := ⟨own_below hgot.out.1 hb2, hgot.out.2.trans (hb2.mono hsz)⟩
      have hs2 : w.heap.size ≤ w2.heap.size := Nat.le_trans hsz hb2.size
      have HRow : Hid ((w2.alloc (.cells #[.string (x ++ (⟨#[61]⟩ : ByteArray) ++ Q)] 9)).ownsRow w.heap.size 9 1 (.slice au k cu) k (acc.map Value.string)) := by
        have h := hg2.out.1
        rw [HAl.out] at h
        exact h.alloc _
      have HNews := Lib.hid (cell_box w2 (.string (x ++ (⟨#[61]⟩ : ByteArray) ++ Q)) 9)
      have HOne : Hid (∀ u ∈ [Value.string (x ++ (⟨#[61]⟩ : ByteArray) ++ Q)], u.oneCell' = true) := one_str (x ++ (⟨#[61]⟩ : ByteArray) ++ Q)
      have hszA : w.heap.size ≤ (w2.alloc (.cells #[.string (x ++ (⟨#[61]⟩ : ByteArray) ++ Q)] 9)).heap.size := Nat.le_trans hs2 (by simp)
      have HStep : Hid (∀ a3 c3 W3, W3.ownsRow w.heap.size 9 1 (.slice a3 (k + 1) c3) (k + 1) (acc.map Value.string ++ [.string (x ++ (⟨#[61]⟩ : ByteArray) ++ Q)]) → (w2.alloc (.cells #[.string (x ++ (⟨#[61]⟩ : ByteArray) ++ Q)] 9)).grownBy W3 (Value.slice au k cu).ownBlock → GotS w.heap.size (.slice a3 (k + 1) c3) ((F.take (k + 1)).map ptB) w W3) := fun a3 c3 W3 ho hg => by
        rw [hT2.out]
        refine ⟨by rw [List.length_append, HAl.out, List.map_append]; exact ho, (hg2.out.2.alloc hs2 _).grown hg hszA (fun j hj => ?_)⟩
        exact (hg2.out.1.lt j hj).1
      clear hb2 hg2 hgot C1 C2 C3
      go_wp2_with (first
        | (at_builtin; refine wpList_append_own_at _ rfl _ _ 22 rfl w.heap.size 9 i0 (.string ByteArray.empty) 1 16 Tryz.underlying22 hi hz0 hz1 hz2 rfl (by decide) _ _ _ rfl HRow.out ⟨w2.heap.size, 0, none⟩ 1 1 [.string (x ++ (⟨#[61]⟩ : ByteArray) ++ Q)] rfl rfl HNews.out HOne.out (by unfold maxLen; omega) (by omega) hszA ?_; intro v3 W3 hown3 hgrow3 hnil3 hloc3; obtain ⟨a4, c4, rfl⟩ := row_slice2 hown3; have HS3 := Lib.hid (HStep.out a4 c4 W3 hown3 hgrow3); clear hown3 hgrow3 hnil3 hloc3))
      go_roundw
      case rel => exact ⟨k + 1, a4, c4, by omega, rfl, by go_num, HS3.out⟩
      case measure => simp [intOf]; omega
    · obtain rfl : k = F.length := by omega
      have hgF : GotS w.heap.size (.slice au F.length cu) (F.map ptB) w wr := by
        have h := hgot.out
        rw [List.take_length] at h
        exact h
      have HOfF : Hid (∀ W, Below wr.heap.size wr W → Sl.Of Value.string W (.slice au F.length cu) (F.map ptB)) := fun W h => by
        have h1 := Sl.Of.own hgF.1
        exact h1.below h
      have HBwr := Lib.hid hgF.2
      obtain ⟨e3, e4, e5, e6⟩ := HDW.out wr hbw
      have HGr := Lib.hid (HG.out.below hbw)
      have HDr := Lib.hid (HD.out.below hbw)
      have HDW2 : Hid (∀ W, Below wr.heap.size wr W → W.cell? ⟨d, 0, none⟩ = some (.string nm) ∧ W.cell? ⟨d, 1, none⟩ = some (.string hp) ∧ W.cell? ⟨d, 2, none⟩ = some (.string ⟨#[]⟩) ∧ W.cell? ⟨d, 4, none⟩ = some (.pointer (some ⟨c, 0, none⟩)) ∧ W.cell? ⟨c, 0, none⟩ = some (.slice an V.length cn) ∧ W.cell? ⟨c, 1, none⟩ = some (.map none)) := fun W h =>
        have h1 := HDr.out.below h
        ⟨h1.c0, h1.c1, h1.c2, h1.c4, h1.n0, h1.n1⟩
      obtain ⟨wo, rfl⟩ : ∃ wo, wo = wr := ⟨_, rfl⟩
      have hA0 : Below wo.heap.size wo (wo.alloc (.cells #[] 9)) := (Below.refl _ _).alloc (Nat.le_refl _) _
      obtain ⟨g0, g1, g2, g4, g5, g6⟩ := HDW2.out _ hA0
      have HMk : Hid (∀ W : World, W.ownsRow wo.heap.size 9 1 (.slice (some ⟨wo.heap.size + 1, 0, none⟩) 0 V.length) 0 [] → (wo.alloc (.cells #[] 9)).grownBy W none → GotS wo.heap.size (.slice (some ⟨wo.heap.size + 1, 0, none⟩) 0 V.length) [] wo W) := fun W ho hg =>
        ⟨ho, hA0.grown hg (by simp) (fun j hj => by cases hj)⟩
      have hzA : wo.heap.size ≤ (wo.alloc (.cells #[] 9)).heap.size := by simp
      clear hgot hgF hsz hbw HDW e3 e4
      go_wp2_with (first
        | (at_make; refine wpList_make_own _ rfl _ _ 22 rfl wo.heap.size 9 i0 (.string ByteArray.empty) 1 Tryz.underlying22 hi hz0 hz1 _ _ _ V.length rfl rfl rfl (by rw [hz2]; omega) (by unfold maxLen; omega) hzA ?_; intro Wk hrowk hgk; have HSk := Lib.hid (HMk.out Wk (by simpa using hrowk) hgk); obtain ⟨g0', g1', g2', g4', g5', g6'⟩ := HDW2.out Wk HSk.out.2; clear hrowk hgk))
      have HNms := Lib.hid HDr.out.names
      clear g0 g1 g2 g4 g5 g6 g0' g1' g2' g4' g5' g6' HMk e5 e6
      go_loopw [6, 60] (fun vu vk wr => ∃ (k : Nat) (au2 : Option Addr) (cu2 : Nat), k ≤ V.length ∧ vu = .slice au2 k cu2 ∧ vk = .int .i64 (k : Int) ∧ Hid (GotS wo.heap.size (.slice au2 k cu2) (V.take k) wo wr)) (fun _ k _ => V.length - (intOf k).toNat)
      case atStart => exact ⟨0, _, _, Nat.zero_le _, rfl, rfl, HSk.out⟩
      case round =>
        clear HSk
        obtain ⟨k, au2, cu2, hk2, rfl, rfl, hgot⟩ := hrel
        have hbw := hgot.out.2
        have hsz : wo.heap.size ≤ wr.heap.size := hbw.size
        by_cases hlt2 : k < V.length
        · obtain ⟨b, off, hav, hb, c0⟩ := sl_at HNms.out hlt2
          have htk : V.take (k + 1) = V.take k ++ [V[k]] := List.take_succ_eq_append_getElem hlt2
          subst hav
          obtain ⟨x, hx⟩ : ∃ x, V[k] = x := ⟨_, rfl⟩
          rw [hx] at htk c0
          obtain ⟨acc, hacc⟩ : ∃ acc, V.take k = acc := ⟨_, rfl⟩
          have hacl : acc.length = k := by rw [← hacc, List.length_take]; omega
          have hT2 : Hid (V.take (k + 1) = acc ++ [x]) := by show _ = _; rw [htk, hacc]
          rw [hacc] at hgot
          have d0 : wr.cell? ⟨b, off + k, none⟩ = some (.string x) := by rw [hbw.cell (p := ⟨b, off + k, none⟩) hb]; exact c0
          obtain ⟨g0, g1, g2, g4, g5, g6⟩ := HDW2.out wr hbw
          have z1 : (0 : Int) ≤ (k : Int) := by omega
          have z2 : (k : Int) < (V.length : Int) := by omega
          have HAl := Lib.hid hacl
          have hs2 : wo.heap.size ≤ wr.heap.size := hsz
          have HRow : Hid ((wr.alloc (.cells #[.string x] 9)).ownsRow wo.heap.size 9 1 (.slice au2 k cu2) k (acc.map Value.string)) := by
            have h := hgot.out.1
            rw [HAl.out] at h
            exact h.alloc _
          have HNews := Lib.hid (cell_box wr (.string x) 9)
          have HOne : Hid (∀ u ∈ [Value.string x], u.oneCell' = true) := one_str x
          have hszA : wo.heap.size ≤ (wr.alloc (.cells #[.string x] 9)).heap.size := Nat.le_trans hs2 (by simp)
          have HStep : Hid (∀ a3 c3 W3, W3.ownsRow wo.heap.size 9 1 (.slice a3 (k + 1) c3) (k + 1) (acc.map Value.string ++ [.string x]) → (wr.alloc (.cells #[.string x] 9)).grownBy W3 (Value.slice au2 k cu2).ownBlock → GotS wo.heap.size (.slice a3 (k + 1) c3) (V.take (k + 1)) wo W3) := fun a3 c3 W3 ho hg => by
            rw [hT2.out]
            refine ⟨by rw [List.length_append, HAl.out, List.map_append]; exact ho, (hgot.out.2.alloc hs2 _).grown hg hszA (fun j hj => ?_)⟩
            exact (hgot.out.1.lt j hj).1
          have HxS : Hid (x.size ≤ maxLen) := by rw [← hx]; exact HVs.out _ (List.getElem_mem hlt2)
          clear c0 hx htk hacc hacl hbw hgot
          go_wp2_with fail
          rw [look_nil x HxS.out]
          simp only [Result.andThen_ok, Oper.upon, Act.put, List.setIfInBounds_toArray, List.set_cons_zero, List.set_cons_succ]
          rename_i K1 hK1 K2 hK2
          refine hK2 _ _ ?_
          go_wp2_with (first
            | (at_builtin; refine wpList_append_own_at _ rfl _ _ 22 rfl wo.heap.size 9 i0 (.string ByteArray.empty) 1 16 Tryz.underlying22 hi hz0 hz1 hz2 rfl (by decide) _ _ _ rfl HRow.out ⟨wr.heap.size, 0, none⟩ 1 1 [.string x] rfl rfl HNews.out HOne.out (by unfold maxLen; omega) (by omega) hszA ?_; intro v3 W3 hown3 hgrow3 hnil3 hloc3; obtain ⟨a4, c4, rfl⟩ := row_slice2 hown3; have HS3 := Lib.hid (HStep.out a4 c4 W3 hown3 hgrow3); clear hown3 hgrow3 hnil3 hloc3))
          go_roundw
          case rel => exact ⟨k + 1, a4, c4, by omega, rfl, by go_num, HS3.out⟩
          case measure => simp [intOf]; omega
        · obtain rfl : k = V.length := by omega
          have hg2 := hgot.out
          rw [List.take_length] at hg2
          have HOfV : Hid (∀ W, Below wr.heap.size wr W → Sl.Of Value.string W (.slice au2 V.length cu2) V) := fun W h => by
            have h1 := Sl.Of.own hg2.1
            exact h1.below h
          have HUp : Hid (∀ W, Below wr.heap.size wr W → Below wo.heap.size wo W) := fun W h => hbw.trans (h.mono hsz)
          have HUw : Hid (∀ W, Below wr.heap.size wr W → Below w.heap.size w W) := fun W h => HBwr.out.trans ((HUp.out W h).mono HBwr.out.size)
          have hle := HUn.out
          have HLj : Hid ((jn ((F.map ptB).map dl)).length ≤ 140737488355328 ∧ (jn (V.map dl)).length ≤ 140737488355328) := HJn.out
          obtain ⟨Qn, hQn⟩ : ∃ Q, mkB (qz (dl nm)) = Q := ⟨_, rfl⟩
          have CQn : Hid (∀ W, Below wr.heap.size wr W → Calls Tryz.prog 80 #[.string nm] W fun e w' => e = .returned (.string Qn) ∧ Below wr.heap.size wr w') := fun W h => (quote_any nm W (HG.out.below (HUw.out W h)) HNm.out.1 HNm.out.2).mono fun e w' ⟨he, hb⟩ => ⟨by rw [he, hQn], h.trans (hb.mono h.size)⟩
          have sQn : Qn.size ≤ 2147483652 := by have h8 := qz_size nm; rw [hQn] at h8; have h9 : nm.size ≤ 1073741824 := HNm.out.2; omega
          obtain ⟨Qh, hQh⟩ : ∃ Q, mkB (qz (dl hp)) = Q := ⟨_, rfl⟩
          have CQh : Hid (∀ W, Below wr.heap.size wr W → Calls Tryz.prog 80 #[.string hp] W fun e w' => e = .returned (.string Qh) ∧ Below wr.heap.size wr w') := fun W h => (quote_any hp W (HG.out.below (HUw.out W h)) HHp.out.1 HHp.out.2).mono fun e w' ⟨he, hb⟩ => ⟨by rw [he, hQh], h.trans (hb.mono h.size)⟩
          have sQh : Qh.size ≤ 2147483652 := by have h8 := qz_size hp; rw [hQh] at h8; have h9 : hp.size ≤ 1073741824 := HHp.out.2; omega
          obtain ⟨Qe, hQe⟩ : ∃ Q, mkB (qz (dl (⟨#[]⟩ : ByteArray))) = Q := ⟨_, rfl⟩
          have CQe : Hid (∀ W, Below wr.heap.size wr W → Calls Tryz.prog 80 #[.string (⟨#[]⟩ : ByteArray)] W fun e w' => e = .returned (.string Qe) ∧ Below wr.heap.size wr w') := fun W h => (quote_any (⟨#[]⟩ : ByteArray) W (HG.out.below (HUw.out W h)) rfl (by decide)).mono fun e w' ⟨he, hb⟩ => ⟨by rw [he, hQe], h.trans (hb.mono h.size)⟩
          have sQe : Qe.size ≤ 2147483652 := by have h8 := qz_size (⟨#[]⟩ : ByteArray); rw [hQe] at h8; have h9 : (⟨#[]⟩ : ByteArray).size ≤ 1073741824 := (by decide); omega
          obtain ⟨J1, hJ1⟩ : ∃ J, mkB (jn ((F.map ptB).map dl)) = J := ⟨_, rfl⟩
          obtain ⟨J2, hJ2⟩ : ∃ J, mkB (jn (V.map dl)) = J := ⟨_, rfl⟩
          have sJ1 : J1.size ≤ 140737488355328 := by have h8 := HLj.out.1; rw [← hJ1]; simpa [mkB, ByteArray.size] using h8
          have sJ2 : J2.size ≤ 140737488355328 := by have h8 := HLj.out.2; rw [← hJ2]; simpa [mkB, ByteArray.size] using h8
          have CJ1 : Hid (∀ W, Below wr.heap.size wr W → Calls Tryz.prog 81 #[.slice au F.length cu, .string ⟨#[44]⟩] W fun e w' => e = .returned (.string J1) ∧ Below wr.heap.size wr w') := fun W h => (join_any _ _ W (HOfF.out W (HUp.out W h)) HLj.out.1 (by rw [List.length_map]; omega)).mono fun e w' ⟨he, hb⟩ => ⟨by rw [he, hJ1], h.trans (hb.mono h.size)⟩
          have CJ2 : Hid (∀ W, Below wr.heap.size wr W → Calls Tryz.prog 81 #[.slice au2 V.length cu2, .string ⟨#[44]⟩] W fun e w' => e = .returned (.string J2) ∧ Below wr.heap.size wr w') := fun W h => (join_any _ _ W (HOfV.out W h) HLj.out.2 (by omega)).mono fun e w' ⟨he, hb⟩ => ⟨by rw [he, hJ2], h.trans (hb.mono h.size)⟩
          have HS : Hid (∀ W, Below wr.heap.size wr W → W.cell? ⟨d, 0, none⟩ = some (.string nm) ∧ W.cell? ⟨d, 1, none⟩ = some (.string hp) ∧ W.cell? ⟨d, 2, none⟩ = some (.string ⟨#[]⟩)) := fun W h =>
            have h1 := HDW2.out W (HUp.out W h)
            ⟨h1.1, h1.2.1, h1.2.2.1⟩
          have HE0 : Hid (Below wr.heap.size wr wr.drew) := bdr (Below.refl _ _) 1
          have k1 := HS.out _ HE0.out
          have HTx := Lib.hid (text_eq nm hp F V Qn Qh Qe J1 J2 hQn hQh hQe hJ1 hJ2)
          have zs0 : ¬ (9223372036854775807 < 13 + Qn.size) := by omega
          have zs1 : ¬ (9223372036854775807 < 13 + Qn.size + 8) := by omega
          have zs2 : ¬ (9223372036854775807 < 13 + Qn.size + 8 + Qh.size) := by omega
          have zs3 : ¬ (9223372036854775807 < 13 + Qn.size + 8 + Qh.size + 8) := by omega
          have zs4 : ¬ (9223372036854775807 < 13 + Qn.size + 8 + Qh.size + 8 + Qe.size) := by omega
          have zs5 : ¬ (9223372036854775807 < 13 + Qn.size + 8 + Qh.size + 8 + Qe.size + 16) := by omega
          have zs6 : ¬ (9223372036854775807 < 13 + Qn.size + 8 + Qh.size + 8 + Qe.size + 16 + J1.size) := by omega
          have zs7 : ¬ (9223372036854775807 < 13 + Qn.size + 8 + Qh.size + 8 + Qe.size + 16 + J1.size + 20) := by omega
          have zs8 : ¬ (9223372036854775807 < 13 + Qn.size + 8 + Qh.size + 8 + Qe.size + 16 + J1.size + 20 + J2.size) := by omega
          have zs9 : ¬ (9223372036854775807 < 13 + Qn.size + 8 + Qh.size + 8 + Qe.size + 16 + J1.size + 20 + J2.size + 2) := by omega
          clear hgot hbw hsz hg2 hle hQn hQh hQe hJ1 hJ2
          go_wp2_with fail
          refine wp_region_noPanic ?_
          refine wp_region_held_drew (S := fun W => W.cell? ⟨d, 0, none⟩ = some (.string nm) ∧ W.cell? ⟨d, 1, none⟩ = some (.string hp) ∧ W.cell? ⟨d, 2, none⟩ = some (.string ⟨#[]⟩)) (by kernel_rfl) (by (with_reducible exact k1)) (fun hHeld => ?_)
          refine wpAnyH_take (i := 0) (v := ?_) rfl (by kernel_rfl) (by kernel_rfl) (by kernel_rfl) (fun _ _ _ h => h) (Or.inl ⟨by rfl, ?_⟩) hHeld ?_
          rotate_left
          · intro w hSw; (try dsimp only at hSw); go_simp; (try with_reducible rfl)
          try simp only [Act.put, List.setIfInBounds_toArray, List.set_cons_zero, List.set_cons_succ, List.getElem_toArray, List.getElem_cons_zero, List.getElem_cons_succ]
          refine wpAnyH_take (i := 1) (v := ?_) rfl (by kernel_rfl) (by kernel_rfl) (by kernel_rfl) (fun _ _ _ h => h) (Or.inl ⟨by rfl, ?_⟩) hHeld ?_
          rotate_left
          · intro w hSw; (try dsimp only at hSw); go_simp; (try with_reducible rfl)
          try simp only [Act.put, List.setIfInBounds_toArray, List.set_cons_zero, List.set_cons_succ, List.getElem_toArray, List.getElem_cons_zero, List.getElem_cons_succ]
          refine wpAnyH_take (i := 2) (v := ?_) rfl (by kernel_rfl) (by kernel_rfl) (by kernel_rfl) (fun _ _ _ h => h) (Or.inl ⟨by rfl, ?_⟩) hHeld ?_
          rotate_left
          · intro w hSw; (try dsimp only at hSw); go_simp; (try with_reducible rfl)
          try simp only [Act.put, List.setIfInBounds_toArray, List.set_cons_zero, List.set_cons_succ, List.getElem_toArray, List.getElem_cons_zero, List.getElem_cons_succ]
          refine wpAnyH_take (i := 3) (v := ?_) rfl (by kernel_rfl) (by kernel_rfl) (by kernel_rfl) (fun _ _ _ h => h) (Or.inl ⟨by rfl, ?_⟩) hHeld ?_
          rotate_left
          · intro w hSw; (try dsimp only at hSw); go_simp; (try with_reducible rfl)
          try simp only [Act.put, List.setIfInBounds_toArray, List.set_cons_zero, List.set_cons_succ, List.getElem_toArray, List.getElem_cons_zero, List.getElem_cons_succ]
          refine wpAnyH_take (i := 7) (v := ?_) rfl (by kernel_rfl) (by kernel_rfl) (by kernel_rfl) (fun _ _ _ h => h) (Or.inl ⟨by rfl, ?_⟩) hHeld ?_
          rotate_left
          · intro w hSw; (try dsimp only at hSw); go_simp; (try with_reducible rfl)
          try simp only [Act.put, List.setIfInBounds_toArray, List.set_cons_zero, List.set_cons_succ, List.getElem_toArray, List.getElem_cons_zero, List.getElem_cons_succ]
          refine wpAnyH_take (i := 8) (v := ?_) rfl (by kernel_rfl) (by kernel_rfl) (by kernel_rfl) (fun _ _ _ h => h) (Or.inl ⟨by rfl, ?_⟩) hHeld ?_
          rotate_left
          · intro w hSw; (try dsimp only at hSw); go_simp; (try with_reducible rfl)
          try simp only [Act.put, List.setIfInBounds_toArray, List.set_cons_zero, List.set_cons_succ, List.getElem_toArray, List.getElem_cons_zero, List.getElem_cons_succ]
          refine wpAnyH_take (i := 9) (v := ?_) rfl (by kernel_rfl) (by kernel_rfl) (by kernel_rfl) (fun _ _ _ h => h) (Or.inl ⟨by rfl, ?_⟩) hHeld ?_
          rotate_left
          · intro w hSw; (try dsimp only at hSw); go_simp; (try with_reducible rfl)
          try simp only [Act.put, List.setIfInBounds_toArray, List.set_cons_zero, List.set_cons_succ, List.getElem_toArray, List.getElem_cons_zero, List.getElem_cons_succ]
          refine wpAnyH_take (i := 10) (v := ?_) rfl (by kernel_rfl) (by kernel_rfl) (by kernel_rfl) (fun _ _ _ h => h) (Or.inl ⟨by rfl, ?_⟩) hHeld ?_
          rotate_left
          · intro w hSw; (try dsimp only at hSw); go_simp; (try with_reducible rfl)
          try simp only [Act.put, List.setIfInBounds_toArray, List.set_cons_zero, List.set_cons_succ, List.getElem_toArray, List.getElem_cons_zero, List.getElem_cons_succ]
          refine wpAnyH_take (i := 14) (v := ?_) rfl (by kernel_rfl) (by kernel_rfl) (by kernel_rfl) (fun _ _ _ h => h) (Or.inl ⟨by rfl, ?_⟩) hHeld ?_
          rotate_left
          · intro w hSw; (try dsimp only at hSw); go_simp; (try with_reducible rfl)
          try simp only [Act.put, List.setIfInBounds_toArray, List.set_cons_zero, List.set_cons_succ, List.getElem_toArray, List.getElem_cons_zero, List.getElem_cons_succ]
          refine wpAnyH_take (i := 15) (v := ?_) rfl (by kernel_rfl) (by kernel_rfl) (by kernel_rfl) (fun _ _ _ h => h) (Or.inl ⟨by rfl, ?_⟩) hHeld ?_
          rotate_left
          · intro w hSw; (try dsimp only at hSw); go_simp; (try with_reducible rfl)
          try simp only [Act.put, List.setIfInBounds_toArray, List.set_cons_zero, List.set_cons_succ, List.getElem_toArray, List.getElem_cons_zero, List.getElem_cons_succ]
          refine wpAnyH_take (i := 16) (v := ?_) rfl (by kernel_rfl) (by kernel_rfl) (by kernel_rfl) (fun _ _ _ h => h) (Or.inl ⟨by rfl, ?_⟩) hHeld ?_
          rotate_left
          · intro w hSw; (try dsimp only at hSw); go_simp; (try with_reducible rfl)
          try simp only [Act.put, List.setIfInBounds_toArray, List.set_cons_zero, List.set_cons_succ, List.getElem_toArray, List.getElem_cons_zero, List.getElem_cons_succ]
          refine wpAnyH_take (i := 17) (v := ?_) rfl (by kernel_rfl) (by kernel_rfl) (by kernel_rfl) (fun _ _ _ h => h) (Or.inl ⟨by rfl, ?_⟩) hHeld ?_
          rotate_left
          · intro w hSw; (try dsimp only at hSw); go_simp; (try with_reducible rfl)
          try simp only [Act.put, List.setIfInBounds_toArray, List.set_cons_zero, List.set_cons_succ, List.getElem_toArray, List.getElem_cons_zero, List.getElem_cons_succ]
          refine wpAnyH_take (i := 21) (v := ?_) rfl (by kernel_rfl) (by kernel_rfl) (by kernel_rfl) (fun _ _ _ h => h) (Or.inl ⟨by rfl, ?_⟩) hHeld ?_
          rotate_left
          · intro w hSw; (try dsimp only at hSw); go_simp; (try with_reducible rfl)
          try simp only [Act.put, List.setIfInBounds_toArray, List.set_cons_zero, List.set_cons_succ, List.getElem_toArray, List.getElem_cons_zero, List.getElem_cons_succ]
          refine wpAnyH_take (i := 25) (v := ?_) rfl (by kernel_rfl) (by kernel_rfl) (by kernel_rfl) (fun _ _ _ h => h) (Or.inl ⟨by rfl, ?_⟩) hHeld ?_
          rotate_left
          · intro w hSw; (try dsimp only at hSw); go_simp; (try with_reducible rfl)
          try simp only [Act.put, List.setIfInBounds_toArray, List.set_cons_zero, List.set_cons_succ, List.getElem_toArray, List.getElem_cons_zero, List.getElem_cons_succ]
          refine wpAnyH_ready (rs := [4]) (by kernel_rfl) (by simp) (AllReadyH.cons rfl (fun K hK => ?_) AllReadyH.nil)
          go_simp
          go_at_call 80; refine (CQn.out _ HE0.out).mono ?_; rintro e y1 ⟨rfl, hb⟩; have HE1 := Lib.hid hb; have q1 := HS.out _ hb; clear hb
          refine hK.out _ _ ?_ (fun hHeld2 => ?_)
          · first | (with_reducible exact q1) | (with_reducible exact q2) | (with_reducible exact q3) | (with_reducible exact q4) | (with_reducible exact q5)
          clear hK K hHeld; have hHeld := hHeld2; clear hHeld2
          try simp only [Act.put, List.setIfInBounds_toArray, List.set_cons_zero, List.set_cons_succ, List.getElem_toArray, List.getElem_cons_zero, List.getElem_cons_succ]
          refine wpAnyH_take (i := 5) (v := ?_) rfl (by kernel_rfl) (by kernel_rfl) (by kernel_rfl) (fun _ _ _ h => h) (Or.inl ⟨by rfl, ?_⟩) hHeld ?_
          rotate_left
          · intro w hSw; (try dsimp only at hSw); go_simp; (try with_reducible rfl)
          try simp only [Act.put, List.setIfInBounds_toArray, List.set_cons_zero, List.set_cons_succ, List.getElem_toArray, List.getElem_cons_zero, List.getElem_cons_succ]
          refine wpAnyH_take (i := 6) (v := ?_) rfl (by kernel_rfl) (by kernel_rfl) (by kernel_rfl) (fun _ _ _ h => h) (Or.inl ⟨by rfl, ?_⟩) hHeld ?_
          rotate_left
          · intro w hSw; (try dsimp only at hSw); go_simp; (try with_reducible rfl)
          try simp only [Act.put, List.setIfInBounds_toArray, List.set_cons_zero, List.set_cons_succ, List.getElem_toArray, List.getElem_cons_zero, List.getElem_cons_succ]
          refine wpAnyH_ready (rs := [11]) (by kernel_rfl) (by simp) (AllReadyH.cons rfl (fun K hK => ?_) AllReadyH.nil)
          go_simp
          go_at_call 80; refine (CQh.out _ HE1.out).mono ?_; rintro e y2 ⟨rfl, hb⟩; have HE2 := Lib.hid hb; have q2 := HS.out _ hb; clear hb
          refine hK.out _ _ ?_ (fun hHeld2 => ?_)
          · first | (with_reducible exact q1) | (with_reducible exact q2) | (with_reducible exact q3) | (with_reducible exact q4) | (with_reducible exact q5)
          clear hK K hHeld; have hHeld := hHeld2; clear hHeld2
          try simp only [Act.put, List.setIfInBounds_toArray, List.set_cons_zero, List.set_cons_succ, List.getElem_toArray, List.getElem_cons_zero, List.getElem_cons_succ]
          refine wpAnyH_take (i := 12) (v := ?_) rfl (by kernel_rfl) (by kernel_rfl) (by kernel_rfl) (fun _ _ _ h => h) (Or.inl ⟨by rfl, ?_⟩) hHeld ?_
          rotate_left
          · intro w hSw; (try dsimp only at hSw); go_simp; (try with_reducible rfl)
          try simp only [Act.put, List.setIfInBounds_toArray, List.set_cons_zero, List.set_cons_succ, List.getElem_toArray, List.getElem_cons_zero, List.getElem_cons_succ]
          refine wpAnyH_take (i := 13) (v := ?_) rfl (by kernel_rfl) (by kernel_rfl) (by kernel_rfl) (fun _ _ _ h => h) (Or.inl ⟨by rfl, ?_⟩) hHeld ?_
          rotate_left
          · intro w hSw; (try dsimp only at hSw); go_simp; (try with_reducible rfl)
          try simp only [Act.put, List.setIfInBounds_toArray, List.set_cons_zero, List.set_cons_succ, List.getElem_toArray, List.getElem_cons_zero, List.getElem_cons_succ]
          refine wpAnyH_ready (rs := [18]) (by kernel_rfl) (by simp) (AllReadyH.cons rfl (fun K hK => ?_) AllReadyH.nil)
          go_simp
          go_at_call 80; refine (CQe.out _ HE2.out).mono ?_; rintro e y3 ⟨rfl, hb⟩; have HE3 := Lib.hid hb; have q3 := HS.out _ hb; clear hb
          refine hK.out _ _ ?_ (fun hHeld2 => ?_)
          · first | (with_reducible exact q1) | (with_reducible exact q2) | (with_reducible exact q3) | (with_reducible exact q4) | (with_reducible exact q5)
          clear hK K hHeld; have hHeld := hHeld2; clear hHeld2
          try simp only [Act.put, List.setIfInBounds_toArray, List.set_cons_zero, List.set_cons_succ, List.getElem_toArray, List.getElem_cons_zero, List.getElem_cons_succ]
          refine wpAnyH_take (i := 19) (v := ?_) rfl (by kernel_rfl) (by kernel_rfl) (by kernel_rfl) (fun _ _ _ h => h) (Or.inl ⟨by rfl, ?_⟩) hHeld ?_
          rotate_left
          · intro w hSw; (try dsimp only at hSw); go_simp; (try with_reducible rfl)
          try simp only [Act.put, List.setIfInBounds_toArray, List.set_cons_zero, List.set_cons_succ, List.getElem_toArray, List.getElem_cons_zero, List.getElem_cons_succ]
          refine wpAnyH_take (i := 20) (v := ?_) rfl (by kernel_rfl) (by kernel_rfl) (by kernel_rfl) (fun _ _ _ h => h) (Or.inl ⟨by rfl, ?_⟩) hHeld ?_
          rotate_left
          · intro w hSw; (try dsimp only at hSw); go_simp; (try with_reducible rfl)
          try simp only [Act.put, List.setIfInBounds_toArray, List.set_cons_zero, List.set_cons_succ, List.getElem_toArray, List.getElem_cons_zero, List.getElem_cons_succ]
          refine wpAnyH_ready (rs := [22]) (by kernel_rfl) (by simp) (AllReadyH.cons rfl (fun K hK => ?_) AllReadyH.nil)
          go_simp
          go_at_call 81; refine (CJ1.out _ HE3.out).mono ?_; rintro e y4 ⟨rfl, hb⟩; have HE4 := Lib.hid hb; have q4 := HS.out _ hb; clear hb
          refine hK.out _ _ ?_ (fun hHeld2 => ?_)
          · first | (with_reducible exact q1) | (with_reducible exact q2) | (with_reducible exact q3) | (with_reducible exact q4) | (with_reducible exact q5)
          clear hK K hHeld; have hHeld := hHeld2; clear hHeld2
          try simp only [Act.put, List.setIfInBounds_toArray, List.set_cons_zero, List.set_cons_succ, List.getElem_toArray, List.getElem_cons_zero, List.getElem_cons_succ]
          refine wpAnyH_take (i := 23) (v := ?_) rfl (by kernel_rfl) (by kernel_rfl) (by kernel_rfl) (fun _ _ _ h => h) (Or.inl ⟨by rfl, ?_⟩) hHeld ?_
          rotate_left
          · intro w hSw; (try dsimp only at hSw); go_simp; (try with_reducible rfl)
          try simp only [Act.put, List.setIfInBounds_toArray, List.set_cons_zero, List.set_cons_succ, List.getElem_toArray, List.getElem_cons_zero, List.getElem_cons_succ]
          refine wpAnyH_take (i := 24) (v := ?_) rfl (by kernel_rfl) (by kernel_rfl) (by kernel_rfl) (fun _ _ _ h => h) (Or.inl ⟨by rfl, ?_⟩) hHeld ?_
          rotate_left
          · intro w hSw; (try dsimp only at hSw); go_simp; (try with_reducible rfl)
          try simp only [Act.put, List.setIfInBounds_toArray, List.set_cons_zero, List.set_cons_succ, List.getElem_toArray, List.getElem_cons_zero, List.getElem_cons_succ]
          refine wpAnyH_ready (rs := [26]) (by kernel_rfl) (by simp) (AllReadyH.cons rfl (fun K hK => ?_) AllReadyH.nil)
          go_simp
          go_at_call 81; refine (CJ2.out _ HE4.out).mono ?_; rintro e y5 ⟨rfl, hb⟩; have HE5 := Lib.hid hb; have q5 := HS.out _ hb; clear hb
          refine hK.out _ _ ?_ (fun hHeld2 => ?_)
          · first | (with_reducible exact q1) | (with_reducible exact q2) | (with_reducible exact q3) | (with_reducible exact q4) | (with_reducible exact q5)
          clear hK K hHeld; have hHeld := hHeld2; clear hHeld2
          try simp only [Act.put, List.setIfInBounds_toArray, List.set_cons_zero, List.set_cons_succ, List.getElem_toArray, List.getElem_cons_zero, List.getElem_cons_succ]
          refine wpAnyH_take (i := 27) (v := ?_) rfl (by kernel_rfl) (by kernel_rfl) (by kernel_rfl) (fun _ _ _ h => h) (Or.inl ⟨by rfl, ?_⟩) hHeld ?_
          rotate_left
          · intro w hSw; (try dsimp only at hSw); go_simp; (try with_reducible rfl)
          try simp only [Act.put, List.setIfInBounds_toArray, List.set_cons_zero, List.set_cons_succ, List.getElem_toArray, List.getElem_cons_zero, List.getElem_cons_succ]
          refine wpAnyH_take (i := 28) (v := ?_) rfl (by kernel_rfl) (by kernel_rfl) (by kernel_rfl) (fun _ _ _ h => h) (Or.inl ⟨by rfl, ?_⟩) hHeld ?_
          rotate_left
          · intro w hSw; (try dsimp only at hSw); go_simp; (try with_reducible rfl)
          try simp only [Act.put, List.setIfInBounds_toArray, List.set_cons_zero, List.set_cons_succ, List.getElem_toArray, List.getElem_cons_zero, List.getElem_cons_succ]
          refine wpAnyH_take (i := 29) (v := ?_) rfl (by kernel_rfl) (by kernel_rfl) (by kernel_rfl) (fun _ _ _ h => h) (Or.inl ⟨by rfl, ?_⟩) hHeld ?_
          rotate_left
          · intro w hSw; (try dsimp only at hSw); go_simp; (try with_reducible rfl)
          try simp only [Act.put, List.setIfInBounds_toArray, List.set_cons_zero, List.set_cons_succ, List.getElem_toArray, List.getElem_cons_zero, List.getElem_cons_succ]
          refine wpAnyH_done (by kernel_rfl) ?_ _
          refine NoPanic.normal ?_
          go_wp2_with fail
          go_ret
          exact ⟨by rw [← HTx.out]; rfl, HUw.out _ HE5.out⟩

end Go.Proofs.YtfcpapbokefdmaaGreatDoor.Tx
