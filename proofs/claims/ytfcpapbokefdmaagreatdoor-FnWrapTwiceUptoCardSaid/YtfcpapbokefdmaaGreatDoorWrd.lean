/- Wrapped descriptors: the thin package's WrapMeta. -/
import Derived.Test.YtfcpapbokefdmaaGreatDoorWrc
import Derived.Test.YtfcpapbokefdmaaGreatDoorNsf
set_option linter.unusedVariables false
set_option linter.unusedSimpArgs false
namespace Go.Proofs.YtfcpapbokefdmaaGreatDoor.Nd
open Go.RowKit Go.Maps Go.WideMaps Go.ChangeShapes Go.WideShapes Go.Deep Fp Obs

def WMOut (nm hp un : ByteArray) (V : List ByteArray) (F A : List P2) (w : World) (e : Ending) (w' : World) : Prop :=
  Below w.heap.size w w' ∧ ((¬ Clash V F A ∧ ∃ v2 c2, e = .returned (.tuple #[.agg #[.string nm, .string hp, .string un, v2, c2], .bool true]) ∧ w'.ownsRow w.heap.size 9 1 v2 V.length (V.map Value.string) ∧ w'.ownsRow w.heap.size 102 2 c2 (fit (F ++ A)).length ((fit (F ++ A)).flatMap pc)) ∨
    (Clash V F A ∧ e = .returned (.tuple #[.agg #[.string ⟨#[]⟩, .string ⟨#[]⟩, .string ⟨#[]⟩, .slice none 0 0, .slice none 0 0], .bool false])))

set_option maxHeartbeats 16000000 in
set_option maxRecDepth 100000 in
theorem wrapMeta_any (nm hp un p : ByteArray) (V : List ByteArray) (L A : List P2) (vv cv lv : Value) (w : World) (hG : Glob w) (hok : NewOk nm hp un V L) (hV : Sl.Of Value.string w vv V) (hL : Ss.Of 2 pc w cv L) (hr : ∀ q ∈ L, q.1.size ≤ 2147483647 ∧ q.2.size ≤ 2147483647)
    (hA : Ss.Of 2 pc w lv A) (hra : ∀ q ∈ A, q.1.size ≤ 2147483647 ∧ q.2.size ≤ 2147483647) (hok2 : NewOk2 (p ++ nm) hp un V (fit L ++ A)) :
    Calls Tryz.prog 25 #[.agg #[.string nm, .string hp, .string un, vv, cv], .string p, lv] w (WMOut (p ++ nm) hp un V (fit L) A w) := by
  obtain ⟨i0, hi, hz0, hz1, hz2⟩ := info_parts infoS
  have hLV : V.length ≤ 1048576 := hok.lenV
  have hLA : (fit L).length + A.length ≤ 1048576 := by have h := hok2.lenL; rw [List.length_append] at h; exact h
  have hFA : (fit (fit L ++ A)).length ≤ 1048576 := Nat.le_trans (fit_le _) hok2.lenL
  have s1 : (w.alloc (.cells #[.string nm, .string hp, .string un, vv, cv] 31)).heap.size = w.heap.size + 1 := by simp
  have s2 : ((w.alloc (.cells #[.string nm, .string hp, .string un, vv, cv] 31)).alloc (.cells #[.string ⟨#[]⟩, .string ⟨#[]⟩, .string ⟨#[]⟩, .slice none 0 0, .slice none 0 0] 31)).heap.size = w.heap.size + 1 + 1 := by simp
  have hqb : Below w.heap.size w ((w.alloc (.cells #[.string nm, .string hp, .string un, vv, cv] 31)).alloc (.cells #[.string ⟨#[]⟩, .string ⟨#[]⟩, .string ⟨#[]⟩, .slice none 0 0, .slice none 0 0] 31)) := ((Below.refl _ _).alloc (Nat.le_refl _) _).alloc (by simp) _
  have HUp : Hid (∀ W : World, Below (w.heap.size + 1 + 1) ((w.alloc (.cells #[.string nm, .string hp, .string un, vv, cv] 31)).alloc (.cells #[.string ⟨#[]⟩, .string ⟨#[]⟩, .string ⟨#[]⟩, .slice none 0 0, .slice none 0 0] 31)) W → Below w.heap.size w W) := fun W h => hqb.trans (h.mono (by omega))
  have hc1 : ∀ j, ((w.alloc (.cells #[.string nm, .string hp, .string un, vv, cv] 31)).alloc (.cells #[.string ⟨#[]⟩, .string ⟨#[]⟩, .string ⟨#[]⟩, .slice none 0 0, .slice none 0 0] 31)).cell? ⟨w.heap.size, j, none⟩ = (#[.string nm, .string hp, .string un, vv, cv] : Array Value)[j]? := fun j => (Sl.cell_old (w.alloc (.cells #[.string nm, .string hp, .string un, vv, cv] 31)) _ _ _ (by rw [s1]; omega)).trans (Sl.cell_new w _ _ j)
  have k0 := hc1 0
  have k1 := hc1 1
  have k2 := hc1 2
  have k3 := hc1 3
  have k4 := hc1 4
  have HD : Hid (∀ W : World, Below (w.heap.size + 1 + 1) ((w.alloc (.cells #[.string nm, .string hp, .string un, vv, cv] 31)).alloc (.cells #[.string ⟨#[]⟩, .string ⟨#[]⟩, .string ⟨#[]⟩, .slice none 0 0, .slice none 0 0] 31)) W → Whole W (w.heap.size + 1) 31 #[.string ⟨#[]⟩, .string ⟨#[]⟩, .string ⟨#[]⟩, .slice none 0 0, .slice none 0 0]) := fun W h => by
    have h1 := heap_alloc_new (w.alloc (.cells #[.string nm, .string hp, .string un, vv, cv] 31)) (.cells #[.string ⟨#[]⟩, .string ⟨#[]⟩, .string ⟨#[]⟩, .slice none 0 0, .slice none 0 0] 31)
    rw [s1] at h1
    exact (h.block (w.heap.size + 1) (by omega)).trans h1
  have HDc : Hid (∀ W : World, Below (w.heap.size + 1 + 1) ((w.alloc (.cells #[.string nm, .string hp, .string un, vv, cv] 31)).alloc (.cells #[.string ⟨#[]⟩, .string ⟨#[]⟩, .string ⟨#[]⟩, .slice none 0 0, .slice none 0 0] 31)) W → W.cell? ⟨w.heap.size + 1, 0, none⟩ = some (.string ⟨#[]⟩) ∧ W.cell? ⟨w.heap.size + 1, 1, none⟩ = some (.string ⟨#[]⟩) ∧ W.cell? ⟨w.heap.size + 1, 2, none⟩ = some (.string ⟨#[]⟩) ∧ W.cell? ⟨w.heap.size + 1, 3, none⟩ = some (.slice none 0 0) ∧ W.cell? ⟨w.heap.size + 1, 4, none⟩ = some (.slice none 0 0)) := fun W h =>
    ⟨(HD.out W h).cell 0, (HD.out W h).cell 1, (HD.out W h).cell 2, (HD.out W h).cell 3, (HD.out W h).cell 4⟩
  have HDf : Hid (∀ W : World, Below (w.heap.size + 1 + 1) ((w.alloc (.cells #[.string nm, .string hp, .string un, vv, cv] 31)).alloc (.cells #[.string ⟨#[]⟩, .string ⟨#[]⟩, .string ⟨#[]⟩, .slice none 0 0, .slice none 0 0] 31)) W → ∀ j, W.frozen? ⟨w.heap.size + 1, j, none⟩ = false) := fun W h j => (HD.out W h).free j
  have HC1 : Hid (Calls Tryz.prog 43 #[.agg #[.string nm, .string hp, .string un, vv, cv]] ((w.alloc (.cells #[.string nm, .string hp, .string un, vv, cv] 31)).alloc (.cells #[.string ⟨#[]⟩, .string ⟨#[]⟩, .string ⟨#[]⟩, .slice none 0 0, .slice none 0 0] 31)) (fun e w' => ∃ d v3 c vn, e = .returned (.pointer (some ⟨d, 0, none⟩)) ∧ DescAt w' d nm hp un V (fit L) v3 c vn ∧ Below (w.heap.size + 1 + 1) ((w.alloc (.cells #[.string nm, .string hp, .string un, vv, cv] 31)).alloc (.cells #[.string ⟨#[]⟩, .string ⟨#[]⟩, .string ⟨#[]⟩, .slice none 0 0, .slice none 0 0] 31)) w')) :=
    (desc_any nm hp un V L vv cv ((w.alloc (.cells #[.string nm, .string hp, .string un, vv, cv] 31)).alloc (.cells #[.string ⟨#[]⟩, .string ⟨#[]⟩, .string ⟨#[]⟩, .slice none 0 0, .slice none 0 0] 31)) (hG.below hqb) hok (hV.below hqb) (hL.below hqb) hr).mono fun e w' ⟨d, v3, c, vn, h1, h2, h3⟩ => ⟨d, v3, c, vn, h1, h2, by rw [s2] at h3; exact h3⟩
  have HC2 : Hid (∀ W, Below (w.heap.size + 1 + 1) ((w.alloc (.cells #[.string nm, .string hp, .string un, vv, cv] 31)).alloc (.cells #[.string ⟨#[]⟩, .string ⟨#[]⟩, .string ⟨#[]⟩, .slice none 0 0, .slice none 0 0] 31)) W → Calls Tryz.prog 53 #[lv] W (fun e w' => ∃ m, e = .returned (.map m) ∧ Ms w' m A ∧ Below W.heap.size W w' ∧ Below (w.heap.size + 1 + 1) ((w.alloc (.cells #[.string nm, .string hp, .string un, vv, cv] 31)).alloc (.cells #[.string ⟨#[]⟩, .string ⟨#[]⟩, .string ⟨#[]⟩, .slice none 0 0, .slice none 0 0] 31)) w')) := fun W h =>
    (labels_any A lv W (hA.below (HUp.out W h)) (by omega) hra).mono fun e w' ⟨m, h1, h2, h3⟩ => ⟨m, h1, h2, h3, h.trans (h3.mono (by have := h.size; rw [s2] at this; exact this))⟩
  have HC3 : Hid (∀ W d v3 c vn m, Below (w.heap.size + 1 + 1) ((w.alloc (.cells #[.string nm, .string hp, .string un, vv, cv] 31)).alloc (.cells #[.string ⟨#[]⟩, .string ⟨#[]⟩, .string ⟨#[]⟩, .slice none 0 0, .slice none 0 0] 31)) W → DescAt W d nm hp un V (fit L) v3 c vn → Ms W m A → Calls Tryz.prog 52 #[.pointer (some ⟨d, 0, none⟩), .string p, .map m] W (fun e w' => ∃ d2, e = .returned (.pointer (some ⟨d2, 0, none⟩)) ∧ Below (w.heap.size + 1 + 1) ((w.alloc (.cells #[.string nm, .string hp, .string un, vv, cv] 31)).alloc (.cells #[.string ⟨#[]⟩, .string ⟨#[]⟩, .string ⟨#[]⟩, .slice none 0 0, .slice none 0 0] 31)) w' ∧
      ((¬ Clash V (fit L) A ∧ ∃ v3 c vn, DescAt w' d2 (p ++ nm) hp un V (fit (fit L ++ A)) v3 c vn) ∨ (Clash V (fit L) A ∧ ∃ a, w'.cell? ⟨d2, 7, none⟩ = some (.iface 237 (.pointer a)))))) := fun W d v3 c vn m h hd hm => by
    refine doorWrap_any d p m W _ ((wrapDesc_any d c nm hp un p V (fit L) A v3 vn m W (hG.below (HUp.out W h)) hd hm hok2 (fun q hq => hr q (fit_sub hq)) (fun q hq => hra q (fit_sub hq))).mono ?_)
    rintro e w' ⟨d2, rfl, hb, hlt, hout⟩
    exact ⟨d2, rfl, d2, rfl, h.trans (hb.mono (by have := h.size; rw [s2] at this; exact this)), hout⟩
  have HNil : Hid (∀ W : World, W.ownsRow (w.heap.size + 1 + 1) 9 1 (.slice none 0 0) 0 []) := fun W => World.ownsRow_nil _ _ _ _
  have HOneV : Hid (∀ z : ByteArray, ∀ u ∈ [Value.string z], u.oneCell' = true) := fun z => one_str z
  have HAp : Hid (∀ W v' W', Below (w.heap.size + 1 + 1) ((w.alloc (.cells #[.string nm, .string hp, .string un, vv, cv] 31)).alloc (.cells #[.string ⟨#[]⟩, .string ⟨#[]⟩, .string ⟨#[]⟩, .slice none 0 0, .slice none 0 0] 31)) W → W'.ownsRow (w.heap.size + 1 + 1) 9 1 v' (0 + V.length) ([] ++ V.flatMap fun z => [Value.string z]) → W.grownBy W' (Value.slice none 0 0).ownBlock → Below W.heap.size W W' ∧ Below (w.heap.size + 1 + 1) ((w.alloc (.cells #[.string nm, .string hp, .string un, vv, cv] 31)).alloc (.cells #[.string ⟨#[]⟩, .string ⟨#[]⟩, .string ⟨#[]⟩, .slice none 0 0, .slice none 0 0] 31)) W' ∧ W'.ownsRow (w.heap.size + 1 + 1) 9 1 v' V.length (V.map Value.string)) := fun W v' W' h ho hg => by
    have hz := h.size
    rw [s2] at hz
    have hb : Below W.heap.size W W' := (Below.refl W.heap.size W).grown hg (Nat.le_refl _) (fun j hj => by cases hj)
    have e6 : ([] ++ V.flatMap fun z => [Value.string z]) = V.map Value.string := by rw [List.nil_append]; exact flat_one V
    rw [e6, Nat.zero_add] at ho
    exact ⟨hb, h.trans (hb.mono hz), ho⟩
  have HC4 : Hid (∀ W v3 v2, Below (w.heap.size + 1 + 1) ((w.alloc (.cells #[.string nm, .string hp, .string un, vv, cv] 31)).alloc (.cells #[.string ⟨#[]⟩, .string ⟨#[]⟩, .string ⟨#[]⟩, .slice none 0 0, .slice none 0 0] 31)) W → Pairs W v3 (fit (fit L ++ A)) → W.ownsRow (w.heap.size + 1 + 1) 9 1 v2 V.length (V.map Value.string) → Calls Tryz.prog 47 #[v3] W (fun e w' => ∃ c2, e = .returned c2 ∧ Below (w.heap.size + 1 + 1) ((w.alloc (.cells #[.string nm, .string hp, .string un, vv, cv] 31)).alloc (.cells #[.string ⟨#[]⟩, .string ⟨#[]⟩, .string ⟨#[]⟩, .slice none 0 0, .slice none 0 0] 31)) w' ∧ w'.ownsRow (w.heap.size + 1 + 1) 9 1 v2 V.length (V.map Value.string) ∧ w'.ownsRow (w.heap.size + 1 + 1) 102 2 c2 (fit (fit L ++ A)).length ((fit (fit L ++ A)).flatMap pc))) := fun W v3 v2 h hp h2 =>
    (pairs_own (fit (fit L ++ A)) v3 W hp (by omega)).mono fun e w' ⟨c2, h3, h4, h5⟩ => by
      have hz := h.size
      rw [s2] at hz
      exact ⟨c2, h3, h.trans (h5.mono hz), own_below h2 h5, own_base h4 hz⟩
  have HFn : Hid (∀ v2 c2 W u0 u1 u2 u3 u4, ¬ Clash V (fit L) A → Below (w.heap.size + 1 + 1) ((w.alloc (.cells #[.string nm, .string hp, .string un, vv, cv] 31)).alloc (.cells #[.string ⟨#[]⟩, .string ⟨#[]⟩, .string ⟨#[]⟩, .slice none 0 0, .slice none 0 0] 31)) W ∧ W.ownsRow (w.heap.size + 1 + 1) 9 1 v2 V.length (V.map Value.string) ∧ W.ownsRow (w.heap.size + 1 + 1) 102 2 c2 (fit (fit L ++ A)).length ((fit (fit L ++ A)).flatMap pc) →
      WMOut (p ++ nm) hp un V (fit L) A w (.returned (.tuple #[.agg #[.string (p ++ nm), .string hp, .string un, v2, c2], .bool true])) (((((W.setCell ⟨w.heap.size + 1, 0, none⟩ u0).setCell ⟨w.heap.size + 1, 1, none⟩ u1).setCell ⟨w.heap.size + 1, 2, none⟩ u2).setCell ⟨w.heap.size + 1, 3, none⟩ u3).setCell ⟨w.heap.size + 1, 4, none⟩ u4)) := fun v2 c2 W u0 u1 u2 u3 u4 hn ⟨hb, h2, h3⟩ => by
    have l1 : w.heap.size + 1 < w.heap.size + 1 + 1 := by omega
    have l2 : w.heap.size ≤ w.heap.size + 1 := by omega
    exact ⟨(((((HUp.out W hb).setCell l2 _).setCell l2 _).setCell l2 _).setCell l2 _).setCell l2 _, Or.inl ⟨hn, v2, c2, rfl, own_base (own_set (own_set (own_set (own_set (own_set h2 l1) l1) l1) l1) l1) (by omega), own_base (own_set (own_set (own_set (own_set (own_set h3 l1) l1) l1) l1) l1) (by omega)⟩⟩
  have HFe : Hid (∀ W u0 u1 u2 u3 u4, Clash V (fit L) A → Below (w.heap.size + 1 + 1) ((w.alloc (.cells #[.string nm, .string hp, .string un, vv, cv] 31)).alloc (.cells #[.string ⟨#[]⟩, .string ⟨#[]⟩, .string ⟨#[]⟩, .slice none 0 0, .slice none 0 0] 31)) W → WMOut (p ++ nm) hp un V (fit L) A w (.returned (.tuple #[.agg #[.string ⟨#[]⟩, .string ⟨#[]⟩, .string ⟨#[]⟩, .slice none 0 0, .slice none 0 0], .bool false])) (((((W.setCell ⟨w.heap.size + 1, 0, none⟩ u0).setCell ⟨w.heap.size + 1, 1, none⟩ u1).setCell ⟨w.heap.size + 1, 2, none⟩ u2).setCell ⟨w.heap.size + 1, 3, none⟩ u3).setCell ⟨w.heap.size + 1, 4, none⟩ u4)) := fun W u0 u1 u2 u3 u4 hn hb => by
    have l2 : w.heap.size ≤ w.heap.size + 1 := by omega
    exact ⟨(((((HUp.out W hb).setCell l2 _).setCell l2 _).setCell l2 _).setCell l2 _).setCell l2 _, Or.inr ⟨hn, rfl⟩⟩
  clear hG hok hok2 hV hL hr hA hra hqb hc1 s1 s2
  go_enter Tryz.func25, Tryz.ntmps25
  go_upto_region 2 with (first
    | (go_at_call 43; refine HC1.out.mono ?_; rintro e W1 ⟨d, v3, c, vn, rfl, hd, hb1⟩; have HD1 := Lib.hid hd; have HB1 := Lib.hid hb1; clear hd hb1)
    | (go_at_call 53; refine (HC2.out W1 HB1.out).mono ?_; rintro e W2 ⟨m, rfl, hm, hb2, hb3⟩; have HM2 := Lib.hid hm; have HD2 := Lib.hid (HD1.out.below hb2); have HB2 := Lib.hid hb3; clear hm hb2 hb3)
    | (go_at_call 52; refine (HC3.out W2 d v3 c vn m HB2.out HD2.out HM2.out).mono ?_; rintro e W3 ⟨d2, rfl, hb3, hout⟩; have HB3 := Lib.hid hb3; have HOut := Lib.hid hout; clear hb3 hout))
  have ho := HOut.out
  clear HC1 HC2 HC3 HD1 HD2 HM2 HB1 HB2 HOut k0 k1 k2 k3 k4
  rcases ho with ⟨hn, v5, c5, vn5, hd5⟩ | ⟨hn, a5, h7⟩
  · have HN := Lib.hid hn
    have C7 := Lib.hid (errAt_any d2 _ W3 hd5.c7)
    have C8 := Lib.hid (parts_any d2 c5 (p ++ nm) hp un V (fit (fit L ++ A)) v5 vn5 W3 hd5)
    have HNm : Hid (∀ q, Ss.Of 1 (fun z => [Value.string z]) (W3.drewN q) vn5 V) := fun q => (sl_ss hd5.names).below (bdr (Below.refl _ _) q)
    have HPr : Hid (∀ q W, Below (W3.drewN q).heap.size (W3.drewN q) W → Pairs W v5 (fit (fit L ++ A))) := fun q W h => (hd5.pairs.below (bdr (Below.refl _ _) q)).below h
    have HBd : Hid (∀ q, Below (w.heap.size + 1 + 1) ((w.alloc (.cells #[.string nm, .string hp, .string un, vv, cv] 31)).alloc (.cells #[.string ⟨#[]⟩, .string ⟨#[]⟩, .string ⟨#[]⟩, .slice none 0 0, .slice none 0 0] 31)) (W3.drewN q)) := fun q => bdr HB3.out q
    have HSz : Hid (∀ q, (w.heap.size + 1 + 1) ≤ (W3.drewN q).heap.size) := fun q => by have h := (HBd.out q).size; simp at h; exact h
    clear hn hd5
    go_wp2_with (first
      | (go_at_call 44; refine C7.out.mono ?_; rintro e w' ⟨rfl, rfl⟩)
      | (go_at_call 54; refine C8.out.mono ?_; rintro e w' ⟨rfl, q, rfl⟩)
      | (at_builtin; refine append_of rfl _ _ 22 rfl (w.heap.size + 1 + 1) 9 i0 (.string ByteArray.empty) 1 16 Tryz.underlying22 hi hz0 hz1 hz2 rfl (by decide) _ 0 [] rfl (HNil.out _) (c := fun z => [Value.string z]) (fun _ => rfl) HOneV.out V vn5 rfl (HNm.out q) (by unfold maxLen; omega) (by omega) (HSz.out q) ?_; intro v2 W4 ho4 hg4 hl4; obtain ⟨a2, q2, rfl⟩ := row_slice2 ho4; have HA4 := Lib.hid (HAp.out _ _ W4 (HBd.out q) ho4 hg4); have HP4 := Lib.hid (HPr.out q W4 HA4.out.1); clear ho4 hg4 hl4)
      | (go_at_call 47; refine (HC4.out W4 v5 _ HA4.out.2.1 HP4.out HA4.out.2.2).mono ?_; rintro e W5 ⟨c2, rfl, hb5, ho5, ho6⟩; obtain ⟨a6, q6, rfl⟩ := row_slice2 ho6; obtain ⟨m0, m1, m2, m3, m4⟩ := HDc.out W5 hb5; have n0 := HDf.out W5 hb5 0; have n1 := HDf.out W5 hb5 1; have n2 := HDf.out W5 hb5 2; have n3 := HDf.out W5 hb5 3; have n4 := HDf.out W5 hb5 4; have HE := Lib.hid (And.intro hb5 (And.intro ho5 ho6)); clear hb5 ho5 ho6))
    have HE2 := HE.out
    try rw [Nat.zero_add] at HE2
    refine bodyPost_ret (v := .tuple #[.agg #[.string (p ++ nm), .string hp, .string un, .slice a2 V.length q2, .slice a6 (fit (fit L ++ A)).length q6], .bool true]) (by simp [results, Tryz.results25, go_sem, m0, m1, m2, m3, m4]) rfl ?_
    exact HFn.out _ _ _ _ _ _ _ _ HN.out HE2
  · have HN := Lib.hid hn
    have C7 := Lib.hid (errAt_any d2 _ W3 h7)
    obtain ⟨m0, m1, m2, m3, m4⟩ := HDc.out W3 HB3.out
    have n0 := HDf.out W3 HB3.out 0
    have n1 := HDf.out W3 HB3.out 1
    have n2 := HDf.out W3 HB3.out 2
    have n3 := HDf.out W3 HB3.out 3
    have n4 := HDf.out W3 HB3.out 4
    clear hn h7
    go_wp2_with (go_at_call 44; refine C7.out.mono ?_; rintro e w' ⟨rfl, rfl⟩)
    refine bodyPost_ret (v := .tuple #[.agg #[.string ⟨#[]⟩, .string ⟨#[]⟩, .string ⟨#[]⟩, .slice none 0 0, .slice none 0 0], .bool false]) (by simp [results, Tryz.results25, go_sem, m0, m1, m2, m3, m4]) rfl ?_
    exact HFe.out _ _ _ _ _ _ HN.out HB3.out

end Go.Proofs.YtfcpapbokefdmaaGreatDoor.Nd
