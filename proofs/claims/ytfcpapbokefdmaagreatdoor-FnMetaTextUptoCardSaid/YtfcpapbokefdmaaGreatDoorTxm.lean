/- A descriptor's text: impl.MetaText; texts are equal just if all parts are. -/
import Derived.Test.YtfcpapbokefdmaaGreatDoorTxs
import Derived.Test.YtfcpapbokefdmaaGreatDoorNsi
import Derived.Test.YtfcpapbokefdmaaGreatDoorNsc
set_option linter.unusedVariables false
set_option linter.unusedSimpArgs false
namespace Go.Proofs.YtfcpapbokefdmaaGreatDoor.Tx
open Go.RowKit Go.Maps Go.WideMaps Go.ChangeShapes Go.WideShapes Go.Deep Fp Obs _root_.Go.Proofs.YtfcpapbokefdmaaGreatDoor.Nd

theorem jn_len : ∀ l : List L8, (jn l).length ≤ (l.map fun a => a.length + 1).sum
  | [] => Nat.le_refl _
  | [a] => by simp [jn]
  | a :: b :: r => by
    have h := jn_len (b :: r)
    simp only [jn, List.length_append, List.length_cons, List.map_cons, List.sum_cons] at h ⊢
    omega
theorem dl_len (s : ByteArray) : (dl s).length = s.size := by unfold dl; exact (Lib.size_eq s).symm
theorem jn_names (V : List ByteArray) : (jn (V.map dl)).length ≤ wt V := by
  refine Nat.le_trans (jn_len _) ?_
  unfold wt
  rw [List.map_map]
  have e : V.map ((fun a : L8 => a.length + 1) ∘ dl) = V.map fun x => x.size + 1 := List.map_congr_left fun x _ => by show (dl x).length + 1 = _; rw [dl_len]
  rw [e]
  exact Nat.le_refl _
theorem jn_pairs (F : List P2) : (jn ((F.map ptB).map dl)).length ≤ 2 * wp F := by
  refine Nat.le_trans (jn_len _) ?_
  rw [List.map_map, List.map_map]
  induction F with
  | nil => exact Nat.zero_le _
  | cons p F ih =>
    rw [wp_cons, List.map_cons, List.sum_cons]
    have h : (dl (ptB p)).length ≤ p.1.size + 1 + (2 * p.2.size + 2) := by
      have e : dl (ptB p) = pt (dl p.1, dl p.2) := by simp [ptB, mkB, dl]
      rw [e]
      have h2 := esc_len (dl p.2)
      rw [dl_len] at h2
      simp only [pt, qz, List.length_append, List.length_cons, List.length_nil, dl_len]
      omega
    simp only [Function.comp] at ih ⊢
    omega
abbrev textB (nm hp : ByteArray) (V : List ByteArray) (F : List P2) : ByteArray := mkB (text (dl nm) (dl hp) (F.map fun p => (dl p.1, dl p.2)) (V.map dl))
def MtOut (nm hp : ByteArray) (V : List ByteArray) (L : List P2) (w : World) (e : Ending) (w' : World) : Prop :=
  e = .returned (.string (textB nm hp V (fit L))) ∧ Below w.heap.size w w'
theorem empty_of {un : ByteArray} (h : un.toList.isEmpty = true) : un = ⟨#[]⟩ := by
  have h1 : un.data.toList = [] := by rw [← Lib.toList_data]; exact List.isEmpty_iff.1 h
  obtain ⟨⟨x⟩⟩ := un
  simp at h1
  rw [h1]
/-! names, as the text needs them -/
theorem plain_ascii {s : ByteArray} (h : plainB s = true) : asciiB s = true ∧ NameS (dl s) := by
  obtain ⟨h1, h2, h3⟩ := plainB_iff.1 h
  have key : ∀ c ∈ dl s, (97 ≤ c.toNat ∧ c.toNat ≤ 122 ∨ 65 ≤ c.toNat ∧ c.toNat ≤ 90 ∨ c.toNat = 95 ∨ 48 ≤ c.toNat ∧ c.toNat ≤ 57) := by
    intro c hc
    obtain ⟨j, hj, rfl⟩ := List.getElem_of_mem hc
    have hj2 : j < s.size := by rw [dl_len] at hj; exact hj
    have e := dl_get s j hj2
    rw [List.getElem?_eq_getElem hj] at e
    injection e with e
    have h4 := h1 j hj2
    unfold plainC at h4
    rw [decide_eq_true_eq] at h4
    rw [e]
    rcases h4 with h | h | h | h
    · exact Or.inl h
    · exact Or.inr (Or.inl h)
    · exact Or.inr (Or.inr (Or.inl h))
    · exact Or.inr (Or.inr (Or.inr h.2))
  refine ⟨?_, ?_, fun u hu => ?_⟩
  · unfold asciiB
    rw [List.all_eq_true]
    intro c hc
    have := key c hc
    unfold printable
    rw [Bool.and_eq_true, decide_eq_true_eq, decide_eq_true_eq]
    omega
  · intro e
    have := dl_len s
    rw [e] at this
    simp at this
    omega
  · have := key u hu
    refine ⟨?_, ?_, ?_⟩ <;> (rintro rfl; simp at this)
set_option maxHeartbeats 4000000 in
set_option maxRecDepth 100000 in
theorem metaText_any (nm hp : ByteArray) (V : List ByteArray) (L : List P2) (vv cv : Value) (w : World) (hG : GlobQ w) (hok : NewOk nm hp ⟨#[]⟩ V L) (hs : Small nm hp ⟨#[]⟩ V L) (hsay : SayP nm hp ⟨#[]⟩ V L) (hV : Sl.Of Value.string w vv V) (hL : Ss.Of 2 pc w cv L) :
    Calls Tryz.prog 29 #[.agg #[.string nm, .string hp, .string ⟨#[]⟩, vv, cv]] w (MtOut nm hp V L w) := by
  have hall := hs.all
  have hwf := fit_wp L
  have hb0 : Below w.heap.size w (w.alloc (.cells #[.string nm, .string hp, .string ⟨#[]⟩, vv, cv] 31)) := (Below.refl _ _).alloc (Nat.le_refl _) _
  have CD := Lib.hid (desc_any nm hp ⟨#[]⟩ V L vv cv _ (hG.glob.below hb0) hok (hV.below hb0) (hL.below hb0) (fun p hp => by have := mem_wp hp; omega))
  have hjn : (jn (((fit L).map ptB).map dl)).length ≤ 140737488355328 ∧ (jn (V.map dl)).length ≤ 140737488355328 := ⟨by have := jn_pairs (fit L); omega, by have := jn_names V; omega⟩
  have hFa : ∀ p ∈ fit L, asciiB p.2 = true ∧ p.1.size ≤ 1073741824 ∧ p.2.size ≤ 1073741824 := fun p hp => by
    obtain ⟨k, hk, rfl⟩ := List.getElem_of_mem hp
    have h1 := hsay.vals k hk
    have h2 := mem_wp (List.getElem_mem hk)
    exact ⟨h1, by omega, by omega⟩
  have hplain : asciiB nm = true := (plain_ascii hsay.nm).1
  have CS : Hid (∀ (W : World) d v3 c vn, Below w.heap.size w W → DescAt W d nm hp ⟨#[]⟩ V (fit L) v3 c vn → Calls Tryz.prog 56 #[.pointer (some ⟨d, 0, none⟩)] W (StrOut nm hp V (fit L) W)) := fun W d v3 c vn h hd =>
    string_any d c nm hp ⟨#[]⟩ V (fit L) v3 vn W (hG.below h) hd hok.lenV (by have := fit_le L; have := hok.lenL; omega) ⟨hplain, by omega⟩ ⟨hsay.hp, by omega⟩ rfl (fun v hv => by have := mem_wt hv; unfold maxLen; omega) hjn hFa
  have HB0 := Lib.hid hb0
  clear hG hok hs hsay hV hL hb0 hjn hFa hplain
  go_enter Tryz.func29, Tryz.ntmps29
  go_wp2_with fail
  refine CD.out.mono ?_
  rintro e w1 ⟨d, v3, c, vn, rfl, hd, hb1⟩
  have hb2 := HB0.out.trans (hb1.mono HB0.out.size)
  have CE := Lib.hid (CS.out w1 d v3 c vn hb2 hd)
  have HB1 := Lib.hid hb2
  clear hd hb1 hb2
  go_wp2_with fail
  refine CE.out.mono ?_
  rintro e w2 ⟨rfl, hb3⟩
  have HO : Hid (MtOut nm hp V L w (.returned (.string (textB nm hp V (fit L)))) w2) := ⟨rfl, HB1.out.trans (hb3.mono HB1.out.size)⟩
  clear hb3
  go_wp2_with fail
  go_ret
  exact HO.out

theorem names_of {nm hp un : ByteArray} {V : List ByteArray} {L : List P2} (h : SayP nm hp un V L) : (∀ p ∈ fit L, NameS (dl p.1)) ∧ ∀ v ∈ V, NameS (dl v) := by
  have key : ∀ x ∈ namesOf V L, NameS (dl x) := fun x hx => by
    obtain ⟨k, hk, rfl⟩ := List.getElem_of_mem hx
    have h1 := h.names k hk
    unfold nameB at h1
    simp only [Bool.and_eq_true] at h1
    exact (plain_ascii h1.1.1.1).2
  exact ⟨fun p hp => key p.1 (List.mem_append.2 (Or.inr (List.mem_map.2 ⟨p, hp, rfl⟩))), fun v hv => key v (List.mem_append.2 (Or.inl hv))⟩
theorem map_inj {α β : Type} {f : α → β} (hf : ∀ a b, f a = f b → a = b) : ∀ l m : List α, l.map f = m.map f → l = m
  | [], [], _ => rfl
  | [], _ :: _, h => by simp at h
  | _ :: _, [], h => by simp at h
  | a :: l, b :: m, h => by
    simp only [List.map_cons, List.cons.injEq] at h
    rw [hf a b h.1, map_inj hf l m h.2]
theorem dl_inj {a b : ByteArray} (h : dl a = dl b) : a = b := ByteArray.ext (Array.ext' h)
/-- the texts are equal just if the parts are -/
theorem textB_iff {nm hp nm2 hp2 : ByteArray} {V V2 : List ByteArray} {L L2 : List P2} (h : SayP nm hp ⟨#[]⟩ V L) (h2 : SayP nm2 hp2 ⟨#[]⟩ V2 L2) : textB nm hp V (fit L) = textB nm2 hp2 V2 (fit L2) ↔ nm = nm2 ∧ hp = hp2 ∧ V = V2 ∧ fit L = fit L2 := by
  constructor
  · intro e
    have e2 : text (dl nm) (dl hp) ((fit L).map fun p => (dl p.1, dl p.2)) (V.map dl) = text (dl nm2) (dl hp2) ((fit L2).map fun p => (dl p.1, dl p.2)) (V2.map dl) := by
      have e3 := congrArg (fun b : ByteArray => b.data.toList) e
      simpa [textB, mkB] using e3
    have n1 := names_of h
    have n2 := names_of h2
    obtain ⟨g1, g2, g3, g4⟩ := text_inj (fun p hp => by obtain ⟨q, hq, rfl⟩ := List.mem_map.1 hp; exact n1.1 q hq) (fun p hp => by obtain ⟨q, hq, rfl⟩ := List.mem_map.1 hp; exact n2.1 q hq) (fun v hv => by obtain ⟨q, hq, rfl⟩ := List.mem_map.1 hv; exact n1.2 q hq) (fun v hv => by obtain ⟨q, hq, rfl⟩ := List.mem_map.1 hv; exact n2.2 q hq) e2
    refine ⟨dl_inj g1, dl_inj g2, ?_, ?_⟩
    · exact map_inj (fun a b h => dl_inj h) _ _ g4
    · refine map_inj (fun a b h => ?_) _ _ g3
      simp only [Prod.mk.injEq] at h
      exact Prod.ext (dl_inj h.1) (dl_inj h.2)
  · rintro ⟨rfl, rfl, rfl, h⟩
    rw [textB, textB, h]
end Go.Proofs.YtfcpapbokefdmaaGreatDoor.Tx
