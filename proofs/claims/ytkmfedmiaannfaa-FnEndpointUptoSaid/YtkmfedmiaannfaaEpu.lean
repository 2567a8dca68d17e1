/- Endpoints: a map of the arguments' values; the address walked. -/
import Derived.Test.YtkmfedmiaannfaaEpe
import Derived.Test.YtkmfedmiaannfaaEpc
import Derived.Test.YtkmfedmiaannfaaShEp
import Derived.Maps.Own
import Derived.Maps.OwnSet
import Derived.Maps.StringElems
import Derived.Lib.CleanLen
set_option linter.unusedVariables false
set_option linter.unusedSimpArgs false
namespace Go.Proofs.Ytkmfedmiaannfaa.Ep
open Go.RowKit Go.Maps Go.WideMaps Go.ChangeShapes Go.WideShapes Go.Deep Fp

def sl (s : ByteArray) : Lit := .string s.data.toList
theorem sl_inj {s t : ByteArray} (h : sl s = sl t) : s = t := by
  unfold sl at h
  injection h with h
  rw [← mk_data s, ← mk_data t, h]
theorem key_lit (s : ByteArray) : WideAt.IsKeyLit (sl s) := by unfold sl; trivial
theorem lawS : Keyed Try.prog 9 := string_keyed Try.underlying9
theorem zeroStr (w : World) : (zeroValue 9).run Try.prog w = .ok (.string ByteArray.empty) w := by kernel_rfl

/-- the map in block b holds the values of the names in L -/
def Mp (w : World) (b : Nat) (L : List P2) : Prop :=
  ∃ (k : Nat) (D : DataW Unit), k ≤ L.length ∧ w.ownsMap Try.prog 9 (plainElem Try.prog 9) b k D ∧
    ∀ s z, D.atKey (sl s) z = (match lastv L s with | some v => .lit (sl v) | none => z)
theorem Mp.kept {w w' : World} {b : Nat} {L : List P2} {r : Option Nat} (h : Mp w b L) (k : w.grownBy w' r) (hb : some b ≠ r) : Mp w' b L := by
  obtain ⟨n, D, h1, h2, h3⟩ := h
  exact ⟨n, D, h1, h2.kept k hb, h3⟩
theorem Mp.made (w : World) : Mp (w.alloc (.map #[] 0)) w.heap.size [] := ⟨0, .map [], Nat.le_refl _, World.ownsMap_made _ _ _ _, fun s z => rfl⟩
theorem Mp.lt {w : World} {b : Nat} {L : List P2} (h : Mp w b L) : b < w.heap.size := by
  obtain ⟨n, D, h1, h2, h3⟩ := h
  exact h2.lt
theorem Mp.below {w w' : World} {b : Nat} {L : List P2} (h : Mp w b L) (k : Below w.heap.size w w') : Mp w' b L :=
  h.kept (r := none) ⟨k.os, k.tape, k.output, k.size, fun i hi _ => k.block i hi⟩ (by simp)
theorem Mp.next {w wy : World} {b n : Nat} {L : List P2} {D : DataW Unit} {p : P2} (hn : n ≤ L.length) (hown : w.ownsMap Try.prog 9 (plainElem Try.prog 9) b n D)
    (hat : ∀ s z, D.atKey (sl s) z = (match lastv L s with | some v => .lit (sl v) | none => z))
    (ho : wy.ownsMap Try.prog 9 (plainElem Try.prog 9) b (n + 1) (D.put (sl p.1) (.lit (sl p.2)))) : Mp wy b (L ++ [p]) := by
  refine ⟨n + 1, _, by simp; omega, ho, fun s z => ?_⟩
  rw [lastv_snoc]
  by_cases e : eqS p.1 s = true
  · rw [if_pos e]
    have := (eqS_iff _ _).1 e
    subst this
    rw [atKey_put_same hown.isMap (key_lit p.1)]
  · rw [if_neg e, atKey_put_other (fun e2 => e ((eqS_iff _ _).2 (sl_inj e2).symm)), hat s z]
set_option maxRecDepth 100000 in
theorem look_run {w : World} {b : Nat} {L : List P2} (h : Mp w b L) (s : ByteArray) (hs : s.size ≤ maxLen) :
    (Instr.lookup 108 (.map (some b)) (.string s) true).run Try.prog w = .ok (match lastv L s with | some v => .tuple #[.string v, .bool true] | none => .tuple #[.string ByteArray.empty, .bool false]) w := by
  obtain ⟨n, D, _, ⟨es, clock, hb, F, _, hD⟩, hat⟩ := h
  rcases Maps.fit_look true lawS Try.underlying108 (zeroStr w) hb F (keyOf_string_mk Try.underlying9 (s := s) hs) with ⟨hrun, _, h3⟩ | ⟨e0, y, hm, hk, hrun, hR, h3, _⟩
  · have h4 := hat s .nil
    rw [hD] at h4
    have h5 := h3 DataW.nil
    change _ = _ at h5
    cases hl : lastv L s with
    | none => rw [hrun]; rfl
    | some v =>
      rw [hl] at h4
      exact absurd (h4.symm.trans h5) (by intro e; cases e)
  · have h4 := hat s .nil
    rw [hD] at h4
    have h5 := h3 DataW.nil
    obtain ⟨s2, e1, e2, _⟩ := plainElem_string_inv Try.underlying9 hR
    rw [e2] at h5
    cases hl : lastv L s with
    | none =>
      rw [hl] at h4
      exact absurd (h4.symm.trans h5) (by intro e; cases e)
    | some v =>
      rw [hl] at h4
      have h6 := h4.symm.trans h5
      injection h6 with h6
      rw [hrun, e1]
      have : v = s2 := sl_inj h6
      rw [this]; rfl

/-! the components -/
theorem inter_len {M : Nat} : ∀ L : List (List UInt8), (∀ l ∈ L, l.length ≤ M) → (([47] : List UInt8).intercalate L).length ≤ L.length * (M + 1)
  | [], _ => by simp [List.intercalate]
  | [x], h => by
    have := h x (by simp)
    simp [List.intercalate]; omega
  | x :: y :: L, h => by
    have h1 := h x (by simp)
    have ih := inter_len (y :: L) (fun l hl => h l (List.mem_cons_of_mem _ hl))
    rw [Lib.Pa.J_cons, List.length_append, List.length_cons, List.length_cons, Nat.succ_mul]
    omega
theorem els_le : ∀ (l : List UInt8), ∀ e ∈ Lib.Pa.els l, e.length ≤ l.length
  | [], e, h => by simp [Lib.Pa.els] at h; rw [h]; simp
  | c :: r, e, h => by
    by_cases hc : c = 47
    · subst hc
      rw [Lib.Pa.els, if_pos rfl] at h
      rcases List.mem_cons.1 h with h | h
      · rw [h]; simp
      · have := els_le r e h; simp; omega
    · obtain ⟨x, y, e1, e2⟩ := els_cons c r hc
      rw [e2] at h
      have hr := els_le r
      rw [e1] at hr
      rcases List.mem_cons.1 h with h | h
      · have := hr x (by simp)
        rw [h]; simp; omega
      · have := hr e (List.mem_cons_of_mem _ h); simp; omega
theorem lastv_mem {L : List P2} {s v : ByteArray} : lastv L s = some v → ∃ p ∈ L, p.2 = v := by
  have gen : ∀ (k : Nat) (L : List P2), L.length = k → lastv L s = some v → ∃ p ∈ L, p.2 = v := by
    intro k
    induction k with
    | zero => intro L h h2; rw [List.length_eq_zero_iff.1 h] at h2; cases h2
    | succ k ih =>
      intro L h h2
      have hne : L ≠ [] := by intro e; rw [e] at h; simp at h
      obtain ⟨D, p, rfl⟩ : ∃ D p, L = D ++ [p] := ⟨L.dropLast, L.getLast hne, (List.dropLast_concat_getLast hne).symm⟩
      rw [lastv_snoc] at h2
      split at h2
      · injection h2 with h2
        exact ⟨p, by simp, h2⟩
      · obtain ⟨q, hq, e⟩ := ih D (by simp at h; exact h) h2
        exact ⟨q, by simp [hq], e⟩
  exact gen _ L rfl
theorem put_len {L : List P2} (hL : ∀ p ∈ L, p.2.size ≤ 1048576) {M : Nat} (hM : 1048576 ≤ M) (c : List UInt8) (hc : c.length ≤ M) : (put L c).length ≤ M := by
  unfold put
  split
  · split
    · rename_i v hv
      obtain ⟨p, hp, e⟩ := lastv_mem hv
      have := hL p hp
      rw [e, Lib.size_eq] at this
      omega
    · exact hc
  · exact hc
/-- the components, the first k of them replaced -/
def cur (L : List P2) (cs : List (List UInt8)) (k : Nat) : List (List UInt8) := (cs.take k).map (put L) ++ cs.drop k
theorem cur_len (L : List P2) (cs : List (List UInt8)) (k : Nat) : (cur L cs k).length = cs.length := by
  unfold cur; simp; omega
theorem cur_at {L : List P2} {cs : List (List UInt8)} {k : Nat} (h : k < cs.length) : (cur L cs k)[k]? = some cs[k] := by
  unfold cur
  rw [List.getElem?_append_right (by simp; omega)]
  simp [Nat.min_eq_left (Nat.le_of_lt h), h]
theorem cur_set {L : List P2} {cs : List (List UInt8)} {k : Nat} (h : k < cs.length) : (cur L cs k).set k (put L cs[k]) = cur L cs (k + 1) := by
  unfold cur
  rw [List.set_append_right _ _ (by simp; omega), List.take_succ_eq_append_getElem h, List.map_append, List.append_assoc]
  congr 1
  rw [show k - ((cs.take k).map (put L)).length = 0 by simp; omega, List.drop_eq_getElem_cons h]
  rfl
theorem cur_keep {L : List P2} {cs : List (List UInt8)} {k : Nat} (h : k < cs.length) (hp : put L cs[k] = cs[k]) : cur L cs k = cur L cs (k + 1) := by
  unfold cur
  rw [List.take_succ_eq_append_getElem h, List.map_append, List.append_assoc]
  congr 1
  rw [List.drop_eq_getElem_cons h]
  show _ = [put L cs[k]] ++ _
  rw [hp]
  rfl

def strs (L : List (List UInt8)) : List Value := L.map fun l => .string (mk l)
/-- the walk's state -/
def UrlS (L : List P2) (b : Nat) (cs : List (List UInt8)) (B gb cap k : Nat) (w wr : World) : Prop :=
  wr.ownsRow B 9 1 (.slice (some ⟨gb, 0, none⟩) cs.length cap) cs.length (strs (cur L cs k)) ∧ Mp wr b L ∧ Below B w wr
theorem row_addr {w : World} {B n : Nat} {v : Value} {cells : List Value} (h : w.ownsRow B 9 1 v n cells) (hn : 0 < n) : ∃ gb cap, v = .slice (some ⟨gb, 0, none⟩) n cap ∧ B ≤ gb := by
  rcases h.2 with ⟨rfl, h0⟩ | ⟨g', cap', cur, rfl, hb, _⟩
  · omega
  · exact ⟨g', cap', rfl, hb⟩
theorem UrlS.cell {L : List P2} {b : Nat} {cs : List (List UInt8)} {B gb cap k : Nat} {w wr : World} (h : UrlS L b cs B gb cap k w wr) (hk : k < cs.length) : wr.cell? ⟨gb, k, none⟩ = some (.string (mk cs[k])) := by
  have hof : Sl.Of Value.string wr (.slice (some ⟨gb, 0, none⟩) cs.length cap) ((cur L cs k).map mk) := by
    refine Sl.Of.own (B := B) (e := 9) ?_
    have := h.1
    rw [List.length_map, cur_len, List.map_map]
    exact this
  have hk2 : k < ((cur L cs k).map mk).length := by rw [List.length_map, cur_len]; exact hk
  rcases hof with ⟨h0, _⟩ | ⟨b2, off, cap2, e, _, _, _, _, hcell⟩
  · rw [h0] at hk2; simp at hk2
  · injection e with e1 e2 e3
    injection e1 with e1
    injection e1 with e1 e4 _
    have := hcell k hk2
    rw [← e1, ← e4, Nat.zero_add] at this
    rw [this]
    congr 2
    rw [List.getElem_map]
    congr 1
    have h2 := cur_at (L := L) hk
    rw [List.getElem?_eq_getElem (by rw [cur_len]; exact hk)] at h2
    injection h2
theorem UrlS.keep {L : List P2} {b : Nat} {cs : List (List UInt8)} {B gb cap k : Nat} {w wr : World} (h : UrlS L b cs B gb cap k w wr) (hk : k < cs.length) (hp : put L cs[k] = cs[k]) : UrlS L b cs B gb cap (k + 1) w wr := by
  refine ⟨?_, h.2.1, h.2.2⟩
  rw [← cur_keep hk hp]
  exact h.1
theorem UrlS.store {L : List P2} {b : Nat} {cs : List (List UInt8)} {B gb cap k : Nat} {w wr : World} {v : ByteArray} (h : UrlS L b cs B gb cap k w wr) (hk : k < cs.length) (hB : B ≤ gb) (hBw : B ≤ w.heap.size) (hb : b < B) (hp : put L cs[k] = v.data.toList) : UrlS L b cs B gb cap (k + 1) w (wr.setCell ⟨gb, k, none⟩ (.string v)) := by
  obtain ⟨h1, h2⟩ := h.1.stored k (.string v)
  refine ⟨?_, h.2.1.kept h2 (by intro e; injection e with e; omega), h.2.2.grown h2 (Nat.le_trans hBw h.2.2.size) (fun j hj => by injection hj with hj; omega)⟩
  have e : strs (cur L cs (k + 1)) = (strs (cur L cs k)).set k (.string v) := by
    rw [← cur_set hk, hp]
    unfold strs
    rw [List.map_set, mk_data]
  rw [e]
  exact h1

theorem pre_no {L : List P2} {c : List UInt8} (h : Lib.hasPrefix (mk c).data.toList [58] = false) : put L c = c := by
  rw [data_mk] at h
  unfold put
  split
  · rename_i t
    simp [Lib.hasPrefix] at h
  · rfl
theorem pre_yes {L : List P2} {c : List UInt8} (h : Lib.hasPrefix (mk c).data.toList [58] = true) : 1 ≤ (mk c).size ∧ (∀ v, lastv L ((mk c).extract 1 (mk c).size) = some v → put L c = v.data.toList) ∧ (lastv L ((mk c).extract 1 (mk c).size) = none → put L c = c) := by
  rw [data_mk] at h
  cases c with
  | nil => simp [Lib.hasPrefix] at h
  | cons a t =>
    have ha : a = 58 := by
      simp [Lib.hasPrefix] at h
      exact h.symm
    subst ha
    have e : (mk (58 :: t)).extract 1 (mk (58 :: t)).size = mk t := by
      rw [← mk_data ((mk (58 :: t)).extract 1 (mk (58 :: t)).size)]
      congr 1
      rw [ByteArray.data_extract, Array.toList_extract]
      show ((mk (58 :: t)).data.toList.drop 1).take ((mk (58 :: t)).size - 1) = t
      rw [data_mk, size_mk]
      simp
    rw [e]
    refine ⟨by rw [size_mk]; simp, fun v hv => ?_, fun hv => ?_⟩
    · show (match lastv L (mk t) with | some v => v.data.toList | none => _) = _
      rw [hv]
    · show (match lastv L (mk t) with | some v => v.data.toList | none => _) = _
      rw [hv]
theorem cell_new (w : World) (cs : Array Value) (T : TypeId) (j : Nat) : (w.alloc (.cells cs T)).cell? ⟨w.heap.size, j, none⟩ = cs[j]? := Sl.cell_new w cs T j
def UrlOut (L : List P2) (endp ep : ByteArray) (w : World) (e : Ending) (w' : World) : Prop :=
  e = .returned (.string (mk (([47] : List UInt8).intercalate ((Lib.Pa.els (Lib.Pa.join [endp.data.toList, ep.data.toList])).map (put L))))) ∧ Below w.heap.size w w'

set_option maxHeartbeats 8000000 in
set_option maxRecDepth 100000 in
theorem url_any (L : List P2) (b g : Nat) (endp ep : ByteArray) (w : World) (hmp : Mp w b L) (hL : ∀ p ∈ L, p.2.size ≤ 1048576) (hg : g < w.heap.size) (hc : w.cell? ⟨g, 0, none⟩ = some (.string endp)) (h1 : endp.size ≤ 4194304) (h2 : ep.size ≤ 4194304) :
    Calls Try.prog 59 #[.pointer (some ⟨g, 0, none⟩), .string ep, .map (some b)] w (UrlOut L endp ep w) := by
  have hl := Lib.Pa.join_length_le [endp.data.toList, ep.data.toList]
  have e1 : Lib.Pa.lens [endp.data.toList, ep.data.toList] = endp.size + ep.size := by rw [Lib.size_eq, Lib.size_eq]; simp [Lib.Pa.lens]
  rw [e1] at hl
  simp only [List.length_cons, List.length_nil] at hl
  have CJ := Lib.hid (Sh.path_Join_rules w.heap.size 0 2 [endp, ep] (w.alloc (.cells #[.string endp, .string ep] 9)) (by
    intro j x hx
    rw [Nat.zero_add]
    rcases j with _ | _ | j
    · injection hx with hx; subst hx; rw [cell_new]; rfl
    · injection hx with hx; subst hx; rw [cell_new]; rfl
    · simp at hx) (by simp) (by
    show Lib.Pa.lens [endp.data.toList, ep.data.toList] + 2 ≤ _
    rw [e1]; omega))
  obtain ⟨R, hR⟩ : ∃ R, UrlOut L endp ep w = R := ⟨_, rfl⟩
  have HR := Lib.hid hR
  rw [hR]
  unfold UrlOut at hR
  have e2 : [endp, ep].map (fun x : ByteArray => x.data.toList) = [endp.data.toList, ep.data.toList] := rfl
  rw [e2] at CJ
  generalize Lib.Pa.join [endp.data.toList, ep.data.toList] = l at *
  have hls : l.length ≤ 8388610 := by omega
  have CS := Lib.hid (fun W => split_any (mk l) (by rw [size_mk]; omega) W)
  have hbt := els_len l
  have hbl := els_le l
  have hne := els_ne l
  rw [data_mk] at CS
  obtain ⟨cs, hcs⟩ : ∃ cs, Lib.Pa.els l = cs := ⟨_, rfl⟩
  rw [hcs] at CS hbt hbl hne hR
  have hn0 : 0 < cs.length := by cases cs with
    | nil => exact absurd rfl hne
    | cons x y => simp
  have hfl : (([47] : List UInt8).intercalate (cs.map (put L))).length ≤ 140737488355328 := by
    refine Nat.le_trans (inter_len (M := 8388610) _ ?_) ?_
    · intro x hx
      obtain ⟨y, hy, rfl⟩ := List.mem_map.1 hx
      exact put_len hL (by omega) y (Nat.le_trans (hbl y hy) hls)
    · rw [List.length_map]
      have : cs.length ≤ 8388611 := by omega
      calc cs.length * (8388610 + 1) ≤ 8388611 * (8388610 + 1) := Nat.mul_le_mul_right _ this
        _ ≤ _ := by decide
  have HFl := Lib.hid hfl
  have hcl : cs.length ≤ 8388611 := by omega
  have HBl : Hid (∀ c ∈ cs, c.length ≤ 8388610) := fun c hc => Nat.le_trans (hbl c hc) hls
  have HMp := Lib.hid hmp
  have HRR := Lib.hid hR
  clear hl e1 hbt hbl hne hfl hmp hcs hL hR hls e2
  go_enter Try.func59, Try.ntmps59
  go_wp2_with fail
  refine CJ.out.mono ?_
  rintro e W1 ⟨rfl, hb1⟩
  have hB1 : Hid (Below w.heap.size w W1) := ((Below.refl _ w).alloc (Nat.le_refl _) _).trans (hb1.mono (by simp))
  have hM1 : Hid (Mp W1 b L) := HMp.out.below hB1.out
  clear hb1 CJ
  go_wp2_with fail
  refine (CS.out W1).mono ?_
  rintro e W2 ⟨v2, rfl, hrow, hb2⟩
  obtain ⟨gb, cap, rfl, hgb⟩ := row_addr hrow hn0
  have hS0 : Hid (UrlS L b cs W1.heap.size gb cap 0 W1 W2) := ⟨by
    unfold cur
    rw [List.take_zero, List.drop_zero]
    exact hrow, hM1.out.below hb2, hb2⟩
  have hbb := hM1.out.lt
  clear hrow hb2 CS HMp
  go_wp2_with fail
  go_loopw [22] (fun vk wr => ∃ k : Nat, k ≤ cs.length ∧ vk = .int .i64 (k : Int) ∧ Hid (UrlS L b cs W1.heap.size gb cap k W1 wr)) (fun k _ => cs.length - (intOf k).toNat)
  case atStart => exact ⟨0, Nat.zero_le _, rfl, hS0.out⟩
  case round =>
    obtain ⟨k, hk, rfl, hst⟩ := hrel
    by_cases hlt : k < cs.length
    · have c0 := hst.out.cell hlt
      have f0 : wr.frozen? ⟨gb, k, none⟩ = false := hst.out.1.frozenAt k
      have hzs : (mk cs[k]).size ≤ 8388610 := by rw [size_mk]; exact HBl.out _ (List.getElem_mem hlt)
      have HP0 : Hid (Lib.hasPrefix (mk cs[k]).data.toList [58] = false → put L cs[k] = cs[k]) := pre_no
      have HP1 : Hid (Lib.hasPrefix (mk cs[k]).data.toList [58] = true → 1 ≤ (mk cs[k]).size ∧ (∀ v, lastv L ((mk cs[k]).extract 1 (mk cs[k]).size) = some v → put L cs[k] = v.data.toList) ∧ (lastv L ((mk cs[k]).extract 1 (mk cs[k]).size) = none → put L cs[k] = cs[k])) := pre_yes
      obtain ⟨z, hz⟩ : ∃ z, mk cs[k] = z := ⟨_, rfl⟩
      rw [hz] at c0 hzs HP0 HP1
      have z1 : (0 : Int) ≤ (k : Int) := by omega
      have z2 : (k : Int) < (cs.length : Int) := by omega
      clear hz
      go_wp2_with fail
      refine (Sh.strings_HasPrefix z ⟨#[58]⟩ wr).mono ?_
      rintro e w1 ⟨rfl, hw1⟩
      cases hpre : Lib.hasPrefix z.data.toList (⟨#[58]⟩ : ByteArray).data.toList with
      | false =>
        have hS2 : Hid (UrlS L b cs W1.heap.size gb cap (k + 1) W1 w1) := by rw [hw1]; exact hst.out.keep hlt (HP0.out hpre)
        clear hst HP0 HP1 hw1 c0 f0
        go_wp2_with fail
        go_roundw
        case rel => exact ⟨k + 1, by omega, by go_num, hS2.out⟩
        case measure => simp [intOf]; omega
      | true =>
        obtain ⟨p1, p2, p3⟩ := HP1.out hpre
        have P2' := Lib.hid p2
        have P3' := Lib.hid p3
        have i1 : (1 : Int) ≤ (z.size : Int) := by omega
        have hlk := look_run hst.out.2.1 (z.extract 1 z.size) (by rw [ByteArray.size_extract]; unfold maxLen; omega)
        rw [← hw1] at hlk hst c0 f0
        clear HP0 HP1 p2 p3 hw1
        cases hlv : lastv L (z.extract 1 z.size) with
        | none =>
          rw [hlv] at hlk
          have hS2 : Hid (UrlS L b cs W1.heap.size gb cap (k + 1) W1 w1) := hst.out.keep hlt (P3'.out hlv)
          clear hst hlv c0 f0
          go_wp2_with fail
          go_roundw
          case rel => exact ⟨k + 1, by omega, by go_num, hS2.out⟩
          case measure => simp [intOf]; omega
        | some v =>
          rw [hlv] at hlk
          have hS2 : Hid (UrlS L b cs W1.heap.size gb cap (k + 1) W1 (w1.setCell ⟨gb, k, none⟩ (.string v))) := hst.out.store hlt hgb (Nat.le_refl _) hbb (P2'.out v hlv)
          clear hst hlv
          go_wp2_with fail
          go_roundw
          case rel => exact ⟨k + 1, by omega, by go_num, hS2.out⟩
          case measure => simp [intOf]; omega
    · obtain rfl : k = cs.length := by omega
      have hcell : Hid (∀ (j : Nat) x, ((cs.map (put L)).map mk)[j]? = some x → wr.cell? ⟨gb, 0 + j, none⟩ = some (.string x)) := by
        intro j x hx
        have hof : Sl.Of Value.string wr (.slice (some ⟨gb, 0, none⟩) cs.length cap) ((cs.map (put L)).map mk) := by
          have := hst.out.1
          unfold cur at this
          rw [List.take_length, List.drop_length, List.append_nil] at this
          refine Sl.Of.own (B := W1.heap.size) (e := 9) ?_
          rw [List.length_map, List.length_map, List.map_map]
          exact this
        obtain ⟨hj, hx⟩ := List.getElem?_eq_some_iff.1 hx
        rcases hof with ⟨h0, _⟩ | ⟨b2, off, cap2, e, _, _, _, _, hc2⟩
        · rw [h0] at hj; simp at hj
        · injection e with e1 e2 e3
          injection e1 with e1
          injection e1 with e1 e4 _
          have := hc2 j hj
          rw [← e1, ← e4, hx] at this
          exact this
      have hcap : cs.length ≤ cap := by
        rcases hst.out.1.2 with ⟨h0, _⟩ | ⟨g', cap', cur', h0, _, _, hnc, _⟩
        · simp at h0
        · injection h0 with _ _ h0
          rw [h0]; exact hnc
      have hbw := hst.out.2.2
      have hgl : gb < wr.heap.size := by
        rcases hst.out.1.2 with ⟨h0, _⟩ | ⟨g', cap', cur', h0, _, hg2, _⟩
        · simp at h0
        · injection h0 with h0 _ _
          injection h0 with h0
          injection h0 with h0 _ _
          rw [h0]
          exact (Array.getElem?_eq_some_iff.1 hg2).1
      have ej : ((cs.map (put L)).map mk).map (fun x : ByteArray => x.data.toList) = cs.map (put L) := by
        rw [List.map_map]
        have e : ((fun x : ByteArray => x.data.toList) ∘ mk) = id := rfl
        rw [e, List.map_id]
      have CJn := Lib.hid (Sh.strings_Join gb 0 cap ((cs.map (put L)).map mk) ⟨#[47]⟩ wr hcell.out hgl (by simp; omega) (by simpa using hcap) (by rw [ej]; exact HFl.out))
      rw [ej] at CJn
      simp only [List.length_map] at CJn
      have hB2 : Hid (Below w.heap.size w wr) := hB1.out.trans (hbw.mono hB1.out.size)
      clear hcell hcap hbw ej hst hS0
      go_wp2_with fail
      refine CJn.out.mono ?_
      rintro e W3 ⟨rfl, hb3⟩
      have hfin : Hid (R (.returned (.string (mk (([47] : List UInt8).intercalate (cs.map (put L)))))) W3) := by
        show R _ _
        rw [← HRR.out]
        exact ⟨rfl, hB2.out.trans (hb3.mono hB2.out.size)⟩
      clear hb3
      go_wp2_with fail
      exact hfin.out

end Go.Proofs.Ytkmfedmiaannfaa.Ep
