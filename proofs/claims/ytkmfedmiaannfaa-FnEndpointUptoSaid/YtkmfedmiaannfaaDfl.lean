/- Lines of a text: the walks of zzSplitAfter (at a line feed), SplitLines and spec.Lines. -/
import Derived.Test.YtkmfedmiaannfaaDfk
import Derived.Test.YtkmfedmiaannfaaSl
import Derived.Maps.AppendAt
import Derived.StillTailTactics
set_option linter.unusedVariables false
set_option linter.unusedSimpArgs false
namespace Go.Proofs.Ytkmfedmiaannfaa.Df
open Go.RowKit Zix

theorem infoS : (Try.prog.info? 9).map (fun i => (i.zero, i.size, i.bytes)) = some (some (.string ByteArray.empty), 1, 16) := by kernel_rfl
abbrev strs (L : List (List UInt8)) : List Value := L.map fun l => Value.string (mk l)
/-- the lines so far, in a row of our own -/
def GotS (B : Nat) (L0 acc rest : List (List UInt8)) (w : World) (v : Value) (wr : World) : Prop :=
  wr.ownsRow B 9 1 v acc.length (strs acc) ∧ acc ++ rest = L0 ∧ Below B w wr
def LinesOut (L : List (List UInt8)) (w : World) (e : Ending) (w' : World) : Prop :=
  ∃ v, e = .returned v ∧ w'.ownsRow w.heap.size 9 1 v L.length (strs L) ∧ Below w.heap.size w w'
theorem strs_snoc (L : List (List UInt8)) (l : List UInt8) : strs (L ++ [l]) = strs L ++ [.string (mk l)] := by simp [strs]
theorem GotS.app {B : Nat} {L0 acc rest : List (List UInt8)} {l : List UInt8} {w w' wy : World} {u v : Value} {o : Obj} (h : GotS B L0 acc (l :: rest) w u w') (hs : B ≤ w'.heap.size)
    (ho : wy.ownsRow B 9 1 v (acc.length + 1) (strs acc ++ [.string (mk l)])) (hg : (w'.alloc o).grownBy wy u.ownBlock) : GotS B L0 (acc ++ [l]) rest w v wy := by
  refine ⟨?_, by rw [List.append_assoc]; exact h.2.1, (h.2.2.alloc hs o).grown hg (by simp; omega) (fun j hj => (h.1.lt j hj).1)⟩
  rw [strs_snoc, List.length_append]
  exact ho
theorem GotS.len {B : Nat} {L0 acc rest : List (List UInt8)} {w wr : World} {v : Value} (h : GotS B L0 acc rest w v wr) : acc.length + rest.length = L0.length := by rw [← h.2.1, List.length_append]
theorem news_str (w : World) (x : Value) (T : TypeId) : ∀ j u, [x][j]? = some u → (w.alloc (.cells #[x] T)).cell? ((⟨w.heap.size, 0, none⟩ : Addr).add j) = some u := by
  intro j u hj
  have e : (⟨w.heap.size, 0, none⟩ : Addr).add j = ⟨w.heap.size, j, none⟩ := by unfold Addr.add; split <;> simp_all
  rw [e, Sl.cell_new]
  simpa using hj
theorem one_str (s : ByteArray) : ∀ u ∈ [Value.string s], u.oneCell' = true := by intro u hu; simp at hu; subst hu; rfl
theorem row_slice1 {w : World} {B e : Nat} {v : Value} {n : Nat} {cs : List Value} (h : w.ownsRow B e 1 v n cs) : ∃ a c, v = .slice a n c := by
  rcases h.2 with ⟨hv, h0⟩ | ⟨g, cap, cur, hv, _⟩
  · exact ⟨none, 0, by rw [hv, h0]⟩
  · exact ⟨_, _, hv⟩

set_option maxHeartbeats 4000000 in
set_option maxRecDepth 100000 in
theorem split_any (s : ByteArray) (hs : s.size ≤ 2147483647) (w : World) :
    Calls Try.prog 79 #[.string s, .string ⟨#[10]⟩] w (LinesOut (linesOf [] s.data.toList) w) := by
  obtain ⟨i0, hi, hz0, hz1, hz2⟩ := info_parts infoS
  have hL := linesOf_len s.data.toList []
  obtain ⟨L0, hL0⟩ : ∃ L0, linesOf [] s.data.toList = L0 := ⟨_, rfl⟩
  rw [← Lib.size_eq] at hL
  rw [hL0] at hL ⊢
  have HL0 := Lib.hid hL0
  have hs0 : s = ⟨s.data.toList.toArray⟩ := of_list rfl
  obtain ⟨l0, hl0⟩ : ∃ l0, s.data.toList = l0 := ⟨_, rfl⟩
  have hsl : l0.length ≤ 2147483647 := by rw [← hl0, ← Lib.size_eq]; exact hs
  have hLL : L0.length ≤ 2147483648 := by omega
  rw [hl0] at hs0 HL0
  subst hs0
  clear hL0 hl0 hs hL
  go_enter Try.func79, Try.ntmps79
  go_wp2
  go_loopw [0, 5] (fun x v wr => ∃ (l : List UInt8) (acc : List (List UInt8)) (u : Value), x = .string ⟨l.toArray⟩ ∧ u = v ∧ l.length ≤ 2147483647 ∧ Hid (GotS w.heap.size L0 acc (linesOf [] l) w u wr)) (fun x _ _ => strLen x)
  case atStart => exact ⟨l0, [], _, rfl, rfl, hsl, World.ownsRow_nil _ _ _ _, HL0.out, Below.refl _ _⟩
  case round =>
    obtain ⟨l, acc, u, rfl, rfl, hll, hgot⟩ := hrel
    have hgl := hgot.out.len
    have hlz : (⟨l.toArray⟩ : ByteArray).size = l.length := rfl
    have hix := index_any ⟨l.toArray⟩ ⟨#[10]⟩ (by rw [hlz]; omega) (by decide) (by decide)
    have e1 : idx (⟨l.toArray⟩ : ByteArray).data.toList (⟨#[10]⟩ : ByteArray).data.toList = idxFrom [10] l 0 := rfl
    rw [e1] at hix
    obtain ⟨au, cu, rfl⟩ := row_slice1 hgot.out.1
    have hsz : w.heap.size ≤ wr.heap.size := hgot.out.2.2.size
    clear e1
    by_cases hneg : idxFrom [10] l 0 < 0
    · have hval : idxFrom [10] l 0 = -1 := by
        rcases idx_ge [10] l 0 with h | h
        · exact h
        · omega
      have hlin := lines_none l 0 [] hneg
      rw [List.nil_append] at hlin
      rw [hlin] at hgot hgl
      rw [List.length_singleton] at hgl
      rw [hval] at hix
      have HIx := Lib.hid hix
      have HNews := Lib.hid (news_str wr (.string ⟨l.toArray⟩) 9)
      clear hix hval hlin hneg
      go_wp2_with fail
      refine (HIx.out _).mono ?_
      rintro e w1 ⟨rfl, rfl⟩
      go_wp2_with (at_builtin; refine wpList_append_own_at _ rfl _ _ 22 rfl w.heap.size 9 i0 (.string ByteArray.empty) 1 16 Try.underlying22 hi hz0 hz1 hz2 rfl (by decide) _ _ _ rfl (hgot.out.1.alloc _) ⟨wr.heap.size, 0, none⟩ 1 1 [.string ⟨l.toArray⟩] rfl rfl (by simpa using HNews.out) (one_str _) (by unfold maxLen; omega) (by omega) (by simp; omega) ?_; intro v2 W4 hown2 hgrow2 hnil2 hloc2; have hg3 : Hid (GotS w.heap.size L0 (acc ++ [l]) [] w v2 W4) := hgot.out.app hsz hown2 hgrow2; clear hown2 hgrow2 hnil2 hloc2)
      go_ret
      obtain ⟨h1, h2, h3⟩ := hg3.out
      rw [List.append_nil] at h2
      rw [← h2]
      exact ⟨_, rfl, h1, h3⟩
    · obtain ⟨k, hk⟩ : ∃ k : Nat, idxFrom [10] l 0 = (k : Int) := ⟨(idxFrom [10] l 0).toNat, by omega⟩
      obtain ⟨_, hkl, hlin⟩ := lines_some l 0 [] k hk
      rw [Nat.sub_zero] at hkl hlin
      rw [List.nil_append] at hlin
      rw [hlin] at hgot hgl
      rw [List.length_cons] at hgl
      rw [hk] at hix
      have HIx := Lib.hid hix
      have hx1 := take_mk l (k + 1)
      have hx2 := drop_mk l (k + 1)
      rw [hlz] at hx2
      have HX1 := Lib.hid hx1
      have HX2 := Lib.hid hx2
      have hkl1 : (k : Int) + 1 ≤ ((⟨l.toArray⟩ : ByteArray).size : Int) := by rw [hlz]; omega
      have hmx : (⟨l.toArray⟩ : ByteArray).size ≤ 2147483647 := by rw [hlz]; exact hll
      have k0 : (0 : Int) ≤ (k : Int) := by omega
      have HZ := Lib.hid hlz
      have HNews := Lib.hid (news_str wr (.string ((⟨l.toArray⟩ : ByteArray).extract 0 (k + 1))) 9)
      clear hix hk hlin hneg hx1 hx2 hlz
      go_wp2_with fail
      refine (HIx.out _).mono ?_
      rintro e w1 ⟨rfl, rfl⟩
      go_wp2_with (at_builtin; refine wpList_append_own_at _ rfl _ _ 22 rfl w.heap.size 9 i0 (.string ByteArray.empty) 1 16 Try.underlying22 hi hz0 hz1 hz2 rfl (by decide) _ _ _ rfl (hgot.out.1.alloc _) ⟨wr.heap.size, 0, none⟩ 1 1 [.string ((⟨l.toArray⟩ : ByteArray).extract 0 (k + 1))] rfl rfl (by simpa using HNews.out) (one_str _) (by unfold maxLen; omega) (by omega) (by simp; omega) ?_; intro v2 W4 hown2 hgrow2 hnil2 hloc2; have hg3 : Hid (GotS w.heap.size L0 (acc ++ [l.take (k + 1)]) (linesOf [] (l.drop (k + 1))) w v2 W4) := (by show GotS _ _ _ _ _ _ _; rw [HX1.out] at hown2; exact hgot.out.app hsz hown2 hgrow2); clear hown2 hgrow2 hnil2 hloc2)
      go_roundw
      case rel => exact ⟨l.drop (k + 1), _, _, by first | rw [← HX2.out] | (rw [← HX2.out]; rfl), rfl, by rw [List.length_drop]; omega, hg3⟩
      case measure =>
        have HL : (l.drop (k + 1)).length < l.length := by rw [List.length_drop]; omega
        have h2 := HX2.out
        have h1 := HZ.out
        show strLen (.string _) < strLen (.string _)
        unfold strLen
        simp only []
        first
          | (rw [h2]; exact HL)
          | (rw [h1, h2]; exact HL)

/-- the lines of a text, each with its line feed -/
def FedOut (L : List (List UInt8)) (w : World) (e : Ending) (w' : World) : Prop := ∃ v, e = .returned v ∧ Sl.Of Value.string w' v (fed L) ∧ Below w.heap.size w w'

theorem own_fed {w : World} {B : Nat} {v : Value} {L : List (List UInt8)} (h : w.ownsRow B 9 1 v (fed L).length ((fed L).map Value.string)) : Sl.Of Value.string w v (fed L) := Sl.Of.own h
theorem last_mem {L : List (List UInt8)} (h : L ≠ []) : L.getLast?.getD [] ∈ L := by
  rw [List.getLast?_eq_some_getLast h]
  exact List.getLast_mem h
theorem cat_mk (l : List UInt8) : mk l ++ (⟨#[10]⟩ : ByteArray) = mk (l ++ [10]) := by
  apply of_list
  show ((mk l) ++ _).data.toList = _
  simp [mk]

set_option maxHeartbeats 4000000 in
set_option maxRecDepth 100000 in
theorem splitLines_any (s : ByteArray) (hs : s.size ≤ 2147483647) (w : World) :
    Calls Try.prog 47 #[.string s] w (FedOut (linesOf [] s.data.toList) w) := by
  have CS := Lib.hid (split_any s hs w)
  have hne := linesOf_ne s.data.toList []
  have hlen := linesOf_len s.data.toList []
  rw [← Lib.size_eq] at hlen
  obtain ⟨L, hL⟩ : ∃ L, linesOf [] s.data.toList = L := ⟨_, rfl⟩
  rw [hL] at CS hne hlen ⊢
  have hpos : 0 < L.length := List.length_pos_iff.2 hne
  have HNe := Lib.hid hne
  have hmem := fun x => linesOf_mem s.data.toList [] x
  rw [hL] at hmem
  have HMem := Lib.hid hmem
  clear hL hne hmem
  go_enter Try.func47, Try.ntmps47
  go_wp2_with fail
  refine CS.out.mono ?_
  rintro e W1 ⟨v, rfl, hown, hb⟩
  obtain ⟨g, cap, hv⟩ : ∃ g cap, v = .slice (some ⟨g, 0, none⟩) L.length cap := by
    rcases hown.2 with ⟨_, h⟩ | ⟨g, cap, cur, h, _⟩
    · omega
    · exact ⟨g, cap, h⟩
  subst hv
  have hz : ∃ l, L.getLast?.getD [] = l := ⟨_, rfl⟩
  obtain ⟨l, hl⟩ := hz
  have hcell : W1.cell? ⟨g, L.length - 1, none⟩ = some (.string (mk l)) := by
    rw [hown.cellAt (L.length - 1) (by omega)]
    have h1 : L.length - 1 < (L.map mk).length := by simp; omega
    have := last_mk L h1
    rw [hl, List.getElem_map] at this
    rw [List.getElem?_map, List.getElem?_eq_getElem (by omega), Option.map_some, this]
  have hlt := (hown.lt g rfl)
  have hfr := hown.frozenAt (L.length - 1)
  have hst := hown.stored (L.length - 1) (.string (mk l ++ (⟨#[10]⟩ : ByteArray)))
  have hfin : Hid (FedOut L w (.returned (.slice (some ⟨g, 0, none⟩) L.length cap)) (W1.setCell ⟨g, L.length - 1, none⟩ (.string (mk l ++ (⟨#[10]⟩ : ByteArray))))) := by
    refine ⟨_, rfl, own_fed (B := w.heap.size) ?_, hb.setCell hlt.1 _⟩
    have h1 := hst.1
    rw [fed_len L HNe.out, ← fed_set L HNe.out (mk l ++ (⟨#[10]⟩ : ByteArray)) (by rw [hl, cat_mk]), List.map_set, List.map_map]
    exact h1
  have z1 : (0 : Int) ≤ (L.length : Int) - 1 := by omega
  have z2 : (L.length : Int) - 1 < (L.length : Int) := by omega
  have hlb : L.length ≤ 2147483648 := by omega
  have hsl : (mk l).size ≤ 2147483648 := by
    have h1 := HMem.out l (by rw [← hl]; exact last_mem HNe.out)
    show l.length ≤ _
    rw [List.length_nil, ← Lib.size_eq] at h1
    omega
  clear hst hown hb hlt hl
  go_wp2
  go_ret
  exact hfin.out

/-- byte by byte: the lines behind us, the line that has begun, the bytes to come -/
def GotL (L0 : List (List UInt8)) (s : ByteArray) (f k : Nat) (w : World) (v : Value) (wr : World) : Prop :=
  ∃ acc : List (List UInt8), GotS w.heap.size L0 acc (linesOf ((s.data.toList.drop f).take (k - f)) (s.data.toList.drop k)) w v wr
theorem gotL_of {L0 acc : List (List UInt8)} {s : ByteArray} {k : Nat} {w wr : World} {v : Value} (h : GotS w.heap.size L0 acc (linesOf [] (s.data.toList.drop k)) w v wr) : GotL L0 s k k w v wr := by
  refine ⟨acc, ?_⟩
  rw [Nat.sub_self, List.take_zero]
  exact h
theorem fin_of {L0 acc : List (List UInt8)} {c : List UInt8} {w w' wy : World} {u v : Value} {o : Obj} (h : GotS w.heap.size L0 acc [c] w u w') (hs : w.heap.size ≤ w'.heap.size)
    (ho : wy.ownsRow w.heap.size 9 1 v (acc.length + 1) (strs acc ++ [.string (mk (c ++ [10]))])) (hg : (w'.alloc o).grownBy wy u.ownBlock) : FedOut L0 w (.returned v) wy := by
  refine ⟨v, rfl, own_fed (B := w.heap.size) ?_, (h.2.2.alloc hs o).grown hg (by simp; omega) (fun j hj => (h.1.lt j hj).1)⟩
  rw [← h.2.1, fed_snoc, List.length_append, List.length_map, List.map_append, List.map_map]
  exact ho
theorem mk_extract (s : ByteArray) (a b : Nat) : s.extract a b = mk ((s.data.toList.drop a).take (b - a)) := of_list (extract_list s a b)
theorem take_next (s : ByteArray) (f k : Nat) (hf : f ≤ k) (hk : k < s.size) : (s.data.toList.drop f).take (k + 1 - f) = (s.data.toList.drop f).take (k - f) ++ [s[k]] := by
  have hk' : k < s.data.toList.length := by rw [← Lib.size_eq]; exact hk
  rw [show k + 1 - f = (k - f) + 1 by omega, List.take_succ_eq_append_getElem (by rw [List.length_drop]; omega)]
  congr 2
  rw [List.getElem_drop]
  have e : f + (k - f) = k := by omega
  simp only [e]
  rfl
theorem drop_next (s : ByteArray) (k : Nat) (hk : k < s.size) : s.data.toList.drop k = s[k] :: s.data.toList.drop (k + 1) := by
  have hk' : k < s.data.toList.length := by rw [← Lib.size_eq]; exact hk
  rw [List.drop_eq_getElem_cons hk']
  rfl

set_option maxHeartbeats 4000000 in
set_option maxRecDepth 100000 in
theorem lines_any (s : ByteArray) (hs : s.size ≤ 2147483647) (w : World) :
    Calls Try.prog 22 #[.string s] w (FedOut (linesOf [] s.data.toList) w) := by
  obtain ⟨i0, hi, hz0, hz1, hz2⟩ := info_parts infoS
  have hL := linesOf_len s.data.toList []
  obtain ⟨L0, hL0⟩ : ∃ L0, linesOf [] s.data.toList = L0 := ⟨_, rfl⟩
  rw [← Lib.size_eq] at hL
  rw [hL0] at hL ⊢
  have hLL : L0.length ≤ 2147483648 := by omega
  have HL0 := Lib.hid hL0
  clear hL0 hL
  go_enter Try.func22, Try.ntmps22
  go_wp2
  go_loopw [3, 4, 5] (fun v vf vk wr => ∃ (f k : Nat) (u : Value), u = v ∧ vf = .int .i64 f ∧ vk = .int .i64 k ∧ f ≤ k ∧ k ≤ s.size ∧ Hid (GotL L0 s f k w u wr)) (fun _ _ k _ => s.size - (intOf k).toNat)
  case atStart => exact ⟨0, 0, _, rfl, rfl, rfl, Nat.le_refl _, Nat.zero_le _, [], World.ownsRow_nil _ _ _ _, by rw [← HL0.out]; rfl, Below.refl _ _⟩
  case round =>
    obtain ⟨f, k, u, rfl, rfl, rfl, hfk, hk, hgl⟩ := hrel
    obtain ⟨acc, hgot⟩ := hgl.out
    have hgn := hgot.len
    obtain ⟨au, cu, rfl⟩ := row_slice1 hgot.1
    have hsz : w.heap.size ≤ wr.heap.size := hgot.2.2.size
    by_cases hlt : k < s.size
    · have htk := take_next s f k hfk hlt
      have hdr := drop_next s k hlt
      rw [hdr] at hgot hgn
      unfold linesOf at hgot hgn
      cases hb : ((s[k].toNat : Int) == 10) with
      | true =>
        have h10 : s[k] = 10 := by
          have : (s[k].toNat : Int) = 10 := by simpa using hb
          exact UInt8.toNat_inj.1 (by have e : (10 : UInt8).toNat = 10 := rfl; omega)
        rw [if_pos h10, ← htk] at hgot
        rw [if_pos h10, List.length_cons] at hgn
        have HX := Lib.hid (mk_extract s f (k + 1))
        have HG := Lib.hid hgot
        have HNews := Lib.hid (news_str wr (.string (s.extract f (k + 1))) 9)
        have z1 : (f : Int) ≤ (k : Int) + 1 := by omega
        have z2 : (k : Int) + 1 ≤ (s.size : Int) := by omega
        clear htk hdr hgot hgl h10
        go_wp2_with (at_builtin; refine wpList_append_own_at _ rfl _ _ 22 rfl w.heap.size 9 i0 (.string ByteArray.empty) 1 16 Try.underlying22 hi hz0 hz1 hz2 rfl (by decide) _ _ _ rfl (HG.out.1.alloc _) ⟨wr.heap.size, 0, none⟩ 1 1 [.string (s.extract f (k + 1))] rfl rfl (by simpa using HNews.out) (one_str _) (by unfold maxLen; omega) (by omega) (by simp; omega) ?_; intro v2 W4 hown2 hgrow2 hnil2 hloc2; have hg3 : Hid (GotL L0 s (k + 1) (k + 1) w v2 W4) := (by rw [HX.out] at hown2; exact gotL_of (HG.out.app hsz hown2 hgrow2)); clear hown2 hgrow2 hnil2 hloc2)
        go_roundw
        case rel => exact ⟨k + 1, k + 1, _, rfl, by go_num, by go_num, Nat.le_refl _, by omega, hg3⟩
        case measure => simp [intOf]; omega
      | false =>
        have h10 : ¬ s[k] = 10 := by
          intro h
          rw [h] at hb
          exact absurd hb (by decide)
        rw [if_neg h10, ← htk] at hgot
        have hg3 : Hid (GotL L0 s f (k + 1) w (.slice au acc.length cu) wr) := ⟨acc, hgot⟩
        clear htk hdr hgot hgl h10 hgn
        go_wp2
        go_roundw
        case rel => exact ⟨f, k + 1, _, rfl, rfl, by go_num, by omega, by omega, hg3⟩
        case measure => simp [intOf]; omega
    · obtain rfl : k = s.size := by omega
      have hnil : s.data.toList.drop s.size = [] := by rw [Lib.size_eq]; exact List.drop_length ..
      rw [hnil] at hgot hgn
      unfold linesOf at hgot hgn
      rw [List.length_singleton] at hgn
      have HX := Lib.hid (mk_extract s f s.size)
      have HG := Lib.hid hgot
      have HNews := Lib.hid (news_str wr (.string (s.extract f s.size ++ (⟨#[10]⟩ : ByteArray))) 9)
      have z1 : (f : Int) ≤ (s.size : Int) := by omega
      clear hnil hgot hgl
      go_wp2_with (at_builtin; refine wpList_append_own_at _ rfl _ _ 22 rfl w.heap.size 9 i0 (.string ByteArray.empty) 1 16 Try.underlying22 hi hz0 hz1 hz2 rfl (by decide) _ _ _ rfl (HG.out.1.alloc _) ⟨wr.heap.size, 0, none⟩ 1 1 [.string (s.extract f s.size ++ (⟨#[10]⟩ : ByteArray))] rfl rfl (by simpa using HNews.out) (one_str _) (by unfold maxLen; omega) (by omega) (by simp; omega) ?_; intro v2 W4 hown2 hgrow2 hnil2 hloc2; have hfin : Hid (FedOut L0 w (.returned v2) W4) := (by rw [HX.out, cat_mk] at hown2; exact fin_of HG.out hsz hown2 hgrow2); clear hown2 hgrow2 hnil2 hloc2)
      go_ret
      exact hfin.out

end Go.Proofs.Ytkmfedmiaannfaa.Df
