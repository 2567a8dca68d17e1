/- Endpoints: the small walks: sizes of pairs, words, segments joined, pairs converted. -/
import Derived.Test.YtkmfedmiaannfaaFp
import Derived.Lib.Slices
set_option linter.unusedVariables false
set_option linter.unusedSimpArgs false
namespace Go.Proofs.Ytkmfedmiaannfaa.Ep
open Go.RowKit Go.ChangeShapes Go.WideShapes Go.Deep Fp

theorem infoIP : (Try.prog.info? 109).map (fun i => (i.zero, i.size, i.bytes)) = some (some (.agg #[.string ByteArray.empty, .string ByteArray.empty]), 2, 32) := by kernel_rfl
def mk (l : List UInt8) : ByteArray := ⟨l.toArray⟩
theorem mk_data (s : ByteArray) : mk s.data.toList = s := by obtain ⟨⟨x⟩⟩ := s; rfl
theorem data_mk (l : List UInt8) : (mk l).data.toList = l := rfl
theorem size_mk (l : List UInt8) : (mk l).size = l.length := rfl
theorem mk_app (a b : List UInt8) : mk a ++ mk b = mk (a ++ b) := by
  have h : ∀ s : ByteArray, ∀ l, s.data.toList = l → s = mk l := by
    intro s l e
    rw [← e, mk_data]
  apply h
  simp [mk]

set_option maxHeartbeats 1000000 in
set_option maxRecDepth 100000 in
theorem fits6_any (x y : ByteArray) (w : World) (hx : x.size ≤ 2147483647) (hy : y.size ≤ 2147483647) :
    Calls Try.prog 54 #[.agg #[.string x, .string y]] w fun e w' => e = .returned (.bool true) ∧ Below w.heap.size w w' := by
  have h1 : (x.size : Int) ≤ 2147483647 := by omega
  have h2 : (y.size : Int) ≤ 2147483647 := by omega
  go_enter Try.func54, Try.ntmps54
  go_wp2
  go_ret
  exact ⟨rfl, (Below.refl _ _).alloc (Nat.le_refl _) _⟩

/-- pair k of a slice of pairs -/
theorem pair_at {w : World} {a : Option Addr} {n cap : Nat} {L : List P2} (h : Ss.Of 2 pc w (.slice a n cap) L) {k : Nat} (hk : k < L.length) :
    ∃ b off, a = some ⟨b, off, none⟩ ∧ b < w.heap.size ∧ w.cell? ⟨b, off + k * 2, none⟩ = some (.string (L[k]).1) ∧ w.cell? ⟨b, off + k * 2 + 1, none⟩ = some (.string (L[k]).2) := by
  rcases h with ⟨rfl, _⟩ | ⟨b, off, cap, h, h0, hcap, hm, hbb, hcell⟩
  · simp at hk
  · injection h with h1 h2 h3
    exact ⟨b, off, h1, hbb, hcell k hk 0 _ rfl, by rw [Nat.add_assoc]; exact hcell k hk 1 _ rfl⟩

set_option maxHeartbeats 4000000 in
set_option maxRecDepth 100000 in
theorem fits5_any (L : List P2) (v : Value) (w : World) (hof : Ss.Of 2 pc w v L) (hL : L.length ≤ 2147483647) (hs : ∀ p ∈ L, p.1.size ≤ 2147483647 ∧ p.2.size ≤ 2147483647) :
    Calls Try.prog 27 #[v] w fun e w' => e = .returned (.bool true) ∧ Below w.heap.size w w' := by
  obtain ⟨av, cv, rfl, _, _⟩ := hof.slice
  have HOf := Lib.hid hof
  have HS := Lib.hid hs
  have hl : (L.length : Int) ≤ 2147483647 := by omega
  clear hof hs
  go_enter Try.func27, Try.ntmps27
  go_wp2_with fail
  go_loopw [10] (fun vk wr => ∃ k : Nat, k ≤ L.length ∧ vk = .int .i64 (k : Int) ∧ Hid (Below w.heap.size w wr)) (fun k _ => L.length - (intOf k).toNat)
  case atStart => exact ⟨0, Nat.zero_le _, rfl, Below.refl _ _⟩
  case round =>
    obtain ⟨k, hk, rfl, hbw⟩ := hrel
    by_cases hlt : k < L.length
    · obtain ⟨b, off, hav, hb, d0, d1⟩ := pair_at HOf.out hlt
      obtain ⟨s1, s2⟩ := HS.out _ (List.getElem_mem hlt)
      subst hav
      obtain ⟨x, y, hxy⟩ : ∃ x y, L[k] = (x, y) := ⟨_, _, rfl⟩
      rw [hxy] at d0 d1 s1 s2
      have c0 : wr.cell? ⟨b, off + k * 2, none⟩ = some (.string x) := by rw [hbw.out.cell (p := ⟨b, off + k * 2, none⟩) hb]; exact d0
      have c1 : wr.cell? ⟨b, off + k * 2 + 1, none⟩ = some (.string y) := by rw [hbw.out.cell (p := ⟨b, off + k * 2 + 1, none⟩) hb]; exact d1
      have z1 : (0 : Int) ≤ (k : Int) := by omega
      have z2 : (k : Int) < (L.length : Int) := by omega
      have hb1 : Hid (Below w.heap.size w (wr.alloc (.cells #[.string x, .string y] 105))) := hbw.out.alloc hbw.out.size _
      clear d0 d1 hxy hbw
      go_wp2_with fail
      refine (fits6_any x y _ s1 s2).mono ?_
      rintro e w1 ⟨rfl, hb2⟩
      have hb3 : Hid (Below w.heap.size w w1) := hb1.out.trans (hb2.mono hb1.out.size)
      clear hb2
      go_wp2_with fail
      go_roundw
      case rel => exact ⟨k + 1, by omega, by go_num, hb3.out⟩
      case measure => simp [intOf]; omega
    · obtain rfl : k = L.length := by omega
      go_wp2_with fail
      go_ret
      exact ⟨rfl, hbw.out⟩

def wordB (l : List UInt8) : Bool := !l.isEmpty && l.all (fun c => decide (97 ≤ c.toNat) && decide (c.toNat ≤ 122))
theorem wordB_iff (l : List UInt8) : wordB l = true ↔ l ≠ [] ∧ ∀ c ∈ l, 97 ≤ c.toNat ∧ c.toNat ≤ 122 := by
  unfold wordB
  cases l with
  | nil => simp
  | cons a r => simp [List.all_eq_true]

set_option maxHeartbeats 2000000 in
set_option maxRecDepth 100000 in
theorem word_any (s : ByteArray) (hs : s.size ≤ 9223372036854775807) (w : World) :
    Calls Try.prog 56 #[.string s] w fun e w' => e = .returned (.bool (wordB s.data.toList)) ∧ w = w' := by
  obtain ⟨R, hR⟩ : ∃ R, wordB s.data.toList = R := ⟨_, rfl⟩
  rw [hR]
  have HR := Lib.hid hR
  clear hR
  go_enter Try.func56, Try.ntmps56
  go_wp2_with fail
  go_loopw [3] (fun vk wr => ∃ k : Nat, k ≤ s.size ∧ vk = .int .i64 (k : Int) ∧ w = wr ∧ Hid (∀ j (h : j < s.size), j < k → 97 ≤ (s[j]).toNat ∧ (s[j]).toNat ≤ 122)) (fun k _ => s.size - (intOf k).toNat)
  case atStart => exact ⟨0, Nat.zero_le _, rfl, rfl, fun j h h' => absurd h' (Nat.not_lt_zero _)⟩
  case round =>
    obtain ⟨k, hk, rfl, rfl, hall⟩ := hrel
    by_cases hlt : k < s.size
    · by_cases hc : 97 ≤ (s[k]).toNat ∧ (s[k]).toNat ≤ 122
      · have hall2 : Hid (∀ j (h : j < s.size), j < k + 1 → 97 ≤ (s[j]).toNat ∧ (s[j]).toNat ≤ 122) := by
          intro j h hj
          rcases Nat.lt_or_ge j k with h1 | h1
          · exact hall.out j h h1
          · have : j = k := by omega
            subst this
            exact hc
        obtain ⟨hc1, hc2⟩ := hc
        have k1 : (97 : Int) ≤ ((s[k]).toNat : Int) := by omega
        have k2 : ((s[k]).toNat : Int) ≤ 122 := by omega
        clear hall
        go_wp2_with fail
        go_roundw
        case rel => exact ⟨k + 1, by omega, by go_num, by first | rfl | trivial, hall2.out⟩
        case measure => simp [intOf]; omega
      · have hfin : Hid (R = false) := by
          show _ = _
          rw [← HR.out]
          cases h : wordB s.data.toList with
          | false => rfl
          | true =>
            have := ((wordB_iff _).1 h).2 (s[k]) (by
              have hk' : k < s.data.toList.length := by rw [← Lib.size_eq]; exact hlt
              have e : s[k] = s.data.toList[k] := rfl
              rw [e]
              exact List.getElem_mem hk')
            exact absurd this hc
        have hbad : ((s[k]).toNat : Int) < 97 ∨ (122 : Int) < ((s[k]).toNat : Int) := by omega
        clear hall hc
        rcases hbad with h1 | h1
        · have h2 : decide ((97 : Int) ≤ ((s[k]).toNat : Int)) = false := by rw [decide_eq_false_iff_not]; omega
          go_wp2_with fail
          go_ret
          exact ⟨by rw [hfin.out]; rfl, rfl⟩
        · have h2 : (97 : Int) ≤ ((s[k]).toNat : Int) := by omega
          have h3 : decide (((s[k]).toNat : Int) ≤ (122 : Int)) = false := by rw [decide_eq_false_iff_not]; omega
          go_wp2_with fail
          go_ret
          exact ⟨by rw [hfin.out]; rfl, rfl⟩
    · obtain rfl : k = s.size := by omega
      by_cases h0 : s.size = 0
      · have hfin : Hid (R = false) := by
          show _ = _
          rw [← HR.out]
          have : s.data.toList = [] := List.length_eq_zero_iff.1 (by rw [← Lib.size_eq]; exact h0)
          rw [this]; rfl
        have hz : s = ⟨#[]⟩ := by
          have e : s.data.toList = [] := List.length_eq_zero_iff.1 (by rw [← Lib.size_eq]; exact h0)
          rw [← mk_data s, e]; rfl
        subst hz
        clear hall
        go_wp2_with fail
        go_ret
        exact ⟨by rw [hfin.out]; rfl, rfl⟩
      · have hfin : Hid (R = true) := by
          show _ = _
          rw [← HR.out, wordB_iff]
          refine ⟨fun e => h0 (by rw [Lib.size_eq, e]; rfl), fun c hc => ?_⟩
          obtain ⟨j, hj, rfl⟩ := List.getElem_of_mem hc
          exact hall.out j (by rw [Lib.size_eq]; exact hj) (by rw [Lib.size_eq]; exact hj)
        have hz : s.toList.isEmpty = false := by
          rw [Lib.toList_data]
          cases h : s.data.toList with
          | nil => exact absurd (by rw [Lib.size_eq, h]; rfl) h0
          | cons a r => rfl
        have hz2 : ¬ s.toList = [] := by
          intro e; rw [e] at hz; simp at hz
        clear hall
        go_wp2_with fail
        go_ret
        exact ⟨by rw [hfin.out]; rfl, rfl⟩

/-- segments, each with a slash before it -/
def J (zs : List ByteArray) : List UInt8 := zs.flatMap fun z => 47 :: z.data.toList
theorem J_snoc (zs : List ByteArray) (z : ByteArray) : J (zs ++ [z]) = J zs ++ 47 :: z.data.toList := by unfold J; simp
theorem J_take (zs : List ByteArray) (k : Nat) (h : k < zs.length) : J (zs.take (k + 1)) = J (zs.take k) ++ 47 :: (zs[k]).data.toList := by
  rw [List.take_succ_eq_append_getElem h, J_snoc]
theorem J_pre (zs : List ByteArray) (k : Nat) : (J (zs.take k)).length ≤ (J zs).length := by
  have e : J zs = J (zs.take k) ++ J (zs.drop k) := by
    unfold J
    rw [← List.flatMap_append, List.take_append_drop]
  rw [e, List.length_append]
  omega
/-- string k of a slice of strings -/
theorem str_at {w : World} {a : Option Addr} {n cap : Nat} {zs : List ByteArray} (h : Sl.Of Value.string w (.slice a n cap) zs) {k : Nat} (hk : k < zs.length) : ∃ b off, a = some ⟨b, off, none⟩ ∧ b < w.heap.size ∧ w.cell? ⟨b, off + k, none⟩ = some (.string zs[k]) := by
  rcases h with ⟨rfl, _⟩ | ⟨b, off, cap, h, h0, hcap, hm, hbb, hcell⟩
  · simp at hk
  · injection h with h1 h2 h3
    exact ⟨b, off, h1, hbb, hcell k hk⟩
theorem str_slice {w : World} {v : Value} {zs : List ByteArray} (h : Sl.Of Value.string w v zs) : ∃ a cap, v = .slice a zs.length cap := by
  rcases h with ⟨rfl, a, cap, rfl, _⟩ | ⟨b, off, cap, rfl, _⟩
  · exact ⟨_, _, rfl⟩
  · exact ⟨_, _, rfl⟩

set_option maxHeartbeats 2000000 in
set_option maxRecDepth 100000 in
theorem join_any (zs : List ByteArray) (v : Value) (w : World) (hof : Sl.Of Value.string w v zs) (hJ : (J zs).length ≤ 1073741824) (hl : zs.length ≤ 2147483647) :
    Calls Try.prog 31 #[v] w fun e w' => e = .returned (.string (mk (J zs))) ∧ w = w' := by
  obtain ⟨av, cv, rfl⟩ := str_slice hof
  have HOf := Lib.hid hof
  clear hof
  go_enter Try.func31, Try.ntmps31
  go_wp2_with fail
  go_loopw [3, 4] (fun vt vk wr => ∃ (k : Nat) (t : ByteArray), k ≤ zs.length ∧ vt = .string t ∧ vk = .int .i64 (k : Int) ∧ t.size ≤ 1073741824 ∧ w = wr ∧ Hid (t = mk (J (zs.take k)))) (fun _ k _ => zs.length - (intOf k).toNat)
  case atStart => exact ⟨0, ⟨#[]⟩, Nat.zero_le _, rfl, rfl, by decide, rfl, rfl⟩
  case round =>
    obtain ⟨k, t, hk, rfl, rfl, htz, rfl, ht⟩ := hrel
    by_cases hlt : k < zs.length
    · obtain ⟨b, off, hav, hb, c0⟩ := str_at HOf.out hlt
      subst hav
      have hjt := J_take zs k hlt
      have hjp := J_pre zs (k + 1)
      obtain ⟨z, hz⟩ : ∃ z, zs[k] = z := ⟨_, rfl⟩
      rw [hz] at c0 hjt
      have hnew : Hid ((t ++ (⟨#[47]⟩ : ByteArray) ++ z) = mk (J (zs.take (k + 1)))) := by
        show _ = _
        rw [hjt, ht.out, ← mk_data z, show (⟨#[47]⟩ : ByteArray) = mk [47] from rfl, mk_app, mk_app, data_mk]
        simp
      have hsz2 : (t ++ (⟨#[47]⟩ : ByteArray) ++ z).size ≤ 1073741824 := by rw [hnew.out, size_mk]; omega
      have hzz : z.size ≤ 1073741824 := by
        have := hsz2
        rw [ByteArray.size_append] at this
        omega
      have z1 : (0 : Int) ≤ (k : Int) := by omega
      have z2 : (k : Int) < (zs.length : Int) := by omega
      clear hjt hjp hz ht
      go_wp2_with fail
      go_roundw
      case rel => exact ⟨k + 1, _, by omega, rfl, by go_num, hsz2, by first | rfl | trivial, hnew.out⟩
      case measure => simp [intOf]; omega
    · obtain rfl : k = zs.length := by omega
      have hfin : Hid (t = mk (J zs)) := by
        have := ht.out
        rw [List.take_length] at this
        exact this
      clear ht
      go_wp2_with fail
      go_ret
      exact ⟨by rw [hfin.out]; rfl, rfl⟩

set_option maxHeartbeats 1000000 in
set_option maxRecDepth 100000 in
theorem pairTo_any (x y : ByteArray) (w : World) :
    Calls Try.prog 60 #[.agg #[.string x, .string y]] w fun e w' => e = .returned (.agg #[.string x, .string y]) ∧ Below w.heap.size w w' := by
  go_enter Try.func60, Try.ntmps60
  go_wp2
  exact bodyPost_ret (v := .agg #[.string x, .string y]) (by simp [results, Try.results60, go_sem]) rfl ⟨rfl, ((Below.refl _ _).alloc (Nat.le_refl _) _).alloc (by simp) _⟩

def PairsOut (L : List P2) (w : World) (e : Ending) (w' : World) : Prop := ∃ v, e = .returned v ∧ Ss.Of 2 pc w' v L ∧ Below w.heap.size w w'
def GotI (B n : Nat) (acc : List P2) (u : Value) (w w' : World) : Prop :=
  acc.length ≤ n ∧ w'.ownsRow B 109 2 u acc.length (acc.flatMap pc) ∧ Below B w w'
theorem GotI.below {B n : Nat} {acc : List P2} {u : Value} {w W W' : World} (h : GotI B n acc u w W) (hs : B ≤ W.heap.size) (hb : Below W.heap.size W W') : GotI B n acc u w W' :=
  ⟨h.1, h.2.1.kept (row := none) ⟨hb.os, hb.tape, hb.output, hb.size, fun i hi _ => hb.block i hi⟩ (by cases u.ownBlock <;> simp), h.2.2.trans (hb.mono hs)⟩
theorem GotI.app {B n : Nat} {acc : List P2} {u v : Value} {p : P2} {w w' wy : World} {o : Obj} (h : GotI B n acc u w w') (hs : B ≤ w'.heap.size) (ho : wy.ownsRow B 109 2 v (acc.length + 1) (acc.flatMap pc ++ pc p)) (hg : (w'.alloc o).grownBy wy u.ownBlock) : GotI B (n + 1) (acc ++ [p]) v w wy := by
  refine ⟨by have := h.1; simp; omega, ?_, (h.2.2.alloc hs o).grown hg (by simp; omega) (fun j hj => (h.2.1.lt j hj).1)⟩
  rw [List.length_append, List.flatMap_append]
  simpa using ho

set_option maxHeartbeats 4000000 in
set_option maxRecDepth 100000 in
theorem pairsTo_any (L : List P2) (v : Value) (w : World) (hof : Ss.Of 2 pc w v L) (hL : L.length ≤ 2147483647) :
    Calls Try.prog 32 #[v] w (PairsOut L w) := by
  obtain ⟨i0, hi, hz0, hz1, hz2⟩ := info_parts infoIP
  obtain ⟨av, cv, rfl, _, _⟩ := hof.slice
  have HOf := Lib.hid hof
  have HG0 : Hid (GotI w.heap.size 0 [] (.slice none 0 0) w w) := ⟨Nat.le_refl _, World.ownsRow_nil _ _ _ _, Below.refl _ _⟩
  clear hof
  go_enter Try.func32, Try.ntmps32
  go_wp2_with fail
  go_loopw [3, 4] (fun vu vk wr => ∃ (k : Nat) (u : Value), k ≤ L.length ∧ u = vu ∧ vk = .int .i64 (k : Int) ∧ Hid (GotI w.heap.size k (L.take k) u w wr)) (fun _ k _ => L.length - (intOf k).toNat)
  case atStart => exact ⟨0, _, Nat.zero_le _, rfl, rfl, HG0.out⟩
  case round =>
    obtain ⟨k, u, hk, rfl, rfl, hgot⟩ := hrel
    by_cases hlt : k < L.length
    · obtain ⟨b, off, hav, hb, d0, d1⟩ := pair_at HOf.out hlt
      have htk : L.take (k + 1) = L.take k ++ [L[k]] := List.take_succ_eq_append_getElem hlt
      subst hav
      obtain ⟨x, y, hxy⟩ : ∃ x y, L[k] = (x, y) := ⟨_, _, rfl⟩
      obtain ⟨acc, hacc⟩ : ∃ acc, L.take k = acc := ⟨_, rfl⟩
      rw [hxy] at d0 d1 htk
      rw [hacc] at hgot htk
      have hbw := hgot.out.2.2
      have hal := hgot.out.1
      have hsz : w.heap.size ≤ wr.heap.size := hbw.size
      have c0 : wr.cell? ⟨b, off + k * 2, none⟩ = some (.string x) := by rw [hbw.cell (p := ⟨b, off + k * 2, none⟩) hb]; exact d0
      have c1 : wr.cell? ⟨b, off + k * 2 + 1, none⟩ = some (.string y) := by rw [hbw.cell (p := ⟨b, off + k * 2 + 1, none⟩) hb]; exact d1
      have z1 : (0 : Int) ≤ (k : Int) := by omega
      have z2 : (k : Int) < (L.length : Int) := by omega
      obtain ⟨au, cu, rfl⟩ := row_slice2 hgot.out.2.1
      have HTk := Lib.hid htk
      clear d0 d1 hxy hbw htk hacc
      go_wp2_with fail
      refine (pairTo_any x y wr).mono ?_
      rintro e w1 ⟨rfl, hb1⟩
      have hg1 : Hid (GotI w.heap.size k acc (.slice au acc.length cu) w w1) := hgot.out.below hsz hb1
      have hs1 : w.heap.size ≤ w1.heap.size := Nat.le_trans hsz hb1.size
      have HNews := Lib.hid (Ss.news_one w1 #[.string x, .string y] 109)
      clear hb1 hgot c0 c1
      go_wp2_with (first
        | (at_builtin; refine wpList_append_own_at _ rfl _ _ 59 rfl w.heap.size 109 i0 (.agg #[.string ByteArray.empty, .string ByteArray.empty]) 2 32 Try.underlying59 hi hz0 hz1 hz2 rfl (by decide) _ _ _ rfl (hg1.out.2.1.alloc _) ⟨w1.heap.size, 0, none⟩ 1 1 [.string x, .string y] rfl rfl (by simpa using HNews.out) (ones2 [(x, y)]) (by unfold maxLen; omega) (by omega) (by simp; omega) ?_; intro v2 W4 hown2 hgrow2 hnil2 hloc2; have hg3 : Hid (GotI w.heap.size (k + 1) (L.take (k + 1)) v2 w W4) := (by show GotI _ _ _ _ _ _; rw [HTk.out]; exact hg1.out.app hs1 hown2 hgrow2); clear hown2 hgrow2 hnil2 hloc2))
      go_roundw
      case rel => exact ⟨k + 1, _, by omega, rfl, by go_num, hg3.out⟩
      case measure => simp [intOf]; omega
    · obtain rfl : k = L.length := by omega
      have hg2 := hgot.out
      rw [List.take_length] at hg2
      have hfin : Hid (PairsOut L w (.returned u) wr) := ⟨u, rfl, Ss.Of.own pc_len hg2.2.1, hg2.2.2⟩
      clear hg2 hgot
      go_wp2_with fail
      go_ret
      exact hfin.out

end Go.Proofs.Ytkmfedmiaannfaa.Ep
