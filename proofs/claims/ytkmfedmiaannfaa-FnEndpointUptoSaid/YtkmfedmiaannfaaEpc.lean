/- Endpoints: the search of api (the same text as inner's), its split at a slash, its trim of slashes; walked. -/
import Derived.Test.YtkmfedmiaannfaaZix
import Derived.Test.YtkmfedmiaannfaaDfl
import Derived.Test.YtkmfedmiaannfaaEpa
import Derived.Lib.CleanFns
import Derived.IntWalk
set_option linter.unusedVariables false
set_option linter.unusedSimpArgs false
namespace Go.Proofs.Ytkmfedmiaannfaa.Ep
open Go.RowKit Zix

set_option maxHeartbeats 2000000 in
set_option maxRecDepth 100000 in
theorem apiIndex_any (s p : ByteArray) (hs : s.size ≤ 4611686018427387903) (hp : 0 < p.size) (hp2 : p.size ≤ 1048576) (w : World) :
    Calls Try.prog 100 #[.string s, .string p] w fun e w' => e = .returned (.int .i64 (idx s.data.toList p.data.toList)) ∧ w = w' := by
  obtain ⟨R, hR⟩ : ∃ R, idx s.data.toList p.data.toList = R := ⟨_, rfl⟩
  rw [hR]
  have HR := Lib.hid hR
  clear hR
  go_enter Try.func100, Try.ntmps100
  go_wp2
  go_loopw [5] (fun i wr => ∃ k : Nat, k ≤ s.size ∧ i = .int .i64 k ∧ w = wr ∧ Hid (idxFrom p.data.toList (s.data.toList.drop k) k = R)) (fun i _ => s.size - (intOf i).toNat)
  case atStart => exact ⟨0, Nat.zero_le _, rfl, rfl, HR.out⟩
  case round =>
    obtain ⟨k, hk, rfl, rfl, hrel⟩ := hrel
    by_cases hlt : k + p.size ≤ s.size
    · have hlt1 : k < s.size := by omega
      have hat := at_iff s p k hlt
      have hdrop : s.data.toList.drop k = s[k]'hlt1 :: s.data.toList.drop (k + 1) := by
        rw [List.drop_eq_getElem_cons (by rw [← Lib.size_eq]; exact hlt1)]; rfl
      have hstep := hrel.out
      rw [hdrop] at hstep hat
      have hstep : (if p.data.toList.isPrefixOf (s[k]'hlt1 :: s.data.toList.drop (k + 1)) then (k : Int) else idxFrom p.data.toList (s.data.toList.drop (k + 1)) (k + 1)) = R := hstep
      have hle : (k : Int) + (p.size : Int) ≤ (s.size : Int) := by omega
      clear hrel hdrop
      cases hb : p.data.toList.isPrefixOf (s[k]'hlt1 :: s.data.toList.drop (k + 1)) with
      | true =>
        rw [hb] at hstep hat
        have HStep := Lib.hid (show (k : Int) = R from hstep)
        clear hstep hb
        go_wp2
        go_ret
        exact ⟨by rw [← HStep.out]; rfl, rfl⟩
      | false =>
        rw [hb] at hstep hat
        have HStep : Hid (idxFrom p.data.toList (s.data.toList.drop (k + 1)) (k + 1) = R) := hstep
        clear hstep hb
        go_wp2
        go_roundw
        case rel => exact ⟨k + 1, by omega, by go_num, by first | rfl | trivial, HStep⟩
        case measure => simp [intOf]; omega
    · have hend : R = -1 := by
        rw [← hrel.out]
        refine idx_short k ?_
        rw [List.length_drop, ← Lib.size_eq, ← Lib.size_eq]
        omega
      have hle : (s.size : Int) < (k : Int) + (p.size : Int) := by omega
      clear hrel
      subst hend
      go_wp2
      go_ret
      exact ⟨rfl, rfl⟩

theorem pre_47 (c : UInt8) (r : List UInt8) : [47].isPrefixOf (c :: r) = ((47 : UInt8) == c) := by
  simp [List.isPrefixOf]
theorem els_ne (l : List UInt8) : Lib.Pa.els l ≠ [] := by
  cases l with
  | nil => simp [Lib.Pa.els]
  | cons c r =>
    unfold Lib.Pa.els
    split
    · simp
    · split <;> simp
theorem els_none : ∀ (r : List UInt8) (k : Nat), idxFrom [47] r k < 0 → Lib.Pa.els r = [r]
  | [], k, h => rfl
  | c :: r, k, h => by
    unfold idxFrom at h
    rw [pre_47] at h
    by_cases hc : c = 47
    · subst hc
      simp at h; omega
    · rw [if_neg (by simpa using fun e => hc e.symm)] at h
      unfold Lib.Pa.els
      rw [if_neg hc, els_none r (k + 1) h]
theorem els_some : ∀ (r : List UInt8) (k : Nat) (j : Nat), idxFrom [47] r k = (j : Int) → k ≤ j ∧ j - k < r.length ∧ Lib.Pa.els r = r.take (j - k) :: Lib.Pa.els (r.drop (j - k + 1))
  | [], k, j, h => by
    unfold idxFrom at h
    simp [List.isPrefixOf] at h
  | c :: r, k, j, h => by
    unfold idxFrom at h
    rw [pre_47] at h
    by_cases hc : c = 47
    · subst hc
      simp at h
      have : k = j := by omega
      subst this
      refine ⟨Nat.le_refl _, by simp, ?_⟩
      rw [Nat.sub_self]
      rfl
    · rw [if_neg (by simpa using fun e => hc e.symm)] at h
      obtain ⟨h1, h2, h3⟩ := els_some r (k + 1) j h
      refine ⟨by omega, by simp only [List.length_cons]; omega, ?_⟩
      rw [Lib.Pa.els, if_neg hc, h3]
      rw [show j - k = (j - (k + 1)) + 1 by omega]
      simp
theorem els_len : ∀ (l : List UInt8), (Lib.Pa.els l).length ≤ l.length + 1
  | [] => by simp [Lib.Pa.els]
  | c :: r => by
    have := els_len r
    unfold Lib.Pa.els
    split
    · simp only [List.length_cons]; omega
    · split
      · rename_i e; rw [e] at this; simp only [List.length_cons] at this ⊢; omega
      · simp

open Df in
set_option maxHeartbeats 4000000 in
set_option maxRecDepth 100000 in
theorem split_any (s : ByteArray) (hs : s.size ≤ 2147483647) (w : World) :
    Calls Try.prog 83 #[.string s, .string ⟨#[47]⟩] w (LinesOut (Lib.Pa.els s.data.toList) w) := by
  obtain ⟨i0, hi, hz0, hz1, hz2⟩ := info_parts infoS
  have hL := els_len s.data.toList
  obtain ⟨L0, hL0⟩ : ∃ L0, Lib.Pa.els s.data.toList = L0 := ⟨_, rfl⟩
  rw [← Lib.size_eq] at hL
  rw [hL0] at hL ⊢
  have HL0 := Lib.hid hL0
  have hs0 : s = ⟨s.data.toList.toArray⟩ := of_list rfl
  obtain ⟨l0, hl0⟩ : ∃ l0, s.data.toList = l0 := ⟨_, rfl⟩
  have hsl : l0.length ≤ 2147483647 := by rw [← hl0, ← Lib.size_eq]; exact hs
  have hLL : L0.length ≤ 2147483648 := by omega
  rw [hl0] at hs0 HL0
  subst hs0
  clear hL0 hl0 hs hL
  go_enter Try.func83, Try.ntmps83
  go_wp2
  go_loopw [0, 5] (fun x v wr => ∃ (l : List UInt8) (acc : List (List UInt8)) (u : Value), x = .string ⟨l.toArray⟩ ∧ u = v ∧ l.length ≤ 2147483647 ∧ Hid (GotS w.heap.size L0 acc (Lib.Pa.els l) w u wr)) (fun x _ _ => strLen x)
  case atStart => exact ⟨l0, [], _, rfl, rfl, hsl, World.ownsRow_nil _ _ _ _, HL0.out, Below.refl _ _⟩
  case round =>
    obtain ⟨l, acc, u, rfl, rfl, hll, hgot⟩ := hrel
    have hgl := hgot.out.len
    have hlz : (⟨l.toArray⟩ : ByteArray).size = l.length := rfl
    have hix := apiIndex_any ⟨l.toArray⟩ ⟨#[47]⟩ (by rw [hlz]; omega) (by decide) (by decide)
    have e1 : idx (⟨l.toArray⟩ : ByteArray).data.toList (⟨#[47]⟩ : ByteArray).data.toList = idxFrom [47] l 0 := rfl
    rw [e1] at hix
    obtain ⟨au, cu, rfl⟩ := row_slice1 hgot.out.1
    have hsz : w.heap.size ≤ wr.heap.size := hgot.out.2.2.size
    clear e1
    by_cases hneg : idxFrom [47] l 0 < 0
    · have hval : idxFrom [47] l 0 = -1 := by
        rcases idx_ge [47] l 0 with h | h
        · exact h
        · omega
      have hlin := els_none l 0 hneg
      rw [hlin] at hgot hgl
      rw [List.length_singleton] at hgl
      rw [hval] at hix
      have HIx := Lib.hid hix
      have HNews := Lib.hid (news_str wr (.string ⟨l.toArray⟩) 9)
      clear hix hval hlin hneg
      go_wp2_with fail
      refine (HIx.out _).mono ?_
      rintro e w1 ⟨rfl, rfl⟩
      go_wp2_with (at_builtin; refine wpList_append_own_at _ rfl _ _ 22 rfl w.heap.size 9 i0 (.string ByteArray.empty) 1 16 Try.underlying22 hi hz0 hz1 hz2 rfl (by decide) _ _ _ rfl (hgot.out.1.alloc _) ⟨wr.heap.size, 0, none⟩ 1 1 [.string ⟨l.toArray⟩] rfl rfl (by simpa using HNews.out) (one_str _) (by unfold maxLen; omega) (by omega) (by simp; omega) ?_; intro v2 W4 hown2 hgrow2 hnil2 hloc2; have hg3 : Hid (GotS w.heap.size L0 (acc ++ [l]) [] w v2 W4) := hgot.out.app hsz hown2 hgrow2; clear hown2 hgrow2 hnil2 hloc2)
      go_ret
      obtain ⟨h1, h2, h3⟩ := hg3.out
      rw [List.append_nil] at h2
      rw [← h2]
      exact ⟨_, rfl, h1, h3⟩
    · obtain ⟨k, hk⟩ : ∃ k : Nat, idxFrom [47] l 0 = (k : Int) := ⟨(idxFrom [47] l 0).toNat, by omega⟩
      obtain ⟨_, hkl, hlin⟩ := els_some l 0 k hk
      rw [Nat.sub_zero] at hkl hlin
      rw [hlin] at hgot hgl
      rw [List.length_cons] at hgl
      rw [hk] at hix
      have HIx := Lib.hid hix
      have hx1 := take_mk l k
      have hx2 := drop_mk l (k + 1)
      rw [hlz] at hx2
      have HX1 := Lib.hid hx1
      have HX2 := Lib.hid hx2
      have hkl1 : (k : Int) + 1 ≤ ((⟨l.toArray⟩ : ByteArray).size : Int) := by rw [hlz]; omega
      have hkl2 : (k : Int) ≤ ((⟨l.toArray⟩ : ByteArray).size : Int) := by rw [hlz]; omega
      have hmx : (⟨l.toArray⟩ : ByteArray).size ≤ 2147483647 := by rw [hlz]; exact hll
      have k0 : (0 : Int) ≤ (k : Int) := by omega
      have HZ := Lib.hid hlz
      have HNews := Lib.hid (news_str wr (.string ((⟨l.toArray⟩ : ByteArray).extract 0 k)) 9)
      clear hix hk hlin hneg hx1 hx2 hlz
      go_wp2_with fail
      refine (HIx.out _).mono ?_
      rintro e w1 ⟨rfl, rfl⟩
      go_wp2_with (at_builtin; refine wpList_append_own_at _ rfl _ _ 22 rfl w.heap.size 9 i0 (.string ByteArray.empty) 1 16 Try.underlying22 hi hz0 hz1 hz2 rfl (by decide) _ _ _ rfl (hgot.out.1.alloc _) ⟨wr.heap.size, 0, none⟩ 1 1 [.string ((⟨l.toArray⟩ : ByteArray).extract 0 k)] rfl rfl (by simpa using HNews.out) (one_str _) (by unfold maxLen; omega) (by omega) (by simp; omega) ?_; intro v2 W4 hown2 hgrow2 hnil2 hloc2; have hg3 : Hid (GotS w.heap.size L0 (acc ++ [l.take k]) (Lib.Pa.els (l.drop (k + 1))) w v2 W4) := (by show GotS _ _ _ _ _ _ _; rw [HX1.out] at hown2; exact hgot.out.app hsz hown2 hgrow2); clear hown2 hgrow2 hnil2 hloc2)
      go_roundw
      case rel => exact ⟨l.drop (k + 1), _, _, by first | rw [← HX2.out] | (rw [← HX2.out]; rfl), rfl, by rw [List.length_drop]; omega, hg3⟩
      case measure =>
        have HL : (l.drop (k + 1)).length < l.length := by rw [List.length_drop]; omega
        have h2 := HX2.out
        have h1 := HZ.out
        show strLen (.string _) < strLen (.string _)
        unfold strLen
        simp only []
        first
          | (rw [h2]; exact HL)
          | (rw [h1, h2]; exact HL)

set_option maxHeartbeats 2000000 in
set_option maxRecDepth 100000 in
theorem trim_any (s : ByteArray) (hs : s.size ≤ 2147483647) (hl : ∀ h : 0 < s.size, ((s[s.size - 1]'(by omega)).toNat : Int) ≠ 47) (w : World) :
    Calls Try.prog 82 #[.string s, .string ⟨#[47]⟩] w fun e w' => e = .returned (.string s) ∧ Below w.heap.size w w' := by
  have HL := Lib.hid hl
  clear hl
  go_enter Try.func82, Try.ntmps82
  go_wp2_with fail
  go_loopw [5] (fun vn wr => vn = .int .i64 (s.size : Int) ∧ w = wr) (fun _ _ => 0)
  case atStart => exact ⟨rfl, rfl⟩
  case round =>
    obtain ⟨rfl, rfl⟩ := hrel
    by_cases h0 : s.size = 0
    · have hz : s = ⟨#[]⟩ := by
        have e : s.data.toList = [] := List.length_eq_zero_iff.1 (by rw [← Lib.size_eq]; exact h0)
        rw [← mk_data s, e]; rfl
      subst hz
      go_wp2_with fail
      go_ret
      exact ⟨rfl, Below.refl _ _⟩
    · have h1 : 0 < s.size := by omega
      have hne := HL.out h1
      have hb : ((47 : Int) == ((s[s.size - 1]'(by omega)).toNat : Int)) = false := by rw [beq_eq_false_iff_ne]; exact fun e => hne e.symm
      have z1 : (0 : Int) < (s.size : Int) := by omega
      have z2 : (0 : Int) ≤ (s.size : Int) - 1 := by omega
      have z3 : (s.size : Int) - 1 < (s.size : Int) := by omega
      clear h0 hne
      go_wp2_with fail
      go_loopw [6, 7] (fun vb vi wr => ∃ (i : Int) (m : Nat), (i = 0 ∨ i = 1) ∧ vb = .bool false ∧ vi = .int .i64 i ∧ Hid (wr = w.drewN m)) (fun _ i _ => 1 - (intOf i).toNat)
      case atStart => exact ⟨0, 0, Or.inl rfl, rfl, rfl, rfl⟩
      case round =>
        obtain ⟨i, m, hi, rfl, rfl, hw⟩ := hrel
        rcases hi with rfl | rfl
        · have x1 : IntKind.i64.wrap ((s.size : Int) - 1) = (s.size : Int) - 1 := IntWalk.i64_in _ (by omega)
          have x2 : ((s.size : Int) - 1).toNat = s.size - 1 := by omega
          have x3 : (1 : Int) ≤ (s.size : Int) := by omega
          have hb9 : ((((⟨#[47]⟩ : ByteArray)[0]'(by decide)).toNat : Int) == ((s[s.size - 1]'(by omega)).toNat : Int)) = false := hb
          have x4 : 1 ≤ s.size := by omega
          have x5 : s.size - 1 < s.size := by omega
          go_wp2_with fail
          go_quiet (fail)
          have hw2 : Hid (wr.drewN nq = w.drewN (m + nq)) := by show _ = _; rw [hw.out, World.drewN_drewN]
          go_wp2_with fail
          go_roundw
          case rel => exact ⟨1, m + nq, Or.inr rfl, rfl, by go_num, hw2.out⟩
          case measure => simp [intOf]
        · have hfin : Hid (Below w.heap.size w wr) := by show Below _ _ _; rw [hw.out]; exact below_drewN (Below.refl _ _) m
          go_wp2_with fail
          go_ret
          exact ⟨rfl, hfin.out⟩

end Go.Proofs.Ytkmfedmiaannfaa.Ep
