/- The walks of inner.zzReplaceAll and inner.zzSplitTwo. -/
import Derived.Test.YtkmfedmiaannfaaZrep
import Derived.Test.YtkmfedmiaannfaaSl
import Derived.StillTailTactics
set_option linter.unusedVariables false
set_option linter.unusedSimpArgs false
namespace Go.Proofs.Ytkmfedmiaannfaa.Zix
open Go.RowKit

theorem of_list {s : ByteArray} {l : List UInt8} (h : s.data.toList = l) : s = ⟨l.toArray⟩ := by
  obtain ⟨⟨x⟩⟩ := s
  simp at h
  rw [h]
theorem drop_mk (l : List UInt8) (k : Nat) : (⟨l.toArray⟩ : ByteArray).extract k (⟨l.toArray⟩ : ByteArray).size = ⟨(l.drop k).toArray⟩ := by
  apply of_list
  rw [Lib.extract_data]
  show (l.drop k).take _ = _
  rw [List.take_of_length_le]
  rw [List.length_drop]; exact Nat.le_refl _
theorem take_mk (l : List UInt8) (k : Nat) : (⟨l.toArray⟩ : ByteArray).extract 0 k = ⟨(l.take k).toArray⟩ := by
  apply of_list
  rw [Lib.extract_data]
  simp

/-- the bytes so far, and what is to come -/
def strLen : Value → Nat
  | .string s => s.size
  | _ => 0

/-- the bytes so far, and what is to come -/
def Built (w : World) (T rest : List UInt8) (v : Value) (wr : World) : Prop :=
  ∃ o : List UInt8, wr.ownsRow w.heap.size 5 1 v o.length (byteCells o) ∧ o ++ rest = T ∧ Below w.heap.size w wr

def StrB (s : List UInt8) (w : World) (e : Ending) (w' : World) : Prop := e = .returned (.string ⟨s.toArray⟩) ∧ Below w.heap.size w w'

set_option maxHeartbeats 4000000 in
set_option maxRecDepth 100000 in
theorem replace_any (s p new : ByteArray) (hs : s.size ≤ 4611686018427387903) (hp : 0 < p.size) (hp2 : p.size ≤ 1048576) (hT : (replAll p.data.toList new.data.toList s.data.toList).length ≤ 140737488355328) (w : World) :
    Calls Try.prog 74 #[.string s, .string p, .string new] w (StrB (replAll p.data.toList new.data.toList s.data.toList) w) := by
  obtain ⟨i0, hi, hz0, hz1, hz2⟩ := info_parts infoByte
  obtain ⟨T, hTe⟩ : ∃ T, replAll p.data.toList new.data.toList s.data.toList = T := ⟨_, rfl⟩
  rw [hTe] at hT ⊢
  have HTE := Lib.hid hTe
  have HT := Lib.hid hT
  have hp0 : ((p.size : Int) == 0) = false := beq_eq_false_iff_ne.2 (by omega)
  have hpl : 0 < p.data.toList.length := by rw [← Lib.size_eq]; exact hp
  have HPL := Lib.hid hpl
  have hs0 : s = ⟨s.data.toList.toArray⟩ := of_list rfl
  obtain ⟨l0, hl0⟩ : ∃ l0, s.data.toList = l0 := ⟨_, rfl⟩
  have hsl : l0.length ≤ 4611686018427387903 := by rw [← hl0, ← Lib.size_eq]; exact hs
  rw [hl0] at hs0 HTE
  subst hs0
  clear hTe hT hpl hl0
  go_enter Try.func74, Try.ntmps74
  go_wp2
  go_loopw [0, 7] (fun x v wr => ∃ l : List UInt8, x = .string ⟨l.toArray⟩ ∧ l.length ≤ 4611686018427387903 ∧ Hid (Built w T (replAll p.data.toList new.data.toList l) v wr)) (fun x _ _ => strLen x)
  case atStart => exact ⟨l0, rfl, hsl, [], World.ownsRow_nil _ _ _ _, HTE.out, Below.refl _ _⟩
  case round =>
    obtain ⟨l, rfl, hll, hbt⟩ := hrel
    obtain ⟨o, hown, ho, hbw⟩ := hbt.out
    have HO := Lib.hid ho
    have hTl : o.length + (replAll p.data.toList new.data.toList l).length ≤ 140737488355328 := by
      have := HT.out
      rw [← ho, List.length_append] at this
      exact this
    have hlz : (⟨l.toArray⟩ : ByteArray).size = l.length := rfl
    have hix := index_any ⟨l.toArray⟩ p (by rw [hlz]; exact hll) hp hp2
    have hdl : (⟨l.toArray⟩ : ByteArray).data.toList = l := rfl
    rw [hdl] at hix
    have hle := idx_le p.data.toList l 0
    have hge := idx_ge p.data.toList l 0
    have e0 : idxFrom p.data.toList l 0 = idx l p.data.toList := rfl
    rw [e0] at hle hge
    clear ho hbt e0
    by_cases hneg : idx l p.data.toList < 0
    · have hrep := replAll_none (p := p.data.toList) (new := new.data.toList) hneg
      rw [hrep] at HO hTl
      have hval : idx l p.data.toList = -1 := by omega
      rw [hval] at hix
      have HIx := Lib.hid hix
      have HOwn := Lib.hid hown
      clear hrep hval hix hle hge hneg hdl
      go_wp2_with fail
      refine (HIx.out _).mono ?_
      rintro e w1 ⟨rfl, rfl⟩
      go_wp2_with (at_builtin; refine Lib.wpList_append_own_string _ rfl _ _ 160 9 rfl w.heap.size 5 i0 Try.underlying160 Try.underlying9 hi hz0 hz1 hz2 _ _ _ rfl HOwn.out ⟨l.toArray⟩ rfl ?c1 ?c2 ?c3 ?_)
      case c1 => rw [hlz]; unfold maxLen; omega
      case c2 => rw [hlz]; omega
      case c3 => exact hbw.size
      intro v' w2 hown' hgrow _
      have hown2 : w2.ownsRow w.heap.size 5 1 v' (o ++ l).length (byteCells (o ++ l)) := by
        rw [cells_append, List.length_append]; exact hown'
      have hcv := conv_own hown2
      rw [HO.out] at hcv
      have hb2 : Below w.heap.size w w2 := hbw.grown hgrow hbw.size (fun j hj => (HOwn.out.lt j hj).1)
      clear hown' hgrow hown2 hown
      go_wp2
      go_ret
      exact ⟨rfl, hb2⟩
    · obtain ⟨k, hk⟩ : ∃ k : Nat, idx l p.data.toList = (k : Int) := ⟨(idx l p.data.toList).toNat, by omega⟩
      have hrep := replAll_step (p := p.data.toList) (new := new.data.toList) HPL.out hneg
      rw [hk] at hrep hix hle
      rw [Int.toNat_natCast] at hrep
      have hpz : p.data.toList.length = p.size := (Lib.size_eq p).symm
      have hkl : k + p.size ≤ l.length := by omega
      rw [hrep] at HO hTl
      rw [List.length_append, List.length_append, List.length_take] at hTl
      have hnz : new.data.toList.length = new.size := (Lib.size_eq new).symm
      rw [hnz] at hTl
      have HIx := Lib.hid hix
      have HOwn := Lib.hid hown
      have hx1 := take_mk l k
      have hx2 := drop_mk l (k + p.size)
      rw [hlz] at hx2
      have HX1 := Lib.hid hx1
      have HX2 := Lib.hid hx2
      have hkl1 : (k : Int) + (p.size : Int) ≤ ((⟨l.toArray⟩ : ByteArray).size : Int) := by rw [hlz]; omega
      have hkl2 : (k : Int) ≤ ((⟨l.toArray⟩ : ByteArray).size : Int) := by rw [hlz]; omega
      have hmx : (⟨l.toArray⟩ : ByteArray).size ≤ 4611686018427387903 := by rw [hlz]; exact hll
      have k0 : (0 : Int) ≤ (k : Int) := by omega
      have HZ := Lib.hid hlz
      have HPZ := Lib.hid hpz
      clear hrep hix hle hge hneg hdl hk hx1 hx2 hlz hpz hnz hown
      go_wp2_with fail
      refine (HIx.out _).mono ?_
      rintro e w1 ⟨rfl, rfl⟩
      go_wp2_with (at_builtin; refine Lib.wpList_append_own_string _ rfl _ _ 160 9 rfl w.heap.size 5 i0 Try.underlying160 Try.underlying9 hi hz0 hz1 hz2 _ _ _ rfl HOwn.out ((⟨l.toArray⟩ : ByteArray).extract 0 k) rfl ?d1 ?d2 ?d3 ?_)
      case d1 => rw [HX1.out]; show o.length + (l.take k).length ≤ _; rw [List.length_take]; unfold maxLen; omega
      case d2 => rw [HX1.out]; show o.length + (l.take k).length ≤ _; rw [List.length_take]; omega
      case d3 => exact hbw.size
      intro v' w2 hown' hgrow _
      have hown2 : w2.ownsRow w.heap.size 5 1 v' (o ++ l.take k).length (byteCells (o ++ l.take k)) := by
        rw [cells_append, List.length_append, List.length_take]
        rw [HX1.out] at hown'
        exact hown'
      have hb2 : Below w.heap.size w w2 := hbw.grown hgrow hbw.size (fun j hj => (HOwn.out.lt j hj).1)
      have HOwn2 := Lib.hid hown2
      clear hown' hgrow hown2
      go_wp2_with (at_builtin; refine Lib.wpList_append_own_string _ rfl _ _ 160 9 rfl w.heap.size 5 i0 Try.underlying160 Try.underlying9 hi hz0 hz1 hz2 _ _ _ rfl HOwn2.out new rfl ?e1 ?e2 ?e3 ?_)
      case e1 => rw [List.length_append, List.length_take]; unfold maxLen; omega
      case e2 => rw [List.length_append, List.length_take]; omega
      case e3 => exact hb2.size
      intro v3 w3 hown' hgrow _
      have hb3 : Below w.heap.size w w3 := hb2.grown hgrow hb2.size (fun j hj => (HOwn2.out.lt j hj).1)
      have hfin : Hid (Built w T (replAll p.data.toList new.data.toList (l.drop (k + p.size))) v3 w3) := by
        refine ⟨(o ++ l.take k) ++ new.data.toList, ?_, ?_, hb3⟩
        · rw [cells_append, List.length_append, List.length_append, List.length_take, ← Lib.size_eq]; exact hown'
        · have := HO.out
          rw [HPZ.out] at this
          rw [← this, List.append_assoc, List.append_assoc]
      clear hown' hgrow hb3 hb2 hbw
      have hlast : (l.drop (k + p.size)).length < l.length := by rw [List.length_drop]; omega
      have HL := Lib.hid hlast
      clear hlast
      go_wp2
      go_roundw
      case rel =>
        refine ⟨l.drop (k + p.size), ?_, by have := HL.out; omega, hfin⟩
        rw [← HX2.out, ← HZ.out]
      case measure =>
        have := HL.out
        have h1 := HZ.out
        have h2 := HX2.out
        show strLen (.string _) < strLen (.string _)
        unfold strLen
        simp only []
        rw [h2]
        exact this


/-- two parts, or one -/
def split2 (p l : List UInt8) : List ByteArray :=
  if idx l p < 0 then [⟨l.toArray⟩] else [⟨(l.take (idx l p).toNat).toArray⟩, ⟨(l.drop ((idx l p).toNat + p.length)).toArray⟩]
def ListB (zs : List ByteArray) (w : World) (e : Ending) (w' : World) : Prop := ∃ v, e = .returned v ∧ Sl.Of Value.string w' v zs ∧ Below w.heap.size w w'

theorem two_made {w w2 : World} {s1 s2 : ByteArray} (hb : Below w.heap.size w w2) :
    ListB [s1, s2] w (.returned (.slice (some ⟨w2.heap.size, 0, none⟩) 2 2)) (w2.alloc (.cells #[.string s1, .string s2] 9)) := by
  refine ⟨_, rfl, ?_, hb.alloc hb.size _⟩
  refine Or.inr ⟨w2.heap.size, 0, 2, rfl, by simp, by simp, by omega, by simp, ?_⟩
  intro i hi
  rw [Sl.cell_new]
  match i, hi with
  | 0, _ => rfl
  | 1, _ => rfl
  | i + 2, hi => simp at hi; omega
theorem one_made {w w2 : World} {s1 : ByteArray} (hb : Below w.heap.size w w2) :
    ListB [s1] w (.returned (.slice (some ⟨w2.heap.size, 0, none⟩) 1 1)) (w2.alloc (.cells #[.string s1] 9)) := by
  refine ⟨_, rfl, ?_, hb.alloc hb.size _⟩
  refine Or.inr ⟨w2.heap.size, 0, 1, rfl, by simp, by simp, by omega, by simp, ?_⟩
  intro i hi
  rw [Sl.cell_new]
  match i, hi with
  | 0, _ => rfl
  | i + 1, hi => simp at hi

set_option maxHeartbeats 4000000 in
set_option maxRecDepth 100000 in
theorem split_any (l : List UInt8) (p : ByteArray) (hl : l.length ≤ 4611686018427387903) (hp : 0 < p.size) (hp2 : p.size ≤ 1048576) (w : World) :
    Calls Try.prog 71 #[.string ⟨l.toArray⟩, .string p] w (ListB (split2 p.data.toList l) w) := by
  have hlz : (⟨l.toArray⟩ : ByteArray).size = l.length := rfl
  have hix := index_any ⟨l.toArray⟩ p (by rw [hlz]; exact hl) hp hp2
  have hdl : (⟨l.toArray⟩ : ByteArray).data.toList = l := rfl
  rw [hdl] at hix
  have hle := idx_le p.data.toList l 0
  have hge := idx_ge p.data.toList l 0
  have e0 : idxFrom p.data.toList l 0 = idx l p.data.toList := rfl
  rw [e0] at hle hge
  by_cases hneg : idx l p.data.toList < 0
  · have hval : idx l p.data.toList = -1 := by omega
    have hsp : split2 p.data.toList l = [⟨l.toArray⟩] := by unfold split2; rw [if_pos hneg]
    rw [hsp]
    rw [hval] at hix
    have HIx := Lib.hid hix
    clear hix hval hsp hle hge hneg hdl e0 hlz
    go_enter Try.func71, Try.ntmps71
    go_wp2_with fail
    refine (HIx.out _).mono ?_
    rintro e w1 ⟨rfl, rfl⟩
    go_wp2
    go_ret
    exact one_made (Below.refl _ _)
  · obtain ⟨k, hk⟩ : ∃ k : Nat, idx l p.data.toList = (k : Int) := ⟨(idx l p.data.toList).toNat, by omega⟩
    have hpz : p.data.toList.length = p.size := (Lib.size_eq p).symm
    have hsp : split2 p.data.toList l = [⟨(l.take k).toArray⟩, ⟨(l.drop (k + p.size)).toArray⟩] := by
      unfold split2
      rw [if_neg hneg, hk, Int.toNat_natCast, hpz]
    rw [hsp]
    rw [hk] at hix hle
    have hkl : k + p.size ≤ l.length := by omega
    have HIx := Lib.hid hix
    have hx1 := take_mk l k
    have hx2 := drop_mk l (k + p.size)
    rw [hlz] at hx2
    rw [← hx1, ← hx2]
    have hkl1 : (k : Int) + (p.size : Int) ≤ ((⟨l.toArray⟩ : ByteArray).size : Int) := by rw [hlz]; omega
    have hkl2 : (k : Int) ≤ ((⟨l.toArray⟩ : ByteArray).size : Int) := by rw [hlz]; omega
    have hmx : (⟨l.toArray⟩ : ByteArray).size ≤ 4611686018427387903 := by rw [hlz]; exact hl
    have k0 : (0 : Int) ≤ (k : Int) := by omega
    have hkl3 : k ≤ l.length := by omega
    have hkl4 : (0 : Int) ≤ (k : Int) + (p.size : Int) := by omega
    have hkl5 : (k : Int) + (p.size : Int) ≤ (l.length : Int) := by omega
    have htn : ((k : Int) + (p.size : Int)).toNat = k + p.size := by omega
    have hwr : IntKind.i64.wrap ((k : Int) + (p.size : Int)) = (k : Int) + (p.size : Int) := by rw [IntKind.wrap_i64]; omega
    have hz : (⟨l.toArray⟩ : ByteArray).extract (k + p.size) l.length = (⟨l.toArray⟩ : ByteArray).extract (k + p.size) (⟨l.toArray⟩ : ByteArray).size := rfl
    have HZ := Lib.hid hz
    clear hix hle hge hneg hdl hk hx1 hx2 hlz hpz hsp e0 hz
    go_enter Try.func71, Try.ntmps71
    go_wp2_with fail
    refine (HIx.out _).mono ?_
    rintro e w1 ⟨rfl, rfl⟩
    go_wp2
    refine wp_region_still_tail 9 (by kernel_rfl) (by kernel_rfl) ?_
    simp only [List.take_succ_cons, List.take_zero, List.drop_succ_cons, List.drop_zero]
    repeat still_step
    refine wpStill_nil ?_
    change wpList _ _ _ _ _ w.drew
    have hbd : Below w.heap.size w w.drew := (Below.refl _ _).drew
    generalize w.drew = w2 at *
    go_wp2
    go_ret
    exact two_made hbd

end Go.Proofs.Ytkmfedmiaannfaa.Zix
