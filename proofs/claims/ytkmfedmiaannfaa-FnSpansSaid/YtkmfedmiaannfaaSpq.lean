/- Spans: rows of pointers to spans; the thin package's runs walked. -/
import Derived.Test.YtkmfedmiaannfaaSpl
import Derived.StillTailTactics
import Derived.Deep.RegionHeld3
set_option linter.unusedVariables false
set_option linter.unusedSimpArgs false
namespace Go.Proofs.Ytkmfedmiaannfaa.Sp
open Go.RowKit Go.ChangeShapes Go.WideShapes Go.Deep Fp

/-- the blocks of a span: itself, its offset's, its length's -/
abbrev Q3 := Nat × Nat × Nat
def pv (q : Q3) : Value := .pointer (some ⟨q.1, 0, none⟩)
structure SpanAt (w : World) (q : Q3) (r : N2) : Prop where
  off : w.cell? ⟨q.1, 0, none⟩ = some (.pointer (some ⟨q.2.1, 0, none⟩))
  len : w.cell? ⟨q.1, 1, none⟩ = some (.pointer (some ⟨q.2.2, 0, none⟩))
  o : w.cell? ⟨q.2.1, 0, none⟩ = some (.int .i32 r.1)
  l : w.cell? ⟨q.2.2, 0, none⟩ = some (.int .u32 r.2)
  lt : q.1 < w.heap.size ∧ q.2.1 < w.heap.size ∧ q.2.2 < w.heap.size
theorem SpanAt.below {w w' : World} {q : Q3} {r : N2} (h : SpanAt w q r) (k : Below w.heap.size w w') : SpanAt w' q r :=
  ⟨by rw [k.cell (p := ⟨q.1, 0, none⟩) h.lt.1]; exact h.off, by rw [k.cell (p := ⟨q.1, 1, none⟩) h.lt.1]; exact h.len, by rw [k.cell (p := ⟨q.2.1, 0, none⟩) h.lt.2.1]; exact h.o, by rw [k.cell (p := ⟨q.2.2, 0, none⟩) h.lt.2.2]; exact h.l,
    Nat.lt_of_lt_of_le h.lt.1 k.size, Nat.lt_of_lt_of_le h.lt.2.1 k.size, Nat.lt_of_lt_of_le h.lt.2.2 k.size⟩
/-- a slice of pointers to spans -/
def Spans (w : World) (v : Value) (R : List N2) : Prop := ∃ qs : List Q3, qs.length = R.length ∧ Sl.Of pv w v qs ∧ ∀ i (h : i < qs.length) (h2 : i < R.length), SpanAt w qs[i] R[i]
theorem ptr_at {w : World} {a : Option Addr} {n cap : Nat} {L : List Q3} (h : Sl.Of pv w (.slice a n cap) L) {k : Nat} (hk : k < L.length) : ∃ b off, a = some ⟨b, off, none⟩ ∧ b < w.heap.size ∧ w.cell? ⟨b, off + k, none⟩ = some (pv L[k]) := by
  rcases h with ⟨rfl, _⟩ | ⟨b, off, cap, h, h0, hcap, hm, hbb, hcell⟩
  · simp at hk
  · injection h with h1 h2 h3
    exact ⟨b, off, h1, hbb, hcell k hk⟩
theorem ptr_slice {w : World} {v : Value} {zs : List Q3} (h : Sl.Of pv w v zs) : ∃ a cap, v = .slice a zs.length cap := by
  rcases h with ⟨rfl, a, cap, rfl, _⟩ | ⟨b, off, cap, rfl, _⟩
  · exact ⟨_, _, rfl⟩
  · exact ⟨_, _, rfl⟩

set_option maxHeartbeats 8000000 in
set_option maxRecDepth 100000 in
theorem runs_any (R : List N2) (v : Value) (w : World) (hs : Spans w v R) (hR : R.length ≤ 2147483648) :
    Calls Try.prog 63 #[v] w (ListOut rc R w) := by
  obtain ⟨i0, hi, hz0, hz1, hz2⟩ := info_parts infoIR
  obtain ⟨qs, hl, hof, hat⟩ := hs
  obtain ⟨av, cv, rfl⟩ := ptr_slice hof
  rw [hl]
  have HOf := Lib.hid hof
  have HAt := Lib.hid hat
  have HLn := Lib.hid hl
  have HG0 : Hid (GotT rc 126 w.heap.size 0 [] (.slice none 0 0) w w) := ⟨Nat.le_refl _, World.ownsRow_nil _ _ _ _, Below.refl _ _⟩
  clear hof hat hl
  go_enter Try.func63, Try.ntmps63
  go_wp2_with fail
  go_loopw [3, 8] (fun vu vk wr => ∃ (k : Nat) (u : Value), k ≤ R.length ∧ u = vu ∧ vk = .int .i64 (k : Int) ∧ Hid (GotT rc 126 w.heap.size k (R.take k) u w wr)) (fun _ k _ => R.length - (intOf k).toNat)
  case atStart => exact ⟨0, _, Nat.zero_le _, rfl, rfl, HG0.out⟩
  case round =>
    obtain ⟨k, u, hk, rfl, rfl, hgot⟩ := hrel
    by_cases hlt : k < R.length
    · have hlq : k < qs.length := by rw [HLn.out]; exact hlt
      obtain ⟨b, off, hav, hb, d0⟩ := ptr_at HOf.out hlq
      have hsp := HAt.out k hlq hlt
      have htk : R.take (k + 1) = R.take k ++ [R[k]] := List.take_succ_eq_append_getElem hlt
      subst hav
      obtain ⟨x, y, hxy⟩ : ∃ x y, R[k] = (x, y) := ⟨_, _, rfl⟩
      obtain ⟨p, o, l, hq⟩ : ∃ p o l, qs[k] = (p, o, l) := ⟨_, _, _, rfl⟩
      rw [hxy] at htk hsp
      rw [hq] at d0 hsp
      obtain ⟨acc, hacc⟩ : ∃ acc, R.take k = acc := ⟨_, rfl⟩
      rw [hacc] at hgot htk
      have hal := hgot.out.1
      have hsz : w.heap.size ≤ wr.heap.size := hgot.out.2.2.size
      have HIn : Hid (∀ W, Below w.heap.size w W → W.cell? ⟨p, 0, none⟩ = some (.pointer (some ⟨o, 0, none⟩)) ∧ W.cell? ⟨p, 1, none⟩ = some (.pointer (some ⟨l, 0, none⟩)) ∧ W.cell? ⟨o, 0, none⟩ = some (.int .i32 x) ∧ W.cell? ⟨l, 0, none⟩ = some (.int .u32 y)) := fun W hW => by
        have h := hsp.below hW
        exact ⟨h.off, h.len, h.o, h.l⟩
      have c0 : wr.cell? ⟨b, off + k, none⟩ = some (.pointer (some ⟨p, 0, none⟩)) := by rw [hgot.out.2.2.cell (p := ⟨b, off + k, none⟩) hb]; exact d0
      have hbd : Below w.heap.size w wr.drew := hgot.out.2.2.trans (Below.refl _ _).drew
      obtain ⟨e0, e1, e2, e3⟩ := HIn.out wr.drew hbd
      have HTk := Lib.hid htk
      obtain ⟨au, cu, rfl⟩ := row_slice2 hgot.out.2.1
      have HGd : Hid (GotT rc 126 w.heap.size k acc (.slice au acc.length cu) w wr.drew) := hgot.out.below hsz (Below.refl _ _).drew
      have hszd : w.heap.size ≤ wr.drew.heap.size := hsz
      have HNews := Lib.hid (Ss.news_one wr.drew #[.int .i32 x, .int .u32 y] 126)
      have hSd := HIn.out wr.drew hbd
      have hSa : Hid (∀ ob : Obj, (wr.drew.alloc ob).cell? ⟨p, 0, none⟩ = some (.pointer (some ⟨o, 0, none⟩)) ∧ (wr.drew.alloc ob).cell? ⟨p, 1, none⟩ = some (.pointer (some ⟨l, 0, none⟩)) ∧ (wr.drew.alloc ob).cell? ⟨o, 0, none⟩ = some (.int .i32 x) ∧ (wr.drew.alloc ob).cell? ⟨l, 0, none⟩ = some (.int .u32 y)) := fun ob => HIn.out _ (hbd.alloc hszd ob)
      have HOne : Hid (∀ u ∈ [Value.int .i32 x, .int .u32 y], u.oneCell' = true) := ones_r [(x, y)]
      have H63b : Hid (acc.length + 1 ≤ maxLen) := by show _ ≤ _; unfold maxLen; omega
      have HByb : Hid ((acc.length + 1) * 8 ≤ 140737488355328) := by show _ ≤ _; omega
      have HBase : Hid (w.heap.size ≤ (wr.drew.alloc (.cells #[.int .i32 x, .int .u32 y] 126)).heap.size) := Nat.le_trans hszd (by simp)
      have HNext : Hid (∀ v2 W2, W2.ownsRow w.heap.size 126 2 v2 (acc.length + 1) (acc.flatMap rc ++ [.int .i32 x, .int .u32 y]) → (wr.drew.alloc (.cells #[.int .i32 x, .int .u32 y] 126)).grownBy W2 (Value.slice au acc.length cu).ownBlock → GotT rc 126 w.heap.size (k + 1) (R.take (k + 1)) v2 w W2) := fun v2 W2 ho hg => by
        rw [HTk.out]; exact HGd.out.app hszd ho hg
      have z1 : (0 : Int) ≤ (k : Int) := by omega
      have z2 : (k : Int) < (R.length : Int) := by omega
      clear hsp d0 hxy hq hacc htk hbd hgot e0 e1 e2 e3
      go_wp2_with fail
      go_region_held3 (fun w' => w'.cell? ⟨p, 0, none⟩ = some (.pointer (some ⟨o, 0, none⟩)) ∧ w'.cell? ⟨p, 1, none⟩ = some (.pointer (some ⟨l, 0, none⟩)) ∧ w'.cell? ⟨o, 0, none⟩ = some (.int .i32 x) ∧ w'.cell? ⟨l, 0, none⟩ = some (.int .u32 y)) (first | exact hSd | exact hSa.out _ | exact hS1)
        (first | (refine step_append_lies _ (by rfl) (.tmp 12) (.tmp 26) 65 (by rfl) w.heap.size 126 i0 (.agg #[.int .i32 0, .int .u32 0]) 2 8 Try.underlying65 hi hz0 hz1 hz2 rfl (by decide) _ _ _ (by rfl) (HGd.out.2.1.alloc _) ⟨wr.drew.heap.size, 0, none⟩ 1 1 [.int .i32 x, .int .u32 y] (by rfl) rfl HNews.out HOne.out (by decide) H63b.out HByb.out HBase.out _ rfl ?_; intro g2 cp2 W2 hown2 hgrow2 hat2 hlt2; have hfin := Lib.hid (HNext.out _ W2 hown2 hgrow2); have hS1 := HIn.out W2 hfin.out.2.2; clear hown2 hgrow2 hat2 hlt2))
      go_wp2_with fail
      go_roundw
      case rel => exact ⟨k + 1, _, by omega, rfl, by go_num, hfin.out⟩
      case measure => simp [intOf]; omega
    · obtain rfl : k = R.length := by omega
      have hg2 := hgot.out
      rw [List.take_length] at hg2
      have hfin : Hid (ListOut rc R w (.returned u) wr) := ⟨u, rfl, Ss.Of.own rc_len hg2.2.1, hg2.2.2⟩
      clear hg2 hgot
      go_wp2_with fail
      go_ret
      exact hfin.out

end Go.Proofs.Ytkmfedmiaannfaa.Sp
