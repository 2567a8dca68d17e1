/- Spans: the thin package's Spans walked. -/
import Derived.Test.YtkmfedmiaannfaaSpv
set_option linter.unusedVariables false
set_option linter.unusedSimpArgs false
namespace Go.Proofs.Ytkmfedmiaannfaa.Sp
open Go.RowKit Go.Maps Go.WideMaps Go.ChangeShapes Go.WideShapes Go.Deep Fp

set_option maxRecDepth 100000 in
theorem door_any (L : List N2) (b : Nat) (w : World) (hm : Mi w b L) (hL : L.length ≤ 2147483647) (hr : ∀ q : N2, lastN L q.1 = some q.2 → (-1073741824 < q.1 ∧ q.1 < 1073741824) ∧ In64 q.2) :
    Calls Try.prog 61 #[.map (some b)] w (MadeOut L w) := by
  have HM := Lib.hid (made_any L b w hm hL hr)
  clear hm hr
  go_enter Try.func61, Try.ntmps61
  go_wp2_with (go_at_call 86; refine HM.out.mono ?_; rintro e w' ⟨M, vs, vd, rfl, h1, h2, h3, h4, h5, h6⟩; have HF : Hid (MadeOut L w (.returned (.tuple #[vs, vd])) w') := ⟨M, vs, vd, rfl, h1, h2, h3, h4, h5, h6⟩; clear h1 h2 h3 h4 h5 h6)
  go_ret2
  exact HF.out

def SpansOut (L : List N2) (w : World) (e : Ending) (w' : World) : Prop :=
  ∃ M v1 v2, e = .returned (.tuple #[v1, v2]) ∧ Rise M ∧ (∀ q, q ∈ M ↔ lastN L q.1 = some q.2) ∧ Ss.Of 2 rc w' v1 (runsOf 0 (buildX M)) ∧ Sl.Of (Value.int .i64) w' v2 (deltasOf 0 (counts (buildX M))) ∧ Below w.heap.size w w'

theorem ones_i (zs : List Int) : ∀ u ∈ zs.map (Value.int .i64), u.oneCell' = true := by
  intro u hu
  obtain ⟨x, _, rfl⟩ := List.mem_map.1 hu
  rfl
theorem last_mem {L : List N2} : ∀ {k v : Int}, lastN L k = some v → (k, v) ∈ L := by
  have gen : ∀ (n : Nat) (L : List N2), L.length = n → ∀ k v, lastN L k = some v → (k, v) ∈ L := by
    intro n
    induction n with
    | zero => intro L h k v hl; rw [List.length_eq_zero_iff.1 h] at hl; cases hl
    | succ n ih =>
      intro L h k v hl
      have hne : L ≠ [] := by intro e; rw [e] at h; simp at h
      obtain ⟨D, p, rfl⟩ : ∃ D p, L = D ++ [p] := ⟨L.dropLast, L.getLast hne, (List.dropLast_concat_getLast hne).symm⟩
      rw [lastN_snoc] at hl
      by_cases e : p.1 = k
      · rw [if_pos e] at hl
        injection hl with hl
        rw [← e, ← hl]; simp
      · rw [if_neg e] at hl
        exact List.mem_append.2 (Or.inl (ih D (by simp at h; exact h) k v hl))
  intro k v h
  exact gen _ L rfl k v h
theorem rise_len : ∀ (M : List N2) (lo hi : Int), lo < hi → Rise M → (∀ q ∈ M, lo < q.1 ∧ q.1 < hi) → (M.length : Int) ≤ hi - lo - 1
  | [], lo, hi, h, _, _ => by simp; omega
  | p :: r, lo, hi, h, hr, hq => by
    have hp := hq p (by simp)
    have := rise_len r p.1 hi hp.2 hr.2 (fun q hq2 => ⟨hr.1 q hq2, (hq q (by simp [hq2])).2⟩)
    simp
    omega
theorem near_len {M : List N2} (hr : Rise M) (hn : Near M) : M.length ≤ 2147483647 := by
  have := rise_len M (-1073741824) 1073741824 (by decide) hr hn
  omega

theorem cells_of {w : World} {g n c : Nat} {L : List Int} (h : Sl.Of (Value.int .i64) w (.slice (some ⟨g, 0, none⟩) n c) L) : ∀ j u, (L.map (Value.int .i64))[j]? = some u → w.cell? ((⟨g, 0, none⟩ : Addr).add j) = some u := by
  intro j u hu
  have hj : j < L.length := by
    rcases Nat.lt_or_ge j L.length with h1 | h1
    · exact h1
    · rw [List.getElem?_eq_none (by simpa using h1)] at hu; cases hu
  obtain ⟨b, off, e, hb, hc⟩ := int_at h hj
  injection e with e
  injection e with e1 e2
  subst e1 e2
  rw [List.getElem?_map, List.getElem?_eq_getElem hj] at hu
  injection hu with hu
  rw [Addr.add_lit, ← hu]
  exact hc

set_option maxHeartbeats 8000000 in
set_option maxRecDepth 100000 in
theorem spans_any (L : List N2) (v : Value) (w : World) (hof : Ss.Of 2 cc w v L) (hL : L.length ≤ 2147483647) (hr : ∀ p ∈ L, (-1073741824 < p.1 ∧ p.1 < 1073741824) ∧ In64 p.2) :
    Calls Try.prog 33 #[v] w (SpansOut L w) := by
  obtain ⟨i0, hi, hz0, hz1, hz2⟩ := info_parts infoI
  have HOf := Lib.hid hof
  have HR1 : Hid (∀ p ∈ L, In64 p.1 ∧ In64 p.2) := fun p hp => ⟨by have := (hr p hp).1; unfold In64; omega, (hr p hp).2⟩
  have HR2 : Hid (∀ q : N2, lastN L q.1 = some q.2 → (-1073741824 < q.1 ∧ q.1 < 1073741824) ∧ In64 q.2) := fun q hq => hr q (last_mem hq)
  have HMade : Hid (∀ M : List N2, Rise M → (∀ q : N2, q ∈ M ↔ lastN L q.1 = some q.2) → Near M) := fun M h1 h2 q hq => (hr q (last_mem ((h2 q).1 hq))).1
  clear hof hr
  go_enter Try.func33, Try.ntmps33
  go_wp2_with (first
    | (go_at_call 62; refine (map_any L v w HOf.out hL HR1.out).mono ?_; rintro e w1 ⟨rfl, hm1, hb1⟩; have HM1 := Lib.hid hm1; have HB1 := Lib.hid hb1; clear hm1 hb1)
    | (go_at_call 61; refine (door_any L w.heap.size w1 HM1.out hL HR2.out).mono ?_; rintro e w2 ⟨M, vs, vd, rfl, h1, h2, h3, h4, h5, h6⟩; have H1 := Lib.hid h1; have H2 := Lib.hid h2; have H3 := Lib.hid h3; have H4 := Lib.hid h4; have H5 := Lib.hid h5; have H6 := Lib.hid h6; clear h1 h2 h3 h4 h5 h6)
    | fail)
  have HMd := Lib.hid (made _ M rfl H1.out (HMade.out M H1.out H2.out))
  have HLen := Lib.hid (near_len H1.out (HMade.out M H1.out H2.out))
  have HRl : Hid ((runsOf 0 (buildX M)).length ≤ 2147483648) := by show _ ≤ _; rw [runsOf_len]; have := HMd.out.few; have := HLen.out; omega
  have HDl : Hid ((deltasOf 0 (counts (buildX M))).length ≤ 6442450941) := by show _ ≤ _; rw [deltasOf_len]; have := HMd.out.sum; have := HLen.out; omega
  rcases H5.out with ⟨hv, hz⟩ | ⟨g, cd, hv⟩
  · subst hv
    go_wp2_with (first
      | (go_at_call 63; refine (runs_any _ vs w2 H3.out HRl.out).mono ?_; rintro e w3 ⟨v3, rfl, h1, h2⟩; have H7 := Lib.hid h1; have H8 := Lib.hid h2; clear h1 h2))
    have HF : Hid (SpansOut L w (.returned (.tuple #[v3, .slice none 0 0])) w3) :=
      ⟨M, v3, _, rfl, H1.out, H2.out, H7.out, by rw [hz]; exact Sl.Of.own (World.ownsRow_nil _ 0 0 1), HB1.out.trans ((H6.out.mono HB1.out.size).trans (H8.out.mono (Nat.le_trans HB1.out.size H6.out.size)))⟩
    go_ret2
    exact HF.out
  · subst hv
    go_wp2_with (first
      | (go_at_call 63; refine (runs_any _ vs w2 H3.out HRl.out).mono ?_; rintro e w3 ⟨v3, rfl, h1, h2⟩; have H7 := Lib.hid h1; have H8 := Lib.hid h2; clear h1 h2)
      | (at_builtin; refine wpList_append_own_at _ rfl _ _ 66 rfl w3.heap.size 2 i0 (.int .i64 0) 1 8 Try.underlying66 hi hz0 hz1 hz2 rfl (by decide) _ _ _ rfl (World.ownsRow_nil _ _ _ _) ⟨g, 0, none⟩ _ cd ((deltasOf 0 (counts (buildX M))).map (Value.int .i64)) rfl (by simp) ?_ (ones_i _) (by have := HDl.out; unfold maxLen; omega) (by have := HDl.out; omega) (Nat.le_refl _) ?_))
    · exact cells_of (H4.out.below H8.out)
    · intro v' w4 hown hgrow _ _
      have HF : Hid (SpansOut L w (.returned (.tuple #[v3, v'])) w4) := by
        have hb4 : Below w3.heap.size w3 w4 := (Below.refl _ _).grown hgrow (Nat.le_refl _) (fun j hj => by cases hj)
        have hle : w.heap.size ≤ w2.heap.size := Nat.le_trans HB1.out.size H6.out.size
        refine ⟨M, v3, v', rfl, H1.out, H2.out, H7.out.below hb4, Sl.Of.own (B := w3.heap.size) (e := 2) ?_, HB1.out.trans ((H6.out.mono HB1.out.size).trans ((H8.out.mono hle).trans (hb4.mono (Nat.le_trans hle H8.out.size))))⟩
        simpa using hown
      clear hown hgrow
      go_wp2_with fail
      go_ret2
      exact HF.out

end Go.Proofs.Ytkmfedmiaannfaa.Sp
