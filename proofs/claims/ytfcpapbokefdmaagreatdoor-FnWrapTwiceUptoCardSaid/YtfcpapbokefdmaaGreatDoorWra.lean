/- Wrapped descriptors: the map of the constant labels while the wrap fills it; plain facts of the fitted pairs. -/
import Derived.Test.YtfcpapbokefdmaaGreatDoorNdc
import Derived.Test.YtfcpapbokefdmaaGreatDoorNla
set_option linter.unusedVariables false
set_option linter.unusedSimpArgs false
namespace Go.Proofs.YtfcpapbokefdmaaGreatDoor.Nd
open Go.RowKit Go.Maps Go.WideMaps Go.ChangeShapes Go.WideShapes Go.Deep Fp Obs

theorem lastV_app (A B : List P2) (k : ByteArray) : lastV (A ++ B) k = match lastV B k with | some v => some v | none => lastV A k := by
  refine snoc_ind (P := fun B => lastV (A ++ B) k = match lastV B k with | some v => some v | none => lastV A k) ?_ ?_ B
  · simp [lastV]
  · intro L p ih
    rw [← List.append_assoc, lastV_snoc, lastV_snoc]
    by_cases e : p.1 = k
    · rw [if_pos e, if_pos e]
    · rw [if_neg e, if_neg e]; exact ih
theorem fit_congr {A B : List P2} (h : ∀ k, lastV A k = lastV B k) : fit A = fit B :=
  srt_eq (fit_srt A) (fit_srt B) fun q => by rw [mem_fit, mem_fit, h]
/-- pairs of different names that are those of the fitted list have its values -/
theorem lastV_met {ps L : List P2} (hn : (ps.map (·.1)).Nodup) (hm : ∀ q ∈ ps, q ∈ fit L) (hk : ∀ k, k ∈ ps.map (·.1) ↔ (lastV L k).isSome = true) (k : ByteArray) : lastV ps k = lastV L k := by
  cases e : lastV L k with
  | none =>
    cases e2 : lastV ps k with
    | none => rfl
    | some v =>
      have h := (mem_fit L _).1 (hm _ (lastV_mem e2))
      rw [e] at h
      cases h
  | some v =>
    have h1 : k ∈ ps.map (·.1) := (hk k).2 (by rw [e]; rfl)
    obtain ⟨q, hq, rfl⟩ := List.mem_map.1 h1
    have h2 := (mem_fit L q).1 (hm q hq)
    have h3 : lastV ps q.1 = some q.2 := lastV_of hn hq
    rw [h3, ← h2, e]
theorem fit_met {F ps L : List P2} (hn : (ps.map (·.1)).Nodup) (hm : ∀ q ∈ ps, q ∈ fit L) (hk : ∀ k, k ∈ ps.map (·.1) ↔ (lastV L k).isSome = true) : fit (F ++ ps) = fit (F ++ L) :=
  fit_congr fun k => by rw [lastV_app, lastV_app, lastV_met hn hm hk]
theorem fit_fit (C L : List P2) : fit (fit C ++ L) = fit (C ++ L) :=
  fit_congr fun k => by
    rw [lastV_app, lastV_app]
    cases lastV L k with
    | some v => rfl
    | none =>
      show lastV (fit C) k = lastV C k
      refine lastV_met ?_ (fun q h => h) (fun k => fit_key C k) k
      exact srt_nodup (fit_srt C)
/-- not among the names met: what the map says is what the descriptor's pairs say -/
theorem lastV_new {F ps : List P2} {x : ByteArray} (h : x ∉ ps.map (·.1)) : lastV (F ++ ps) x = lastV F x := by
  rw [lastV_app]
  cases e : lastV ps x with
  | none => rfl
  | some v => exact absurd (List.mem_map.2 ⟨_, lastV_mem e, rfl⟩) h
theorem isSome_keys {F : List P2} (k : ByteArray) : (lastV F k).isSome = true ↔ k ∈ F.map (·.1) := by
  rw [← fit_key]
  constructor
  · intro h
    obtain ⟨q, hq, rfl⟩ := List.mem_map.1 h
    exact List.mem_map.2 ⟨q, fit_sub hq, rfl⟩
  · intro h
    rw [fit_key]
    induction F using snoc_ind with
    | h0 => simp at h
    | hs L p ih =>
      rw [lastV_snoc]
      by_cases e : p.1 = k
      · rw [if_pos e]; rfl
      · rw [if_neg e]
        refine ih ?_
        rw [List.map_append, List.mem_append] at h
        rcases h with h | h
        · exact h
        · simp at h; exact absurd h.symm e

/-- a map of labels of the call's own -/
abbrev MpOb (b : Nat) (L : List P2) : Ob := ⟨[b], fun w => Mp w b L, fun h hl k hn => Mp.kept h k (hn b (by simp))⟩
set_option maxRecDepth 100000 in
theorem look2_run {w : World} {b : Nat} {L : List P2} (h : Mp w b L) (s : ByteArray) (hs : s.size ≤ maxLen) :
    (Instr.lookup 106 (.map (some b)) (.string s) true).run Tryz.prog w = .ok (match lastV L s with | some v => .tuple #[.string v, .bool true] | none => .tuple #[.string ByteArray.empty, .bool false]) w := by
  obtain ⟨n, D, _, ⟨es, clock, hb, F, _, hD⟩, hat⟩ := h
  rcases Maps.fit_look true lawS Tryz.underlying106 (zeroStr w) hb F (keyOf_string_mk Tryz.underlying9 (s := s) hs) with ⟨hrun, _, h3⟩ | ⟨e0, y, hm, hk, hrun, hR, h3, _⟩
  · have h4 := hat s .nil
    rw [hD] at h4
    have h5 := h3 DataW.nil
    change _ = _ at h5
    cases hl : lastV L s with
    | none => rw [hrun]; rfl
    | some v =>
      rw [hl] at h4
      exact absurd (h4.symm.trans h5) (by intro e; cases e)
  · have h4 := hat s .nil
    rw [hD] at h4
    have h5 := h3 DataW.nil
    obtain ⟨s2, e1, e2, _⟩ := plainElem_string_inv Tryz.underlying9 hR
    rw [e2] at h5
    cases hl : lastV L s with
    | none =>
      rw [hl] at h4
      exact absurd (h4.symm.trans h5) (by intro e; cases e)
    | some v =>
      rw [hl] at h4
      have h6 := h4.symm.trans h5
      injection h6 with h6
      rw [hrun, e1]
      have : v = s2 := sl_inj h6
      rw [this]; rfl

section
variable {B r : Nat} {w0 w w' : World} {l rr : List Ob} {m : Option Nat} {L : List P2} {ks : List ByteArray} {cnt : Nat}
/-- a pair put: what the walk is to show of the map's data is open -/
theorem Sts.mpPut {b : Nat} {A : List P2} {p : P2} (h : Sts B w0 (l ++ MpOb b A :: rr) w) (hB : B ≤ w.heap.size) (k : w.grownBy w' (some b)) (ho : Mp w' b (A ++ [p])) : Sts B w0 (l ++ MpOb b (A ++ [p]) :: rr) w' :=
  h.set hB k (fun b' e => by injection e with e; subst e; exact Or.inl (List.mem_singleton.2 rfl)) (o' := MpOb b (A ++ [p])) ho (fun b hb => Or.inl hb) (by simp)
theorem Lp.mpPut {b : Nat} {A : List P2} {p : P2} (h : Lp B w0 (l ++ MpOb b A :: rr) r m L ks cnt w) (hm : ∀ b, m = some b → b < B) (k : w.grownBy w' (some b)) (ho : Mp w' b (A ++ [p])) : Lp B w0 (l ++ MpOb b (A ++ [p]) :: rr) r m L ks cnt w' :=
  h.set hm k (fun b' e => by injection e with e; subst e; exact List.mem_singleton.2 rfl) (o' := MpOb b (A ++ [p])) ho (fun b hb => Or.inl hb) (by simp)
end
theorem NewOk2.of {nm hp un : ByteArray} {V : List ByteArray} {L L' : List P2} (h : NewOk2 nm hp un V L) (e : fit L' = fit L) (hl : L'.length ≤ 1048576) : NewOk2 nm hp un V L' :=
  ⟨h.nm0, h.nmA, h.nmS, by rw [e]; exact h.keys, h.vars, hl, h.lenV, by rw [e]; exact h.idl, by rw [e]; exact h.dml⟩

end Go.Proofs.YtfcpapbokefdmaaGreatDoor.Nd
