/- Wrapped descriptors: what a wrap of a plain descriptor asks of NewDesc; two wraps against one (plain Lean). -/
import Derived.Test.YtfcpapbokefdmaaGreatDoorWrd
import Derived.Test.YtfcpapbokefdmaaGreatDoorWre
import Derived.Test.YtfcpapbokefdmaaGreatDoorNsc
set_option linter.unusedVariables false
set_option linter.unusedSimpArgs false
namespace Go.Proofs.YtfcpapbokefdmaaGreatDoor.Nd
open Go.RowKit Go.ChangeShapes Go.WideShapes Go.Deep Fp

theorem len_wp (L : List P2) : L.length ≤ wp L := by
  induction L with
  | nil => simp
  | cons p L ih => rw [wp_cons, List.length_cons]; omega
theorem ok2_of {nm hp un n2 : ByteArray} {V : List ByteArray} {L A : List P2} (h : NewOk nm hp un V L) (hnm : plainB n2 = true) (hA : ∀ q ∈ A, NameOk q.1 ∧ Asc q.2 ∧ q.2.size ≤ 2147483647)
    (hb : n2.size + hp.size + un.size + wt V + wp L + wp A ≤ 1048576) : NewOk2 n2 hp un V (fit L ++ A) := by
  have hp' := plainB_iff.1 hnm
  have hfw := fit_wp L
  have hx := fit_wp (fit L ++ A)
  have hlen := len_wp (fit L ++ A)
  rw [wp_app] at hx hlen
  refine ⟨hp'.2.1, plain_asc hp', by omega, fun q hq => ?_, h.vars, by omega, h.lenV, ?_, ?_⟩
  · rcases List.mem_append.1 (fit_sub hq) with h1 | h1
    · exact h.keys q h1
    · exact hA q h1
  · unfold idOf
    rw [seps_wt, wt_cons]
    have := wt_vals (fit (fit L ++ A))
    omega
  · unfold dimOf
    simp only [List.length_append, List.length_cons, List.length_nil, seps_wt, dl_len]
    rw [wt_perm (sortB_perm _), wt_app, wt_dollar]
    have := wt_keys (fit (fit L ++ A))
    have := h.lenV
    omega
theorem fit_idem (X : List P2) : fit (fit X) = fit X := by
  have h := fit_fit X []
  simpa using h
theorem ok_of {nm hp un : ByteArray} {V : List ByteArray} {X : List P2} (h : NewOk2 nm hp un V X) (hnd : ((fit X).map (·.1) ++ V).Nodup) : NewOk nm hp un V (fit X) :=
  ⟨h.nm0, h.nmA, h.nmS, by rw [fit_idem]; exact h.keys, h.vars, by rw [fit_idem]; exact hnd, Nat.le_trans (fit_le X) h.lenL, h.lenV, by rw [fit_idem]; exact h.idl, by rw [fit_idem]; exact h.dml⟩
theorem pp_ok {A : List P2} (h : ppB A = true) (hs : wp A ≤ 1048576) : ∀ q ∈ A, NameOk q.1 ∧ Asc q.2 ∧ q.2.size ≤ 2147483647 := fun q hq => by
  have h1 := ppB_iff.1 h q hq
  unfold ppOk at h1
  simp only [Bool.and_eq_true] at h1
  have := mem_wp hq
  exact ⟨name_ok h1.1.1.1 (by omega), ascii_asc h1.1.1.2, by omega⟩
theorem isSome_app {a b : List P2} {k : ByteArray} : (lastV (a ++ b) k).isSome = true ↔ (lastV a k).isSome = true ∨ (lastV b k).isSome = true := by
  rw [isSome_keys, isSome_keys, isSome_keys, List.map_append, List.mem_append]
theorem fit_two (F a b : List P2) : fit (fit (F ++ a) ++ b) = fit (F ++ (a ++ b)) := by rw [fit_fit, List.append_assoc]
theorem ins_new (p : P2) : ∀ F : List P2, (ins p F).length ≤ F.length + 1
  | [] => by simp [ins]
  | q :: F => by
    have ih := ins_new p F
    unfold ins
    split
    · simp; exact ih
    · split <;> simp
/-- a list as long as its fitted one has no name twice -/
theorem fit_all {L : List P2} : (fit L).length = L.length → (L.map (·.1)).Nodup := by
  refine snoc_ind (P := fun L => (fit L).length = L.length → (L.map (·.1)).Nodup) (fun _ => by simp) (fun L p ih h => ?_) L
  have h1 := fit_le L
  have h2 := ins_new p (fit L)
  rw [fit_snoc, List.length_append, List.length_singleton] at h
  have hL := ih (by omega)
  rw [List.map_append, List.map_cons, List.map_nil, List.nodup_append]
  refine ⟨hL, by simp, fun k hk k2 hk2 e => ?_⟩
  rw [List.mem_singleton.1 hk2] at e
  subst e
  have hmem : p.1 ∈ (fit L).map (·.1) := (fit_key L p.1).2 ((isSome_keys p.1).2 hk)
  have hkeys : (ins p (fit L)).length = (fit L).length := by
    have e1 : ((ins p (fit L)).map (·.1)).length = ((fit L).map (·.1)).length := by
      have n1 := srt_nodup (ins_srt p (fit_srt L))
      have n2 := srt_nodup (fit_srt L)
      refine List.Perm.length_eq ?_
      refine (List.perm_ext_iff_of_nodup n1 n2).2 fun k => ?_
      rw [ins_keys]
      exact ⟨fun h => h.elim (fun e => by rw [e]; exact hmem) id, Or.inr⟩
    simpa using e1
  omega
theorem clash_more {V : List ByteArray} {F a : List P2} (b : List P2) (h : Clash V F a) : Clash V F (a ++ b) := by
  rcases h with ⟨k, h1, h2⟩ | h
  · exact Or.inl ⟨k, isSome_app.2 (Or.inl h1), h2⟩
  · refine Or.inr fun hn => h ?_
    rw [List.nodup_append] at hn ⊢
    refine ⟨srt_nodup (fit_srt _), hn.2.1, fun x hx y hy => hn.2.2 x ?_ y hy⟩
    rw [fit_key, ← List.append_assoc, isSome_app]
    exact Or.inl ((fit_key _ _).1 hx)
theorem no_clash {V : List ByteArray} {F a b : List P2} (h : ¬ Clash V F (a ++ b)) (hf : (fit (a ++ b)).length = (a ++ b).length) : ¬ Clash V (fit (F ++ a)) b := by
  rintro (⟨k, h1, h2⟩ | h2)
  · have h3 := (fit_key _ _).1 h2
    rcases isSome_app.1 h3 with h4 | h4
    · exact h (Or.inl ⟨k, isSome_app.2 (Or.inr h1), (isSome_keys k).1 h4⟩)
    · have hn := fit_all hf
      rw [List.map_append, List.nodup_append] at hn
      exact hn.2.2 k ((isSome_keys k).1 h4) k ((isSome_keys k).1 h1) rfl
  · refine h (Or.inr ?_)
    rw [fit_two] at h2
    exact h2
theorem nodup_of_no {V : List ByteArray} {F a : List P2} (h : ¬ Clash V F a) : ((fit (F ++ a)).map (·.1) ++ V).Nodup := by
  by_cases hn : ((fit (F ++ a)).map (·.1) ++ V).Nodup
  · exact hn
  · exact absurd (Or.inr hn) h

end Go.Proofs.YtfcpapbokefdmaaGreatDoor.Nd
