/- Descriptors: plain data make a valid descriptor (plain Lean). -/
import Derived.Test.YtfcpapbokefdmaaGreatDoorNwt
import Derived.Test.YtfcpapbokefdmaaGreatDoorNde
set_option linter.unusedVariables false
set_option linter.unusedSimpArgs false
namespace Go.Proofs.YtfcpapbokefdmaaGreatDoor.Nd
open Go.RowKit Go.ChangeShapes Go.WideShapes Go.Deep Fp

theorem plain_asc {s : ByteArray} (h : PlainP s) : Asc s := by
  intro b hb
  obtain ⟨j, hj, rfl⟩ := List.mem_iff_getElem.1 hb
  have hj2 : j < s.size := by rw [← dl_len]; exact hj
  have h1 := h.1 j hj2
  have h2 := dl_get s j hj2
  rw [List.getElem?_eq_getElem hj] at h2
  have h3 : (dl s)[j] = s[j] := Option.some.inj h2
  unfold plainC at h1
  rw [decide_eq_true_eq] at h1
  have h5 : s[j].toNat < 128 := by omega
  exact Nat.lt_of_le_of_lt (Nat.le_of_eq (congrArg UInt8.toNat h3)) h5
theorem plain_free {s : ByteArray} (h : PlainP s) : Lib.hasPrefix s.data.toList [95, 95] = false := by
  cases hb : Lib.hasPrefix s.data.toList [95, 95] with
  | false => rfl
  | true =>
    exfalso
    have h2 := h.2.2
    have h3 := Lib.hasPrefix_raw s ⟨#[95, 95]⟩
    have h4 : Lib.hasPrefix s.data.toList (ByteArray.mk #[95, 95]).data.toList = true := hb
    rw [h4, Bool.and_eq_true, decide_eq_true_eq, beq_iff_eq] at h3
    have e3 : (ByteArray.mk #[95, 95]).toList = [95, 95] := by rw [Lib.toList_data]
    have e2 : (ByteArray.mk #[95, 95]).size = 2 := rfl
    rw [e2] at h3
    rcases h2 with h2 | h2
    · omega
    · exact h2 (h3.2.trans e3)
theorem name_ok {s : ByteArray} (h : plainB s = true) (hs : s.size ≤ 2147483647) : NameOk s := by
  have hp := plainB_iff.1 h
  exact ⟨hp.2.1, hs, plain_asc hp, plain_free hp⟩
theorem inB_false {x : ByteArray} {l : List ByteArray} (h : inB x l = false) : x ∉ l := by
  intro hm
  unfold inB at h
  rw [List.any_eq_false] at h
  exact h x hm (by simp)
theorem names_nodup {N : List ByteArray} (h : ∀ k (hk : k < N.length), nameB N N[k] k = true) : N.Nodup := by
  show List.Pairwise _ _
  rw [List.pairwise_iff_getElem]
  intro i j hi hj hij he2
  have h1 := h j hj
  unfold nameB at h1
  simp only [Bool.and_eq_true, Bool.not_eq_true'] at h1
  refine inB_false h1.2 ?_
  rw [← he2]
  exact List.mem_take_iff_getElem.2 ⟨i, by omega, rfl⟩
theorem new_ok {nm hp un : ByteArray} {V : List ByteArray} {L : List P2} (h : sayB nm hp un V L = true) (hs : Small nm hp un V L) : NewOk nm hp un V L := by
  have hp' := sayB_iff.1 h
  have hall := hs.all
  have hnm := plainB_iff.1 hp'.nm
  have hfw := fit_wp L
  have hname : ∀ x ∈ namesOf V L, plainB x = true := fun x hx => by
    obtain ⟨k, hk, rfl⟩ := List.mem_iff_getElem.1 hx
    have h1 := hp'.names k hk
    unfold nameB at h1
    simp only [Bool.and_eq_true] at h1
    exact h1.1.1.1
  have hN := names_nodup hp'.names
  refine ⟨hnm.2.1, plain_asc hnm, by omega, fun p hpm => ⟨name_ok (hname _ ?_) ?_, ?_, ?_⟩, fun v hv => name_ok (hname _ (List.mem_append.2 (Or.inl hv))) ?_, ?_, hs.lenL, hs.lenV, ?_, ?_⟩
  · exact List.mem_append.2 (Or.inr (List.mem_map.2 ⟨p, hpm, rfl⟩))
  · have := mem_wp hpm; omega
  · obtain ⟨k, hk, rfl⟩ := List.mem_iff_getElem.1 hpm
    exact ascii_asc (hp'.vals k hk)
  · have := mem_wp hpm; omega
  · have := mem_wt hv; omega
  · exact (List.perm_append_comm.nodup_iff).1 hN
  · unfold idOf
    rw [seps_wt, wt_cons]
    have := wt_vals (fit L)
    omega
  · unfold dimOf
    simp only [List.length_append, List.length_cons, List.length_nil, seps_wt, dl_len]
    rw [wt_perm (sortB_perm _), wt_app, wt_dollar]
    have := wt_keys (fit L)
    have := hs.lenV
    omega

end Go.Proofs.YtfcpapbokefdmaaGreatDoor.Nd
