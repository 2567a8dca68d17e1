/- Spans: the map's keys, sorted, with their counts: the rising list. -/
import Derived.Test.YtkmfedmiaannfaaSpl
set_option linter.unusedVariables false
set_option linter.unusedSimpArgs false
namespace Go.Proofs.Ytkmfedmiaannfaa.Sp

def withCount (L : List N2) (k : Int) : N2 := (k, (lastN L k).getD 0)
theorem rise_of (L : List N2) : ∀ (ss : List Int), ss.Pairwise (· < ·) → Rise (ss.map (withCount L))
  | [], _ => trivial
  | k :: ss, h => by
    rw [List.pairwise_cons] at h
    refine ⟨fun q hq => ?_, rise_of L ss h.2⟩
    obtain ⟨j, hj, rfl⟩ := List.mem_map.1 hq
    exact h.1 j hj
theorem strict_of : ∀ (ss : List Int), ss.Pairwise (· ≤ ·) → ss.Nodup → ss.Pairwise (· < ·)
  | [], _, _ => List.Pairwise.nil
  | k :: ss, h, hn => by
    rw [List.pairwise_cons] at h ⊢
    rw [List.nodup_cons] at hn
    refine ⟨fun j hj => ?_, strict_of ss h.2 hn.2⟩
    have h1 := h.1 j hj
    have h2 : k ≠ j := fun e => hn.1 (by rw [e]; exact hj)
    omega
/-- the keys as they were met, sorted -/
theorem sorted_keys {L : List N2} {ks : List Int} (hn : ks.Nodup) (hk : ∀ k, k ∈ ks ↔ (lastN L k).isSome = true) :
    Rise ((ks.mergeSort fun x y => decide (x ≤ y)).map (withCount L)) ∧ ∀ q, q ∈ (ks.mergeSort fun x y => decide (x ≤ y)).map (withCount L) ↔ lastN L q.1 = some q.2 := by
  have hp := List.mergeSort_perm ks (fun x y => decide (x ≤ y))
  have hs : (ks.mergeSort fun x y => decide (x ≤ y)).Pairwise (fun a b => decide (a ≤ b) = true) := List.pairwise_mergeSort (by intro a b c; simp; omega) (by intro a b; simp; omega) ks
  have hs2 : (ks.mergeSort fun x y => decide (x ≤ y)).Pairwise (· ≤ ·) := hs.imp (fun h => by simpa using h)
  refine ⟨rise_of L _ (strict_of _ hs2 (hp.nodup_iff.2 hn)), fun q => ?_⟩
  rw [List.mem_map]
  constructor
  · rintro ⟨k, hk2, rfl⟩
    have := (hk k).1 (hp.mem_iff.1 hk2)
    obtain ⟨v, hv⟩ := Option.isSome_iff_exists.1 this
    unfold withCount
    simp [hv]
  · intro h
    refine ⟨q.1, hp.mem_iff.2 ((hk q.1).2 (by rw [h]; rfl)), ?_⟩
    unfold withCount
    rw [h]; rfl

end Go.Proofs.Ytkmfedmiaannfaa.Sp
