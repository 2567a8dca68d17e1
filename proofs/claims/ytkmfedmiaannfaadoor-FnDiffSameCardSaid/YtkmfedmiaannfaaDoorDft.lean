/- Differences of two lists: the comparison of two lists of texts; a part of a slice. -/
import Derived.Test.YtkmfedmiaannfaaDoorDfa
import Derived.Deep.QuietTactic
import Derived.BigQuiet
set_option linter.unusedVariables false
set_option linter.unusedSimpArgs false
namespace Go.Proofs.YtkmfedmiaannfaaDoor.Df
open Go.RowKit Go.Maps Go.WideMaps Go.ChangeShapes

theorem Of_slice {α : Type} {c : α → Value} {w : World} {v : Value} {zs : List α} (h : Sl.Of c w v zs) : ∃ a cap, v = .slice a zs.length cap ∧ zs.length ≤ cap ∧ cap ≤ 9223372036854775807 := by
  rcases h with ⟨rfl, a, cap, rfl, hc⟩ | ⟨b, off, cap, rfl, h1, h2, h3, _⟩
  · exact ⟨_, _, rfl, by simp, hc⟩
  · exact ⟨_, _, rfl, h2, h3⟩
theorem Of_at {α : Type} {c : α → Value} {w : World} {a : Option Addr} {n cap : Nat} {zs : List α} (h : Sl.Of c w (.slice a n cap) zs) {k : Nat} (hk : k < zs.length) : ∃ b off, a = some ⟨b, off, none⟩ ∧ b < w.heap.size ∧ w.cell? ⟨b, off + k, none⟩ = some (c zs[k]) := by
  rcases h with ⟨rfl, _⟩ | ⟨b, off, cap, h, h0, hcap, hm, hbb, hcell⟩
  · simp at hk
  · injection h with h1 h2 h3
    exact ⟨b, off, h1, hbb, hcell k hk⟩

/-- the part from l to h -/
theorem Of_part {α : Type} {c : α → Value} {w : World} {a : Option Addr} {n cap : Nat} {zs : List α} (h : Sl.Of c w (.slice a n cap) zs) (l u : Nat) (hl : l ≤ u) (hu : u ≤ zs.length) (a' : Option Addr) (cap' : Nat)
    (ha : ∀ b off, a = some ⟨b, off, none⟩ → l < u → a' = some ⟨b, off + l, none⟩) (hc1 : u - l ≤ cap') (hc : cap' ≤ 9223372036854775807) : Sl.Of c w (.slice a' (u - l) cap') ((zs.drop l).take (u - l)) := by
  have hlen : ((zs.drop l).take (u - l)).length = u - l := by rw [List.length_take, List.length_drop]; omega
  by_cases h0 : l < u
  · rcases h with ⟨rfl, _⟩ | ⟨b, off, cap2, h, h1, hcap, hm, hbb, hcell⟩
    · simp at hu; omega
    · injection h with e1 e2 e3
      have := ha b off e1 h0
      subst this
      refine Or.inr ⟨b, off + l, cap', by rw [hlen], by omega, by omega, hc, hbb, ?_⟩
      intro i hi
      rw [hlen] at hi
      have := hcell (l + i) (by omega)
      rw [show off + l + i = off + (l + i) by omega, this]
      congr 2
      simp
  · have e : u - l = 0 := by omega
    rw [e]
    exact Or.inl ⟨by simp, a', cap', rfl, hc⟩

end Go.Proofs.YtkmfedmiaannfaaDoor.Df
