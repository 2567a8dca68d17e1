/- FnDiffMatches: how its arguments are read, and the law. -/
import Derived.Test.YtkmfedmiaannfaaDfx
set_option linter.unusedVariables false
set_option linter.unusedSimpArgs false
namespace Go.Proofs.Ytkmfedmiaannfaa.DiffMatches
open Go.RowKit Go.ChangeShapes Go.WideShapes Go.Deep

set_option maxRecDepth 100000 in
theorem read0 {H : Type} {enc : TypeId × Value → H} {W : World} {base b0 : Nat} {held : Bool} {r : Reach} {v : Value} {d : DataW H} {p : List MemPlace}
    (hv : Value.okWide Try.prog W r b0 22 v) (h : DataW.Trod enc Try.prog W base (fun _ => true) held 22 v d p) : ∃ zs : List ByteArray, Sl.Of Value.string W v zs ∧ ∀ z ∈ zs, z.size ≤ 9223372036854775807 :=
  Sl.open_strings Try.underlying22 Try.underlying9 (by kernel_rfl) hv h
set_option maxRecDepth 100000 in
theorem read1 {H : Type} {enc : TypeId × Value → H} {W : World} {base b0 : Nat} {held : Bool} {r : Reach} {v : Value} {d : DataW H} {p : List MemPlace}
    (hv : Value.okWide Try.prog W r b0 22 v) (h : DataW.Trod enc Try.prog W base (fun _ => true) held 22 v d p) : ∃ zs : List ByteArray, Sl.Of Value.string W v zs ∧ ∀ z ∈ zs, z.size ≤ 9223372036854775807 := read0 hv h

theorem law_any (v v1 : Value) (w : World) (h0 : ∃ zs : List ByteArray, Sl.Of Value.string w v zs ∧ ∀ z ∈ zs, z.size ≤ 9223372036854775807) (h1 : ∃ zs : List ByteArray, Sl.Of Value.string w v1 zs ∧ ∀ z ∈ zs, z.size ≤ 9223372036854775807) :
    Calls Try.prog 5 #[v, v1] w fun e w' => e = .returned (.bool true) ∧ Below w.heap.size w w' := by
  obtain ⟨xs, hx, hsx⟩ := h0
  obtain ⟨ys, hy, hsy⟩ := h1
  exact Df.matches_any xs ys v v1 w hx hy hsx hsy

end Go.Proofs.Ytkmfedmiaannfaa.DiffMatches
