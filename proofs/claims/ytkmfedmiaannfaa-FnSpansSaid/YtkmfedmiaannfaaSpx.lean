/- Spans: the argument read. -/
import Derived.Test.YtkmfedmiaannfaaSps
set_option linter.unusedVariables false
set_option linter.unusedSimpArgs false
namespace Go.Proofs.Ytkmfedmiaannfaa.Spans
open Go.RowKit Go.ChangeShapes Go.WideShapes Go.Deep Fp _root_.Go.Proofs.Ytkmfedmiaannfaa.Sp

set_option maxRecDepth 100000 in
theorem read0 {H : Type} {enc : TypeId × Value → H} {W : World} {base b0 : Nat} {held : Bool} {r : Reach} {v : Value} {d : DataW H} {p : List MemPlace}
    (hv : Value.okWide Try.prog W r b0 62 v) (h : DataW.Trod enc Try.prog W base (fun _ => true) held 62 v d p) :
    ∃ L : List N2, Ss.Of 2 cc W v L ∧ ∀ q ∈ L, In64 q.1 ∧ In64 q.2 := by
  refine Ss.open_of 2 cc cc_len _ Try.underlying62 Try.underlying64 (by kernel_rfl) (by kernel_rfl) rfl (by decide) ?_ hv h
  intro n V hV
  obtain ⟨y0, h0⟩ := hV 0 _ rfl
  obtain ⟨y1, h1⟩ := hV 1 _ rfl
  obtain ⟨s0, e0, _, w0⟩ := DataW.trod_int Try.underlying3 h0
  obtain ⟨s1, e1, _, w1⟩ := DataW.trod_int Try.underlying2 h1
  simp only [List.cons.injEq, and_true] at e0 e1
  refine ⟨(s0, s1), ?_, ?_, ?_⟩
  · intro j u hu
    match j, hu with
    | 0, hu => injection hu with hu; rw [e0, ← hu]
    | 1, hu => injection hu with hu; rw [e1, ← hu]
    | j + 2, hu => cases hu
  · show In64 s0
    simp [Lit.wf, IntKind.min, IntKind.max, IntKind.signed, IntKind.bits] at w0
    unfold In64
    omega
  · show In64 s1
    simp [Lit.wf, IntKind.min, IntKind.max, IntKind.signed, IntKind.bits] at w1
    unfold In64
    omega

end Go.Proofs.Ytkmfedmiaannfaa.Spans
