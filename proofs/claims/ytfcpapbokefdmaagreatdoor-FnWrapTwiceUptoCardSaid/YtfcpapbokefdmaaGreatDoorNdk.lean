/- Descriptors: 'make' with one element and room for more. -/
import Derived.Test.YtfcpapbokefdmaaGreatDoorNdr
import Derived.OwnWalk
set_option linter.unusedVariables false
set_option linter.unusedSimpArgs false
namespace Go.Proofs.YtfcpapbokefdmaaGreatDoor.Nd
open Go.RowKit Go.Maps Go.WideMaps Go.ChangeShapes Go.WideShapes Go.Deep Fp Obs

section
variable {P : Program} (w : World) {ops : Array Oper} {rest : List Oper} {o : Oper} {a : Act} {Q : Exit → Act → World → Prop}
theorem make_one (hg : o.guard = none) (l c : Operand) (t : TypeId) (hop : o.op = Op.makeSlice t l c)
    (base : Nat) (e : TypeId) (i : TypeInfo) (z : Value) (h1 : P.underlying t = some (.slice e)) (h2 : P.info? e = some i) (h3 : i.zero = some z) (h4 : i.size = 1) (hz : z.cells = #[z])
    (C : Int) (n : Nat) (hl : a.eval l = .int .i64 1) (hc : a.eval c = .int .i64 C) (hC : C = ((n + 1 : Nat) : Int)) (b2 : i.bytes * (n + 1) ≤ 281474976710656) (b3 : n + 1 ≤ maxLen) (b4 : base ≤ w.heap.size)
    (hK : ∀ w', w'.ownsRow base e 1 (.slice (some ⟨w.heap.size, 0, none⟩) 1 (n + 1)) 1 [z] → w.grownBy w' none → wpList P ops Q rest (a.put o.dst (.slice (some ⟨w.heap.size, 0, none⟩) 1 (n + 1))) w') :
    wpList P ops Q (o :: rest) a w := by
  refine wpList_plain hg fun K hK' => ?_
  have h63' : ((n + 1 : Nat) : Int) ≤ 9223372036854775807 := by
    have h := b3
    simp [maxLen] at h
    omega
  have hb' : (i.bytes : Int) * ((n + 1 : Nat) : Int) ≤ 281474976710656 := by
    have h : ((i.bytes * (n + 1) : Nat) : Int) ≤ 281474976710656 := by omega
    rwa [Int.natCast_mul] at h
  have hr := run_make (P := P) w t e i z h1 h2 h3 .i64 .i64 1 ((n + 1 : Nat) : Int) (by decide) (by omega) hb' h63'
  subst hC
  have e1 : ((n + 1 : Nat) : Int).toNat = n + 1 := by omega
  have e2 : (1 : Int).toNat = 1 := rfl
  rw [e1, e2] at hr
  unfold Oper.wp
  simp [execOp, hop, hl, hc] at hr ⊢
  rw [hr]
  simp only [Result.andThen]
  refine hK' _ _ (hK _ ⟨rfl, Or.inr ⟨w.heap.size, n + 1, _, rfl, b4, heap_alloc_new w _, by omega, b3, ?_, ?_⟩⟩ (World.grownBy_alloc w _ none))
  · rw [size_madeCells, h4]
  · rw [h4, hz]
    simp [madeCells, List.range_succ_eq_map]
end
end Go.Proofs.YtfcpapbokefdmaaGreatDoor.Nd
