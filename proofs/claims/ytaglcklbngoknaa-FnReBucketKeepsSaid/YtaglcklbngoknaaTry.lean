/- DoorTry: a function value that returns is called, and the answer is true. -/
import Derived.Test.YtaglcklbngoknaaProg
import Derived.WalkKit
import Derived.WalkSpells
import Derived.WalkLawsBesides
import Derived.Outline
import Derived.Lib.Hide
import Derived.Defers
import Derived.Recover
import Derived.Laws.Pointers
set_option linter.unusedVariables false
set_option linter.unusedSimpArgs false
namespace Go.Proofs.Ytaglcklbngoknaa.Try
open Go.RowKit

set_option maxRecDepth 100000 in
/-- the deferred closure of a call that returns -/
theorem idle (p : Addr) (w : World) :
    CallsD Try.prog 51 #[.pointer (some p)] .returning w fun e u' w' => e = .returned (.tuple #[]) ∧ u' = .returning ∧ w' = w := by
  refine callsD_of_wpS Try.func51 rfl fun c₀ cs hu => ?_
  apply wpS_seq
  apply wpS_region
  simp [wpOpsS, go_sem, recoverD, hu, Try.ntmps51, Exit.thenS]
  refine wpS_cond (t := false) (by simp [Act.eval, Array.replicate]) ?_
  simp only [Bool.false_eq_true, if_false]
  refine wpS_of_wp (wp_skip ?_)
  cases c₀
  simp_all [bodyPostS, results, Try.results51]

set_option maxHeartbeats 1000000 in
set_option maxRecDepth 100000 in
theorem try_any (g : Nat) (cb : Array Value) (w : World) (Q : World → Prop) (eg : ∀ args w, (callFunc g args).run Try.prog w = .ok (.enter g args) w)
    (hf : Calls Try.prog g cb (w.alloc (.cells #[.bool false] 4)) fun e w' => e = .returned (.tuple #[]) ∧ Q w')
    (hc : ∀ w', Q w' → w'.cell? ⟨w.heap.size, 0, none⟩ = some (.bool false) ∧ w'.frozen? ⟨w.heap.size, 0, none⟩ = false) :
    Calls Try.prog 31 #[.func (.func g) #[] cb] w fun e w' => e = .returned (.bool true) ∧ ∃ w1, Q w1 ∧ w' = w1.setCell ⟨w.heap.size, 0, none⟩ (.bool true) := by
  have hmf : ∀ (fn : Fn) (first cap : Array Value) (w : World), (Instr.makeFunc fn first cap).run Try.prog w = .ok (.func fn first cap) w := fun _ _ _ _ => rfl
  have HF := Lib.hid hf
  have HC := Lib.hid hc
  clear hf hc
  go_enter_defers Try.func31, Try.ntmps31
  go_wp2_with fail
  refine HF.out.mono ?_
  rintro e w1 ⟨rfl, hq⟩
  obtain ⟨h1, h2⟩ := HC.out w1 hq
  have HQ := Lib.hid hq
  clear hq
  go_wp2
  refine leaves_cons (f := 51) (args := #[.pointer (some ⟨w.heap.size, 0, none⟩)]) (by simp) (by simp [go_sem]) ?_
  refine (idle ⟨w.heap.size, 0, none⟩ _).mono ?_
  rintro e u' w'' ⟨rfl, rfl, rfl⟩
  have h3 : (w1.setCell ⟨w.heap.size, 0, none⟩ (.bool true)).cell? ⟨w.heap.size, 0, none⟩ = some (.bool true) := by
    obtain ⟨old, ho⟩ : ∃ old, w1.cell? ⟨w.heap.size, 0, none⟩ = some old := ⟨_, h1⟩
    simp [go_sem, ho]
  refine ⟨_, ?_, rfl, w1, HQ.out, rfl⟩
  simp [results, Try.results31, go_sem, h3]

end Go.Proofs.Ytaglcklbngoknaa.Try
