/- Quotients of up to three digits: numbers, not negative. -/
import Derived.Test.YtaglcklbngoknaaFl3
import Derived.Test.YtaglcklbngoknaaFlo
set_option linter.unusedVariables false
namespace Go.Proofs.Ytaglcklbngoknaa.Acc
open Go Go.RowKit Plf

def pairOk (n d : Nat) : Bool :=
  match Ieee.double.div (floatOfInt .f64 n) (floatOfInt .f64 d) with
  | none => false
  | some x => [(0 : Int), 1].all fun w => match Ieee.double.add (floatOfInt .f64 w) x with
    | none => false
    | some y => !ltW y 0
theorem pairs_ok : [(1, 1), (10, 10), (100, 100), (1000, 1000)].all (fun p => (List.range p.1).all (fun n => pairOk n p.2)) = true := by decide +kernel


end Go.Proofs.Ytaglcklbngoknaa.Acc
