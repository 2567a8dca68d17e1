/- What is chosen of offers: the plain fold; the walk of the package's own NegotiateContentEncoding, and of the thin package's Negotiate. -/
import Derived.Test.YtkmfedmiaannfaaIAcc
set_option linter.unusedVariables false
set_option linter.unusedSimpArgs false
namespace Go.Proofs.Ytkmfedmiaannfaa.Acc
open Go.RowKit Plf Oct

/-- the best offer so far, its quality -/
abbrev St := ByteArray × Nat
def fits (e : E) (o : ByteArray) : Bool := (e.1 == [42]) || (e.1 == o.data.toList)
def stepE (o : ByteArray) (st : St) (e : E) : St :=
  match e.2 with
  | some x => if ltW st.2 x && fits e o then (o, x) else st
  | none => st
def rowE (es : List E) (st : St) (o : ByteArray) : St := es.foldl (stepE o) st
def allE (es : List E) (st : St) (os : List ByteArray) : St := os.foldl (rowE es) st
def start : St := (⟨#[105, 100, 101, 110, 116, 105, 116, 121]⟩, 13830554455654793216)
def zeroW (q : Nat) : Bool := D.order q 0 == some .eq
def finalE (es : List E) (os : List ByteArray) : ByteArray := if zeroW (allE es start os).2 then ⟨#[]⟩ else (allE es start os).1

def gtW (x y : Nat) : Bool := D.order x y == some .gt
theorem gt_lt (x y : Nat) : gtW x y = ltW y x := by
  unfold gtW ltW
  rw [order_eq D dbl, order_eq D dbl]
  by_cases h : isNan D x = true ∨ isNan D y = true
  · rw [if_pos h, if_pos h.symm]
    rfl
  · rw [if_neg h, if_neg (fun h' => h h'.symm)]
    rw [Bool.eq_iff_iff, beq_iff_eq, beq_iff_eq, Option.some.injEq, Option.some.injEq, Int.compare_eq_gt, Int.compare_eq_lt]
theorem nan_gt {x y : Nat} (h : isNan D x = true) : gtW x y = false := by
  unfold gtW; rw [order_nan (Or.inl h)]; rfl

/-- one entry in memory, one step -/
theorem step_den (o : ByteArray) (st : St) (z : M) : stepE o st (den z) = if gtW z.2 st.2 && fits (den z) o then (o, z.2) else st := by
  unfold stepE den canon
  cases h : isNan D z.2 with
  | true => rw [nan_gt h]; rfl
  | false => rw [gt_lt]; rfl
theorem fits_den (z : M) (o : ByteArray) : fits (den z) o = ((z.1.toList == [42]) || (z.1.toList == o.toList)) := by
  unfold fits den
  rw [Lib.toList_data, Lib.toList_data]

theorem row_cons (es : List E) (st : St) (o : ByteArray) (e : E) : rowE (e :: es) st o = rowE es (stepE o st e) o := rfl
theorem all_cons (es : List E) (st : St) (o : ByteArray) (os : List ByteArray) : allE es st (o :: os) = allE es (rowE es st o) os := rfl

end Go.Proofs.Ytkmfedmiaannfaa.Acc
