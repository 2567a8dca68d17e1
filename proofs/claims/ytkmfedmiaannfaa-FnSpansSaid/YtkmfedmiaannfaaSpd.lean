/- Spans: what spans and deltas denote: the plain words (a segment: its first key and its counts). -/
import Derived.Test.YtkmfedmiaannfaaSpc
set_option linter.unusedVariables false
set_option linter.unusedSimpArgs false
namespace Go.Proofs.Ytkmfedmiaannfaa.Sp
open Go.RowKit Go.ChangeShapes Go.WideShapes Go.Deep Fp

abbrev Seg := Int × List Int
def nxt (nx : Int) (X : List Seg) : Int := X.foldl (fun _ s => s.1 + s.2.length) nx
def runsOf (nx : Int) : List Seg → List N2
  | [] => []
  | s :: r => (s.1 - nx, (s.2.length : Int)) :: runsOf (s.1 + s.2.length) r
def wr2 (x : Int) : Int := IntKind.i64.wrap x
def lastC (p : Int) (l : List Int) : Int := l.foldl (fun _ c => c) p
def deltasOf (p : Int) : List Int → List Int
  | [] => []
  | c :: r => wr2 (c - p) :: deltasOf c r
def counts (X : List Seg) : List Int := X.flatMap (·.2)
def exp (s : Int) : List Int → List N2
  | [] => []
  | c :: r => (s, c) :: exp (s + 1) r
def cellsOf (X : List Seg) : List N2 := X.flatMap fun s => exp s.1 s.2
def nz (L : List N2) : List N2 := L.filter fun p => p.2 != 0

theorem runsOf_app : ∀ (D R : List Seg) (nx : Int), runsOf nx (D ++ R) = runsOf nx D ++ runsOf (nxt nx D) R
  | [], R, nx => rfl
  | s :: D, R, nx => by
    show _ :: runsOf _ (D ++ R) = _ :: (runsOf _ D ++ _)
    rw [runsOf_app D R]; rfl
theorem runsOf_len : ∀ (X : List Seg) (nx : Int), (runsOf nx X).length = X.length
  | [], _ => rfl
  | s :: X, nx => by show (runsOf _ X).length + 1 = _; rw [runsOf_len X]; rfl
theorem runsOf_at (D R : List Seg) (s : Seg) (h : D.length < (runsOf 0 (D ++ s :: R)).length) : (runsOf 0 (D ++ s :: R))[D.length] = (s.1 - nxt 0 D, (s.2.length : Int)) := by
  apply Option.some.inj
  rw [← List.getElem?_eq_getElem h, runsOf_app, List.getElem?_append_right (by rw [runsOf_len]; exact Nat.le_refl _), runsOf_len, Nat.sub_self]
  rfl
theorem deltasOf_app : ∀ (A B : List Int) (p : Int), deltasOf p (A ++ B) = deltasOf p A ++ deltasOf (lastC p A) B
  | [], B, p => rfl
  | c :: A, B, p => by
    show _ :: deltasOf _ (A ++ B) = _ :: (deltasOf _ A ++ _)
    rw [deltasOf_app A B]; rfl
theorem deltasOf_len : ∀ (A : List Int) (p : Int), (deltasOf p A).length = A.length
  | [], _ => rfl
  | s :: X, nx => by show (deltasOf _ X).length + 1 = _; rw [deltasOf_len X]; rfl
theorem deltasOf_at (A B : List Int) (c : Int) (h : A.length < (deltasOf 0 (A ++ c :: B)).length) : (deltasOf 0 (A ++ c :: B))[A.length] = wr2 (c - lastC 0 A) := by
  apply Option.some.inj
  rw [← List.getElem?_eq_getElem h, deltasOf_app, List.getElem?_append_right (by rw [deltasOf_len]; exact Nat.le_refl _), deltasOf_len, Nat.sub_self]
  rfl
theorem nxt_snoc (nx : Int) (D : List Seg) (s : Seg) : nxt nx (D ++ [s]) = s.1 + s.2.length := by unfold nxt; rw [List.foldl_append]; rfl
theorem lastC_snoc (p : Int) (A : List Int) (c : Int) : lastC p (A ++ [c]) = c := by unfold lastC; rw [List.foldl_append]; rfl
theorem exp_app : ∀ (A B : List Int) (s : Int), exp s (A ++ B) = exp s A ++ exp (s + A.length) B
  | [], B, s => by simp [exp]
  | c :: A, B, s => by
    show _ :: exp _ (A ++ B) = _ :: (exp _ A ++ _)
    rw [exp_app A B, List.length_cons]
    congr 3
    omega
theorem exp_snoc (A : List Int) (c s : Int) : exp s (A ++ [c]) = exp s A ++ [(s + A.length, c)] := by rw [exp_app]; rfl
theorem nz_app (A B : List N2) : nz (A ++ B) = nz A ++ nz B := List.filter_append ..
theorem wr_back {c p : Int} (h : -9223372036854775808 ≤ c ∧ c ≤ 9223372036854775807) : IntKind.i64.wrap (p + wr2 (c - p)) = c := by
  unfold wr2
  rw [IntKind.wrap_i64, IntKind.wrap_i64]
  omega

end Go.Proofs.Ytkmfedmiaannfaa.Sp
