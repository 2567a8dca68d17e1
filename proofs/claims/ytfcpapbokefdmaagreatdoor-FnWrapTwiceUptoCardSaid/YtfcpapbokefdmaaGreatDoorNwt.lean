/- Descriptors: how much the data hold (plain Lean). -/
import Derived.Test.YtfcpapbokefdmaaGreatDoorNsb
set_option linter.unusedVariables false
set_option linter.unusedSimpArgs false
namespace Go.Proofs.YtfcpapbokefdmaaGreatDoor.Nd
open Go.RowKit Go.ChangeShapes Go.WideShapes Go.Deep Fp

/-- how much a list of strings, of pairs holds -/
def wt (l : List ByteArray) : Nat := (l.map fun x => x.size + 1).sum
def wp (L : List P2) : Nat := (L.map fun p => (p.1.size + 1) + (p.2.size + 1)).sum
theorem wp_cons (p : P2) (L : List P2) : wp (p :: L) = (p.1.size + 1) + (p.2.size + 1) + wp L := by unfold wp; simp
theorem wp_app (a b : List P2) : wp (a ++ b) = wp a + wp b := by unfold wp; simp
theorem wt_cons (x : ByteArray) (l : List ByteArray) : wt (x :: l) = x.size + 1 + wt l := by unfold wt; simp
theorem wt_app (a b : List ByteArray) : wt (a ++ b) = wt a + wt b := by unfold wt; simp
theorem ins_wp (p : P2) : ∀ F : List P2, wp (ins p F) ≤ wp F + ((p.1.size + 1) + (p.2.size + 1))
  | [] => by simp [ins, wp]
  | q :: F => by
    have ih := ins_wp p F
    unfold ins
    split
    · simp only [wp_cons]; omega
    · split
      · simp only [wp_cons]; omega
      · simp only [wp_cons]; omega
theorem fit_wp (L : List P2) : wp (fit L) ≤ wp L := by
  refine snoc_ind (P := fun L => wp (fit L) ≤ wp L) (by simp [fit, wp]) (fun L p ih => ?_) L
  rw [fit_snoc, wp_app]
  have h := ins_wp p (fit L)
  have e : wp [p] = (p.1.size + 1) + (p.2.size + 1) := by simp [wp]
  omega
theorem wt_vals (F : List P2) : wt (F.map (·.2)) ≤ wp F := by
  induction F with
  | nil => exact Nat.le_refl _
  | cons p F ih => rw [List.map_cons, wt_cons, wp_cons]; omega
theorem wt_keys (F : List P2) : wt (F.map (·.1)) ≤ wp F := by
  induction F with
  | nil => exact Nat.le_refl _
  | cons p F ih => rw [List.map_cons, wt_cons, wp_cons]; omega
theorem seps_wt (l : List ByteArray) : (seps l).length = wt l := by
  induction l with
  | nil => rfl
  | cons x l ih => rw [seps_cons, List.length_append, List.length_cons, ih, wt_cons, dl_len]; omega
theorem wt_perm {a b : List ByteArray} (h : a.Perm b) : wt a = wt b := by
  unfold wt
  exact (h.map _).sum_nat
theorem wt_dollar (V : List ByteArray) : wt (V.map dollar) = wt V + V.length := by
  induction V with
  | nil => rfl
  | cons x l ih =>
    have e : (dollar x).size = x.size + 1 := by rw [← dl_len]; unfold dollar; rw [dl_mk, List.length_cons, dl_len]
    rw [List.map_cons, wt_cons, wt_cons, ih, e, List.length_cons]; omega
theorem mem_wt {x : ByteArray} {l : List ByteArray} (h : x ∈ l) : x.size ≤ wt l := by
  induction l with
  | nil => cases h
  | cons y l ih =>
    rw [wt_cons]
    rcases List.mem_cons.1 h with rfl | h
    · omega
    · have := ih h; omega
theorem mem_wp {p : P2} {L : List P2} (h : p ∈ L) : p.1.size + p.2.size ≤ wp L := by
  induction L with
  | nil => cases h
  | cons q l ih =>
    rw [wp_cons]
    rcases List.mem_cons.1 h with rfl | h
    · omega
    · have := ih h; omega
/-- the data are small -/
structure Small (nm hp un : ByteArray) (V : List ByteArray) (L : List P2) : Prop where
  all : nm.size + hp.size + un.size + wt V + wp L ≤ 67108864
  lenV : V.length ≤ 1048576
  lenL : L.length ≤ 1048576

end Go.Proofs.YtfcpapbokefdmaaGreatDoor.Nd
