/- Pairs sorted by name (spec.FitPairs): the plain law, and what the walk needs. -/
import Derived.Test.YtlolomodcbkblaaGreatDoorSs
import Derived.WalkLawsBesides
import Derived.WalkSpells
import Derived.Outline
import Derived.Lib.Hide
import Derived.Lib.Strings
import Derived.Maps.AppendAt
import Derived.Deep.AppendLies
import Derived.OwnWalk
import Derived.Deep.DrawnRows
import Derived.Deep.QuietTactic
import Derived.BigQuiet
import Derived.WalkSmall
set_option linter.unusedVariables false
set_option linter.unusedSimpArgs false
namespace Go.Proofs.YtlolomodcbkblaaGreatDoor.Fp
open Go.RowKit Go.ChangeShapes Go.WideShapes Go.Deep

abbrev P2 := ByteArray × ByteArray
def pc (p : P2) : List Value := [.string p.1, .string p.2]
theorem pc_len (p : P2) : (pc p).length = 2 := rfl
theorem infoP : (Tryz.prog.info? 138).map (fun i => (i.zero, i.size, i.bytes)) = some (some (.agg #[.string ByteArray.empty, .string ByteArray.empty]), 2, 32) := by kernel_rfl

def GotP (B n : Nat) (acc : List P2) (u : Value) (w w' : World) : Prop :=
  acc.length ≤ n ∧ w'.ownsRow B 138 2 u acc.length (acc.flatMap pc) ∧ Below B w w'

theorem row_slice2 {w : World} {B e n k : Nat} {v : Value} {xs : List Value} (h : w.ownsRow B e k v n xs) : ∃ a c, v = .slice a n c := by
  rcases h.2 with ⟨rfl, rfl⟩ | ⟨g, cap, cur, rfl, _⟩
  · exact ⟨_, _, rfl⟩
  · exact ⟨_, _, rfl⟩

def bl (x y : ByteArray) : Bool := Op.bytesLess x.toList y.toList
def eqS (x y : ByteArray) : Bool := x.toList == y.toList
theorem eqS_iff (x y : ByteArray) : eqS x y = true ↔ x = y := by
  unfold eqS
  rw [beq_iff_eq]
  constructor
  · intro h
    have h1 : x.data.toList = y.data.toList := by
      have e : ∀ z : ByteArray, z.toList = z.data.toList := fun z => Lib.toList_data z
      rw [← e, ← e, h]
    obtain ⟨⟨x⟩⟩ := x
    obtain ⟨⟨y⟩⟩ := y
    simp at h1
    rw [h1]
  · rintro rfl; rfl
/-- a pair at its place; a name that is there already has the new value -/
def ins (p : P2) : List P2 → List P2
  | [] => [p]
  | q :: r => if bl q.1 p.1 then q :: ins p r else if eqS q.1 p.1 then (q.1, p.2) :: r else p :: q :: r
def fit (L : List P2) : List P2 := L.foldl (fun out p => ins p out) []
theorem fit_snoc (L : List P2) (p : P2) : fit (L ++ [p]) = ins p (fit L) := by
  unfold fit; rw [List.foldl_append]; rfl
theorem ins_len (p : P2) : ∀ L : List P2, (ins p L).length ≤ L.length + 1
  | [] => Nat.le_refl _
  | q :: r => by
    unfold ins
    split
    · have := ins_len p r
      simp only [List.length_cons]; omega
    · split <;> simp
theorem fit_len (L : List P2) (n : Nat) : (fit (L.take n)).length ≤ n := by
  induction n with
  | zero => simp [fit]
  | succ n ih =>
    by_cases h : n < L.length
    · rw [List.take_succ_eq_append_getElem h, fit_snoc]
      have := ins_len L[n] (fit (L.take n))
      omega
    · rw [List.take_of_length_le (by omega)] at ih ⊢
      omega
theorem ins_end (p : P2) : ∀ (L : List P2), (∀ j (h : j < L.length), bl (L[j]).1 p.1 = true) → ins p L = L ++ [p]
  | [], _ => rfl
  | q :: r, h => by
    have h0 : bl q.1 p.1 = true := h 0 (by simp)
    unfold ins
    rw [if_pos h0, ins_end p r (fun j hj => h (j + 1) (by simpa using hj))]
    rfl
theorem ins_at (p : P2) : ∀ (L : List P2) (k : Nat) (hk : k < L.length), (∀ j (h : j < L.length), j < k → bl (L[j]).1 p.1 = true) → bl (L[k]).1 p.1 = false →
    ins p L = if eqS (L[k]).1 p.1 then L.set k ((L[k]).1, p.2) else L.take k ++ p :: L.drop k
  | [], k, hk, _, _ => absurd hk (by simp)
  | q :: r, 0, _, _, h => by
    have h : bl q.1 p.1 = false := h
    unfold ins
    rw [h, if_neg (by simp)]
    rfl
  | q :: r, k + 1, hk, ha, h => by
    have h0 : bl q.1 p.1 = true := ha 0 (by simp) (Nat.succ_pos _)
    have ih := ins_at p r k (by simpa using hk) (fun j hj hjk => ha (j + 1) (by simpa using hj) (by omega)) (by simpa using h)
    unfold ins
    rw [if_pos h0, ih]
    simp only [List.getElem_cons_succ]
    split <;> simp

theorem flat_set2 : ∀ (L : List P2) (k : Nat) (h : k < L.length) (y : ByteArray), (L.flatMap pc).set (k * 2 + 1) (.string y) = (L.set k ((L[k]).1, y)).flatMap pc
  | [], k, h, _ => absurd h (by simp)
  | q :: r, 0, _, y => by
    rw [List.flatMap_cons, List.set_cons_zero, List.flatMap_cons]
    rfl
  | q :: r, k + 1, h, y => by
    have ih := flat_set2 r k (by simpa using h) y
    rw [List.flatMap_cons, List.set_cons_succ, List.flatMap_cons, List.getElem_cons_succ, ← ih]
    rw [show (k + 1) * 2 + 1 = k * 2 + 1 + 2 by omega]
    rfl

section
variable {B e n k cu : Nat} {au : Option Addr} {acc : List P2} {w w' : World} {u : Value}
/-- the first k elements -/
theorem own_prefix (h : w.ownsRow B e 2 (.slice au n cu) n (acc.flatMap pc)) (hn : n = acc.length) (hk : k ≤ n) : w.ownsRow B e 2 (.slice au k cu) k ((acc.take k).flatMap pc) := by
  refine ⟨by rw [Ss.flat_len pc_len, List.length_take]; congr 1; omega, ?_⟩
  rcases h.2 with ⟨h1, h2⟩ | ⟨g, cap, cur, h1, h2, h3, h4, h5, h6, h7⟩
  · injection h1 with e1 e2 e3
    subst e1 e3
    have : k = 0 := by omega
    subst this
    exact Or.inl ⟨rfl, rfl⟩
  · injection h1 with e1 e2 e3
    subst e1 e3
    refine Or.inr ⟨g, cu, cur, rfl, h2, h3, by omega, h5, h6, ?_⟩
    have e : acc.flatMap pc = (acc.take k).flatMap pc ++ (acc.drop k).flatMap pc := by rw [← List.flatMap_append, List.take_append_drop]
    have hl : ((acc.take k).flatMap pc).length = k * 2 := by rw [Ss.flat_len pc_len, List.length_take]; congr 1; omega
    have h8 : (cur.toList.take (n * 2)).take (k * 2) = (acc.take k).flatMap pc := by
      rw [h7, e, List.take_append_of_le_length (by omega), List.take_of_length_le (by omega)]
    rw [List.take_take, show min (k * 2) (n * 2) = k * 2 by omega] at h8
    exact h8
/-- the cells from element k on -/
theorem own_from {g cap : Nat} (h : w.ownsRow B e 2 (.slice (some ⟨g, 0, none⟩) n cap) n (acc.flatMap pc)) (hk : k ≤ acc.length) : ∀ j u, ((acc.drop k).flatMap pc)[j]? = some u → w.cell? ((⟨g, k * 2, none⟩ : Addr).add j) = some u := by
  intro j u hu
  have e : acc.flatMap pc = (acc.take k).flatMap pc ++ (acc.drop k).flatMap pc := by rw [← List.flatMap_append, List.take_append_drop]
  have hl : ((acc.take k).flatMap pc).length = k * 2 := by rw [Ss.flat_len pc_len, List.length_take]; congr 1; omega
  have h1 : (acc.flatMap pc)[k * 2 + j]? = some u := by
    rw [e, List.getElem?_append_right (by omega), hl, show k * 2 + j - k * 2 = j by omega]
    exact hu
  have h2 := h.cells (g := g) rfl (k * 2 + j) u h1
  rw [Addr.add_lit] at h2 ⊢
  simpa using h2
theorem ones2 (zs : List P2) : ∀ u ∈ zs.flatMap pc, u.oneCell' = true := by
  intro u hu
  obtain ⟨c, _, hc⟩ := List.mem_flatMap.1 hu
  unfold pc at hc
  simp at hc
  rcases hc with rfl | rfl <;> rfl
end

section
variable {P : Program} (w : World) {ops : Array Oper} {o : Oper} {a : Act} {K : Act → World → Prop} {Q : Exit → Act → World → Prop} {E : Prop}
/-- an append of nothing to a row, in a region that draws its order -/
theorem step_append_zero (hgd : o.guard = none) (s x : Operand) (t : TypeId) (ho : o.op = .call { callee := .builtin .append, args := #[s, x], argTypes := #[t, t] })
    (base : Nat) (e : TypeId) (i : TypeInfo) (size : Nat) (ht : P.underlying t = some (.slice e)) (hi : P.info? e = some i) (hsize : i.size = size)
    (g n cap : Nat) (xs : List Value) (hs : a.eval s = .slice (some ⟨g, 0, none⟩) n cap) (hown : w.ownsRow base e size (.slice (some ⟨g, 0, none⟩) n cap) n xs) (ao : Option Addr) (c : Nat) (hx : a.eval x = .slice ao 0 c) (hnone : ao = none → c = 0)
    (h : ∀ w', w'.ownsRow base e size (.slice (some ⟨g, 0, none⟩) n cap) n xs → w.grownBy w' (some g) → K (a.put o.dst (.slice (some ⟨g, 0, none⟩) n cap)) w') :
    if Region.wanted o (yielded ops a.tmps) = true then Oper.wp P o a w K Q else E := by
  have hw : Region.wanted o (yielded ops a.tmps) = true := by simp [Region.wanted, hgd]
  rw [if_pos hw]
  have hrun : ∃ w', (Builtin.append_ #[t, t] o.type #[.slice (some ⟨g, 0, none⟩) n cap, .slice ao 0 c]).run P w = .ok (.slice (some ⟨g, 0, none⟩) n cap) w' ∧ w'.ownsRow base e size (.slice (some ⟨g, 0, none⟩) n cap) n xs ∧ w.grownBy w' (some g) := by
    have hcap : n ≤ cap := by
      rcases hown.2 with ⟨h1, _⟩ | ⟨g', cap', cur, h1, _, _, h4, _⟩
      · simp at h1
      · injection h1 with _ _ h3; omega
    cases ao with
    | none =>
      have hc := hnone rfl
      subst hc
      exact ⟨w, run_append_owned_none (P := P) w base t o.type e i size ht hi _ n xs hown, hown, World.grownBy.refl _ _⟩
    | some ad =>
      obtain ⟨w', h1, h2, h3⟩ := run_append_fits (P := P) w base t o.type e i size ht hi hsize g n cap xs hown ad 0 c [] (by simp) (fun j u hu => by simp at hu) (fun u hu => by simp at hu) (by omega)
      exact ⟨w', by simpa using h1, by simpa using h2, h3⟩
  obtain ⟨w', hr, h2, h3⟩ := hrun
  unfold Oper.wp execOp
  simp only [ho, resolve, invoke, builtin, Sem.run_bind, Sem.run_pure, Result.andThen_ok, List.map_toArray, List.map_cons, List.map_nil, hs, hx, hr]
  exact h w' h2 h3
end

end Go.Proofs.YtlolomodcbkblaaGreatDoor.Fp
