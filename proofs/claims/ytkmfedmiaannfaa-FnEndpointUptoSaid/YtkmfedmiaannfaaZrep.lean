/- The package's own ReplaceAll (inner.zzReplaceAll), where the old text is not empty: plain, and walked. -/
import Derived.Test.YtkmfedmiaannfaaZix
import Derived.Below
import Derived.Laws.AppendOwn
import Derived.Laws.Cover2
import Derived.Lib.AppendStr
import Derived.Laws.IdiomStrings
import Derived.Laws.BytesArg
set_option linter.unusedVariables false
set_option linter.unusedSimpArgs false
namespace Go.Proofs.Ytkmfedmiaannfaa.Zix
open Go.RowKit

def repl (p new : List UInt8) : Nat → List UInt8 → List UInt8
  | 0, l => l
  | n + 1, l => if idx l p < 0 then l else l.take (idx l p).toNat ++ (new ++ repl p new n (l.drop ((idx l p).toNat + p.length)))
def replAll (p new l : List UInt8) : List UInt8 := repl p new l.length l

theorem idx_shift (p : List UInt8) : ∀ (l : List UInt8) (k : Nat), idxFrom p l (k + 1) = if idxFrom p l k < 0 then -1 else idxFrom p l k + 1
  | [], k => by
    unfold idxFrom
    split
    · rw [if_neg (by omega)]; rfl
    · rfl
  | c :: r, k => by
    unfold idxFrom
    split
    · rw [if_neg (by omega)]; rfl
    · exact idx_shift p r (k + 1)
theorem idx_ge (p : List UInt8) : ∀ (l : List UInt8) (k : Nat), idxFrom p l k = -1 ∨ (k : Int) ≤ idxFrom p l k
  | [], k => by unfold idxFrom; split <;> omega
  | c :: r, k => by
    unfold idxFrom
    split
    · omega
    · rcases idx_ge p r (k + 1) with h | h <;> omega
theorem idx_le (p : List UInt8) : ∀ (l : List UInt8) (k : Nat), idxFrom p l k + p.length ≤ k + l.length ∨ idxFrom p l k = -1
  | [], k => by
    unfold idxFrom
    split
    · rename_i h
      have := (List.isPrefixOf_iff_prefix.1 h).length_le
      simp at this
      left
      rw [this]; simp
    · right; rfl
  | c :: r, k => by
    unfold idxFrom
    split
    · rename_i h
      have := (List.isPrefixOf_iff_prefix.1 h).length_le
      left; omega
    · rcases idx_le p r (k + 1) with h | h
      · left; simp only [List.length_cons]; omega
      · exact Or.inr h

theorem repl_fuel (p new : List UInt8) (hp : 0 < p.length) (n : Nat) : ∀ (m : Nat) (l : List UInt8), l.length ≤ n → l.length ≤ m → repl p new n l = repl p new m l := by
  induction n with
  | zero =>
    intro m l h1 h2
    have : l = [] := List.length_eq_zero_iff.1 (by omega)
    subst this
    cases m with
    | zero => rfl
    | succ m =>
      show [] = if idx [] p < 0 then [] else _
      rw [if_pos (by show idxFrom p [] 0 < 0; rw [idx_short 0 (by simpa using hp)]; omega)]
  | succ n ih =>
    intro m l h1 h2
    have hi := idx_le p l 0
    cases m with
    | zero =>
      have : l = [] := List.length_eq_zero_iff.1 (by omega)
      subst this
      show (if idx [] p < 0 then [] else _) = []
      rw [if_pos (by show idxFrom p [] 0 < 0; rw [idx_short 0 (by simpa using hp)]; omega)]
    | succ m =>
      show (if idx l p < 0 then l else l.take (idx l p).toNat ++ (new ++ repl p new n (l.drop ((idx l p).toNat + p.length)))) = (if idx l p < 0 then l else l.take (idx l p).toNat ++ (new ++ repl p new m (l.drop ((idx l p).toNat + p.length))))
      by_cases h : idx l p < 0
      · rw [if_pos h, if_pos h]
      · rw [if_neg h, if_neg h, ih m _ (by rw [List.length_drop]; omega) (by rw [List.length_drop]; omega)]

theorem replAll_none {p new l : List UInt8} (h : idx l p < 0) : replAll p new l = l := by
  unfold replAll
  cases hl : l.length with
  | zero => rfl
  | succ n =>
    show (if idx l p < 0 then l else _) = l
    rw [if_pos h]
theorem replAll_step {p new l : List UInt8} (hp : 0 < p.length) (h : ¬ idx l p < 0) : replAll p new l = l.take (idx l p).toNat ++ (new ++ replAll p new (l.drop ((idx l p).toNat + p.length))) := by
  have hi := idx_le p l 0
  have h0 : idx l p = idxFrom p l 0 := rfl
  unfold replAll
  cases hl : l.length with
  | zero => rw [h0] at h; omega
  | succ n =>
    show (if idx l p < 0 then l else l.take (idx l p).toNat ++ (new ++ repl p new n (l.drop ((idx l p).toNat + p.length)))) = _
    rw [if_neg h]
    rw [repl_fuel p new hp n _ _ (by rw [List.length_drop]; omega) (Nat.le_refl _)]

/-- one letter is replaced -/
theorem replAll_one (c : UInt8) (new : List UInt8) : ∀ l : List UInt8, replAll [c] new l = l.flatMap (fun b => if b = c then new else [b])
  | [] => replAll_none (by show idxFrom [c] [] 0 < 0; rw [idx_short 0 (by simp)]; omega)
  | b :: r => by
    have ih := replAll_one c new r
    have hi : idx (b :: r) [c] = if ([c] : List UInt8).isPrefixOf (b :: r) then 0 else idxFrom [c] r 1 := rfl
    have hpre : ([c] : List UInt8).isPrefixOf (b :: r) = (c == b) := by simp [List.isPrefixOf]
    rw [hpre] at hi
    rw [List.flatMap_cons]
    by_cases hb : b = c
    · subst hb
      rw [beq_self_eq_true, if_pos rfl] at hi
      rw [replAll_step (by simp) (by rw [hi]; omega), hi, if_pos rfl, ← ih]
      rfl
    · have hcb : (c == b) = false := beq_eq_false_iff_ne.2 (fun e => hb e.symm)
      rw [hcb, if_neg (by simp), idx_shift] at hi
      rw [if_neg hb, ← ih]
      by_cases hn : idx r [c] < 0
      · have hn' : idxFrom [c] r 0 < 0 := hn
        rw [if_pos hn'] at hi
        rw [replAll_none (by rw [hi]; omega), replAll_none hn]
        rfl
      · have hn' : ¬ idxFrom [c] r 0 < 0 := hn
        rw [if_neg hn'] at hi
        rw [replAll_step (by simp) (by rw [hi]; omega), replAll_step (by simp) hn]
        have e : (idx (b :: r) [c]).toNat = (idx r [c]).toNat + 1 := by
          rw [hi]
          show (idx r [c] + 1).toNat = _
          omega
        rw [e]
        simp only [List.take_succ_cons, List.length_cons, List.length_nil]
        rw [show (idx r [c]).toNat + 1 + (0 + 1) = (idx r [c]).toNat + (0 + 1) + 1 by omega, List.drop_succ_cons]
        rfl

def byteCells (l : List UInt8) : List Value := l.map fun b => Value.int .u8 b.toNat
theorem infoByte : (Try.prog.info? 5).map (fun i => (i.zero, i.size, i.bytes)) = some (some (.int .u8 0), 1, 1) := by kernel_rfl
theorem cells_append (a b : List UInt8) : byteCells (a ++ b) = byteCells a ++ byteCells b := List.map_append

/-- an owned row of bytes is turned into a text -/
theorem conv_own {w : World} {B : Nat} {v : Value} {l : List UInt8} (h : w.ownsRow B 5 1 v l.length (byteCells l)) : (convert 160 9 v).run Try.prog w = .ok (.string ⟨l.toArray⟩) w := by
  rcases h.2 with ⟨hv, h0⟩ | ⟨g, cap, cur, hv, hB, hg, hn, hc, hs, ht⟩
  · have : l = [] := List.length_eq_zero_iff.1 h0
    subst this
    rw [hv]
    exact run_convert_bytes_nil _ _ _ Try.underlying160 Try.underlying5 _ _ _ Try.underlying9
  · rw [hv]
    refine run_convert_bytes_back w _ _ _ _ cap l Try.underlying160 Try.underlying5 Try.underlying9 ?_
    intro j hj
    refine h.cells (g := g) (by rw [hv]; rfl) j _ ?_
    unfold byteCells
    rw [List.getElem?_map, List.getElem?_eq_getElem hj]
    rfl

end Go.Proofs.Ytkmfedmiaannfaa.Zix
