/- Differences of two lists: the walk of findLongestMatch. -/
import Derived.Test.YtkmfedmiaannfaaDoorDfn
import Derived.Deep.QuietTactic
import Derived.BigQuiet
import Derived.Deep.RegionHeld3
import Derived.Deep.DeepCutAuto
import Derived.Deep.CutBlock
set_option linter.unusedVariables false
set_option linter.unusedSimpArgs false
namespace Go.Proofs.YtkmfedmiaannfaaDoor.Df
open Go.RowKit Go.Maps Go.WideMaps Go.ChangeShapes

/-- how long the match is that ends in the row ahead, at column j -/
def old (xs ys : List ByteArray) (alo blo bhi : Nat) : Nat → Int → Nat
  | 0, _ => 0
  | n + 1, j => if 0 ≤ j then cs xs ys alo blo bhi n j.toNat else 0
/-- .. in this row, of the columns that were looked at -/
def now (xs ys : List ByteArray) (alo blo bhi n : Nat) (js : List Nat) (j : Int) : Nat := if 0 ≤ j ∧ j.toNat ∈ js then cs xs ys alo blo bhi n j.toNat else 0
theorem old_succ (xs ys : List ByteArray) (alo blo bhi n : Nat) (j : Int) : old xs ys alo blo bhi (n + 1) j = if 0 ≤ j then cs xs ys alo blo bhi n j.toNat else 0 := rfl
theorem old_zero (xs ys : List ByteArray) (alo blo bhi : Nat) (j : Int) : old xs ys alo blo bhi 0 j = 0 := rfl
theorem old_all {xs ys : List ByteArray} {alo blo bhi n : Nat} (j : Int) : now xs ys alo blo bhi n (b2j ys (el xs (alo + n))) j = old xs ys alo blo bhi (n + 1) j := by
  rw [old_succ]
  unfold now
  by_cases h : 0 ≤ j
  · by_cases hm : j.toNat ∈ b2j ys (el xs (alo + n))
    · rw [if_pos ⟨h, hm⟩, if_pos h]
    · rw [if_neg (fun e => hm e.2), if_pos h]
      refine (cs_none ?_).symm
      cases hh : hit xs ys blo bhi (alo + n) j.toNat with
      | true => exact absurd (hit_iff.1 hh).1 hm
      | false => rfl
  · rw [if_neg (fun e => h e.1), if_neg h]
theorem cs_old {xs ys : List ByteArray} {alo blo bhi n j : Nat} (h : hit xs ys blo bhi (alo + n) j = true) : cs xs ys alo blo bhi n j = old xs ys alo blo bhi n ((j : Int) - 1) + 1 := by
  cases n with
  | zero =>
    rw [old_zero]
    unfold cs
    rw [show hit xs ys blo bhi alo j = true from h]
    rfl
  | succ n =>
    cases j with
    | zero =>
      have e : old xs ys alo blo bhi (n + 1) (((0 : Nat) : Int) - 1) = 0 := by rw [old_succ, if_neg (by omega)]
      rw [e]
      unfold cs
      rw [h]
      rfl
    | succ j =>
      have e : old xs ys alo blo bhi (n + 1) (((j + 1 : Nat) : Int) - 1) = cs xs ys alo blo bhi n j := by
        rw [old_succ, if_pos (by omega), show (((j + 1 : Nat) : Int) - 1).toNat = j by omega]
      rw [e]
      conv => lhs; unfold cs
      rw [h]
      rfl
theorem now_nil {xs ys : List ByteArray} {alo blo bhi n : Nat} (j : Int) : now xs ys alo blo bhi n [] j = 0 := by unfold now; rw [if_neg]; simp
theorem now_skip {xs ys : List ByteArray} {alo blo bhi n : Nat} {js : List Nat} {x : Nat} (h : cs xs ys alo blo bhi n x = 0) (j : Int) : now xs ys alo blo bhi n (js ++ [x]) j = now xs ys alo blo bhi n js j := by
  unfold now
  by_cases h0 : 0 ≤ j
  · by_cases hm : j.toNat ∈ js
    · rw [if_pos ⟨h0, by simp [hm]⟩, if_pos ⟨h0, hm⟩]
    · rw [if_neg (fun e : 0 ≤ j ∧ j.toNat ∈ js => hm e.2)]
      split
      · rename_i hh
        have : j.toNat = x := by
          rcases List.mem_append.1 hh.2 with e | e
          · exact absurd e hm
          · simpa using e
        rw [this]; exact h
      · rfl
  · rw [if_neg (fun e => h0 e.1), if_neg (fun e => h0 e.1)]
theorem now_put {xs ys : List ByteArray} {alo blo bhi n : Nat} {js : List Nat} {x : Nat} (j : Int) : now xs ys alo blo bhi n (js ++ [x]) j = if j = (x : Int) then cs xs ys alo blo bhi n x else now xs ys alo blo bhi n js j := by
  unfold now
  by_cases h : j = (x : Int)
  · subst h
    rw [if_pos rfl, if_pos ⟨by omega, by simp⟩, show ((x : Int)).toNat = x from rfl]
  · rw [if_neg h]
    by_cases h0 : 0 ≤ j
    · have hne : j.toNat ≠ x := by omega
      by_cases hm : j.toNat ∈ js
      · rw [if_pos ⟨h0, by simp [hm]⟩, if_pos ⟨h0, hm⟩]
      · rw [if_neg (fun e => by rcases List.mem_append.1 e.2 with e | e; exact hm e; exact hne (by simpa using e)), if_neg (fun e => hm e.2)]
    · rw [if_neg (fun e => h0 e.1), if_neg (fun e => h0 e.1)]
/-- behind bhi nothing is looked at any more -/
theorem cs_far {xs ys : List ByteArray} {alo blo bhi n j : Nat} (h : j < blo ∨ bhi ≤ j) : cs xs ys alo blo bhi n j = 0 := by
  refine cs_none ?_
  cases hh : hit xs ys blo bhi (alo + n) j with
  | true => have := hit_iff.1 hh; omega
  | false => rfl
theorem upd_none {xs ys : List ByteArray} {alo blo bhi n j : Nat} {st : M3} (h : cs xs ys alo blo bhi n j = 0) : upd xs ys alo blo bhi n st j = st := by
  unfold upd
  rw [h, if_neg (by omega)]
theorem row_none {xs ys : List ByteArray} {alo blo bhi n : Nat} : ∀ {js : List Nat} {st : M3}, (∀ j ∈ js, cs xs ys alo blo bhi n j = 0) → row xs ys alo blo bhi n st js = st
  | [], _, _ => rfl
  | j :: js, st, h => by
    show row xs ys alo blo bhi n (upd xs ys alo blo bhi n st j) js = st
    rw [upd_none (h j (by simp)), row_none (fun x hx => h x (List.mem_cons_of_mem _ hx))]
theorem now_rest {xs ys : List ByteArray} {alo blo bhi n : Nat} {js rs : List Nat} (h : ∀ j ∈ rs, cs xs ys alo blo bhi n j = 0) (j : Int) : now xs ys alo blo bhi n (js ++ rs) j = now xs ys alo blo bhi n js j := by
  unfold now
  by_cases h0 : 0 ≤ j
  · by_cases hm : j.toNat ∈ js
    · rw [if_pos ⟨h0, by simp [hm]⟩, if_pos ⟨h0, hm⟩]
    · rw [if_neg (fun e : 0 ≤ j ∧ j.toNat ∈ js => hm e.2)]
      split
      · rename_i hh
        rcases List.mem_append.1 hh.2 with e | e
        · exact absurd e hm
        · exact h _ e
      · rfl
  · rw [if_neg (fun e => h0 e.1), if_neg (fun e => h0 e.1)]
theorem old_bound (xs ys : List ByteArray) (alo blo bhi : Nat) (n : Nat) (j : Int) : old xs ys alo blo bhi n j ≤ n := by
  cases n with
  | zero => exact Nat.le_refl _
  | succ n =>
    rw [old_succ]
    split
    · exact (cs_bound n _).1
    · omega

theorem lawI : Keyed Tryd.prog 3 := int_keyed Tryd.underlying3
theorem zeroInt (w : World) : (zeroValue 3).run Tryd.prog w = .ok (.int .i64 0) w := by kernel_rfl
/-- block b is a map of numbers that reads as f -/
def Holds (w : World) (b m : Nat) (f : Int → Nat) : Prop :=
  ∃ (k : Nat) (D : DataW Unit), k ≤ m ∧ w.ownsMap Tryd.prog 3 (plainElem Tryd.prog 3) b k D ∧ ∀ j : Int, D.atKey (.int .i64 j) (.lit (.int .i64 0)) = .lit (.int .i64 (f j))
theorem Holds.kept {w w' : World} {b m : Nat} {f : Int → Nat} {r : Option Nat} (h : Holds w b m f) (k : w.grownBy w' r) (hb : some b ≠ r) : Holds w' b m f := by
  obtain ⟨n, D, h1, h2, h3⟩ := h
  exact ⟨n, D, h1, h2.kept k hb, h3⟩
theorem Holds.same {w : World} {b m : Nat} {f f' : Int → Nat} (h : Holds w b m f) (e : ∀ j, f j = f' j) : Holds w b m f' := by
  obtain ⟨n, D, h1, h2, h3⟩ := h
  exact ⟨n, D, h1, h2, fun j => by rw [h3 j, e j]⟩
theorem Holds.more {w : World} {b m m' : Nat} {f : Int → Nat} (h : Holds w b m f) (e : m ≤ m') : Holds w b m' f := by
  obtain ⟨n, D, h1, h2, h3⟩ := h
  exact ⟨n, D, Nat.le_trans h1 e, h2, h3⟩
theorem Holds.made (w : World) : Holds (w.alloc (.map #[] 0)) w.heap.size 0 (fun _ => 0) := ⟨0, .map [], Nat.le_refl _, World.ownsMap_made _ _ _ _, fun j => rfl⟩
theorem Holds.lt {w : World} {b m : Nat} {f : Int → Nat} (h : Holds w b m f) : b < w.heap.size := by
  obtain ⟨n, D, h1, h2, h3⟩ := h
  exact h2.lt
theorem atKey_put_int {D : DataW Unit} {x c : Int} {f : Int → Nat} (hD : IsMap D) (h : ∀ j : Int, D.atKey (.int .i64 j) (.lit (.int .i64 0)) = .lit (.int .i64 (f j))) (v : Nat) (hv : c = (v : Int)) (f' : Int → Nat) (hf : ∀ j, f' j = if j = x then v else f j) :
    ∀ j : Int, (D.put (.int .i64 x) (.lit (.int .i64 c))).atKey (.int .i64 j) (.lit (.int .i64 0)) = .lit (.int .i64 (f' j)) := by
  intro j
  rw [hf j]
  by_cases e : j = x
  · subst e
    rw [if_pos rfl, atKey_put_same (k := .int .i64 j) hD trivial, hv]
  · rw [if_neg e, atKey_put_other (fun e2 => e (by injection e2))]
    exact h j

/-- what stays as it was all along: the empty set, what is old, and the block of the result -/
structure Rest (w : World) (jk : Nat) (wx : World) : Prop where
  map : wx.heap[jk]? = some (.map #[] 0)
  below : Below w.heap.size w wx
  more : w.heap.size < wx.heap.size
  res : Whole wx w.heap.size 59 #[.int .i64 0, .int .i64 0, .int .i64 0]
theorem Rest.alloc {w wx : World} {jk : Nat} (h : Rest w jk wx) (o : Obj) : Rest w jk (wx.alloc o) := by
  obtain ⟨h1, h2, h3, h4⟩ := h
  refine ⟨?_, h2.alloc h2.size o, by simp; omega, h4.alloc o⟩
  rw [Below.heap_alloc wx o jk (Array.getElem?_eq_some_iff.1 h1).1]; exact h1
theorem Rest.drew {w wx : World} {jk : Nat} (h : Rest w jk wx) : Rest w jk wx.drew := ⟨h.1, h.2.drew, h.3, h.4⟩
theorem Rest.drewN {w wx : World} {jk : Nat} (h : Rest w jk wx) (n : Nat) : Rest w jk (wx.drewN n) := ⟨h.1, below_drewN h.2 n, h.3, h.4⟩
theorem Rest.grown {w wx wy : World} {jk n : Nat} (h : Rest w jk wx) (k : wx.grownBy wy (some n)) (hn : w.heap.size < n) (hj : jk < w.heap.size) : Rest w jk wy := by
  obtain ⟨h1, h2, h3, h4⟩ := h
  refine ⟨?_, below_only h2 h2.size k (by omega), Nat.lt_of_lt_of_le h3 k.size, h4.grown k (by intro e; injection e with e; omega)⟩
  rw [k.block jk (by omega) (by intro e; injection e with e; omega)]; exact h1
theorem cell_alloc {wx : World} {a : Addr} {v : Value} (h : wx.cell? a = some v) (o : Obj) : (wx.alloc o).cell? a = some v := by
  rw [World.cell?_alloc_lt wx o a (World.block_lt_of_cell? wx a h)]; exact h

theorem back_step {xs ys : List ByteArray} {alo blo i j : Nat} (k : Nat) (h1 : alo < i) (h2 : blo < j) (he : eqS (el xs (i - 1)) (el ys (j - 1)) = true) : back xs ys alo blo i j k = back xs ys alo blo (i - 1) (j - 1) (k + 1) := by
  obtain ⟨i, rfl⟩ : ∃ n, i = n + 1 := ⟨i - 1, by omega⟩
  obtain ⟨j, rfl⟩ : ∃ n, j = n + 1 := ⟨j - 1, by omega⟩
  have he : eqS (el xs i) (el ys j) = true := he
  conv => lhs; unfold back
  rw [decide_eq_true h1, decide_eq_true h2, he]
  rfl
theorem back_stop {xs ys : List ByteArray} {alo blo i j : Nat} (k : Nat) (h : alo < i → blo < j → eqS (el xs (i - 1)) (el ys (j - 1)) = false) : back xs ys alo blo i j k = (i, j, k) := by
  cases i with
  | zero => cases j <;> rfl
  | succ i =>
    cases j with
    | zero => rfl
    | succ j =>
      unfold back
      rw [if_neg]
      intro hc
      simp only [Bool.and_eq_true, decide_eq_true_eq] at hc
      have := h hc.1.1 hc.1.2
      rw [show i + 1 - 1 = i from rfl, show j + 1 - 1 = j from rfl, hc.2] at this
      cases this
theorem fits_back {xs ys : List ByteArray} {alo ahi blo bhi i j k : Nat} (h : Fits xs ys alo ahi blo bhi (i, j, k)) (h1 : alo < i) (h2 : blo < j) (he : eqS (el xs (i - 1)) (el ys (j - 1)) = true) : Fits xs ys alo ahi blo bhi (i - 1, j - 1, k + 1) := by
  obtain ⟨f1, f2, f3, f4, f5⟩ := h
  simp only at f1 f2 f3 f4 f5
  refine ⟨by show alo ≤ i - 1; omega, by show i - 1 + (k + 1) ≤ ahi; omega, by show blo ≤ j - 1; omega, by show j - 1 + (k + 1) ≤ bhi; omega, ?_⟩
  intro t ht
  cases t with
  | zero => exact (eqS_iff _ _).1 he
  | succ t =>
    have := f5 t (by have : t + 1 < k + 1 := ht; omega)
    show el xs (i - 1 + (t + 1)) = el ys (j - 1 + (t + 1))
    rw [show i - 1 + (t + 1) = i + t by omega, show j - 1 + (t + 1) = j + t by omega]
    exact this
theorem fwd_step {xs ys : List ByteArray} {ahi bhi p q : Nat} (h1 : p < ahi) (h2 : q < bhi) (he : eqS (el xs p) (el ys q) = true) : fwd xs ys ahi bhi (ahi - p) p q = fwd xs ys ahi bhi (ahi - (p + 1)) (p + 1) (q + 1) + 1 := by
  obtain ⟨f, hf⟩ : ∃ f, ahi - p = f + 1 := ⟨ahi - p - 1, by omega⟩
  rw [hf, show ahi - (p + 1) = f by omega]
  conv => lhs; unfold fwd
  rw [decide_eq_true h1, decide_eq_true h2, he]
  rfl
theorem fwd_stop {xs ys : List ByteArray} {ahi bhi p q : Nat} (f : Nat) (h : p < ahi → q < bhi → eqS (el xs p) (el ys q) = false) : fwd xs ys ahi bhi f p q = 0 := by
  cases f with
  | zero => rfl
  | succ f =>
    unfold fwd
    rw [if_neg]
    intro hc
    simp only [Bool.and_eq_true, decide_eq_true_eq] at hc
    have := h hc.1.1 hc.1.2
    rw [hc.2] at this
    cases this
/-- an element of a list that lies ahead of g, read in a later world -/
theorem at_ {α : Type} {g : Nat} {c : α → Value} {w wx : World} {a : Option Addr} {n cap : Nat} {zs : List α} (h : Ahead g c w (.slice a n cap) zs) (hb : Below w.heap.size w wx) (k : Nat) (hk : k < zs.length) : ∃ b off, a = some ⟨b, off, none⟩ ∧ wx.cell? ⟨b, off + k, none⟩ = some (c zs[k]) := by
  rcases h.1 with ⟨h, _⟩ | ⟨b, off, cap, h, h0, hcap, hm, hbb, hcell⟩
  · rw [h] at hk; simp at hk
  · injection h with h1 h2 h3
    exact ⟨b, off, h1, by rw [hb.cell (p := ⟨b, off + k, none⟩) hbb]; exact hcell k hk⟩

theorem at_w {α : Type} {g : Nat} {c : α → Value} {w : World} {a : Option Addr} {n cap : Nat} {zs : List α} (h : Ahead g c w (.slice a n cap) zs) (k : Nat) (hk : k < zs.length) : ∃ b off, a = some ⟨b, off, none⟩ ∧ b < w.heap.size ∧ w.cell? ⟨b, off + k, none⟩ = some (c zs[k]) := by
  rcases h.1 with ⟨h, _⟩ | ⟨b, off, cap, h, h0, hcap, hm, hbb, hcell⟩
  · rw [h] at hk; simp at hk
  · injection h with h1 h2 h3
    exact ⟨b, off, h1, hbb, hcell k hk⟩
/-- a world of a class -/
structure In (S : World → Prop) where
  w : World
  ok : S w
/-- a region that draws its order, whose operations read and whose calls leave a world of the class: one walk of the text's order -/
theorem region_class {P : Program} {id : Nat} {Q : Exit → Act → World → Prop} {a : Act} {w : World} {l : List Oper} (S : World → Prop) (hm : P.follows .mixedOrders = true) (hB : Region.lexB .any l.toArray = true) (h0 : S w.drew)
    (h : wpQuiet P l.toArray (fun w' => ∃ t : In S, w' = t.w) (fun a' => ∀ w', (∃ t : In S, w' = t.w) → Q .normal a' w') l a) : (Code.region id l.toArray true).wp P Q a w :=
  wp_region_quiet (C := fun w' => ∃ t : In S, w' = t.w) hm hB ⟨⟨w.drew, h0⟩, rfl⟩ (by simpa using h)

end Go.Proofs.YtkmfedmiaannfaaDoor.Df
