/- Spans: the map's keys, gathered and sorted. -/
import Derived.Test.YtkmfedmiaannfaaSpo
import Derived.Test.YtkmfedmiaannfaaSpk
import Derived.Maps.RangeWalk
import Derived.Maps.OwnOps
import Derived.Sort.OwnSortedInts
import Derived.Test.YtkmfedmiaannfaaShSi
set_option linter.unusedVariables false
set_option linter.unusedSimpArgs false
namespace Go.Proofs.Ytkmfedmiaannfaa.Sp
open Go.RowKit Go.Maps Go.WideMaps Go.ChangeShapes Go.WideShapes Go.Deep Fp

theorem infoN : (Try.prog.info? 3).map (fun i => (i.zero, i.size, i.bytes)) = some (some (.int .i64 0), 1, 8) := by kernel_rfl

/-- the keys met so far -/
structure KeysAt (L : List N2) (left : Lit → Bool) (ks : List Int) : Prop where
  nd : ks.Nodup
  has : ∀ k ∈ ks, (lastN L k).isSome = true
  gone : ∀ k ∈ ks, left (il k) = false
  come : ∀ k, (lastN L k).isSome = true → k ∈ ks ∨ left (il k) = true
abbrev AtL (D : DataW Unit) (L : List N2) : Prop := ∀ k z, D.atKey (il k) z = (match lastN L k with | some v => .lit (il v) | none => z)
theorem KeysAt.start {D : DataW Unit} {L : List N2} (hat : AtL D L) : KeysAt L (Maps.has D) [] := by
  refine ⟨List.nodup_nil, fun k h => by simp at h, fun k h => by simp at h, fun k h => Or.inr ?_⟩
  obtain ⟨v, hv⟩ := Option.isSome_iff_exists.1 h
  refine has_true_of_atKey (y := .lit (il v)) fun z => ?_
  rw [hat k z, hv]
theorem il_same (x : Int) : (il x).sameKey (il x) = true := WideAt.sameKey_self (il_key x)
theorem il_other {x y : Int} (h : x ≠ y) : (il x).sameKey (il y) = false := sameKey_ne (fun e => h (il_inj e))
theorem KeysAt.step {D : DataW Unit} {L : List N2} {left : Lit → Bool} {ks : List Int} {x c : Int} (h : KeysAt L left ks) (hat : AtL D L) (hx : left (il x) = true) (hc : ∀ z, D.atKey (il x) z = .lit (il c)) :
    KeysAt L (fun z => left z && !z.sameKey (il x)) (ks ++ [x]) := by
  have hs : (lastN L x).isSome = true := by
    cases e : lastN L x with
    | some v => rfl
    | none =>
      exfalso
      have h1 := hc .nil
      rw [hat x .nil, e] at h1
      cases h1
  refine ⟨?_, fun k hk => ?_, fun k hk => ?_, fun k hk => ?_⟩
  · refine List.nodup_append.2 ⟨h.nd, by simp, ?_⟩
    intro a ha b hb e
    subst e
    rw [List.mem_singleton.1 hb] at ha
    rw [h.gone x ha] at hx
    cases hx
  · rcases List.mem_append.1 hk with hk | hk
    · exact h.has k hk
    · rw [List.mem_singleton.1 hk]; exact hs
  · rcases List.mem_append.1 hk with hk | hk
    · show (left (il k) && !_) = false
      rw [h.gone k hk]; rfl
    · rw [List.mem_singleton.1 hk]
      show (left (il x) && !(il x).sameKey (il x)) = false
      rw [il_same]; simp
  · rcases h.come k hk with h1 | h1
    · exact Or.inl (List.mem_append.2 (Or.inl h1))
    · by_cases e : k = x
      · exact Or.inl (by rw [e]; simp)
      · right
        show (left (il k) && !(il k).sameKey (il x)) = true
        rw [h1, il_other e]; rfl
theorem KeysAt.done {L : List N2} {left : Lit → Bool} {ks : List Int} (h : KeysAt L left ks) (hl : ∀ kl, left kl = false) : ∀ k, k ∈ ks ↔ (lastN L k).isSome = true := by
  refine fun k => ⟨h.has k, fun hk => ?_⟩
  rcases h.come k hk with h1 | h1
  · exact h1
  · rw [hl] at h1; cases h1

abbrev intsRow (w : World) (B : Nat) (v : Value) (ks : List Int) : Prop := w.ownsRow B 3 1 v ks.length (ks.map (Value.int .i64))
/-- behind some rounds of the loop over the map in block b -/
def KeysQ (L : List N2) (b n : Nat) (D : DataW Unit) (w : World) (v : Value) (wr : World) : Prop :=
  ∃ ks left cnt, wr.ranges Try.prog 3 (plainElem Try.prog 2) b w.heap.size n D left cnt ∧ KeysAt L left ks ∧ ks.length + cnt ≤ n ∧ intsRow wr (w.heap.size + 1) v ks ∧ Below w.heap.size w wr ∧ w.heap.size + 1 ≤ wr.heap.size
theorem KeysQ.next {L : List N2} {b n cnt cnt1 : Nat} {D : DataW Unit} {w wr w1 w2 : World} {v v2 : Value} {ks : List Int} {left : Lit → Bool} {x c : Int} (hb : b < w.heap.size) (hat : AtL D L)
    (hrg : wr.ranges Try.prog 3 (plainElem Try.prog 2) b w.heap.size n D left cnt) (hk : KeysAt L left ks) (hcn : ks.length + cnt ≤ n) (ho : intsRow wr (w.heap.size + 1) v ks) (hbw : Below w.heap.size w wr) (hsz : w.heap.size + 1 ≤ wr.heap.size)
    (hx : left (il x) = true) (hc : ∀ z, D.atKey (il x) z = .lit (il c)) (hrg1 : w1.ranges Try.prog 3 (plainElem Try.prog 2) b w.heap.size n D (fun z => left z && !z.sameKey (il x)) cnt1) (hlt : cnt1 < cnt)
    (hg1 : wr.grownBy w1 (some w.heap.size)) (ho2 : w2.ownsRow (w.heap.size + 1) 3 1 v2 (ks.length + 1) (ks.map (Value.int .i64) ++ [.int .i64 x])) (hg2 : (w1.alloc (.cells #[.int .i64 x] 3)).grownBy w2 v.ownBlock) :
    KeysQ L b n D w v2 w2 ∧ w2.rangeLeft b w.heap.size < wr.rangeLeft b w.heap.size := by
  have hv : ∀ j, v.ownBlock = some j → w.heap.size + 1 ≤ j := fun j hj => (ho.lt j hj).1
  have n1 : some b ≠ v.ownBlock := fun e => by have := hv b e.symm; omega
  have n2 : some w.heap.size ≠ v.ownBlock := fun e => by have := hv _ e.symm; omega
  have hrg2 := (hrg1.kept (World.grownBy_alloc w1 (.cells #[.int .i64 x] 3) none) (by simp) (by simp)).kept hg2 n1 n2
  have hb1 : Below w.heap.size w w1 := hbw.grown hg1 (by omega) (fun j hj => by injection hj with hj; omega)
  have hs1 : w.heap.size + 1 ≤ w1.heap.size := Nat.le_trans hsz hg1.size
  refine ⟨⟨ks ++ [x], _, cnt1, hrg2, hk.step hat hx hc, by simp; omega, ?_, ?_, ?_⟩, ?_⟩
  · show w2.ownsRow _ _ 1 v2 (ks ++ [x]).length ((ks ++ [x]).map _)
    rw [List.length_append, List.map_append]; exact ho2
  · exact (hb1.alloc (by omega) _).grown hg2 (by simp; omega) (fun j hj => by have := hv j hj; omega)
  · exact Nat.le_trans hs1 (Nat.le_trans (by simp) hg2.size)
  · rw [hrg2.left_eq, hrg.left_eq]; exact hlt

/-- 'sort.Ints' of a row of the call's own -/
theorem sort_own {B : Nat} {v : Value} {ks : List Int} {w : World} (h : intsRow w B v ks) (hl : ks.length < 4611686018427387904) :
    Calls Try.prog 103 #[v] w fun e w' => e = .returned (.tuple #[]) ∧ intsRow w' B v (ks.mergeSort fun x y => decide (x ≤ y)) ∧ w.grownBy w' v.ownBlock := by
  have hlen : (ks.mergeSort fun x y => decide (x ≤ y)).length = ks.length := List.length_mergeSort ks
  have h0 := h
  rcases h.2 with ⟨rfl, h1⟩ | ⟨g, cap, cur, rfl, hB, hcur, hn, hcap, hsz, ht⟩
  · obtain rfl : ks = [] := List.length_eq_zero_iff.1 h1
    refine (Sh.sort_Ints_none none 0 w).mono ?_
    rintro e w' ⟨rfl, rfl⟩
    refine ⟨rfl, ?_, World.grownBy.refl _ _⟩
    simpa using h
  · have hg : g < w.heap.size := (Array.getElem?_eq_some_iff.1 hcur).1
    have hH : Sort.Holds (Value.int .i64) w g 0 ks.toArray := holds_of_blockI hcur (by simpa using ht)
    refine (Sh.sort_Ints g 0 cap ks w hH hg hl).mono ?_
    rintro e w' ⟨rfl, n, os, rfl⟩
    refine ⟨rfl, ?_, grownBy_sortedI _⟩
    show (_ : World).ownsRow B _ 1 _ (ks.mergeSort _).length _
    rw [hlen]
    exact ownsRow_sortedI hlen hB hcur hn hcap hsz

end Go.Proofs.Ytkmfedmiaannfaa.Sp
