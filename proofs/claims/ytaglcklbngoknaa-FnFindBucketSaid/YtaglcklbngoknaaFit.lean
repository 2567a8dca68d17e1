/- Bounds made strictly increasing; the place of a number among them. No Go. -/
import Derived.Test.YtaglcklbngoknaaFl3
set_option linter.unusedSimpArgs false
namespace Plf
open Ieee

def gtW (x y : Nat) : Bool := D.order x y == some .gt
def geW (x y : Nat) : Bool := D.order x y == some .gt || D.order x y == some .eq

theorem gtW_iff (x y : Nat) : gtW x y = true ↔ isNan D x = false ∧ isNan D y = false ∧ sv D y < sv D x := by
  unfold gtW
  by_cases h : isNan D x = true ∨ isNan D y = true
  · rw [order_nan h]
    constructor
    · intro hh; cases hh
    · rintro ⟨a, b, _⟩; rcases h with h | h <;> simp_all
  · have h1 : isNan D x = false := by cases e : isNan D x <;> simp_all
    have h2 : isNan D y = false := by cases e : isNan D y <;> simp_all
    rw [order_num h1 h2]
    constructor
    · intro hh
      refine ⟨h1, h2, ?_⟩
      have : compare (sv D x) (sv D y) = .gt := by simpa using hh
      exact Int.compare_eq_gt.1 this
    · rintro ⟨_, _, hh⟩
      rw [Int.compare_eq_gt.2 hh]; rfl
theorem geW_leW (x y : Nat) : geW x y = leW y x := by
  rw [Bool.eq_iff_iff, leW_iff]
  have h1 := gtW_iff x y
  have h2 := eqW_iff x y
  have : geW x y = true ↔ gtW x y = true ∨ eqW x y = true := by unfold geW gtW eqW; simp
  rw [this, h1, h2]
  constructor
  · rintro (⟨a, b, c⟩ | ⟨a, b, c⟩)
    · exact ⟨b, a, by omega⟩
    · exact ⟨b, a, by omega⟩
  · rintro ⟨a, b, c⟩
    by_cases e : sv D x = sv D y
    · exact Or.inr ⟨b, a, e⟩
    · exact Or.inl ⟨b, a, by omega⟩

/-- strictly increasing numbers -/
def Incr (l : List Nat) : Prop := (∀ z ∈ l, isNan D z = false) ∧ l.Pairwise (fun a b => sv D a < sv D b)

def fitStep (acc : List Nat) (z : Nat) : List Nat :=
  if eqW z z = true ∧ (acc = [] ∨ gtW z (acc.getLastD 0) = true) then acc ++ [z] else acc
def fits (l : List Nat) : List Nat := l.foldl fitStep []

theorem fitStep_incr {acc : List Nat} {z : Nat} (h : Incr acc) : Incr (fitStep acc z) := by
  unfold fitStep
  split
  · rename_i hc
    obtain ⟨h1, h2⟩ := hc
    have hz := (eqW_iff z z).1 h1
    refine ⟨?_, ?_⟩
    · intro y hy
      rcases List.mem_append.1 hy with hy | hy
      · exact h.1 y hy
      · rw [List.mem_singleton.1 hy]; exact hz.1
    · rw [List.pairwise_append]
      refine ⟨h.2, List.pairwise_singleton _ _, ?_⟩
      intro a ha b hb
      rw [List.mem_singleton.1 hb]
      rcases h2 with rfl | h2
      · cases ha
      · have hne : acc ≠ [] := by rintro rfl; cases ha
        have hg := (gtW_iff _ _).1 h2
        have hl : acc.getLastD 0 = acc.getLast hne := by rw [List.getLastD_eq_getLast?, List.getLast?_eq_some_getLast hne]; rfl
        rw [hl] at hg
        have : a = acc.getLast hne ∨ sv D a < sv D (acc.getLast hne) := by
          have hs := List.dropLast_concat_getLast hne
          have hp := h.2
          rw [← hs] at ha hp
          rcases List.mem_append.1 ha with ha | ha
          · exact Or.inr ((List.pairwise_append.1 hp).2.2 a ha _ (List.mem_singleton_self _))
          · exact Or.inl (List.mem_singleton.1 ha)
        rcases this with rfl | this <;> omega
  · exact h

theorem foldl_incr (l : List Nat) : ∀ acc, Incr acc → Incr (l.foldl fitStep acc) := by
  induction l with
  | nil => intro acc h; exact h
  | cons z r ih => intro acc h; exact ih _ (fitStep_incr h)
theorem fits_incr (l : List Nat) : Incr (fits l) := foldl_incr l [] ⟨by simp, List.Pairwise.nil⟩

theorem fitStep_len (acc : List Nat) (z : Nat) : (fitStep acc z).length ≤ acc.length + 1 := by
  unfold fitStep; split <;> simp
theorem foldl_len (l : List Nat) : ∀ acc : List Nat, (l.foldl fitStep acc).length ≤ acc.length + l.length := by
  induction l with
  | nil => intro acc; simp
  | cons z r ih => intro acc; have := ih (fitStep acc z); have := fitStep_len acc z; simp; omega
theorem fits_len (l : List Nat) : (fits l).length ≤ l.length := by have := foldl_len l []; simpa [fits] using this
theorem fits_snoc (l : List Nat) (z : Nat) : fits (l ++ [z]) = fitStep (fits l) z := by unfold fits; rw [List.foldl_append]; rfl

/-- the place of v: of the first bound that is not less -/
def place (l : List Nat) (v : Nat) : Nat := l.findIdx (fun b => leW v b)

theorem Incr.lt {l : List Nat} (h : Incr l) {i j : Nat} (hj : j < l.length) (hij : i < j) : sv D (l[i]'(by omega)) < sv D l[j] :=
  List.pairwise_iff_getElem.1 h.2 i j (by omega) hj hij

theorem Incr.num {l : List Nat} (h : Incr l) {i : Nat} (hi : i < l.length) : isNan D l[i] = false := h.1 _ (List.getElem_mem hi)

theorem place_first {l : List Nat} {v : Nat} (h0 : 0 < l.length) (h : leW v l[0] = true) : place l v = 0 := by
  unfold place
  cases l with
  | nil => cases h0
  | cons a r => rw [List.findIdx_cons]; simp at h; rw [h]; rfl

theorem place_eq {l : List Nat} {v i : Nat} (hi : i < l.length) (h1 : ∀ j (h : j < l.length), j < i → leW v l[j] = false) (h2 : leW v l[i] = true) : place l v = i := by
  unfold place
  rw [List.findIdx_eq hi]
  exact ⟨h2, fun j hj => by simpa using h1 j (by omega) hj⟩

theorem place_none {l : List Nat} {v : Nat} (h1 : ∀ j (h : j < l.length), leW v l[j] = false) : place l v = l.length := by
  unfold place
  rw [List.findIdx_eq_length]
  intro x hx
  obtain ⟨i, hi, rfl⟩ := List.getElem_of_mem hx
  simpa using h1 i hi

theorem place_above {l : List Nat} {v : Nat} (hl : Incr l) (h0 : 0 < l.length) (h : gtW v (l[l.length - 1]'(by omega)) = true) : place l v = l.length := by
  apply place_none
  intro j hj
  have hg := (gtW_iff _ _).1 h
  cases e : leW v l[j]
  · rfl
  · have he := (leW_iff _ _).1 e
    by_cases hjl : j = l.length - 1
    · subst hjl; omega
    · have := hl.lt (i := j) (j := l.length - 1) (by omega) (by omega); omega

theorem place_mono {l : List Nat} {v i j : Nat} (hl : Incr l) (hj : j < l.length) (hij : i ≤ j) (h : leW v (l[i]'(by omega)) = true) : leW v l[j] = true := by
  rw [leW_iff] at *
  by_cases e : i = j
  · subst e; exact h
  · have := hl.lt (i := i) hj (by omega)
    exact ⟨h.1, hl.num hj, by omega⟩

/-- what a search that halves the places finds -/
theorem place_split {l : List Nat} {v i : Nat} (hi : i ≤ l.length) (h1 : ∀ j (h : j < l.length), j < i → leW v l[j] = false) (h2 : ∀ h : i < l.length, leW v l[i] = true) : place l v = i := by
  by_cases e : i < l.length
  · exact place_eq e h1 (h2 e)
  · have : i = l.length := by omega
    subst this
    exact place_none fun j hj => h1 j hj hj

end Plf
