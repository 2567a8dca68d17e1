/- Names of runtime metrics: the plain law. -/
import Derived.Test.YtkmfedmiaannfaaZrep
import Derived.Lib.CleanSame
set_option linter.unusedVariables false
set_option linter.unusedSimpArgs false
namespace Go.Proofs.Ytkmfedmiaannfaa.Rt
open Go.Lib Zix

def pb (c : UInt8) : Bool := (97 ≤ c.toNat && c.toNat ≤ 122) || (48 ≤ c.toNat && c.toNat ≤ 57) || c == 45
def Good (l : List UInt8) : Prop := l ≠ [] ∧ ∀ c ∈ l, pb c = true
def sub1 (c : UInt8) (new : List UInt8) (b : UInt8) : List UInt8 := if b = c then new else [b]
def line (l : List UInt8) : List UInt8 := l.flatMap (sub1 45 [95])
def J (s : List UInt8) (ls : List (List UInt8)) : List UInt8 := s.intercalate ls

theorem J_nil (s : List UInt8) : J s [] = [] := rfl
theorem J_one (s x : List UInt8) : J s [x] = x := by simp [J, List.intercalate, List.intersperse]
theorem J_cons (s x y : List UInt8) (r : List (List UInt8)) : J s (x :: y :: r) = x ++ (s ++ J s (y :: r)) := by
  simp [J, List.intercalate, List.intersperse]
theorem J_snoc (s x : List UInt8) : ∀ {A : List (List UInt8)}, A ≠ [] → J s (A ++ [x]) = J s A ++ (s ++ x)
  | [], h => absurd rfl h
  | [a], _ => by rw [List.singleton_append, J_cons, J_one, J_one]
  | a :: b :: r, _ => by
    have ih := J_snoc s x (A := b :: r) (by simp)
    rw [List.cons_append, List.cons_append, J_cons, J_cons]
    rw [List.cons_append] at ih
    rw [ih]
    simp [List.append_assoc]
theorem J_flat (f : UInt8 → List UInt8) (s : List UInt8) : ∀ A : List (List UInt8), (J s A).flatMap f = J (s.flatMap f) (A.map (·.flatMap f))
  | [] => rfl
  | [a] => by rw [J_one, List.map_singleton, J_one]
  | a :: b :: r => by
    have ih := J_flat f s (b :: r)
    rw [J_cons, List.map_cons, List.map_cons, J_cons, List.flatMap_append, List.flatMap_append, ih, List.map_cons]
theorem J_mem {s : List UInt8} {c : UInt8} : ∀ {A : List (List UInt8)}, c ∈ J s A → c ∈ s ∨ ∃ a ∈ A, c ∈ a
  | [], h => by cases h
  | [a], h => by rw [J_one] at h; exact Or.inr ⟨a, by simp, h⟩
  | a :: b :: r, h => by
    rw [J_cons, List.mem_append, List.mem_append] at h
    rcases h with h | h | h
    · exact Or.inr ⟨a, by simp, h⟩
    · exact Or.inl h
    · rcases J_mem h with h | ⟨x, hx, h⟩
      · exact Or.inl h
      · exact Or.inr ⟨x, List.mem_cons_of_mem _ hx, h⟩

theorem flat_id {f : UInt8 → List UInt8} : ∀ {l : List UInt8}, (∀ c ∈ l, f c = [c]) → l.flatMap f = l
  | [], _ => rfl
  | c :: l, h => by rw [List.flatMap_cons, h c (by simp), flat_id (fun x hx => h x (List.mem_cons_of_mem _ hx))]; rfl
theorem map_id {f : UInt8 → List UInt8} : ∀ {A : List (List UInt8)}, (∀ a ∈ A, ∀ c ∈ a, f c = [c]) → A.map (·.flatMap f) = A
  | [], _ => rfl
  | a :: A, h => by rw [List.map_cons, flat_id (h a (by simp)), map_id (fun x hx => h x (List.mem_cons_of_mem _ hx))]

theorem pb_ne {c d : UInt8} (h : pb c = true) (hd : pb d = false) : c ≠ d := by
  rintro rfl
  rw [h] at hd; cases hd
theorem sub1_ne {c : UInt8} {new : List UInt8} {b : UInt8} (h : b ≠ c) : sub1 c new b = [b] := if_neg h
/-- a byte of a line -/
def lb (c : UInt8) : Bool := (97 ≤ c.toNat && c.toNat ≤ 122) || (48 ≤ c.toNat && c.toNat ≤ 57) || c == 95
theorem pb_cases {c : UInt8} (h : pb c = true) : c = 45 ∨ (c ≠ 45 ∧ lb c = true) := by
  by_cases e : c = 45
  · exact Or.inl e
  · refine Or.inr ⟨e, ?_⟩
    unfold pb at h
    unfold lb
    have e2 : (c == 45) = false := beq_eq_false_iff_ne.2 e
    rw [e2, Bool.or_false] at h
    rw [h, Bool.true_or]
theorem line_mem {l : List UInt8} (h : ∀ c ∈ l, pb c = true) {b : UInt8} (hb : b ∈ line l) : lb b = true := by
  unfold line at hb
  obtain ⟨c, hc, hb⟩ := List.mem_flatMap.1 hb
  unfold sub1 at hb
  rcases pb_cases (h c hc) with e | ⟨e, h1⟩
  · rw [if_pos e] at hb
    have : b = 95 := by simpa using hb
    rw [this]; decide
  · rw [if_neg e] at hb
    have : b = c := by simpa using hb
    rw [this]; exact h1
theorem lb_ne {c d : UInt8} (h : lb c = true) (hd : lb d = false) : c ≠ d := by
  rintro rfl
  rw [h] at hd; cases hd
theorem line_len : ∀ l : List UInt8, (line l).length = l.length
  | [] => rfl
  | c :: l => by
    have ih := line_len l
    unfold line at ih ⊢
    rw [List.flatMap_cons, List.length_append, ih]
    unfold sub1
    split <;> simp <;> omega

/-- the subsystem: first the slashes, then the bars -/
theorem sub_eq {A : List (List UInt8)} (h : ∀ a ∈ A, Good a) : ((J [47] A).flatMap (sub1 47 [95])).flatMap (sub1 45 [95]) = J [95] (A.map line) := by
  rw [J_flat, map_id (fun a ha c hc => sub1_ne (pb_ne ((h a ha).2 c hc) (by decide)))]
  rw [J_flat]
  rfl
/-- the unit -/
theorem unit_eq {A : List (List UInt8)} (h : ∀ a ∈ A, Good a) : (((J [47] A).flatMap (sub1 45 [95])).flatMap (sub1 42 [95])).flatMap (sub1 47 [95, 112, 101, 114, 95]) = J [95, 112, 101, 114, 95] (A.map line) := by
  have hl : ∀ a ∈ A.map line, ∀ c ∈ a, lb c = true := by
    intro a ha c hc
    obtain ⟨x, hx, rfl⟩ := List.mem_map.1 ha
    exact line_mem (h x hx).2 hc
  rw [J_flat]
  show ((J [47] (A.map line)).flatMap _).flatMap _ = _
  rw [J_flat, map_id (fun a ha c hc => sub1_ne (lb_ne (hl a ha c hc) (by decide)))]
  show (J [47] (A.map line)).flatMap _ = _
  rw [J_flat, map_id (fun a ha c hc => sub1_ne (lb_ne (hl a ha c hc) (by decide)))]
  rfl
theorem repl_sub1 (c : UInt8) (new l : List UInt8) : replAll [c] new l = l.flatMap (sub1 c new) := replAll_one c new l

/-- the first colon -/
theorem idxFrom_app {c : UInt8} : ∀ {a b : List UInt8} (k : Nat), (∀ x ∈ a, x ≠ c) → idxFrom [c] (a ++ c :: b) k = (k : Int) + (a.length : Int)
  | [], b, k, h => by
    show (if ([c] : List UInt8).isPrefixOf (c :: b) then (k : Int) else _) = _
    rw [if_pos (by simp [List.isPrefixOf])]
    simp
  | x :: a, b, k, h => by
    have hx : (c == x) = false := beq_eq_false_iff_ne.2 (fun e => h x (by simp) e.symm)
    show (if ([c] : List UInt8).isPrefixOf (x :: (a ++ c :: b)) then (k : Int) else idxFrom [c] (a ++ c :: b) (k + 1)) = _
    rw [if_neg (by simp [List.isPrefixOf, hx]), idxFrom_app (k + 1) (fun y hy => h y (List.mem_cons_of_mem _ hy))]
    simp only [List.length_cons]
    omega
theorem idx_app {c : UInt8} {a b : List UInt8} (h : ∀ x ∈ a, x ≠ c) : idx (a ++ c :: b) [c] = (a.length : Int) := by
  show idxFrom [c] (a ++ c :: b) 0 = _
  rw [idxFrom_app 0 h]; omega

/-- the last slash -/
theorem split_app {a b : List UInt8} (h : ∀ x ∈ b, x ≠ 47) : Pa.split (a ++ 47 :: b) = (a ++ [47], b) := by
  have hl : Pa.lastIndexByte (a ++ 47 :: b) 47 = (a.length : Int) := by
    refine Pa.lastIdx_eq_of _ _ _ _ (by simp) (by simp) ?_
    intro j h1 h2 e
    rw [List.getElem?_append_right (by omega)] at e
    obtain ⟨m, hm⟩ : ∃ m, j - a.length = m + 1 := ⟨j - a.length - 1, by omega⟩
    rw [hm, List.getElem?_cons_succ] at e
    exact h 47 (List.mem_of_getElem? e) rfl
  unfold Pa.split
  rw [hl, show ((a.length : Int) + 1).toNat = a.length + 1 by omega]
  simp [List.take_append, List.drop_append, List.take_of_length_le]

theorem els_one : ∀ {l : List UInt8}, (∀ x ∈ l, x ≠ 47) → Pa.els l = [l]
  | [], _ => rfl
  | c :: l, h => by
    unfold Pa.els
    rw [if_neg (h c (by simp)), els_one (fun x hx => h x (List.mem_cons_of_mem _ hx))]
theorem els_app : ∀ {a b : List UInt8}, (∀ x ∈ a, x ≠ 47) → Pa.els (a ++ 47 :: b) = a :: Pa.els b
  | [], b, _ => by
    show Pa.els (47 :: b) = _
    conv => lhs; unfold Pa.els
    rw [if_pos rfl]
  | c :: a, b, h => by
    show Pa.els (c :: (a ++ 47 :: b)) = _
    conv => lhs; unfold Pa.els
    rw [if_neg (h c (by simp)), els_app (fun x hx => h x (List.mem_cons_of_mem _ hx))]
theorem els_J : ∀ {A : List (List UInt8)}, A ≠ [] → (∀ a ∈ A, ∀ x ∈ a, x ≠ 47) → Pa.els (J [47] A ++ [47]) = A ++ [[]]
  | [], h, _ => absurd rfl h
  | [a], _, h => by
    rw [J_one, els_app (h a (by simp))]; rfl
  | a :: b :: r, _, h => by
    rw [J_cons, List.append_assoc, List.append_assoc]
    show Pa.els (a ++ 47 :: (J [47] (b :: r) ++ [47])) = _
    rw [els_app (h a (by simp)), els_J (by simp) (fun x hx => h x (List.mem_cons_of_mem _ hx))]
    rfl
theorem good_no {a : List UInt8} (h : Good a) {c : UInt8} (hc : pb c = false) : ∀ x ∈ a, x ≠ c := fun x hx => pb_ne (h.2 x hx) hc
theorem fold_good : ∀ {A : List (List UInt8)} (st : List (List UInt8)), (∀ a ∈ A, Good a) → A.foldl (Pa.cleanStep false) st = A.reverse ++ st
  | [], st, _ => rfl
  | a :: A, st, h => by
    have hg := h a (by simp)
    have h1 : Pa.cleanStep false st a = a :: st := by
      unfold Pa.cleanStep
      rw [if_neg, if_neg]
      · rintro rfl
        have := hg.2 46 (by simp); exact absurd this (by decide)
      · rintro (e | rfl)
        · exact hg.1 e
        · have := hg.2 46 (by simp); exact absurd this (by decide)
    rw [List.foldl_cons, h1, fold_good _ (fun x hx => h x (List.mem_cons_of_mem _ hx))]
    simp
theorem J_ne {A : List (List UInt8)} (s : List UInt8) (h0 : A ≠ []) (h : ∀ a ∈ A, Good a) : J s A ≠ [] ∧ ∃ c r, J s A = c :: r ∧ pb c = true := by
  match A, h0 with
  | [a], _ =>
    rw [J_one]
    have hg := h a (by simp)
    match a, hg with
    | [], hg => exact absurd rfl hg.1
    | c :: r, hg => exact ⟨by simp, c, r, rfl, hg.2 c (by simp)⟩
  | a :: b :: r, _ =>
    rw [J_cons]
    have hg := h a (by simp)
    match a, hg with
    | [], hg => exact absurd rfl hg.1
    | c :: t, hg => exact ⟨by simp, c, _, rfl, hg.2 c (by simp)⟩
theorem clean_J {A : List (List UInt8)} (h0 : A ≠ []) (h : ∀ a ∈ A, Good a) : Pa.cleanEls (J [47] A ++ [47]) = J [47] A := by
  obtain ⟨hne, c, r, hc, hpc⟩ := J_ne [47] h0 h
  have hh : ((J [47] A ++ [47]).head? == some 47) = false := by
    rw [hc]
    show (some c == some 47) = false
    exact beq_eq_false_iff_ne.2 (fun e => pb_ne hpc (by decide) (Option.some.inj e))
  unfold Pa.cleanEls
  rw [if_neg (by simp)]
  simp only [hh]
  rw [els_J h0 (fun a ha => good_no (h a ha) (by decide)), List.foldl_append, fold_good _ h]
  have h2 : List.foldl (Pa.cleanStep false) (A.reverse ++ []) [[]] = A.reverse := by
    show Pa.cleanStep false (A.reverse ++ []) [] = _
    unfold Pa.cleanStep
    rw [if_pos (Or.inl rfl), List.append_nil]
  rw [h2, List.reverse_reverse]
  show (if false = true then _ else if J [47] A = [] then [46] else J [47] A) = J [47] A
  rw [if_neg (by decide), if_neg hne]

/-- path.Dir of the path without its first slash -/
theorem dir_eq {A : List (List UInt8)} {x : List UInt8} (h0 : A ≠ []) (h : ∀ a ∈ A, Good a) (hx : Good x) : Pa.cleanEls (Pa.split (J [47] (A ++ [x]))).1 = J [47] A := by
  rw [J_snoc _ _ h0]
  show Pa.cleanEls (Pa.split (J [47] A ++ 47 :: x)).1 = _
  rw [split_app (good_no hx (by decide))]
  exact clean_J h0 h
/-- path.Base of the path -/
theorem base_eq {A : List (List UInt8)} {x : List UInt8} (h0 : A ≠ []) (hx : Good x) : Pa.base (47 :: J [47] (A ++ [x])) = x := by
  rw [J_snoc _ _ h0]
  have e : (47 : UInt8) :: (J [47] A ++ ([47] ++ x)) = (47 :: J [47] A) ++ 47 :: x := by simp
  rw [e]
  have ht : Pa.trimSlashes ((47 :: J [47] A) ++ 47 :: x) = (47 :: J [47] A) ++ 47 :: x := by
    unfold Pa.trimSlashes
    obtain ⟨y, c, hy⟩ : ∃ y c, x = y ++ [c] := by
      rcases List.eq_nil_or_concat x with h | ⟨y, c, h⟩
      · exact absurd h hx.1
      · exact ⟨y, c, by rw [h]; simp⟩
    have hc : c ≠ 47 := good_no hx (by decide) c (by rw [hy]; simp)
    have e2 : ((47 :: J [47] A) ++ 47 :: x) = ((47 :: J [47] A) ++ 47 :: y) ++ [c] := by rw [hy]; simp
    rw [e2, List.reverse_append, List.reverse_singleton, List.singleton_append, List.dropWhile_cons_of_neg (by simpa using hc), List.reverse_cons, List.reverse_reverse]
  unfold Pa.base
  rw [if_neg (by simp), ht, split_app (good_no hx (by decide))]
  simp only []
  rw [if_neg hx.1]

/-- a valid name -/
def vb (c : UInt8) : Bool := (97 ≤ c.toNat && c.toNat ≤ 122) || (48 ≤ c.toNat && c.toNat ≤ 57) || c == 95
def Valid (l : List UInt8) : Prop := ∃ r, l = 103 :: r ∧ ∀ c ∈ r, lb c = true
def rest (x : List UInt8) (us : List (List UInt8)) : List UInt8 := line x ++ (95 :: J [95, 112, 101, 114, 95] (us.map line))
theorem valid_eq {A us : List (List UInt8)} {x t : List UInt8} (h : ∀ a ∈ A, Good a) (hx : Good x) (hu : ∀ a ∈ us, Good a) (ht : ∀ c ∈ t, lb c = true) :
    Valid ([103, 111, 95] ++ (J [95] (A.map line) ++ (95 :: (rest x us ++ t)))) := by
  refine ⟨[111, 95] ++ (J [95] (A.map line) ++ (95 :: (rest x us ++ t))), rfl, ?_⟩
  have hj : ∀ {s : List UInt8} {B : List (List UInt8)}, (∀ c ∈ s, lb c = true) → (∀ a ∈ B, Good a) → ∀ c ∈ J s (B.map line), lb c = true := by
    intro s B hs hB c hc
    rcases J_mem hc with hc | ⟨a, ha, hc⟩
    · exact hs c hc
    · obtain ⟨y, hy, rfl⟩ := List.mem_map.1 ha
      exact line_mem (hB y hy).2 hc
  intro c hc
  rw [List.mem_append, List.mem_append] at hc
  rcases hc with hc | hc | hc
  · have : c = 111 ∨ c = 95 := by simpa using hc
    rcases this with rfl | rfl <;> decide
  · exact hj (by intro c hc; have : c = 95 := by simpa using hc
                 rw [this]; decide) h c hc
  · rcases List.mem_cons.1 hc with rfl | hc
    · decide
    · rcases List.mem_append.1 hc with hc | hc
      · unfold rest at hc
        rcases List.mem_append.1 hc with hc | hc
        · exact line_mem hx.2 hc
        · rcases List.mem_cons.1 hc with rfl | hc
          · decide
          · exact hj (by intro c hc; have : c = 95 ∨ c = 112 ∨ c = 101 ∨ c = 114 ∨ c = 95 := by simpa using hc
                         rcases this with rfl | rfl | rfl | rfl | rfl <;> decide) hu c hc
      · exact ht c hc

end Go.Proofs.Ytkmfedmiaannfaa.Rt
