/- The text of a descriptor, as a list of bytes: it names all its parts (plain lists, no program). -/
import Derived.Test.YtfcpapbokefdmaaGreatDoorNsa
set_option linter.unusedVariables false
set_option linter.unusedSimpArgs false
namespace Go.Proofs.YtfcpapbokefdmaaGreatDoor.Tx

abbrev L8 := List UInt8
def esc (c : UInt8) : L8 := if c = 34 ∨ c = 92 then [92, c] else [c]
def qz (s : L8) : L8 := 34 :: (s.flatMap esc ++ [34])
theorem body_inj : ∀ (a b x y : L8), a.flatMap esc ++ 34 :: x = b.flatMap esc ++ 34 :: y → a = b ∧ x = y
  | [], [], x, y, h => by simpa using h
  | [], d :: b, x, y, h => by
    exfalso
    simp only [List.flatMap_nil, List.nil_append, List.flatMap_cons, List.append_assoc] at h
    unfold esc at h
    split at h
    · simp at h
    · rename_i hd
      simp at h
      exact hd (Or.inl h.1.symm)
  | c :: a, [], x, y, h => by
    exfalso
    simp only [List.flatMap_nil, List.nil_append, List.flatMap_cons, List.append_assoc] at h
    unfold esc at h
    split at h
    · simp at h
    · rename_i hd
      simp at h
      exact hd (Or.inl h.1)
  | c :: a, d :: b, x, y, h => by
    simp only [List.flatMap_cons, List.append_assoc] at h
    by_cases hc : c = 34 ∨ c = 92 <;> by_cases hd : d = 34 ∨ d = 92
    · have e1 : esc c = [92, c] := if_pos hc
      have e2 : esc d = [92, d] := if_pos hd
      rw [e1, e2] at h
      simp only [List.cons_append, List.nil_append, List.cons.injEq, true_and] at h
      obtain ⟨h1, h2⟩ := body_inj a b x y h.2
      exact ⟨by rw [h.1, h1], h2⟩
    · have e1 : esc c = [92, c] := if_pos hc
      have e2 : esc d = [d] := if_neg hd
      rw [e1, e2] at h
      simp only [List.cons_append, List.nil_append, List.cons.injEq] at h
      exact absurd (Or.inr h.1.symm) hd
    · have e1 : esc c = [c] := if_neg hc
      have e2 : esc d = [92, d] := if_pos hd
      rw [e1, e2] at h
      simp only [List.cons_append, List.nil_append, List.cons.injEq] at h
      exact absurd (Or.inr h.1) hc
    · have e1 : esc c = [c] := if_neg hc
      have e2 : esc d = [d] := if_neg hd
      rw [e1, e2] at h
      simp only [List.cons_append, List.nil_append, List.cons.injEq] at h
      obtain ⟨h1, h2⟩ := body_inj a b x y h.2
      exact ⟨by rw [h.1, h1], h2⟩
theorem qz_inj {a b x y : L8} (h : qz a ++ x = qz b ++ y) : a = b ∧ x = y := by
  unfold qz at h
  simp only [List.cons_append, List.cons.injEq, true_and, List.append_assoc, List.nil_append] at h
  exact body_inj a b x y h

/-- a name ends at the first sign that no name has -/
theorem name_inj {P : UInt8 → Prop} : ∀ (a b x y : L8) (c d : UInt8), (∀ u ∈ a, P u) → (∀ u ∈ b, P u) → ¬ P c → ¬ P d → a ++ c :: x = b ++ d :: y → a = b ∧ c = d ∧ x = y
  | [], [], x, y, c, d, _, _, _, _, h => by simp at h; exact ⟨rfl, h⟩
  | [], e :: b, x, y, c, d, _, hb, hc, _, h => by
    simp at h
    exact absurd (h.1 ▸ hb e (by simp)) hc
  | e :: a, [], x, y, c, d, ha, _, _, hd, h => by
    simp at h
    exact absurd (h.1 ▸ ha e (by simp)) hd
  | e :: a, f :: b, x, y, c, d, ha, hb, hc, hd, h => by
    simp only [List.cons_append, List.cons.injEq] at h
    obtain ⟨h1, h2⟩ := name_inj a b x y c d (fun u hu => ha u (by simp [hu])) (fun u hu => hb u (by simp [hu])) hc hd h.2
    exact ⟨by rw [h.1, h1], h2⟩

/-- joined by commas -/
def jn : List L8 → L8
  | [] => []
  | [a] => a
  | a :: b :: r => a ++ 44 :: jn (b :: r)
def NameS (a : L8) : Prop := a ≠ [] ∧ ∀ u ∈ a, u ≠ 44 ∧ u ≠ 61 ∧ u ≠ 125
theorem names_inj : ∀ (A B : List L8) (x y : L8), (∀ a ∈ A, NameS a) → (∀ b ∈ B, NameS b) → jn A ++ 125 :: x = jn B ++ 125 :: y → A = B ∧ x = y
  | [], [], x, y, _, _, h => by simpa [jn] using h
  | [], b :: B, x, y, _, hB, h => by
    exfalso
    obtain ⟨h0, h1⟩ := hB b (by simp)
    cases b with
    | nil => exact h0 rfl
    | cons u b =>
      have h2 := (h1 u (by simp)).2.2
      cases B <;> simp [jn] at h <;> exact h2 h.1.symm
  | a :: A, [], x, y, hA, _, h => by
    exfalso
    obtain ⟨h0, h1⟩ := hA a (by simp)
    cases a with
    | nil => exact h0 rfl
    | cons u a =>
      have h2 := (h1 u (by simp)).2.2
      cases A <;> simp [jn] at h <;> exact h2 h.1
  | [a], [b], x, y, hA, hB, h => by
    obtain ⟨h1, _, h2⟩ := name_inj (P := fun u => u ≠ 44 ∧ u ≠ 61 ∧ u ≠ 125) a b x y 125 125 (hA a (by simp)).2 (hB b (by simp)).2 (by simp) (by simp) h
    exact ⟨by rw [h1], h2⟩
  | [a], b :: b2 :: B, x, y, hA, hB, h => by
    exfalso
    simp only [jn, List.append_assoc, List.cons_append] at h
    obtain ⟨_, h2, _⟩ := name_inj (P := fun u => u ≠ 44 ∧ u ≠ 61 ∧ u ≠ 125) a b _ _ 125 44 (hA a (by simp)).2 (hB b (by simp)).2 (by simp) (by simp) h
    exact absurd h2 (by decide)
  | a :: a2 :: A, [b], x, y, hA, hB, h => by
    exfalso
    simp only [jn, List.append_assoc, List.cons_append] at h
    obtain ⟨_, h2, _⟩ := name_inj (P := fun u => u ≠ 44 ∧ u ≠ 61 ∧ u ≠ 125) a b _ _ 44 125 (hA a (by simp)).2 (hB b (by simp)).2 (by simp) (by simp) h
    exact absurd h2 (by decide)
  | a :: a2 :: A, b :: b2 :: B, x, y, hA, hB, h => by
    simp only [jn, List.append_assoc, List.cons_append] at h
    obtain ⟨h1, _, h2⟩ := name_inj (P := fun u => u ≠ 44 ∧ u ≠ 61 ∧ u ≠ 125) a b _ _ 44 44 (hA a (by simp)).2 (hB b (by simp)).2 (by simp) (by simp) h
    obtain ⟨h3, h4⟩ := names_inj (a2 :: A) (b2 :: B) x y (fun c hc => hA c (by simp [hc])) (fun c hc => hB c (by simp [hc])) h2
    exact ⟨by rw [h1, h3], h4⟩
def pt (p : L8 × L8) : L8 := p.1 ++ 61 :: qz p.2
theorem pairs_inj : ∀ (A B : List (L8 × L8)) (x y : L8), (∀ a ∈ A, NameS a.1) → (∀ b ∈ B, NameS b.1) → jn (A.map pt) ++ 125 :: x = jn (B.map pt) ++ 125 :: y → A = B ∧ x = y
  | [], [], x, y, _, _, h => by simpa [jn] using h
  | [], b :: B, x, y, _, hB, h => by
    exfalso
    obtain ⟨h0, h1⟩ := hB b (by simp)
    obtain ⟨n, v⟩ := b
    cases n with
    | nil => exact h0 rfl
    | cons u b =>
      have h2 := (h1 u (by simp)).2.2
      cases B <;> simp [jn, pt] at h <;> exact h2 h.1.symm
  | a :: A, [], x, y, hA, _, h => by
    exfalso
    obtain ⟨h0, h1⟩ := hA a (by simp)
    obtain ⟨n, v⟩ := a
    cases n with
    | nil => exact h0 rfl
    | cons u a =>
      have h2 := (h1 u (by simp)).2.2
      cases A <;> simp [jn, pt] at h <;> exact h2 h.1
  | [a], [b], x, y, hA, hB, h => by
    simp only [List.map_cons, List.map_nil, jn, pt, List.append_assoc, List.cons_append] at h
    obtain ⟨h1, _, h2⟩ := name_inj (P := fun u => u ≠ 44 ∧ u ≠ 61 ∧ u ≠ 125) a.1 b.1 _ _ 61 61 (hA a (by simp)).2 (hB b (by simp)).2 (by simp) (by simp) h
    obtain ⟨h3, h4⟩ := qz_inj h2
    exact ⟨by rw [Prod.ext h1 h3], by simpa using h4⟩
  | [a], b :: b2 :: B, x, y, hA, hB, h => by
    exfalso
    simp only [List.map_cons, List.map_nil, jn, pt, List.append_assoc, List.cons_append] at h
    obtain ⟨h1, _, h2⟩ := name_inj (P := fun u => u ≠ 44 ∧ u ≠ 61 ∧ u ≠ 125) a.1 b.1 _ _ 61 61 (hA a (by simp)).2 (hB b (by simp)).2 (by simp) (by simp) h
    obtain ⟨_, h4⟩ := qz_inj h2
    simp at h4
  | a :: a2 :: A, [b], x, y, hA, hB, h => by
    exfalso
    simp only [List.map_cons, List.map_nil, jn, pt, List.append_assoc, List.cons_append] at h
    obtain ⟨h1, _, h2⟩ := name_inj (P := fun u => u ≠ 44 ∧ u ≠ 61 ∧ u ≠ 125) a.1 b.1 _ _ 61 61 (hA a (by simp)).2 (hB b (by simp)).2 (by simp) (by simp) h
    obtain ⟨_, h4⟩ := qz_inj h2
    simp at h4
  | a :: a2 :: A, b :: b2 :: B, x, y, hA, hB, h => by
    simp only [List.map_cons, jn, pt, List.append_assoc, List.cons_append] at h
    obtain ⟨h1, _, h2⟩ := name_inj (P := fun u => u ≠ 44 ∧ u ≠ 61 ∧ u ≠ 125) a.1 b.1 _ _ 61 61 (hA a (by simp)).2 (hB b (by simp)).2 (by simp) (by simp) h
    obtain ⟨h3, h4⟩ := qz_inj h2
    simp only [List.cons.injEq, true_and] at h4
    obtain ⟨h5, h6⟩ := pairs_inj (a2 :: A) (b2 :: B) x y (fun c hc => hA c (by simp [hc])) (fun c hc => hB c (by simp [hc])) (by simpa [jn, pt] using h4)
    exact ⟨by rw [Prod.ext h1 h3, h5], h6⟩

/-- the whole text -/
def text (nm hp : L8) (F : List (L8 × L8)) (V : List L8) : L8 :=
  [68, 101, 115, 99, 123, 102, 113, 78, 97, 109, 101, 58, 32] ++ (qz nm ++ ([44, 32, 104, 101, 108, 112, 58, 32] ++ (qz hp ++ ([44, 32, 117, 110, 105, 116, 58, 32] ++ (qz [] ++ ([44, 32, 99, 111, 110, 115, 116, 76, 97, 98, 101, 108, 115, 58, 32, 123] ++ (jn (F.map pt) ++ ([125, 44, 32, 118, 97, 114, 105, 97, 98, 108, 101, 76, 97, 98, 101, 108, 115, 58, 32, 123] ++ (jn V ++ [125, 125])))))))))
theorem text_inj {nm hp nm2 hp2 : L8} {F F2 : List (L8 × L8)} {V V2 : List L8} (hF : ∀ p ∈ F, NameS p.1) (hF2 : ∀ p ∈ F2, NameS p.1) (hV : ∀ v ∈ V, NameS v) (hV2 : ∀ v ∈ V2, NameS v) (h : text nm hp F V = text nm2 hp2 F2 V2) : nm = nm2 ∧ hp = hp2 ∧ F = F2 ∧ V = V2 := by
  unfold text at h
  have h := List.append_cancel_left h
  obtain ⟨h1, h⟩ := qz_inj h
  have h := List.append_cancel_left h
  obtain ⟨h2, h⟩ := qz_inj h
  have h := List.append_cancel_left (List.append_cancel_left (List.append_cancel_left h))
  simp only [List.cons_append, List.nil_append] at h
  obtain ⟨h3, h⟩ := pairs_inj F F2 _ _ hF hF2 h
  simp only [List.cons.injEq, true_and] at h
  obtain ⟨h4, _⟩ := names_inj V V2 [125] [125] hV hV2 h
  exact ⟨h1, h2, h3, h4⟩
end Go.Proofs.YtfcpapbokefdmaaGreatDoor.Tx
