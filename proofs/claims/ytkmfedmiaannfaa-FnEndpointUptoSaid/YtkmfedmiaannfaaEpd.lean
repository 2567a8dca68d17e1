/- Endpoints: the plain law: the path of the base and of the endpoint, the arguments in place of their names. -/
import Derived.Test.YtkmfedmiaannfaaEpa
import Derived.Lib.CleanSame
import Derived.Lib.JoinSame2
set_option linter.unusedVariables false
set_option linter.unusedSimpArgs false
namespace Go.Proofs.Ytkmfedmiaannfaa.Ep
open Fp

/-- the value of a name in a list of pairs: the first one's -/
def lk (A : List P2) (s : ByteArray) : Option ByteArray := match A with
  | [] => none
  | p :: r => if eqS p.1 s then some p.2 else lk r s
/-- the value of a name: the last one's -/
def lastv (L : List P2) (s : ByteArray) : Option ByteArray := L.foldl (fun o p => if eqS p.1 s then some p.2 else o) none
theorem lastv_snoc (L : List P2) (p : P2) (s : ByteArray) : lastv (L ++ [p]) s = if eqS p.1 s then some p.2 else lastv L s := by
  unfold lastv; rw [List.foldl_append]; rfl
theorem bytesLess_irr : ∀ l : List UInt8, Op.bytesLess l l = false
  | [] => by simp [Op.bytesLess]
  | c :: r => by simp [Op.bytesLess, bytesLess_irr r]
theorem bl_irr (x : ByteArray) : bl x x = false := bytesLess_irr _
theorem eqS_false {x y : ByteArray} : eqS x y = false ↔ x ≠ y := by
  rw [← Bool.not_eq_true, eqS_iff]
theorem lk_ins (p : P2) (s : ByteArray) : ∀ L : List P2, lk (ins p L) s = if eqS p.1 s then some p.2 else lk L s
  | [] => rfl
  | q :: r => by
    have ih := lk_ins p s r
    unfold ins
    split
    · rename_i h1
      have hne : q.1 ≠ p.1 := by
        intro e
        rw [e, bl_irr] at h1
        cases h1
      unfold lk
      rw [ih]
      by_cases e1 : eqS q.1 s = true
      · rw [if_pos e1, if_pos e1]
        have : eqS p.1 s = false := by
          rw [eqS_false]
          intro e
          have := (eqS_iff _ _).1 e1
          exact hne (by rw [this, e])
        rw [this, if_neg (by simp)]
      · rw [if_neg e1, if_neg e1]
    · rename_i h1
      split
      · rename_i h2
        have e := (eqS_iff _ _).1 h2
        unfold lk
        simp only [e]
        split
        · rfl
        · rfl
      · rename_i h2
        rfl
theorem lk_fit (s : ByteArray) : ∀ (k : Nat) (L : List P2), L.length = k → lk (fit L) s = lastv L s := by
  intro k
  induction k with
  | zero => intro L h; rw [List.length_eq_zero_iff.1 h]; rfl
  | succ k ih =>
    intro L h
    have hne : L ≠ [] := by intro e; rw [e] at h; simp at h
    obtain ⟨D, p, rfl⟩ : ∃ D p, L = D ++ [p] := ⟨L.dropLast, L.getLast hne, (List.dropLast_concat_getLast hne).symm⟩
    rw [fit_snoc, lk_ins, lastv_snoc, ih D (by simp at h; exact h)]

/-- what stands in place of a segment -/
def seg (A : List P2) (s : ByteArray) : Option ByteArray := match s.data.toList with
  | c :: d :: r => if c = 58 then lk A (mk (d :: r)) else some s
  | _ => some s
def word (s : ByteArray) : Bool := wordB s.data.toList
def Segs (A : List P2) : List ByteArray → List ByteArray → Prop
  | [], [] => True
  | s :: ss, r :: rs => seg A s = some r ∧ word r = true ∧ Segs A ss rs
  | _, _ => False
/-- what the specification says -/
def Said (base ep : List ByteArray) (A : List P2) (t : ByteArray) : Prop :=
  (∀ p ∈ A, word p.1 = true) ∧ (∀ s ∈ base, word s = true) ∧ ∃ rs, Segs A ep rs ∧ t = mk (J (base ++ rs)) ∧ base ++ rs ≠ []
theorem Segs.len {A : List P2} : ∀ {ss rs : List ByteArray}, Segs A ss rs → ss.length = rs.length
  | [], [], _ => rfl
  | s :: ss, r :: rs, h => by rw [List.length_cons, List.length_cons, Segs.len h.2.2]
  | [], _ :: _, h => h.elim
  | _ :: _, [], h => h.elim

/-- a segment that path.Clean lets be -/
def Plain (l : List UInt8) : Prop := l ≠ [] ∧ l ≠ [46] ∧ l ≠ [46, 46] ∧ 47 ∉ l
theorem word_plain {s : ByteArray} (h : word s = true) : Plain s.data.toList := by
  obtain ⟨h1, h2⟩ := (wordB_iff _).1 h
  have hb : ∀ c ∈ s.data.toList, c ≠ 46 ∧ c ≠ 47 := fun c hc => by
    have := h2 c hc
    constructor <;> (rintro rfl; revert this; decide)
  refine ⟨h1, ?_, ?_, fun h => (hb 47 h).2 rfl⟩
  · intro e; rw [e] at hb; exact (hb 46 (by simp)).1 rfl
  · intro e; rw [e] at hb; exact (hb 46 (by simp)).1 rfl
theorem lk_mem {A : List P2} {s v : ByteArray} (h : lk A s = some v) : ∃ p ∈ A, p.1 = s := by
  induction A with
  | nil => cases h
  | cons p r ih =>
    unfold lk at h
    split at h
    · rename_i e; exact ⟨p, by simp, (eqS_iff _ _).1 e⟩
    · obtain ⟨q, hq, e⟩ := ih h; exact ⟨q, by simp [hq], e⟩
theorem seg_plain {A : List P2} {s r : ByteArray} (hA : ∀ p ∈ A, word p.1 = true) (h : seg A s = some r) (hr : word r = true) : Plain s.data.toList := by
  unfold seg at h
  split at h
  · rename_i c d t e
    split at h
    · rename_i hc
      obtain ⟨p, hp, hpe⟩ := lk_mem h
      have hw := word_plain (hA p hp)
      rw [hpe, data_mk] at hw
      rw [e, hc]
      refine ⟨by simp, by simp, by intro e2; injection e2 with e3 _; exact absurd e3 (by decide), ?_⟩
      intro hm
      rcases List.mem_cons.1 hm with h1 | h1
      · exact absurd h1 (by decide)
      · exact hw.2.2.2 h1
    · injection h with h
      rw [h, ← h] at *
      rw [← h] at hr
      exact word_plain hr
  · injection h with h
    rw [← h] at hr
    exact word_plain hr
theorem segs_plain {A : List P2} (hA : ∀ p ∈ A, word p.1 = true) : ∀ {ss rs : List ByteArray}, Segs A ss rs → ∀ s ∈ ss, Plain s.data.toList
  | [], [], _, s, hs => absurd hs (by simp)
  | s :: ss, r :: rs, h, x, hx => by
    rcases List.mem_cons.1 hx with rfl | hx
    · exact seg_plain hA h.1 h.2.1
    · exact segs_plain hA h.2.2 x hx
  | [], _ :: _, h, _, _ => h.elim
  | _ :: _, [], h, _, _ => h.elim

/-! the elements of a joined path -/
theorem els_cons (c : UInt8) (l : List UInt8) (h : c ≠ 47) : ∃ e r, Lib.Pa.els l = e :: r ∧ Lib.Pa.els (c :: l) = (c :: e) :: r := by
  cases h2 : Lib.Pa.els l with
  | nil =>
    exfalso
    cases l with
    | nil => simp [Lib.Pa.els] at h2
    | cons a b =>
      unfold Lib.Pa.els at h2
      split at h2
      · simp at h2
      · split at h2 <;> simp at h2
  | cons e r => exact ⟨e, r, rfl, by rw [Lib.Pa.els, if_neg h, h2]⟩
theorem els_one : ∀ (z l : List UInt8), 47 ∉ z → Lib.Pa.els (z ++ 47 :: l) = z :: Lib.Pa.els l
  | [], l, _ => by show Lib.Pa.els (47 :: l) = _; rw [Lib.Pa.els, if_pos rfl]
  | c :: z, l, h => by
    have hc : c ≠ 47 := fun e => h (by rw [e]; simp)
    have ih := els_one z l (fun hm => h (by simp [hm]))
    rw [List.cons_append, Lib.Pa.els, if_neg hc, ih]
theorem els_last : ∀ (z : List UInt8), 47 ∉ z → Lib.Pa.els z = [z]
  | [], _ => rfl
  | c :: z, h => by
    have hc : c ≠ 47 := fun e => h (by rw [e]; simp)
    rw [Lib.Pa.els, if_neg hc, els_last z (fun hm => h (by simp [hm]))]
/-- behind the first slash -/
theorem els_J : ∀ (zs : List ByteArray), zs ≠ [] → (∀ z ∈ zs, 47 ∉ z.data.toList) → Lib.Pa.els (J zs) = [] :: zs.map (·.data.toList)
  | [], h, _ => absurd rfl h
  | [z], _, h => by
    have e : J [z] = 47 :: z.data.toList := by unfold J; simp
    rw [e, Lib.Pa.els, if_pos rfl, els_last _ (h z (by simp))]
    rfl
  | z :: y :: r, _, h => by
    have ih := els_J (y :: r) (by simp) (fun x hx => h x (by simp [hx]))
    have e : J (z :: y :: r) = 47 :: (z.data.toList ++ J (y :: r)) := by unfold J; simp
    have e2 : J (y :: r) = 47 :: (y.data.toList ++ J r) := by unfold J; simp
    rw [e, Lib.Pa.els, if_pos rfl]
    congr 1
    rw [e2] at ih ⊢
    rw [els_one _ _ (h z (by simp))]
    rw [Lib.Pa.els, if_pos rfl] at ih
    injection ih with _ ih
    rw [ih]
    rfl
theorem fold_plain (ro : Bool) : ∀ (es st : List (List UInt8)), (∀ e ∈ es, Plain e) → es.foldl (Lib.Pa.cleanStep ro) st = es.reverse ++ st
  | [], st, _ => rfl
  | e :: es, st, h => by
    have h1 := h e (by simp)
    rw [List.foldl_cons]
    have : Lib.Pa.cleanStep ro st e = e :: st := by
      unfold Lib.Pa.cleanStep
      rw [if_neg (by rintro (e1 | e1); exact h1.1 e1; exact h1.2.1 e1), if_neg h1.2.2.1]
    rw [this, fold_plain ro es _ (fun x hx => h x (by simp [hx]))]
    simp
theorem inter_J : ∀ (zs : List ByteArray), zs ≠ [] → 47 :: ([47] : List UInt8).intercalate (zs.map (·.data.toList)) = J zs
  | [], h => absurd rfl h
  | [z], _ => by unfold J; simp [List.intercalate]
  | z :: y :: r, _ => by
    have ih := inter_J (y :: r) (by simp)
    have e : J (z :: y :: r) = 47 :: (z.data.toList ++ J (y :: r)) := by unfold J; simp
    rw [e, ← ih]
    simp [List.intercalate]
theorem J_ne {zs : List ByteArray} (h : zs ≠ []) : J zs ≠ [] ∧ (J zs).head? = some 47 := by
  cases zs with
  | nil => exact absurd rfl h
  | cons z r => unfold J; simp
theorem J_app (a b : List ByteArray) : J (a ++ b) = J a ++ J b := by unfold J; simp
/-- clean of a path whose elements, but empty ones, are plain -/
theorem clean_of {l : List UInt8} {zs : List ByteArray} (hz : zs ≠ []) (hp : ∀ z ∈ zs, Plain z.data.toList) (hl : l.head? = some 47) (he : (Lib.Pa.els l).foldl (Lib.Pa.cleanStep true) [] = (zs.map (·.data.toList)).reverse) : Lib.Pa.clean l = J zs := by
  have hne : l ≠ [] := by intro e; rw [e] at hl; cases hl
  rw [Lib.Pa.clean_eq_cleanEls, Lib.Pa.cleanEls_abs l hne (by rw [hl]; rfl), he, List.reverse_reverse]
  exact inter_J zs hz
theorem join_paths (base ep : List ByteArray) (hne : base ++ ep ≠ []) (hp : ∀ z ∈ base ++ ep, Plain z.data.toList) : Lib.Pa.join [J base, J ep] = J (base ++ ep) := by
  have no47 : ∀ (zs : List ByteArray), (∀ z ∈ zs, Plain z.data.toList) → ∀ z ∈ zs, 47 ∉ z.data.toList := fun zs h z hz => (h z hz).2.2.2
  have one : ∀ (zs : List ByteArray), zs ≠ [] → (∀ z ∈ zs, Plain z.data.toList) → Lib.Pa.clean (J zs) = J zs := fun zs hz h => by
    refine clean_of hz h (J_ne hz).2 ?_
    rw [els_J zs hz (no47 zs h), List.foldl_cons]
    have : Lib.Pa.cleanStep true [] [] = [] := by unfold Lib.Pa.cleanStep; rw [if_pos (Or.inl rfl)]
    rw [this, fold_plain true _ [] (fun e he => by obtain ⟨z, hz, rfl⟩ := List.mem_map.1 he; exact h z hz), List.append_nil]
  cases base with
  | nil =>
    have hep : ep ≠ [] := hne
    have e : J ([] : List ByteArray) = [] := rfl
    unfold Lib.Pa.join
    rw [e]
    have hf : [([] : List UInt8), J ep].filter (· ≠ []) = [J ep] := by simp [(J_ne hep).1]
    rw [hf, if_neg (by simp)]
    have : ([47] : List UInt8).intercalate [J ep] = J ep := by simp [List.intercalate]
    rw [this]
    exact one ep hep hp
  | cons b bs =>
    have hb : b :: bs ≠ [] := by simp
    cases ep with
    | nil =>
      have e : J ([] : List ByteArray) = [] := rfl
      unfold Lib.Pa.join
      rw [e]
      have hf : [J (b :: bs), ([] : List UInt8)].filter (· ≠ []) = [J (b :: bs)] := by simp [(J_ne hb).1]
      rw [hf, if_neg (by simp), List.append_nil]
      have : ([47] : List UInt8).intercalate [J (b :: bs)] = J (b :: bs) := by simp [List.intercalate]
      rw [this]
      exact one _ hb (fun z hz => hp z (by simpa using hz))
    | cons c cs =>
      have hc : c :: cs ≠ [] := by simp
      unfold Lib.Pa.join
      have hf : [J (b :: bs), J (c :: cs)].filter (· ≠ []) = [J (b :: bs), J (c :: cs)] := by simp [(J_ne hb).1, (J_ne hc).1]
      rw [hf, if_neg (by simp)]
      have hi : ([47] : List UInt8).intercalate [J (b :: bs), J (c :: cs)] = J (b :: bs) ++ 47 :: J (c :: cs) := by simp [List.intercalate]
      rw [hi]
      refine clean_of hne hp (by have := (J_ne hb).2; cases h : J (b :: bs) with | nil => rw [h] at this; cases this | cons x y => rw [h] at this; exact this) ?_
      have hels : Lib.Pa.els (J (b :: bs) ++ 47 :: J (c :: cs)) = Lib.Pa.els (J (b :: bs)) ++ Lib.Pa.els (J (c :: cs)) := by
        have gen : ∀ (zs : List ByteArray) (l : List UInt8), zs ≠ [] → (∀ z ∈ zs, 47 ∉ z.data.toList) → Lib.Pa.els (J zs ++ 47 :: l) = Lib.Pa.els (J zs) ++ Lib.Pa.els l := by
          intro zs
          induction zs with
          | nil => intro l h; exact absurd rfl h
          | cons z r ih =>
            intro l _ hz
            have e : J (z :: r) = 47 :: (z.data.toList ++ J r) := by unfold J; simp
            rw [e, List.cons_append, Lib.Pa.els, if_pos rfl, List.append_assoc]
            rw [show Lib.Pa.els (47 :: (z.data.toList ++ J r)) = [] :: Lib.Pa.els (z.data.toList ++ J r) by rw [Lib.Pa.els, if_pos rfl]]
            rw [List.cons_append]
            congr 1
            cases r with
            | nil =>
              have e0 : J ([] : List ByteArray) = [] := rfl
              rw [e0, List.nil_append, List.append_nil, els_one _ _ (hz z (by simp)), els_last _ (hz z (by simp))]
              rfl
            | cons y r =>
              have ih2 := ih l (by simp) (fun x hx => hz x (by simp [hx]))
              have e2 : J (y :: r) = 47 :: (y.data.toList ++ J r) := by unfold J; simp
              rw [e2] at ih2 ⊢
              rw [List.cons_append, els_one _ _ (hz z (by simp)), els_one _ _ (hz z (by simp))]
              rw [List.cons_append, Lib.Pa.els, if_pos rfl, Lib.Pa.els, if_pos rfl, List.cons_append] at ih2
              injection ih2 with _ ih2
              rw [ih2, List.cons_append]
        exact gen _ _ hb (fun z hz => (hp z (List.mem_append.2 (Or.inl hz))).2.2.2)
      have hpb : ∀ z ∈ b :: bs, Plain z.data.toList := fun z hz => hp z (List.mem_append.2 (Or.inl hz))
      have hpc : ∀ z ∈ c :: cs, Plain z.data.toList := fun z hz => hp z (List.mem_append.2 (Or.inr hz))
      have hs : ∀ st, Lib.Pa.cleanStep true st [] = st := fun st => by unfold Lib.Pa.cleanStep; rw [if_pos (Or.inl rfl)]
      have hfb : List.foldl (Lib.Pa.cleanStep true) [] ([] :: (b :: bs).map (fun z : ByteArray => z.data.toList)) = ((b :: bs).map (fun z : ByteArray => z.data.toList)).reverse := by
        rw [List.foldl_cons, hs, fold_plain true ((b :: bs).map (fun z : ByteArray => z.data.toList)) [] (fun e he => by obtain ⟨z, hz, rfl⟩ := List.mem_map.1 he; exact hpb z hz), List.append_nil]
      rw [hels, els_J _ hb (no47 _ hpb), els_J _ hc (no47 _ hpc), List.foldl_append, hfb, List.foldl_cons, hs, fold_plain true ((c :: cs).map (fun z : ByteArray => z.data.toList)) _ (fun e he => by obtain ⟨z, hz, rfl⟩ := List.mem_map.1 he; exact hpc z hz)]
      simp

/-- what URL makes of a component -/
def put (args : List P2) (c : List UInt8) : List UInt8 := match c with
  | 58 :: t => (match lastv args (mk t) with | some v => v.data.toList | none => c)
  | _ => c
theorem put_word {args : List P2} {s : ByteArray} (h : word s = true) : put args s.data.toList = s.data.toList := by
  obtain ⟨h1, h2⟩ := (wordB_iff _).1 h
  unfold put
  split
  · rename_i t e
    have := h2 58 (by rw [e]; simp)
    exact absurd this (by decide)
  · rfl
theorem put_seg {args : List P2} {s r : ByteArray} (h : seg (fit args) s = some r) (hr : word r = true) : put args s.data.toList = r.data.toList := by
  unfold seg at h
  split at h
  · rename_i c d t e
    split at h
    · rename_i hc
      subst hc
      rw [lk_fit _ _ _ rfl] at h
      rw [e]
      show (match lastv args (mk (d :: t)) with | some v => v.data.toList | none => _) = _
      rw [h]
    · injection h with h
      subst h
      exact put_word hr
  · injection h with h
    subst h
    exact put_word hr
theorem put_segs {args : List P2} : ∀ {ss rs : List ByteArray}, Segs (fit args) ss rs → ss.map (fun s => put args s.data.toList) = rs.map (·.data.toList)
  | [], [], _ => rfl
  | s :: ss, r :: rs, h => by
    rw [List.map_cons, List.map_cons, put_seg h.1 h.2.1, put_segs h.2.2]
  | [], _ :: _, h => h.elim
  | _ :: _, [], h => h.elim
/-- WHAT URL ANSWERS -/
theorem url_law {base ep : List ByteArray} {args : List P2} {t : ByteArray} (h : Said base ep (fit args) t) :
    ([47] : List UInt8).intercalate ((Lib.Pa.els (Lib.Pa.join [J base, J ep])).map (put args)) = t.data.toList := by
  obtain ⟨hA, hb, rs, hs, rfl, hne⟩ := h
  have hl := hs.len
  have hne2 : base ++ ep ≠ [] := by
    intro e
    obtain ⟨e1, e2⟩ := List.append_eq_nil_iff.1 e
    subst e1 e2
    have : rs = [] := List.length_eq_zero_iff.1 (by simpa using hl.symm)
    subst this
    exact hne rfl
  have hp : ∀ z ∈ base ++ ep, Plain z.data.toList := fun z hz => by
    rcases List.mem_append.1 hz with h | h
    · exact word_plain (hb z h)
    · exact segs_plain hA hs z h
  rw [join_paths base ep hne2 hp, els_J _ hne2 (fun z hz => (hp z hz).2.2.2), List.map_cons, List.map_map, List.map_append]
  have e1 : base.map (put args ∘ fun x => x.data.toList) = base.map (·.data.toList) := List.map_congr_left (fun s hs => put_word (hb s hs))
  have e2 : ep.map (put args ∘ fun x => x.data.toList) = rs.map (·.data.toList) := put_segs hs
  rw [e1, e2, ← List.map_append, data_mk, ← inter_J _ hne]
  have hput : put args [] = [] := rfl
  rw [hput]
  cases hm : (base ++ rs).map (·.data.toList) with
  | nil => exact absurd (List.map_eq_nil_iff.1 hm) hne
  | cons x y => simp [List.intercalate]

end Go.Proofs.Ytkmfedmiaannfaa.Ep
