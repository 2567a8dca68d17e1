/- Differences of two lists: where each text stands in the second list, as a map of slices reads it; small words on memory. -/
import Derived.Test.YtkmfedmiaannfaaDoorDfp
import Derived.Test.YtkmfedmiaannfaaDoorSs
import Derived.Maps.OwnRows
import Derived.Maps.OwnSet
import Derived.Maps.RangeWalk
import Derived.Maps.Ext
import Derived.Lib.Hide
import Derived.WalkSpells
import Derived.WalkLawsBesides
import Derived.Outline
set_option linter.unusedVariables false
set_option linter.unusedSimpArgs false
namespace Go.Proofs.YtkmfedmiaannfaaDoor.Df
open Go.RowKit Go.Maps Go.WideMaps Go.ChangeShapes

/-- a block that is known whole -/
def Whole (w : World) (g : Nat) (T : TypeId) (cells : Array Value) : Prop := w.heap[g]? = some (.cells cells T (0, 0))
section
variable {w w' : World} {g : Nat} {T : TypeId} {cells : Array Value}
theorem Whole.lt (h : Whole w g T cells) : g < w.heap.size := (Array.getElem?_eq_some_iff.1 h).1
theorem Whole.cell (h : Whole w g T cells) (i : Nat) : w.cell? ⟨g, i, none⟩ = cells[i]? := by
  unfold World.cell?
  simp only []
  rw [show w.heap[g]? = _ from h]
  rfl
theorem Whole.free (h : Whole w g T cells) (i : Nat) : w.frozen? ⟨g, i, none⟩ = false := by
  unfold World.frozen?
  simp only []
  rw [show w.heap[g]? = _ from h]
  simp
theorem Whole.made (w : World) (T : TypeId) (cells : Array Value) : Whole (w.alloc (.cells cells T)) w.heap.size T cells := heap_alloc_new w _
theorem Whole.alloc (h : Whole w g T cells) (o : Obj) : Whole (w.alloc o) g T cells := (Below.heap_alloc w o g h.lt).trans h
theorem Whole.put (h : Whole w g T cells) (i : Nat) (u : Value) : Whole (w.setCell ⟨g, i, none⟩ u) g T (cells.setIfInBounds i u) := by
  unfold Whole at h ⊢
  simp [World.setCell, Array.getElem?_modify, h]
theorem Whole.far (h : Whole w g T cells) {p : Addr} (hp : g ≠ p.block) (u : Value) : Whole (w.setCell p u) g T cells := (Below.heap_setCell w p u g hp).trans h
theorem Whole.grown {r : Option Nat} (h : Whole w g T cells) (hb : w.grownBy w' r) (hg : some g ≠ r) : Whole w' g T cells := (hb.block g h.lt hg).trans h
theorem Whole.below {B : Nat} (h : Whole w g T cells) (hb : Below B w w') (hg : g < B) : Whole w' g T cells := (hb.block g hg).trans h
end
/-- nothing old has turned but block g -/
theorem only_refl (w : World) (r : Option Nat) : w.grownBy w r := World.grownBy.refl w r
theorem only_below {a w : World} (h : Below a.heap.size a w) (r : Option Nat) : a.grownBy w r := ⟨h.os, h.tape, h.output, h.size, fun i hi _ => h.block i hi⟩
theorem only_then {a w w' : World} {r : Option Nat} (h : a.grownBy w r) (hb : Below w.heap.size w w') : a.grownBy w' r :=
  ⟨hb.os.trans h.os, hb.tape.trans h.tape, hb.output.trans h.output, Nat.le_trans h.size hb.size, fun i hi hne => (hb.block i (Nat.lt_of_lt_of_le hi h.size)).trans (h.block i hi hne)⟩
theorem only_put {a w : World} {g : Nat} (h : a.grownBy w (some g)) (i : Nat) (u : Value) : a.grownBy (w.setCell ⟨g, i, none⟩ u) (some g) :=
  ⟨h.os, h.tape, h.output, by simpa [World.setCell] using h.size, fun j hj hne => (Below.heap_setCell w ⟨g, i, none⟩ u j (by
    rintro rfl
    exact hne rfl)).trans (h.block j hj hne)⟩
theorem only_alloc {a w : World} {r : Option Nat} (h : a.grownBy w r) (o : Obj) : a.grownBy (w.alloc o) r :=
  only_then h ((Below.refl _ _).alloc (Nat.le_refl _) o)
theorem only_drew {a w : World} {r : Option Nat} (h : a.grownBy w r) : a.grownBy w.drew r := ⟨h.os, h.tape, h.output, h.size, h.block⟩
theorem below_only {B g : Nat} {a w w' : World} (h : Below B a w) (hB : B ≤ w.heap.size) (k : w.grownBy w' (some g)) (hg : B ≤ g) : Below B a w' :=
  h.grown k hB (fun j hj => by cases hj; exact hg)

/-- a slice of one-cell elements, in blocks behind g -/
def Behind {α : Type} (g : Nat) (c : α → Value) (w : World) (v : Value) (zs : List α) : Prop := Sl.Of c w v zs ∧ ∀ b off n cap, v = .slice (some ⟨b, off, none⟩) n cap → 0 < n → g < b
theorem Behind.only {α : Type} {g : Nat} {c : α → Value} {w w' : World} {v : Value} {zs : List α} (h : Behind g c w v zs) (k : w.grownBy w' (some g)) : Behind g c w' v zs := by
  refine ⟨?_, h.2⟩
  rcases h.1 with h1 | ⟨b, off, cap, h1, h2, h3, h4, h5, h6⟩
  · exact Or.inl h1
  · refine Or.inr ⟨b, off, cap, h1, h2, h3, h4, Nat.lt_of_lt_of_le h5 k.size, fun i hi => ?_⟩
    have hb : g < b := h.2 b off _ cap h1 h2
    rw [World.cell?_of_block (w := w) (k.block b h5 (fun e => by cases e; omega))]
    exact h6 i hi
/-- a slice of one-cell elements, in blocks ahead of g -/
theorem Of_only {α : Type} {g : Nat} {c : α → Value} {w w' : World} {v : Value} {zs : List α} (h : Sl.Of c w v zs) (hb : ∀ b off n cap, v = .slice (some ⟨b, off, none⟩) n cap → 0 < n → b ≠ g) (k : w.grownBy w' (some g)) : Sl.Of c w' v zs := by
  rcases h with h1 | ⟨b, off, cap, h1, h2, h3, h4, h5, h6⟩
  · exact Or.inl h1
  · refine Or.inr ⟨b, off, cap, h1, h2, h3, h4, Nat.lt_of_lt_of_le h5 k.size, fun i hi => ?_⟩
    rw [World.cell?_of_block (w := w) (k.block b h5 (fun e => by injection e with e; exact hb b off _ cap h1 h2 e))]
    exact h6 i hi

def sl (s : ByteArray) : Lit := .string s.data.toList
def ofNats (l : List Nat) : List Int := l.map Int.ofNat
def ints (l : List Nat) : DataW Unit := .slice (lits .i64 (ofNats l)) []
theorem sl_inj {s t : ByteArray} (h : sl s = sl t) : s = t := by
  unfold sl at h
  injection h with h
  obtain ⟨⟨s⟩⟩ := s
  obtain ⟨⟨t⟩⟩ := t
  simp at h
  rw [h]
theorem lits_inj {q : IntKind} {a b : List Int} (h : lits (H := Unit) q a = lits q b) : a = b := by
  unfold lits at h
  exact (List.map_inj_right (fun x y e => by cases e; rfl)).1 h
theorem ofNats_inj {a b : List Nat} (h : ofNats a = ofNats b) : a = b := (List.map_inj_right (fun x y e => Int.ofNat.inj e)).1 h
def Says (D : DataW Unit) (f : ByteArray → List Nat) : Prop := ∀ s, (D.atKey (sl s) .nil = .nil ∧ f s = []) ∨ D.atKey (sl s) .nil = ints (f s)
def idxk (ys : List ByteArray) (k : Nat) (s : ByteArray) : List Nat := (List.range k).filter fun j => eqS (el ys j) s
theorem idxk_all (ys : List ByteArray) (s : ByteArray) : idxk ys ys.length s = idxs ys s := rfl
theorem idxk_succ (ys : List ByteArray) (k : Nat) (s : ByteArray) : idxk ys (k + 1) s = if el ys k = s then idxk ys k s ++ [k] else idxk ys k s := by
  unfold idxk
  rw [List.range_succ, List.filter_append]
  by_cases h : el ys k = s
  · rw [if_pos h]
    have : eqS (el ys k) s = true := (eqS_iff _ _).2 h
    simp [List.filter_cons, this]
  · rw [if_neg h]
    have : eqS (el ys k) s = false := by
      cases e : eqS (el ys k) s with
      | true => exact absurd ((eqS_iff _ _).1 e) h
      | false => rfl
    simp [List.filter_cons, this]
theorem says_start (f : ByteArray → List Nat) (h : ∀ s, f s = []) : Says (.map []) f := fun s => Or.inl ⟨rfl, h s⟩
theorem key_lit (s : ByteArray) : WideAt.IsKeyLit (sl s) := by unfold sl; trivial
theorem says_row {w : World} {base e : Nat} {v : Value} {zs : List Int} {D : DataW Unit} {f : ByteArray → List Nat} {s : ByteArray} (h : Says D f) (ho : w.ownsInts base e .i64 v zs) (hat : D.atKey (sl s) .nil = rowDatum .i64 v zs) : zs = ofNats (f s) := by
  rcases h s with ⟨h1, h2⟩ | h1 <;> rcases ho.datum (H := Unit) with ⟨g1, g2⟩ | g1
  · rw [g2, h2]; rfl
  · rw [h1, g1] at hat; cases hat
  · rw [h1, g1] at hat; cases hat
  · rw [h1, g1] at hat
    unfold ints at hat
    injection hat with hat
    exact (lits_inj hat).symm
theorem says_put {D : DataW Unit} {ys : List ByteArray} {k : Nat} (h : Says D (idxk ys k)) (hD : IsMap D) : Says (D.put (sl (el ys k)) (ints (idxk ys k (el ys k) ++ [k]))) (idxk ys (k + 1)) := by
  intro s
  rw [idxk_succ]
  by_cases e : el ys k = s
  · subst e
    rw [if_pos rfl, atKey_put_same hD (key_lit _)]
    exact Or.inr rfl
  · rw [if_neg e, atKey_put_other (fun e2 => e (sl_inj e2).symm)]
    exact h s
theorem ofNats_snoc (l : List Nat) (k : Nat) : ofNats l ++ [(k : Int)] = ofNats (l ++ [k]) := by unfold ofNats; simp
theorem groups_isMap {w : World} {P : Program} {k base e : Nat} {q : IntKind} {b n : Nat} {D : DataW Unit} (h : w.ownsGroups P k base e q b n D) : IsMap D := by
  obtain ⟨es, _, _, _, _, hD, _⟩ := h
  exact ⟨_, hD⟩
theorem groups_map {w : World} {P : Program} {k base e : Nat} {q : IntKind} {b n : Nat} {D : DataW Unit} (h : w.ownsGroups P k base e q b n D) : w.ownsMap P k (rowElem w base e q) b n D := by
  obtain ⟨es, c, h1, h2, h3, h4, _⟩ := h
  exact ⟨es, c, h1, h2, h3, h4⟩

theorem says_nil {D : DataW Unit} {f : ByteArray → List Nat} {s : ByteArray} (h : Says D f) (hn : Maps.has D (sl s) = false) : f s = [] := by
  have e := atKey_of_not_has hn (.nil : DataW Unit)
  rcases h s with ⟨_, h2⟩ | h1
  · exact h2
  · rw [h1] at e; cases e
def big (ys : List ByteArray) (s : ByteArray) : Bool := decide (ys.length / 100 + 1 < (idxs ys s).length)
/-- the popular texts that are no longer to come -/
def PopSays (ys : List ByteArray) (Dp : DataW Unit) (left : Lit → Bool) : Prop := ∀ s, Maps.has Dp (sl s) = (big ys s && !left (sl s))
theorem pop_start {ys : List ByteArray} {D : DataW Unit} (h : Says D (idxs ys)) : PopSays ys (.map []) (Maps.has D) := by
  intro s
  cases hh : Maps.has D (sl s) with
  | true => rw [Bool.not_true, Bool.and_false]; rfl
  | false =>
    have e := says_nil h hh
    have : big ys s = false := by unfold big; rw [e]; simp
    rw [this, Bool.false_and]; rfl
theorem lit_self (s : ByteArray) : (sl s).sameKey (sl s) = true := WideAt.sameKey_self (key_lit s)
theorem lit_other {s t : ByteArray} (h : s ≠ t) : (sl s).sameKey (sl t) = false := sameKey_ne (fun e => h (sl_inj e))
theorem pop_put {ys : List ByteArray} {Dp u : DataW Unit} {left : Lit → Bool} {x : ByteArray} (h : PopSays ys Dp left) (hD : IsMap Dp) (hb : big ys x = true) : PopSays ys (Dp.put (sl x) u) (fun z => left z && !z.sameKey (sl x)) := by
  intro s
  by_cases e : s = x
  · subst e
    rw [has_put_same hD (key_lit _), hb]
    simp [lit_self]
  · rw [has_put_other (fun e2 => e (sl_inj e2)), h s]
    simp [lit_other e]
theorem pop_skip {ys : List ByteArray} {Dp : DataW Unit} {left : Lit → Bool} {x : ByteArray} (h : PopSays ys Dp left) (hb : big ys x = false) : PopSays ys Dp (fun z => left z && !z.sameKey (sl x)) := by
  intro s
  by_cases e : s = x
  · subst e
    rw [h s, hb]; simp
  · rw [h s]; simp [lit_other e]
/-- the popular texts that are no longer to come are struck -/
def DelSays (D2 D Dp : DataW Unit) (left : Lit → Bool) : Prop := (∀ s, D2.atKey (sl s) .nil = if Maps.has Dp (sl s) && !left (sl s) then .nil else D.atKey (sl s) .nil) ∧ ∀ kl, left kl = true → Maps.has Dp kl = true
theorem del_start (D Dp : DataW Unit) : DelSays D D Dp (Maps.has Dp) := by
  refine ⟨fun s => ?_, fun kl h => h⟩
  rw [if_neg]
  cases Maps.has Dp (sl s) <;> simp
theorem del_step {D2 D Dp : DataW Unit} {left : Lit → Bool} {x : ByteArray} (h : DelSays D2 D Dp left) (hx : left (sl x) = true) : DelSays (D2.del (sl x)) D Dp (fun z => left z && !z.sameKey (sl x)) := by
  refine ⟨fun s => ?_, fun kl hk => h.2 kl (by simp at hk; exact hk.1)⟩
  by_cases e : s = x
  · subst e
    rw [atKey_del_same, h.2 _ hx]
    simp [lit_self]
  · rw [atKey_del_other (fun e2 => e (sl_inj e2)), h.1 s]
    simp [lit_other e]
theorem says_end {ys : List ByteArray} {D2 D Dp : DataW Unit} {left left2 : Lit → Bool} (h : Says D (idxs ys)) (h200 : 200 ≤ ys.length) (hp : PopSays ys Dp left) (hl : ∀ kl, left kl = false) (hd : DelSays D2 D Dp left2) (hl2 : ∀ kl, left2 kl = false) : Says D2 (b2j ys) := by
  intro s
  have h1 := hd.1 s
  rw [hl2, hp s, hl] at h1
  unfold b2j pop
  rw [show decide (200 ≤ ys.length) = true from decide_eq_true h200]
  cases hb : big ys s with
  | true =>
    rw [hb] at h1
    have : decide (ys.length / 100 + 1 < (idxs ys s).length) = true := hb
    rw [this]
    exact Or.inl ⟨h1, rfl⟩
  | false =>
    rw [hb] at h1
    have : decide (ys.length / 100 + 1 < (idxs ys s).length) = false := hb
    rw [this]
    have h1 : D2.atKey (sl s) .nil = D.atKey (sl s) .nil := h1
    rw [h1]
    exact h s
theorem says_small {ys : List ByteArray} {D : DataW Unit} (h : Says D (idxs ys)) (h200 : ys.length < 200) : Says D (b2j ys) := by
  intro s
  have : pop ys s = false := by unfold pop; rw [decide_eq_false (by omega)]; rfl
  unfold b2j
  rw [this]
  exact h s

/-- two worlds that hold the same map answer a look-up alike -/
theorem look_any {P : Program} {k t e : TypeId} {R : Value → Option (DataW Unit × List MemPlace)} {w : World} {b n : Nat} {D : DataW Unit} (K : Keyed P k) (ht : P.underlying t = some (.map k e)) {z : Value} (hz : ∀ w, (zeroValue e).run P w = .ok z w)
    (h : w.ownsMap P k R b n D) {zd : DataW Unit} {zp : List MemPlace} (hzd : R z = some (zd, zp)) {key : Value} {kl : Lit} (hkey : keyOf P k key = some kl) :
    ∃ v ps, (∀ w' : World, w'.heap[b]? = w.heap[b]? → (Instr.lookup t (.map (some b)) key false).run P w' = .ok v w') ∧ R v = some (D.atKey kl zd, ps) := by
  obtain ⟨es, clock, hb, F, _, rfl⟩ := h
  rcases Maps.fit_look false K ht (hz w) hb F hkey with ⟨_, hno, hat⟩ | ⟨e0, y, hm0, hk0, _, hRv, hat, _⟩
  · refine ⟨z, zp, ?_, by rw [hat zd]; exact hzd⟩
    intro w' hw'
    rcases Maps.fit_look false K ht (hz w') (hw'.trans hb) F hkey with ⟨hrun, _, _⟩ | ⟨e1, y1, hm1, hk1, _⟩
    · exact hrun
    · exact absurd hk1 (hno e1 hm1)
  · refine ⟨e0.val, y.2, ?_, by rw [hat zd]; exact hRv⟩
    intro w' hw'
    rcases Maps.fit_look false K ht (hz w') (hw'.trans hb) F hkey with ⟨_, hno, _⟩ | ⟨e1, y1, hm1, hk1, hrun, _⟩
    · exact absurd hk0 (hno e0 hm0)
    · have : e1 = e0 := entry_eq_of_key (List.pairwise_map.1 F.stamped.2.2) hm1 hm0 (hk1.trans hk0.symm)
      rw [this] at hrun
      exact hrun

/-- all that was there stands, but blocks g and b -/
def Two (a w : World) (g b : Nat) : Prop := a.heap.size ≤ w.heap.size ∧ ∀ i, i < a.heap.size → i ≠ g → i ≠ b → w.heap[i]? = a.heap[i]?
theorem Two.refl (a : World) (g b : Nat) : Two a a g b := ⟨Nat.le_refl _, fun _ _ _ _ => rfl⟩
theorem Two.then_ {a w w' : World} {g b : Nat} {r : Option Nat} (h : Two a w g b) (k : w.grownBy w' r) (hr : ∀ j, r = some j → a.heap.size ≤ j ∨ j = g ∨ j = b) : Two a w' g b :=
  ⟨Nat.le_trans h.1 k.size, fun i hi h1 h2 => (k.block i (Nat.lt_of_lt_of_le hi h.1) (fun e => by
    rcases hr i e.symm with h3 | h3 | h3
    · omega
    · exact h1 h3
    · exact h2 h3)).trans (h.2 i hi h1 h2)⟩
theorem Two.put {a w : World} {g b : Nat} (h : Two a w g b) (i : Nat) (u : Value) : Two a (w.setCell ⟨g, i, none⟩ u) g b :=
  ⟨by simpa [World.setCell] using h.1, fun j hj h1 h2 => (Below.heap_setCell w ⟨g, i, none⟩ u j h1).trans (h.2 j hj h1 h2)⟩
theorem Two.alloc {a w : World} {g b : Nat} (h : Two a w g b) (o : Obj) : Two a (w.alloc o) g b :=
  ⟨Nat.le_trans h.1 (by simp), fun j hj h1 h2 => (Below.heap_alloc w o j (Nat.lt_of_lt_of_le hj h.1)).trans (h.2 j hj h1 h2)⟩

/-- an owned row of numbers of an elder world reads as a slice behind g -/
theorem behind_of {a w : World} {g b base e : Nat} {v : Value} {l : List Nat} (h : a.ownsInts base e .i64 v (ofNats l)) (hg : g < base) (hb : b < base) (k : Two a w g b) : Behind g (Value.int .i64) w v (ofNats l) := by
  have ho : Sl.Of (Value.int .i64) a v (ofNats l) := Sl.Of.own h.1
  have hown : ∀ c off n cap, v = .slice (some ⟨c, off, none⟩) n cap → base ≤ c := by
    intro c off n cap hv
    exact (h.1.lt c (by rw [hv]; rfl)).1
  refine ⟨?_, fun c off n cap hv _ => by have := hown c off n cap hv; omega⟩
  rcases ho with h1 | ⟨c, off, cap, h1, h2, h3, h4, h5, h6⟩
  · exact Or.inl h1
  · have := hown c off _ cap h1
    refine Or.inr ⟨c, off, cap, h1, h2, h3, h4, Nat.lt_of_lt_of_le h5 k.1, fun i hi => ?_⟩
    rw [World.cell?_of_block (w := a) (k.2 c h5 (by omega) (by omega))]
    exact h6 i hi

end Go.Proofs.YtkmfedmiaannfaaDoor.Df
