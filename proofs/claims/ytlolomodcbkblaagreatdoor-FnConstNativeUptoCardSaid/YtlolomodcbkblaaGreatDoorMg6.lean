/- Descriptors: labels that may be nil: their length, the range over them, a look-up: laws at the operations. Descriptors: 'make' with one element and room for more. Descriptors: the state of the loops over labels. -/
import Derived.Test.YtlolomodcbkblaaGreatDoorMg5
import Derived.Maps.Keyed
import Derived.OwnWalk
set_option linter.unusedVariables false
set_option linter.unusedSimpArgs false
namespace Go.Proofs.YtlolomodcbkblaaGreatDoor.Nd
open Go.RowKit Go.Maps Go.WideMaps Go.ChangeShapes Go.WideShapes Go.Deep Fp Obs

/-- the names met so far -/
structure KeysAt (L : List P2) (left : Lit → Bool) (ks : List ByteArray) : Prop where
  nd : ks.Nodup
  has : ∀ k ∈ ks, (lastV L k).isSome = true
  gone : ∀ k ∈ ks, left (sl k) = false
  come : ∀ k, (lastV L k).isSome = true → k ∈ ks ∨ left (sl k) = true
theorem KeysAt.start {D : DataW Unit} {L : List P2} (hat : AtV D L) : KeysAt L (Maps.has D) [] := by
  refine ⟨List.nodup_nil, fun k h => by simp at h, fun k h => by simp at h, fun k h => Or.inr ?_⟩
  obtain ⟨v, hv⟩ := Option.isSome_iff_exists.1 h
  refine has_true_of_atKey (y := .lit (sl v)) fun z => ?_
  rw [hat k z, hv]
theorem sl_same (x : ByteArray) : (sl x).sameKey (sl x) = true := WideAt.sameKey_self (key_lit x)
theorem sl_other {x y : ByteArray} (h : x ≠ y) : (sl x).sameKey (sl y) = false := sameKey_ne (fun e => h (sl_inj e))
theorem last_at {D : DataW Unit} {L : List P2} {x c : ByteArray} (hat : AtV D L) (hc : ∀ z, D.atKey (sl x) z = .lit (sl c)) : lastV L x = some c := by
  have h1 := hc .nil
  rw [hat x .nil] at h1
  cases e : lastV L x with
  | none => rw [e] at h1; cases h1
  | some v =>
    rw [e] at h1
    injection h1 with h1
    rw [sl_inj h1]
theorem KeysAt.step {L : List P2} {left : Lit → Bool} {ks : List ByteArray} {x c : ByteArray} (h : KeysAt L left ks) (hx : left (sl x) = true) (hc : lastV L x = some c) :
    KeysAt L (fun z => left z && !z.sameKey (sl x)) (ks ++ [x]) ∧ x ∉ ks := by
  have hno : x ∉ ks := fun hm => by rw [h.gone x hm] at hx; cases hx
  refine ⟨⟨?_, fun k hk => ?_, fun k hk => ?_, fun k hk => ?_⟩, hno⟩
  · refine List.nodup_append.2 ⟨h.nd, by simp, ?_⟩
    intro a ha b hb e
    subst e
    rw [List.mem_singleton.1 hb] at ha
    exact hno ha
  · rcases List.mem_append.1 hk with hk | hk
    · exact h.has k hk
    · rw [List.mem_singleton.1 hk, hc]; rfl
  · rcases List.mem_append.1 hk with hk | hk
    · show (left (sl k) && !_) = false
      rw [h.gone k hk]; rfl
    · rw [List.mem_singleton.1 hk]
      show (left (sl x) && !(sl x).sameKey (sl x)) = false
      rw [sl_same]; simp
  · rcases h.come k hk with h1 | h1
    · exact Or.inl (List.mem_append.2 (Or.inl h1))
    · by_cases e : k = x
      · exact Or.inl (by rw [e]; simp)
      · right
        show (left (sl k) && !(sl k).sameKey (sl x)) = true
        rw [h1, sl_other e]; rfl
theorem KeysAt.done {L : List P2} {left : Lit → Bool} {ks : List ByteArray} (h : KeysAt L left ks) (hl : ∀ kl, left kl = false) : ∀ k, k ∈ ks ↔ (lastV L k).isSome = true := by
  refine fun k => ⟨h.has k, fun hk => ?_⟩
  rcases h.come k hk with h1 | h1
  · exact h1
  · rw [hl] at h1; cases h1

/-- the loop over labels stands in block r: the names met so far, how many are to come at most -/
def Rg (w : World) (m : Option Nat) (r : Nat) (L : List P2) (ks : List ByteArray) (cnt : Nat) : Prop :=
  (m = none ∧ L = [] ∧ ks = [] ∧ cnt = 0 ∧ w.heap[r]? = some (.mapIter none 0 #[] 0)) ∨
  ∃ b n D left, m = some b ∧ w.ranges Tryz.prog 9 (plainElem Tryz.prog 9) b r n D left cnt ∧ AtV D L ∧ KeysAt L left ks ∧ n ≤ L.length ∧ ks.length + cnt ≤ L.length
/-- how many are to come -/
def toCome (w : World) (m : Option Nat) (r : Nat) : Nat := match m with | some b => w.rangeLeft b r | none => 0
theorem Rg.left {w : World} {m : Option Nat} {r : Nat} {L : List P2} {ks : List ByteArray} {cnt : Nat} (h : Rg w m r L ks cnt) : toCome w m r = cnt := by
  rcases h with ⟨rfl, _, _, rfl, _⟩ | ⟨b, n, D, left, rfl, h1, _⟩
  · rfl
  · exact h1.left_eq
theorem Rg.lt {w : World} {m : Option Nat} {r : Nat} {L : List P2} {ks : List ByteArray} {cnt : Nat} (h : Rg w m r L ks cnt) : r < w.heap.size := by
  rcases h with ⟨rfl, _, _, rfl, h⟩ | ⟨b, n, D, left, rfl, h1, _⟩
  · exact (Array.getElem?_eq_some_iff.1 h).1
  · exact h1.lt
theorem Rg.few {w : World} {m : Option Nat} {r : Nat} {L : List P2} {ks : List ByteArray} {cnt : Nat} (h : Rg w m r L ks cnt) : ks.length + cnt ≤ L.length := by
  rcases h with ⟨rfl, rfl, rfl, rfl, h⟩ | ⟨b, n, D, left, rfl, h1, _, _, _, h2⟩
  · exact Nat.le_refl _
  · exact h2
theorem Rg.nodup {w : World} {m : Option Nat} {r : Nat} {L : List P2} {ks : List ByteArray} {cnt : Nat} (h : Rg w m r L ks cnt) : ks.Nodup ∧ ∀ k ∈ ks, (lastV L k).isSome = true := by
  rcases h with ⟨rfl, rfl, rfl, rfl, h⟩ | ⟨b, n, D, left, rfl, h1, _, h2, _⟩
  · exact ⟨List.nodup_nil, fun k h => by simp at h⟩
  · exact ⟨h2.nd, h2.has⟩
theorem Rg.kept {w w' : World} {m : Option Nat} {r : Nat} {L : List P2} {ks : List ByteArray} {cnt : Nat} {row : Option Nat} (h : Rg w m r L ks cnt) (k : w.grownBy w' row) (hr : some r ≠ row) (hm : ∀ b, m = some b → some b ≠ row) : Rg w' m r L ks cnt := by
  rcases h with ⟨h0, h1, h2, h3, h⟩ | ⟨b, n, D, left, h0, h1, h2⟩
  · exact Or.inl ⟨h0, h1, h2, h3, (k.block r (Array.getElem?_eq_some_iff.1 h).1 hr).trans h⟩
  · exact Or.inr ⟨b, n, D, left, h0, h1.kept k (hm b h0) hr, h2⟩

section
variable (w : World) {ops : Array Oper} {rest : List Oper} {o : Oper} {a : Act} {Q : Exit → Act → World → Prop} {m : Option Nat} {L : List P2}
theorem len_ms (hg : o.guard = none) (x : Operand) (hop : o.op = Op.call { callee := Callee.builtin Builtin.len, args := #[x], argTypes := #[105] }) (hx : a.eval x = .map m) (hm : Ms w m L)
    (hK : ∀ n : Nat, n ≤ L.length → wpList Tryz.prog ops Q rest (a.put o.dst (.int .i64 n)) w) : wpList Tryz.prog ops Q (o :: rest) a w := by
  rcases hm with ⟨rfl, rfl⟩ | ⟨b, rfl, hne, n, D, hn, hown, hat⟩
  · refine wpList_plain hg fun K' hK' => ?_
    unfold Oper.wp
    simp [execOp, hop, resolve, invoke, builtin, hx, Builtin.len_, run_underlying Tryz.underlying105, Result.andThen, goInt]
    exact hK' _ _ (hK 0 (Nat.le_refl _))
  · exact wpList_len_own w hg x 105 hop 9 9 Tryz.underlying105 (plainElem Tryz.prog 9) b n D hx hown (hK _ (Nat.le_trans hown.size_le hn))
theorem len_run (hm : Ms w m L) : ∃ n : Nat, n ≤ L.length ∧ ∀ ty, (Builtin.len_ #[105] ty #[.map m]).run Tryz.prog w = .ok (.int .i64 n) w := by
  rcases hm with ⟨rfl, rfl⟩ | ⟨b, rfl, hne, n, D, hn, hown, hat⟩
  · exact ⟨0, Nat.le_refl _, fun ty => by simp [Builtin.len_, run_underlying Tryz.underlying105, Result.andThen, goInt]⟩
  · exact ⟨_, Nat.le_trans hown.size_le hn, fun ty => hown.len Tryz.underlying105 ty⟩
theorem range_ms (hg : o.guard = none) (x : Operand) (hop : o.op = Op.range 105 x) (hx : a.eval x = .map m) (hm : Ms w m L)
    (hK : ∀ w' cnt, Rg w' m w.heap.size L [] cnt → Below w.heap.size w w' → w'.heap.size = w.heap.size + 1 → wpList Tryz.prog ops Q rest (a.put o.dst (.pointer (some ⟨w.heap.size, 0, none⟩))) w') : wpList Tryz.prog ops Q (o :: rest) a w := by
  rcases hm with ⟨rfl, rfl⟩ | ⟨b, rfl, hne, n, D, hn, hown, hat⟩
  · refine wpList_plain hg fun K' hK' => ?_
    have hrun : (Instr.range 105 (.map none)).run Tryz.prog w = .ok (.pointer (some ⟨w.heap.size, 0, none⟩)) (w.alloc (.mapIter none 0 #[] 0)) := by
      simp [Instr.range, run_underlying Tryz.underlying105, Result.andThen]
    unfold Oper.wp
    simp [execOp, hop, hx, hrun, Result.andThen]
    refine hK' _ _ (hK _ 0 (Or.inl ⟨rfl, rfl, rfl, rfl, ?_⟩) ((Below.refl _ _).alloc (Nat.le_refl _) _) (by simp))
    exact heap_alloc_new w _
  · refine wpList_range_own w hg x 105 hop 9 9 lawS Tryz.underlying105 (plainElem Tryz.prog 9) b n D hx hown fun w' h1 h2 h3 => ?_
    have hsz := hown.size_le
    exact hK w' _ (Or.inr ⟨b, n, D, _, rfl, h1, hat, KeysAt.start hat, hn, by simp; omega⟩) ⟨h2.os, h2.tape, h2.output, h2.size, fun i hi => h2.block i hi (by simp)⟩ h3
theorem inv_s (key : Value) (kl : Lit) (h : keyOf Tryz.prog 9 key = some kl) : ∃ x, key = Value.string x := by
  obtain ⟨s, h1, _⟩ := string_of_keyOf Tryz.underlying9 h
  exact ⟨s, h1⟩
theorem inv_v (v : Value) (y : DataW Unit × List MemPlace) (h : plainElem Tryz.prog 9 v = some y) : ∃ c, v = Value.string c := by
  obtain ⟨s, h1, _⟩ := plainElem_string_inv Tryz.underlying9 h
  exact ⟨s, h1⟩
theorem next_ms {r cnt : Nat} {ks : List ByteArray} (hg : o.guard = none) (it : Operand) (hop : o.op = Op.next it false) (hit : a.eval it = .pointer (some ⟨r, 0, none⟩)) (h : Rg w m r L ks cnt)
    (hDone : (∀ k, k ∈ ks ↔ (lastV L k).isSome = true) → wpList Tryz.prog ops Q rest (a.put o.dst (.tuple #[.bool false])) w)
    (hMore : ∀ (x c : ByteArray) (w' : World) (cnt' : Nat), lastV L x = some c → x ∉ ks → Rg w' m r L (ks ++ [x]) cnt' → cnt' < cnt → w.grownBy w' (some r) → w'.heap.size = w.heap.size →
      (Instr.entry (.pointer (some ⟨r, 0, none⟩))).run Tryz.prog w' = .ok (.tuple #[.string x, .string c]) w' → wpList Tryz.prog ops Q rest (a.put o.dst (.tuple #[.bool true, .string x, .string c])) w') :
    wpList Tryz.prog ops Q (o :: rest) a w := by
  rcases h with ⟨rfl, rfl, rfl, rfl, h⟩ | ⟨b, n, D, left, rfl, hrg, hat, hka, hn, hfew⟩
  · refine wpList_plain hg fun K' hK' => ?_
    have hrun : ∀ ty, (Instr.next (.pointer (some ⟨r, 0, none⟩)) false ty).run Tryz.prog w = .ok (.tuple #[.bool false]) w := fun ty => by
      simp only [Instr.next, getObj, Sem.run_bind, Sem.run, h, Result.andThen]
      rfl
    unfold Oper.wp
    simp [execOp, hop, hit, hrun, Result.andThen]
    exact hK' _ _ (hDone (fun k => by simp [lastV]))
  · refine wpList_next_ranges w hg it hop 9 lawS (plainElem Tryz.prog 9) Value.string Value.string inv_s inv_v b r n D left cnt hit hrg (fun _ hl => hDone (hka.done hl)) ?_
    intro x c kl y w' cnt' hkey hlk hR hatx hrg' hlt hgr hsz hen
    obtain ⟨x', hx1, hx2, hx3⟩ := string_of_keyOf Tryz.underlying9 hkey
    injection hx1 with hx1
    subst hx1
    have hkl : kl = sl x := hx2
    subst hkl
    obtain ⟨c', hc1, hc2, _⟩ := plainElem_string_inv Tryz.underlying9 hR
    injection hc1 with hc1
    subst hc1
    have hl : lastV L x = some c := last_at hat (fun z => by rw [hatx z, hc2]; rfl)
    have hst := hka.step hlk hl
    exact hMore x c w' cnt' hl hst.2 (Or.inr ⟨b, n, D, _, rfl, hrg', hat, hst.1, hn, by simp; omega⟩) hlt hgr hsz hen
set_option maxRecDepth 100000 in
theorem look_ms (hm : Ms w m L) {s c : ByteArray} (hl : lastV L s = some c) (hs : s.size ≤ maxLen) :
    (Instr.lookup 105 (.map m) (.string s) false).run Tryz.prog w = .ok (.string c) w := by
  rcases hm with ⟨rfl, rfl⟩ | ⟨b, rfl, hne, n, D, hn, ⟨es, clock, hb, F, _, hD⟩, hat⟩
  · simp [lastV] at hl
  · rcases Maps.fit_look false lawS Tryz.underlying105 (zeroStr w) hb F (keyOf_string_mk Tryz.underlying9 (s := s) hs) with ⟨hrun, _, h3⟩ | ⟨e0, y, hm, hk, hrun, hR, h3, _⟩
    · have h4 := hat s .nil
      rw [hD] at h4
      have h5 := h3 DataW.nil
      rw [hl] at h4
      exact absurd (h4.symm.trans h5) (by intro e; cases e)
    · have h4 := hat s .nil
      rw [hD] at h4
      have h5 := h3 DataW.nil
      obtain ⟨s2, e1, e2, _⟩ := plainElem_string_inv Tryz.underlying9 hR
      rw [e2] at h5
      rw [hl] at h4
      have h6 := h4.symm.trans h5
      injection h6 with h6
      rw [hrun, e1]
      have : c = s2 := sl_inj h6
      rw [this]; rfl
end

end Go.Proofs.YtlolomodcbkblaaGreatDoor.Nd

set_option linter.unusedVariables false
set_option linter.unusedSimpArgs false
namespace Go.Proofs.YtlolomodcbkblaaGreatDoor.Nd
open Go.RowKit Go.Maps Go.WideMaps Go.ChangeShapes Go.WideShapes Go.Deep Fp Obs

section
variable {P : Program} (w : World) {ops : Array Oper} {rest : List Oper} {o : Oper} {a : Act} {Q : Exit → Act → World → Prop}
theorem make_one (hg : o.guard = none) (l c : Operand) (t : TypeId) (hop : o.op = Op.makeSlice t l c)
    (base : Nat) (e : TypeId) (i : TypeInfo) (z : Value) (h1 : P.underlying t = some (.slice e)) (h2 : P.info? e = some i) (h3 : i.zero = some z) (h4 : i.size = 1) (hz : z.cells = #[z])
    (C : Int) (n : Nat) (hl : a.eval l = .int .i64 1) (hc : a.eval c = .int .i64 C) (hC : C = ((n + 1 : Nat) : Int)) (b2 : i.bytes * (n + 1) ≤ 281474976710656) (b3 : n + 1 ≤ maxLen) (b4 : base ≤ w.heap.size)
    (hK : ∀ w', w'.ownsRow base e 1 (.slice (some ⟨w.heap.size, 0, none⟩) 1 (n + 1)) 1 [z] → w.grownBy w' none → wpList P ops Q rest (a.put o.dst (.slice (some ⟨w.heap.size, 0, none⟩) 1 (n + 1))) w') :
    wpList P ops Q (o :: rest) a w := by
  refine wpList_plain hg fun K hK' => ?_
  have h63' : ((n + 1 : Nat) : Int) ≤ 9223372036854775807 := by
    have h := b3
    simp [maxLen] at h
    omega
  have hb' : (i.bytes : Int) * ((n + 1 : Nat) : Int) ≤ 281474976710656 := by
    have h : ((i.bytes * (n + 1) : Nat) : Int) ≤ 281474976710656 := by omega
    rwa [Int.natCast_mul] at h
  have hr := run_make (P := P) w t e i z h1 h2 h3 .i64 .i64 1 ((n + 1 : Nat) : Int) (by decide) (by omega) hb' h63'
  subst hC
  have e1 : ((n + 1 : Nat) : Int).toNat = n + 1 := by omega
  have e2 : (1 : Int).toNat = 1 := rfl
  rw [e1, e2] at hr
  unfold Oper.wp
  simp [execOp, hop, hl, hc] at hr ⊢
  rw [hr]
  simp only [Result.andThen]
  refine hK' _ _ (hK _ ⟨rfl, Or.inr ⟨w.heap.size, n + 1, _, rfl, b4, heap_alloc_new w _, by omega, b3, ?_, ?_⟩⟩ (World.grownBy_alloc w _ none))
  · rw [size_madeCells, h4]
  · rw [h4, hz]
    simp [madeCells, List.range_succ_eq_map]
end
end Go.Proofs.YtlolomodcbkblaaGreatDoor.Nd

set_option linter.unusedVariables false
set_option linter.unusedSimpArgs false
namespace Go.Proofs.YtlolomodcbkblaaGreatDoor.Nd
open Go.RowKit Go.Maps Go.WideMaps Go.ChangeShapes Go.WideShapes Go.Deep Fp Obs

theorem Ms.lt {w : World} {m : Option Nat} {L : List P2} (h : Ms w m L) : ∀ b, m = some b → b < w.heap.size := by
  intro b hb
  rcases h with ⟨rfl, _⟩ | ⟨b', rfl, _, h⟩
  · cases hb
  · injection hb with hb
    subst hb
    exact h.lt
/-- objects os, the loop's own block r, and where the loop stands -/
structure Lp (B : Nat) (w0 : World) (os : List Ob) (r : Nat) (m : Option Nat) (L : List P2) (ks : List ByteArray) (cnt : Nat) (w : World) : Prop where
  rg : Rg w m r L ks cnt
  st : Sts B w0 (os ++ [obApart r]) w
section
variable {B r : Nat} {w0 w w' : World} {l rr os : List Ob} {m : Option Nat} {L : List P2} {ks ks' : List ByteArray} {cnt cnt' : Nat}
theorem Lp.size (h : Lp B w0 os r m L ks cnt w) : B ≤ w.heap.size := by
  have := h.st.ge r (by simp [blocks, obApart])
  omega
theorem Lp.next (h : Lp B w0 os r m L ks cnt w) (hrg : Rg w' m r L ks' cnt') (k : w.grownBy w' (some r)) : Lp B w0 os r m L ks' cnt' w' :=
  ⟨hrg, h.st.set (r := []) h.size k (fun b e => Or.inl (by injection e with e; subst e; exact List.mem_singleton.2 rfl)) (o' := obApart r) trivial (fun b hb => Or.inl hb) (by simp [obApart])⟩
theorem Lp.below (h : Lp B w0 os r m L ks cnt w) (k : Below w.heap.size w w') : Lp B w0 os r m L ks cnt w' :=
  ⟨h.rg.kept (grown_below k) (by simp) (fun b _ => by simp), h.st.below h.size k⟩
theorem Lp.alloc (h : Lp B w0 os r m L ks cnt w) (x : Obj) : Lp B w0 os r m L ks cnt (w.alloc x) := h.below ((Below.refl _ _).alloc (Nat.le_refl _) x)
/-- an object turns -/
theorem Lp.set {o o' : Ob} {row : Option Nat} (h : Lp B w0 (l ++ o :: rr) r m L ks cnt w) (hm : ∀ b, m = some b → b < B) (k : w.grownBy w' row) (hrow : ∀ b, row = some b → b ∈ o.bs) (hP : o'.P w') (hbs : ∀ b ∈ o'.bs, b ∈ o.bs ∨ (w.heap.size ≤ b ∧ b < w'.heap.size)) (hnd : o'.bs.Nodup) : Lp B w0 (l ++ o' :: rr) r m L ks cnt w' := by
  have hst : Sts B w0 (l ++ o :: (rr ++ [obApart r])) w := by have := h.st; simpa using this
  refine ⟨h.rg.kept k (fun e => ?_) (fun b hb e => ?_), ?_⟩
  · have h1 := hrow r e.symm
    exact hst.apart (m := rr) (r := []) (b := r) (b' := r) h1 (by simp [obApart]) rfl
  · have h1 := hrow b e.symm
    have h2 := (hst.ge b (by rw [blocks_mid]; exact List.mem_append.2 (Or.inr (List.mem_append.2 (Or.inl h1))))).1
    have := hm b hb
    omega
  · have := hst.set (o' := o') h.size k (fun b e => Or.inl (hrow b e)) hP hbs hnd
    simpa using this
theorem Lp.row {e n n' : Nat} {v v' : Value} {xs xs' : List Value} (h : Lp B w0 (l ++ obRow B e v n xs :: rr) r m L ks cnt w) (hm : ∀ b, m = some b → b < B) (k : w.grownBy w' v.ownBlock) (ho : w'.ownsRow B e 1 v' n' xs') (hloc : v'.ownBlock = v.ownBlock ∨ v'.ownBlock = some w.heap.size) : Lp B w0 (l ++ obRow B e v' n' xs' :: rr) r m L ks cnt w' := by
  refine h.set hm k (fun b e => by show b ∈ v.ownBlock.toList; rw [e]; simp) (o' := obRow B e v' n' xs') ho (fun b hb => ?_) (row_nodup v')
  have hb' : v'.ownBlock = some b := Option.mem_toList.1 hb
  rcases hloc with hl | hl
  · left
    show b ∈ v.ownBlock.toList
    rw [← hl, hb']; simp
  · right
    rw [hl] at hb'
    injection hb' with hb'
    have := (ho.lt b (by rw [hl, hb'])).2
    omega
theorem Lp.here {o : Ob} (h : Lp B w0 (l ++ o :: rr) r m L ks cnt w) : o.P w := by
  have hst : Sts B w0 (l ++ o :: (rr ++ [obApart r])) w := by have := h.st; simpa using this
  exact hst.here
theorem Lp.start {x : Nat} (h : Sts B w0 os w) (hB : B ≤ w.heap.size) (hrg : Rg w' m w.heap.size L ks cnt) (k : Below w.heap.size w w') (hs : w'.heap.size = w.heap.size + 1) : Lp B w0 os w.heap.size m L ks cnt w' :=
  ⟨hrg, h.add hB (grown_below k) (fun b e => by cases e) (o' := obApart w.heap.size) trivial (fun b hb => by rw [List.mem_singleton.1 hb, hs]; omega) (by simp [obApart])⟩
theorem Lp.out (h : Lp B w0 os r m L ks cnt w) : Sts B w0 os w := by
  have := Sts.drop (r := []) h.st
  simpa using this
end

theorem cell_box (w : World) (x : Value) (T : TypeId) : ∀ j u, [x][j]? = some u → (w.alloc (.cells #[x] T)).cell? ((⟨w.heap.size, 0, none⟩ : Addr).add j) = some u := by
  intro j u h
  rcases j with _ | j
  · injection h with h
    rw [← h, Addr.add_lit]
    exact Sl.cell_new w #[x] T 0
  · simp at h
theorem one_str (x : ByteArray) : ∀ u ∈ [Value.string x], u.oneCell' = true := by
  intro u hu; simp at hu; rw [hu]; rfl
section
variable {B r : Nat} {w0 w w' : World} {l rr os : List Ob} {m : Option Nat} {L : List P2} {ks : List ByteArray} {cnt : Nat}
theorem Lp.push {v : Value} {xs : List ByteArray} {x : ByteArray} {a : Option Addr} {c : Nat} (h : Lp B w0 (l ++ Row B v xs :: rr) r m L ks cnt w) (hm : ∀ b, m = some b → b < B) (k : w.grownBy w' v.ownBlock)
    (ho : w'.ownsRow B 9 1 (.slice a (xs.length + 1) c) (xs.length + 1) (xs.map Value.string ++ [.string x])) (hloc : (Value.slice a (xs.length + 1) c).ownBlock = v.ownBlock ∨ (Value.slice a (xs.length + 1) c).ownBlock = some w.heap.size) :
    Lp B w0 (l ++ Row B (.slice a (xs.length + 1) c) (xs ++ [x]) :: rr) r m L ks cnt w' := by
  have h1 := h.row hm k ho hloc
  have e : (obRow B 9 (.slice a (xs.length + 1) c) (xs.length + 1) (xs.map Value.string ++ [.string x])) = Row B (.slice a (xs.length + 1) c) (xs ++ [x]) := by
    show _ = obRow _ _ _ (xs ++ [x]).length ((xs ++ [x]).map _)
    rw [List.length_append, List.map_append]; rfl
  rw [e] at h1
  exact h1
theorem Lp.setPut {b : Nat} {acc : List ByteArray} {x : ByteArray} (h : Lp B w0 (l ++ SetOb b acc :: rr) r m L ks cnt w) (hm : ∀ b, m = some b → b < B) (k : w.grownBy w' (some b))
    (ho : w'.ownsMap Tryz.prog 9 unitElem b (acc.length + 1) ((setD acc).put (sl x) (.agg []))) : Lp B w0 (l ++ SetOb b (acc ++ [x]) :: rr) r m L ks cnt w' := by
  refine h.set hm k (fun b' e => by injection e with e; subst e; exact List.mem_singleton.2 rfl) (o' := SetOb b (acc ++ [x])) ?_ (fun b hb => Or.inl hb) (by simp [obMap])
  show w'.ownsMap _ _ _ b (acc ++ [x]).length (setD (acc ++ [x]))
  have e : setD (acc ++ [x]) = (setD acc).put (sl x) (.agg []) := by unfold setD; rw [List.map_append, List.map_cons, List.map_nil, setOf_snoc]
  rw [List.length_append, e]
  exact ho
end

section
variable {P : Program} {w : World}
/-- where the row of an appended string lies -/
theorem append_str_loc (base : Nat) (t u ty e : TypeId) (i : TypeInfo) (ht : P.underlying t = some (.slice e)) (hu : P.underlying u = some .string) (hi : P.info? e = some i) (hz : i.zero = some (.int .u8 0)) (hsize : i.size = 1) (hby : i.bytes = 1)
    (v : Value) (n : Nat) (xs : List Value) (hown : w.ownsRow base e 1 v n xs) (s : ByteArray) (h63 : n + s.size ≤ maxLen) (hbytes : n + s.size ≤ 140737488355328) (hbase : base ≤ w.heap.size) :
    ∃ v' w', (Builtin.append_ #[t, u] ty #[v, .string s]).run P w = .ok v' w' ∧ w'.ownsRow base e 1 v' (n + s.size) (xs ++ Lib.strCells s) ∧ w.grownBy w' v.ownBlock ∧ (v'.ownBlock = v.ownBlock ∨ ∀ b, v'.ownBlock = some b → w.heap.size ≤ b) := by
  obtain ⟨v', w', h1, h2, h3, _⟩ := Lib.run_append_own_string (P := P) w base t u ty e i ht hu hi hz hsize hby v n xs hown s h63 hbytes hbase
  refine ⟨v', w', h1, h2, h3, ?_⟩
  rcases hown.2 with ⟨rfl, rfl⟩ | ⟨g, cap, cur, rfl, hbg, hg, hn, hcm, hcs, htake⟩
  · have hxs : xs = [] := by have := hown.1; simpa using this
    subst hxs
    obtain ⟨v2, w2, k1, k2, _, _⟩ := Lib.run_append_own_string (P := P) w w.heap.size t u ty e i ht hu hi hz hsize hby (.slice none 0 0) 0 [] (World.ownsRow_nil _ _ _ _) s h63 hbytes (Nat.le_refl _)
    rw [h1] at k1
    injection k1 with k1 k3
    subst k1 k3
    exact Or.inr (fun b hb => (k2.lt b hb).1)
  · by_cases hroom : n + s.size ≤ cap
    · have hr := Lib.run_append_room_string (P := P) w t u ty e i ht hu hi hsize g n cap cur hg s hroom (by rw [hcs]; omega)
      rw [h1] at hr
      injection hr with hr _
      rw [hr]
      exact Or.inl rfl
    · have holds : ∀ j u, xs[j]? = some u → w.cell? ((⟨g, 0, none⟩ : Addr).add j) = some u := hown.cells (g := g) rfl
      have hr := Lib.run_append_grow_string (P := P) w t u ty e i (.int .u8 0) ht hu hi hz ⟨g, 0, none⟩ n cap xs (by rw [hsize]; exact hown.1) holds s (by omega) (by simp only [maxLen] at h63; omega) (by rw [hby]; exact growslice_fits (by omega) (by omega))
      rw [h1] at hr
      injection hr with hr _
      rw [hr]
      exact Or.inr (fun b hb => by have h5 : some w.heap.size = some b := hb; injection h5 with h5; omega)
theorem append_str {ops : Array Oper} {rest : List Oper} {o : Oper} {a : Act} {Q : Exit → Act → World → Prop} (hgd : o.guard = none) (sl x : Operand) (t u : TypeId)
    (ho : o.op = .call { callee := .builtin .append, args := #[sl, x], argTypes := #[t, u] })
    (base : Nat) (e : TypeId) (i : TypeInfo) (ht : P.underlying t = some (.slice e)) (hu : P.underlying u = some .string) (hi : P.info? e = some i) (hz : i.zero = some (.int .u8 0)) (hsize : i.size = 1) (hby : i.bytes = 1)
    (v : Value) (n : Nat) (xs : List Value) (hs : a.eval sl = v) (hown : w.ownsRow base e 1 v n xs) (s : ByteArray) (hx : a.eval x = .string s)
    (h63 : n + s.size ≤ maxLen) (hbytes : n + s.size ≤ 140737488355328) (hbase : base ≤ w.heap.size)
    (h : ∀ v' w', w'.ownsRow base e 1 v' (n + s.size) (xs ++ Lib.strCells s) → w.grownBy w' v.ownBlock → (v'.ownBlock = v.ownBlock ∨ ∀ b, v'.ownBlock = some b → w.heap.size ≤ b) → wpList P ops Q rest (a.put o.dst v') w') : wpList P ops Q (o :: rest) a w := by
  refine wpList_plain hgd fun K hK => ?_
  obtain ⟨v', w', hr, h2, h3, h4⟩ := append_str_loc (P := P) (w := w) base t u o.type e i ht hu hi hz hsize hby v n xs hown s h63 hbytes hbase
  unfold Oper.wp execOp
  simp only [ho, resolve, invoke, builtin, Sem.run_bind, Sem.run_pure, Result.andThen_ok, List.map_toArray, List.map_cons, List.map_nil, hs, hx, hr]
  exact hK _ _ (h v' w' h2 h3 h4)
end
theorem str_cells (s : ByteArray) : Lib.strCells s = bytes (dl s) := rfl

/-- 'sort.Strings' of a row of the call's own -/
theorem sort_own {B : Nat} {v : Value} {ks : List ByteArray} {w : World} (h : w.ownsRow B 9 1 v ks.length (ks.map Value.string)) (hl : ks.length < 4611686018427387904) :
    Calls Tryz.prog 120 #[v] w fun e w' => e = .returned (.tuple #[]) ∧ w'.ownsRow B 9 1 v ks.length ((sortB ks).map Value.string) ∧ w.grownBy w' v.ownBlock := by
  have enc : ∀ l : List ByteArray, l.map Value.string = (l.map dl).map Go.Proofs.encStr := fun l => by
    rw [List.map_map]
    exact List.map_congr_left (fun s _ => by show Value.string s = Go.Proofs.encStr (dl s); unfold Go.Proofs.encStr; rw [show (⟨(dl s).toArray⟩ : ByteArray) = s from mk_dl s])
  have enc2 : (sortB ks).map Value.string = ((ks.map dl).mergeSort leB).map Go.Proofs.encStr := by
    unfold sortB
    rw [List.map_map]; rfl
  have hlen : ((ks.map dl).mergeSort leB).length = (ks.map dl).length := List.length_mergeSort _
  have hl2 : (ks.map dl).length = ks.length := List.length_map _
  rcases h.2 with ⟨rfl, h1⟩ | ⟨g, cap, cur, rfl, hB, hcur, hn, hcap, hsz, ht⟩
  · obtain rfl : ks = [] := List.length_eq_zero_iff.1 h1
    refine (Sh.sort_Strings_none none 0 w).mono ?_
    rintro e w' ⟨rfl, rfl⟩
    refine ⟨rfl, ?_, World.grownBy.refl _ _⟩
    simpa [sortB] using h
  · have hg : g < w.heap.size := (Array.getElem?_eq_some_iff.1 hcur).1
    have hH : Sort.Holds Go.Proofs.encStr w g 0 (ks.map dl).toArray := holds_of_block hcur (by rw [hl2, ← enc]; simpa using ht)
    have hS := Sh.sort_Strings g 0 cap (ks.map dl) w hH hg (by rw [hl2]; exact hl)
    rw [hl2] at hS
    refine hS.mono ?_
    rintro e w' ⟨rfl, n, os, rfl⟩
    refine ⟨rfl, ?_, grownBy_sorted _⟩
    have h5 := ownsRow_sorted (n := n) (os := os) hlen hB hcur (by rw [hl2]; exact hn) hcap hsz
    rw [hl2] at h5
    rw [enc2]
    exact h5
theorem dollar_eq (s : ByteArray) : (⟨#[36]⟩ : ByteArray) ++ s = dollar s := by
  apply dl_inj
  unfold dollar
  rw [dl_mk]
  show (ByteArray.mk #[36] ++ s).data.toList = 36 :: dl s
  simp [dl]

section
variable {B : Nat} {w0 w w' : World} {l r : List Ob}
theorem Sts.push {v : Value} {xs : List ByteArray} {x : ByteArray} {a : Option Addr} {c : Nat} (h : Sts B w0 (l ++ Row B v xs :: r) w) (hB : B ≤ w.heap.size) (k : w.grownBy w' v.ownBlock)
    (ho : w'.ownsRow B 9 1 (.slice a (xs.length + 1) c) (xs.length + 1) (xs.map Value.string ++ [.string x])) (hloc : (Value.slice a (xs.length + 1) c).ownBlock = v.ownBlock ∨ (Value.slice a (xs.length + 1) c).ownBlock = some w.heap.size) :
    Sts B w0 (l ++ Row B (.slice a (xs.length + 1) c) (xs ++ [x]) :: r) w' := by
  have h1 := h.row hB k ho (loc_at hloc)
  have e : (obRow B 9 (.slice a (xs.length + 1) c) (xs.length + 1) (xs.map Value.string ++ [.string x])) = Row B (.slice a (xs.length + 1) c) (xs ++ [x]) := by
    show _ = obRow _ _ _ (xs ++ [x]).length ((xs ++ [x]).map _)
    rw [List.length_append, List.map_append]; rfl
  rw [e] at h1
  exact h1
theorem Sts.grow8 {v v' : Value} {xs ys : L8} (h : Sts B w0 (l ++ BRow B v xs :: r) w) (hB : B ≤ w.heap.size) (k : w.grownBy w' v.ownBlock) (ho : w'.ownsRow B 5 1 v' (xs.length + ys.length) (bytes xs ++ bytes ys)) (hloc : v'.ownBlock = v.ownBlock ∨ ∀ b, v'.ownBlock = some b → w.heap.size ≤ b) :
    Sts B w0 (l ++ BRow B v' (xs ++ ys) :: r) w' := by
  have h1 := h.row hB k ho hloc
  have e : (obRow B 5 v' (xs.length + ys.length) (bytes xs ++ bytes ys)) = BRow B v' (xs ++ ys) := by
    show _ = obRow _ _ _ (xs ++ ys).length ((xs ++ ys).map _)
    rw [List.length_append, List.map_append]
  rw [e] at h1
  exact h1
theorem Sts.setPut {b : Nat} {acc : List ByteArray} {x : ByteArray} (h : Sts B w0 (l ++ SetOb b acc :: r) w) (hB : B ≤ w.heap.size) (k : w.grownBy w' (some b))
    (ho : w'.ownsMap Tryz.prog 9 unitElem b (acc.length + 1) ((setD acc).put (sl x) (.agg []))) : Sts B w0 (l ++ SetOb b (acc ++ [x]) :: r) w' := by
  refine h.set hB k (fun b' e => by injection e with e; subst e; exact Or.inl (List.mem_singleton.2 rfl)) (o' := SetOb b (acc ++ [x])) ?_ (fun b hb => Or.inl hb) (by simp [obMap])
  show w'.ownsMap _ _ _ b (acc ++ [x]).length (setD (acc ++ [x]))
  have e : setD (acc ++ [x]) = (setD acc).put (sl x) (.agg []) := by unfold setD; rw [List.map_append, List.map_cons, List.map_nil, setOf_snoc]
  rw [List.length_append, e]
  exact ho
theorem Sts.size_le {o : Ob} {os : List Ob} (h : Sts w0.heap.size w0 os w) : w0.heap.size ≤ w.heap.size := h.bel.size
theorem Sts.rowAt {g n c k : Nat} {xs : List ByteArray} (h : Sts B w0 (l ++ Row B (.slice (some ⟨g, 0, none⟩) n c) xs :: r) w) (hn : n = xs.length) (hk : k < xs.length) : w.cell? ⟨g, k, none⟩ = some (.string xs[k]) := by
  subst hn
  have h1 : w.ownsRow B 9 1 (.slice (some ⟨g, 0, none⟩) xs.length c) xs.length (xs.map Value.string) := h.here
  rw [h1.cellAt k (by omega)]
  simp [hk]
theorem row_head {w : World} {B e n : Nat} {v : Value} {cells : List Value} (h : w.ownsRow B e 1 v n cells) (hn : 0 < n) : ∃ g cap, v = .slice (some ⟨g, 0, none⟩) n cap := by
  rcases h.2 with ⟨rfl, h0⟩ | ⟨g', cap', cur, rfl, hb, _⟩
  · omega
  · exact ⟨g', cap', rfl⟩
end

theorem sep_cells {W : World} {sb so : Nat} (h : W.cell? ⟨sb, so, none⟩ = some (.int .u8 255)) : ∀ j u, [Value.int .u8 255][j]? = some u → W.cell? ((⟨sb, so, none⟩ : Addr).add j) = some u := by
  intro j u hj
  rcases j with _ | j
  · injection hj with hj
    rw [← hj]
    simpa [Addr.add] using h
  · simp at hj

theorem conv_own {w : World} {B : Nat} {v : Value} {l : L8} (h : w.ownsRow B 5 1 v l.length (bytes l)) : (convert 299 9 v).run Tryz.prog w = .ok (.string (mkB l)) w := by
  rcases h.2 with ⟨rfl, h1⟩ | ⟨g, cap, cur, rfl, _⟩
  · have h1 : l = [] := by simpa using h1
    subst h1
    exact run_convert_bytes_nil _ _ _ Tryz.underlying299 Tryz.underlying5 _ _ _ Tryz.underlying9
  · have hc := h.cells (g := g) rfl
    refine run_convert_bytes_back w _ _ _ _ cap l Tryz.underlying299 Tryz.underlying5 Tryz.underlying9 ?_
    intro j hj
    exact hc j _ (by rw [List.getElem?_map, List.getElem?_eq_getElem hj]; rfl)

end Go.Proofs.YtlolomodcbkblaaGreatDoor.Nd
