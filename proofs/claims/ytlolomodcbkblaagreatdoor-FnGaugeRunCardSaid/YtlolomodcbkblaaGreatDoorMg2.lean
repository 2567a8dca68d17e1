/- Descriptors: labels that may be nil: their length, the range over them, a look-up: laws at the operations. Descriptors: 'make' with one element and room for more. -/
import Derived.Test.YtlolomodcbkblaaGreatDoorNdd
import Derived.Maps.Keyed
import Derived.OwnWalk
set_option linter.unusedVariables false
set_option linter.unusedSimpArgs false
namespace Go.Proofs.YtlolomodcbkblaaGreatDoor.Nd
open Go.RowKit Go.Maps Go.WideMaps Go.ChangeShapes Go.WideShapes Go.Deep Fp Obs

/-- the names met so far -/
structure KeysAt (L : List P2) (left : Lit → Bool) (ks : List ByteArray) : Prop where
  nd : ks.Nodup
  has : ∀ k ∈ ks, (lastV L k).isSome = true
  gone : ∀ k ∈ ks, left (sl k) = false
  come : ∀ k, (lastV L k).isSome = true → k ∈ ks ∨ left (sl k) = true
theorem KeysAt.start {D : DataW Unit} {L : List P2} (hat : AtV D L) : KeysAt L (Maps.has D) [] := by
  refine ⟨List.nodup_nil, fun k h => by simp at h, fun k h => by simp at h, fun k h => Or.inr ?_⟩
  obtain ⟨v, hv⟩ := Option.isSome_iff_exists.1 h
  refine has_true_of_atKey (y := .lit (sl v)) fun z => ?_
  rw [hat k z, hv]
theorem sl_same (x : ByteArray) : (sl x).sameKey (sl x) = true := WideAt.sameKey_self (key_lit x)
theorem sl_other {x y : ByteArray} (h : x ≠ y) : (sl x).sameKey (sl y) = false := sameKey_ne (fun e => h (sl_inj e))
theorem last_at {D : DataW Unit} {L : List P2} {x c : ByteArray} (hat : AtV D L) (hc : ∀ z, D.atKey (sl x) z = .lit (sl c)) : lastV L x = some c := by
  have h1 := hc .nil
  rw [hat x .nil] at h1
  cases e : lastV L x with
  | none => rw [e] at h1; cases h1
  | some v =>
    rw [e] at h1
    injection h1 with h1
    rw [sl_inj h1]
theorem KeysAt.step {L : List P2} {left : Lit → Bool} {ks : List ByteArray} {x c : ByteArray} (h : KeysAt L left ks) (hx : left (sl x) = true) (hc : lastV L x = some c) :
    KeysAt L (fun z => left z && !z.sameKey (sl x)) (ks ++ [x]) ∧ x ∉ ks := by
  have hno : x ∉ ks := fun hm => by rw [h.gone x hm] at hx; cases hx
  refine ⟨⟨?_, fun k hk => ?_, fun k hk => ?_, fun k hk => ?_⟩, hno⟩
  · refine List.nodup_append.2 ⟨h.nd, by simp, ?_⟩
    intro a ha b hb e
    subst e
    rw [List.mem_singleton.1 hb] at ha
    exact hno ha
  · rcases List.mem_append.1 hk with hk | hk
    · exact h.has k hk
    · rw [List.mem_singleton.1 hk, hc]; rfl
  · rcases List.mem_append.1 hk with hk | hk
    · show (left (sl k) && !_) = false
      rw [h.gone k hk]; rfl
    · rw [List.mem_singleton.1 hk]
      show (left (sl x) && !(sl x).sameKey (sl x)) = false
      rw [sl_same]; simp
  · rcases h.come k hk with h1 | h1
    · exact Or.inl (List.mem_append.2 (Or.inl h1))
    · by_cases e : k = x
      · exact Or.inl (by rw [e]; simp)
      · right
        show (left (sl k) && !(sl k).sameKey (sl x)) = true
        rw [h1, sl_other e]; rfl
theorem KeysAt.done {L : List P2} {left : Lit → Bool} {ks : List ByteArray} (h : KeysAt L left ks) (hl : ∀ kl, left kl = false) : ∀ k, k ∈ ks ↔ (lastV L k).isSome = true := by
  refine fun k => ⟨h.has k, fun hk => ?_⟩
  rcases h.come k hk with h1 | h1
  · exact h1
  · rw [hl] at h1; cases h1

/-- the loop over labels stands in block r: the names met so far, how many are to come at most -/
def Rg (w : World) (m : Option Nat) (r : Nat) (L : List P2) (ks : List ByteArray) (cnt : Nat) : Prop :=
  (m = none ∧ L = [] ∧ ks = [] ∧ cnt = 0 ∧ w.heap[r]? = some (.mapIter none 0 #[] 0)) ∨
  ∃ b n D left, m = some b ∧ w.ranges Tryz.prog 9 (plainElem Tryz.prog 9) b r n D left cnt ∧ AtV D L ∧ KeysAt L left ks ∧ n ≤ L.length ∧ ks.length + cnt ≤ L.length
/-- how many are to come -/
def toCome (w : World) (m : Option Nat) (r : Nat) : Nat := match m with | some b => w.rangeLeft b r | none => 0
theorem Rg.left {w : World} {m : Option Nat} {r : Nat} {L : List P2} {ks : List ByteArray} {cnt : Nat} (h : Rg w m r L ks cnt) : toCome w m r = cnt := by
  rcases h with ⟨rfl, _, _, rfl, _⟩ | ⟨b, n, D, left, rfl, h1, _⟩
  · rfl
  · exact h1.left_eq
theorem Rg.lt {w : World} {m : Option Nat} {r : Nat} {L : List P2} {ks : List ByteArray} {cnt : Nat} (h : Rg w m r L ks cnt) : r < w.heap.size := by
  rcases h with ⟨rfl, _, _, rfl, h⟩ | ⟨b, n, D, left, rfl, h1, _⟩
  · exact (Array.getElem?_eq_some_iff.1 h).1
  · exact h1.lt
theorem Rg.few {w : World} {m : Option Nat} {r : Nat} {L : List P2} {ks : List ByteArray} {cnt : Nat} (h : Rg w m r L ks cnt) : ks.length + cnt ≤ L.length := by
  rcases h with ⟨rfl, rfl, rfl, rfl, h⟩ | ⟨b, n, D, left, rfl, h1, _, _, _, h2⟩
  · exact Nat.le_refl _
  · exact h2
theorem Rg.nodup {w : World} {m : Option Nat} {r : Nat} {L : List P2} {ks : List ByteArray} {cnt : Nat} (h : Rg w m r L ks cnt) : ks.Nodup ∧ ∀ k ∈ ks, (lastV L k).isSome = true := by
  rcases h with ⟨rfl, rfl, rfl, rfl, h⟩ | ⟨b, n, D, left, rfl, h1, _, h2, _⟩
  · exact ⟨List.nodup_nil, fun k h => by simp at h⟩
  · exact ⟨h2.nd, h2.has⟩
theorem Rg.kept {w w' : World} {m : Option Nat} {r : Nat} {L : List P2} {ks : List ByteArray} {cnt : Nat} {row : Option Nat} (h : Rg w m r L ks cnt) (k : w.grownBy w' row) (hr : some r ≠ row) (hm : ∀ b, m = some b → some b ≠ row) : Rg w' m r L ks cnt := by
  rcases h with ⟨h0, h1, h2, h3, h⟩ | ⟨b, n, D, left, h0, h1, h2⟩
  · exact Or.inl ⟨h0, h1, h2, h3, (k.block r (Array.getElem?_eq_some_iff.1 h).1 hr).trans h⟩
  · exact Or.inr ⟨b, n, D, left, h0, h1.kept k (hm b h0) hr, h2⟩

section
variable (w : World) {ops : Array Oper} {rest : List Oper} {o : Oper} {a : Act} {Q : Exit → Act → World → Prop} {m : Option Nat} {L : List P2}
theorem len_ms (hg : o.guard = none) (x : Operand) (hop : o.op = Op.call { callee := Callee.builtin Builtin.len, args := #[x], argTypes := #[105] }) (hx : a.eval x = .map m) (hm : Ms w m L)
    (hK : ∀ n : Nat, n ≤ L.length → wpList Tryz.prog ops Q rest (a.put o.dst (.int .i64 n)) w) : wpList Tryz.prog ops Q (o :: rest) a w := by
  rcases hm with ⟨rfl, rfl⟩ | ⟨b, rfl, hne, n, D, hn, hown, hat⟩
  · refine wpList_plain hg fun K' hK' => ?_
    unfold Oper.wp
    simp [execOp, hop, resolve, invoke, builtin, hx, Builtin.len_, run_underlying Tryz.underlying105, Result.andThen, goInt]
    exact hK' _ _ (hK 0 (Nat.le_refl _))
  · exact wpList_len_own w hg x 105 hop 9 9 Tryz.underlying105 (plainElem Tryz.prog 9) b n D hx hown (hK _ (Nat.le_trans hown.size_le hn))
theorem len_run (hm : Ms w m L) : ∃ n : Nat, n ≤ L.length ∧ ∀ ty, (Builtin.len_ #[105] ty #[.map m]).run Tryz.prog w = .ok (.int .i64 n) w := by
  rcases hm with ⟨rfl, rfl⟩ | ⟨b, rfl, hne, n, D, hn, hown, hat⟩
  · exact ⟨0, Nat.le_refl _, fun ty => by simp [Builtin.len_, run_underlying Tryz.underlying105, Result.andThen, goInt]⟩
  · exact ⟨_, Nat.le_trans hown.size_le hn, fun ty => hown.len Tryz.underlying105 ty⟩
theorem range_ms (hg : o.guard = none) (x : Operand) (hop : o.op = Op.range 105 x) (hx : a.eval x = .map m) (hm : Ms w m L)
    (hK : ∀ w' cnt, Rg w' m w.heap.size L [] cnt → Below w.heap.size w w' → w'.heap.size = w.heap.size + 1 → wpList Tryz.prog ops Q rest (a.put o.dst (.pointer (some ⟨w.heap.size, 0, none⟩))) w') : wpList Tryz.prog ops Q (o :: rest) a w := by
  rcases hm with ⟨rfl, rfl⟩ | ⟨b, rfl, hne, n, D, hn, hown, hat⟩
  · refine wpList_plain hg fun K' hK' => ?_
    have hrun : (Instr.range 105 (.map none)).run Tryz.prog w = .ok (.pointer (some ⟨w.heap.size, 0, none⟩)) (w.alloc (.mapIter none 0 #[] 0)) := by
      simp [Instr.range, run_underlying Tryz.underlying105, Result.andThen]
    unfold Oper.wp
    simp [execOp, hop, hx, hrun, Result.andThen]
    refine hK' _ _ (hK _ 0 (Or.inl ⟨rfl, rfl, rfl, rfl, ?_⟩) ((Below.refl _ _).alloc (Nat.le_refl _) _) (by simp))
    exact heap_alloc_new w _
  · refine wpList_range_own w hg x 105 hop 9 9 lawS Tryz.underlying105 (plainElem Tryz.prog 9) b n D hx hown fun w' h1 h2 h3 => ?_
    have hsz := hown.size_le
    exact hK w' _ (Or.inr ⟨b, n, D, _, rfl, h1, hat, KeysAt.start hat, hn, by simp; omega⟩) ⟨h2.os, h2.tape, h2.output, h2.size, fun i hi => h2.block i hi (by simp)⟩ h3
theorem inv_s (key : Value) (kl : Lit) (h : keyOf Tryz.prog 9 key = some kl) : ∃ x, key = Value.string x := by
  obtain ⟨s, h1, _⟩ := string_of_keyOf Tryz.underlying9 h
  exact ⟨s, h1⟩
theorem inv_v (v : Value) (y : DataW Unit × List MemPlace) (h : plainElem Tryz.prog 9 v = some y) : ∃ c, v = Value.string c := by
  obtain ⟨s, h1, _⟩ := plainElem_string_inv Tryz.underlying9 h
  exact ⟨s, h1⟩
theorem next_ms {r cnt : Nat} {ks : List ByteArray} (hg : o.guard = none) (it : Operand) (hop : o.op = Op.next it false) (hit : a.eval it = .pointer (some ⟨r, 0, none⟩)) (h : Rg w m r L ks cnt)
    (hDone : (∀ k, k ∈ ks ↔ (lastV L k).isSome = true) → wpList Tryz.prog ops Q rest (a.put o.dst (.tuple #[.bool false])) w)
    (hMore : ∀ (x c : ByteArray) (w' : World) (cnt' : Nat), lastV L x = some c → x ∉ ks → Rg w' m r L (ks ++ [x]) cnt' → cnt' < cnt → w.grownBy w' (some r) → w'.heap.size = w.heap.size →
      (Instr.entry (.pointer (some ⟨r, 0, none⟩))).run Tryz.prog w' = .ok (.tuple #[.string x, .string c]) w' → wpList Tryz.prog ops Q rest (a.put o.dst (.tuple #[.bool true, .string x, .string c])) w') :
    wpList Tryz.prog ops Q (o :: rest) a w := by
  rcases h with ⟨rfl, rfl, rfl, rfl, h⟩ | ⟨b, n, D, left, rfl, hrg, hat, hka, hn, hfew⟩
  · refine wpList_plain hg fun K' hK' => ?_
    have hrun : ∀ ty, (Instr.next (.pointer (some ⟨r, 0, none⟩)) false ty).run Tryz.prog w = .ok (.tuple #[.bool false]) w := fun ty => by
      simp only [Instr.next, getObj, Sem.run_bind, Sem.run, h, Result.andThen]
      rfl
    unfold Oper.wp
    simp [execOp, hop, hit, hrun, Result.andThen]
    exact hK' _ _ (hDone (fun k => by simp [lastV]))
  · refine wpList_next_ranges w hg it hop 9 lawS (plainElem Tryz.prog 9) Value.string Value.string inv_s inv_v b r n D left cnt hit hrg (fun _ hl => hDone (hka.done hl)) ?_
    intro x c kl y w' cnt' hkey hlk hR hatx hrg' hlt hgr hsz hen
    obtain ⟨x', hx1, hx2, hx3⟩ := string_of_keyOf Tryz.underlying9 hkey
    injection hx1 with hx1
    subst hx1
    have hkl : kl = sl x := hx2
    subst hkl
    obtain ⟨c', hc1, hc2, _⟩ := plainElem_string_inv Tryz.underlying9 hR
    injection hc1 with hc1
    subst hc1
    have hl : lastV L x = some c := last_at hat (fun z => by rw [hatx z, hc2]; rfl)
    have hst := hka.step hlk hl
    exact hMore x c w' cnt' hl hst.2 (Or.inr ⟨b, n, D, _, rfl, hrg', hat, hst.1, hn, by simp; omega⟩) hlt hgr hsz hen
set_option maxRecDepth 100000 in
theorem look_ms (hm : Ms w m L) {s c : ByteArray} (hl : lastV L s = some c) (hs : s.size ≤ maxLen) :
    (Instr.lookup 105 (.map m) (.string s) false).run Tryz.prog w = .ok (.string c) w := by
  rcases hm with ⟨rfl, rfl⟩ | ⟨b, rfl, hne, n, D, hn, ⟨es, clock, hb, F, _, hD⟩, hat⟩
  · simp [lastV] at hl
  · rcases Maps.fit_look false lawS Tryz.underlying105 (zeroStr w) hb F (keyOf_string_mk Tryz.underlying9 (s := s) hs) with ⟨hrun, _, h3⟩ | ⟨e0, y, hm, hk, hrun, hR, h3, _⟩
    · have h4 := hat s .nil
      rw [hD] at h4
      have h5 := h3 DataW.nil
      rw [hl] at h4
      exact absurd (h4.symm.trans h5) (by intro e; cases e)
    · have h4 := hat s .nil
      rw [hD] at h4
      have h5 := h3 DataW.nil
      obtain ⟨s2, e1, e2, _⟩ := plainElem_string_inv Tryz.underlying9 hR
      rw [e2] at h5
      rw [hl] at h4
      have h6 := h4.symm.trans h5
      injection h6 with h6
      rw [hrun, e1]
      have : c = s2 := sl_inj h6
      rw [this]; rfl
end

end Go.Proofs.YtlolomodcbkblaaGreatDoor.Nd

set_option linter.unusedVariables false
set_option linter.unusedSimpArgs false
namespace Go.Proofs.YtlolomodcbkblaaGreatDoor.Nd
open Go.RowKit Go.Maps Go.WideMaps Go.ChangeShapes Go.WideShapes Go.Deep Fp Obs

section
variable {P : Program} (w : World) {ops : Array Oper} {rest : List Oper} {o : Oper} {a : Act} {Q : Exit → Act → World → Prop}
theorem make_one (hg : o.guard = none) (l c : Operand) (t : TypeId) (hop : o.op = Op.makeSlice t l c)
    (base : Nat) (e : TypeId) (i : TypeInfo) (z : Value) (h1 : P.underlying t = some (.slice e)) (h2 : P.info? e = some i) (h3 : i.zero = some z) (h4 : i.size = 1) (hz : z.cells = #[z])
    (C : Int) (n : Nat) (hl : a.eval l = .int .i64 1) (hc : a.eval c = .int .i64 C) (hC : C = ((n + 1 : Nat) : Int)) (b2 : i.bytes * (n + 1) ≤ 281474976710656) (b3 : n + 1 ≤ maxLen) (b4 : base ≤ w.heap.size)
    (hK : ∀ w', w'.ownsRow base e 1 (.slice (some ⟨w.heap.size, 0, none⟩) 1 (n + 1)) 1 [z] → w.grownBy w' none → wpList P ops Q rest (a.put o.dst (.slice (some ⟨w.heap.size, 0, none⟩) 1 (n + 1))) w') :
    wpList P ops Q (o :: rest) a w := by
  refine wpList_plain hg fun K hK' => ?_
  have h63' : ((n + 1 : Nat) : Int) ≤ 9223372036854775807 := by
    have h := b3
    simp [maxLen] at h
    omega
  have hb' : (i.bytes : Int) * ((n + 1 : Nat) : Int) ≤ 281474976710656 := by
    have h : ((i.bytes * (n + 1) : Nat) : Int) ≤ 281474976710656 := by omega
    rwa [Int.natCast_mul] at h
  have hr := run_make (P := P) w t e i z h1 h2 h3 .i64 .i64 1 ((n + 1 : Nat) : Int) (by decide) (by omega) hb' h63'
  subst hC
  have e1 : ((n + 1 : Nat) : Int).toNat = n + 1 := by omega
  have e2 : (1 : Int).toNat = 1 := rfl
  rw [e1, e2] at hr
  unfold Oper.wp
  simp [execOp, hop, hl, hc] at hr ⊢
  rw [hr]
  simp only [Result.andThen]
  refine hK' _ _ (hK _ ⟨rfl, Or.inr ⟨w.heap.size, n + 1, _, rfl, b4, heap_alloc_new w _, by omega, b3, ?_, ?_⟩⟩ (World.grownBy_alloc w _ none))
  · rw [size_madeCells, h4]
  · rw [h4, hz]
    simp [madeCells, List.range_succ_eq_map]
end
end Go.Proofs.YtlolomodcbkblaaGreatDoor.Nd
