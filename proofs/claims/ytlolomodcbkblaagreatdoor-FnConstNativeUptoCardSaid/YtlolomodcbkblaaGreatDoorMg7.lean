/- Descriptors: 'append' inside a region that draws. Descriptors: a descriptor's data handed on (laws.metaTo). Native buckets: those of a constant histogram brought into bounds (laws.cellsFit), and their sum (spec.NativeTotal). -/
import Derived.Test.YtlolomodcbkblaaGreatDoorNsb
import Derived.Deep.RegionHeld3
import Derived.Test.YtlolomodcbkblaaGreatDoorNdm
import Derived.Test.YtlolomodcbkblaaGreatDoorMg2
import Derived.Test.YtlolomodcbkblaaGreatDoorMg3
set_option linter.unusedVariables false
set_option linter.unusedSimpArgs false
namespace Go.Proofs.YtlolomodcbkblaaGreatDoor.Nd
open Go.RowKit Go.Maps Go.WideMaps Go.ChangeShapes Go.WideShapes Go.Deep Fp

section
variable {P : Program} {w : World}
/-- 'append' to a row of the call's own of whatever slice is read as a list, inside a region that draws -/
theorem step_of {α : Type} {ops : Array Oper} {o : Oper} {a : Act} {K : Act → World → Prop} {Q : Exit → Act → World → Prop} {E : Prop} (hgd : o.guard = none) (s x : Operand) (t : TypeId)
    (ho : o.op = .call { callee := .builtin .append, args := #[s, x], argTypes := #[t, t] })
    (base : Nat) (e : TypeId) (i : TypeInfo) (z : Value) (size bytes : Nat) (ht : P.underlying t = some (.slice e)) (hi : P.info? e = some i) (hz : i.zero = some z)
    (hsize : i.size = size) (hby : i.bytes = bytes) (hzs : z.cells.size = size) (hsz : 0 < size)
    (v : Value) (n : Nat) (xs : List Value) (hs : a.eval s = v) (hown : w.ownsRow base e size v n xs)
    {c : α → List Value} (hc : ∀ z, (c z).length = size) (h1 : ∀ z, ∀ u ∈ c z, u.oneCell' = true) (zs : List α) (vx : Value) (hx : a.eval x = vx) (hof : Ss.Of size c w vx zs)
    (h63 : n + zs.length ≤ maxLen) (hbytes : (n + zs.length) * bytes ≤ 140737488355328) (hbase : base ≤ w.heap.size)
    (h : ∀ v' w', w'.ownsRow base e size v' (n + zs.length) (xs ++ zs.flatMap c) → w.grownBy w' v.ownBlock → (v'.ownBlock = v.ownBlock ∨ v'.ownBlock = some w.heap.size) → K (a.put o.dst v') w') :
    if Region.wanted o (yielded ops a.tmps) = true then Oper.wp P o a w K Q else E := by
  have hw : Region.wanted o (yielded ops a.tmps) = true := by simp [Region.wanted, hgd]
  rw [if_pos hw]
  have hrun : ∃ v' w', (Builtin.append_ #[t, t] o.type #[v, vx]).run P w = .ok v' w' ∧ w'.ownsRow base e size v' (n + zs.length) (xs ++ zs.flatMap c) ∧ w.grownBy w' v.ownBlock ∧ (v'.ownBlock = v.ownBlock ∨ v'.ownBlock = some w.heap.size) := by
    rcases hof with ⟨rfl, ax, cx, rfl, hcx⟩ | ⟨b, off, cap, rfl, h0, hcap, hm, hb, hcell⟩
    · obtain ⟨av, cv, hv, hn⟩ : ∃ av cv, v = .slice av n cv ∧ n ≤ cv := by
        rcases hown.2 with ⟨rfl, rfl⟩ | ⟨g, cap, cur, rfl, hbg, hg, hn, hcm, hcs, htake⟩
        · exact ⟨none, 0, rfl, Nat.le_refl _⟩
        · exact ⟨_, cap, rfl, hn⟩
      subst hv
      refine ⟨_, _, ?_, by simpa using hown, ⟨rfl, rfl, rfl, Nat.le_refl _, fun _ _ _ => rfl⟩, Or.inl rfl⟩
      refine run_append_nothing w t t o.type e i ht hi av n cv hn _ ⟨Or.inl ⟨e, ht⟩, fun w' => ?_, ?_, ?_, by simp, by simp⟩
      all_goals cases ax <;> simp [Builtin.lenOf, Builtin.firstCells, loadCells, loadCellsFrom]
    · obtain ⟨v', w', hr, h2, h3, h4, h5⟩ := run_append_own_at (P := P) w base t o.type e i z size bytes ht hi hz hsize hby hzs hsz v n xs hown ⟨b, off, none⟩ zs.length cap (zs.flatMap c) (Ss.flat_len hc zs)
        (fun j u hu => by
          obtain ⟨q, hq, r, rfl, hur⟩ := flat_at hsz hc zs j u hu
          rw [Addr.add_lit]
          exact hcell q hq r u hur)
        (fun u hu => by
          obtain ⟨z, _, hz⟩ := List.mem_flatMap.1 hu
          exact h1 z u hz) h63 hbytes hbase
      exact ⟨v', w', hr, h2, h3, h5⟩
  obtain ⟨v', w', hr, h2, h3, h5⟩ := hrun
  unfold Oper.wp execOp
  simp only [ho, resolve, invoke, builtin, Sem.run_bind, Sem.run_pure, Result.andThen_ok, List.map_toArray, List.map_cons, List.map_nil, hs, hx, hr]
  exact h v' w' h2 h3 h5
end

end Go.Proofs.YtlolomodcbkblaaGreatDoor.Nd

set_option linter.unusedVariables false
set_option linter.unusedSimpArgs false
namespace Go.Proofs.YtlolomodcbkblaaGreatDoor.Nd
open Go.RowKit Go.Maps Go.WideMaps Go.ChangeShapes Go.WideShapes Go.Deep Fp

/-- a store into another block leaves an own row -/
theorem own_base {W : World} {B B' e sz n : Nat} {u : Value} {xs : List Value} (h : W.ownsRow B e sz u n xs) (hb : B' ≤ B) : W.ownsRow B' e sz u n xs := by
  refine ⟨h.1, ?_⟩
  rcases h.2 with ⟨h1, h2⟩ | ⟨g, cap, cur, h1, h2, h3⟩
  · exact Or.inl ⟨h1, h2⟩
  · exact Or.inr ⟨g, cap, cur, h1, Nat.le_trans hb h2, h3⟩
theorem own_below {W W' : World} {B e sz n : Nat} {u : Value} {xs : List Value} (h : W.ownsRow B e sz u n xs) (hb : Below W.heap.size W W') : W'.ownsRow B e sz u n xs :=
  h.kept (row := none) ⟨hb.os, hb.tape, hb.output, hb.size, fun i hi _ => hb.block i hi⟩ (by cases u.ownBlock <;> simp)
theorem own_set {W : World} {B e sz n b j : Nat} {v u : Value} {xs : List Value} (h : W.ownsRow B e sz v n xs) (hb : b < B) : (W.setCell ⟨b, j, none⟩ u).ownsRow B e sz v n xs :=
  h.kept (row := some b) ⟨rfl, rfl, rfl, by simp [World.setCell], fun i hi hne => Below.heap_setCell W ⟨b, j, none⟩ u i (fun e => hne (congrArg some e))⟩ (by
    cases hv : v.ownBlock with
    | none => exact Or.inl rfl
    | some g => exact Or.inr (by have := (h.lt g hv).1; intro e; injection e with e; omega))
def MetaOut (nm hp un : ByteArray) (V : List ByteArray) (L : List P2) (w : World) (e : Ending) (w' : World) : Prop :=
  ∃ v2 c2, e = .returned (.agg #[.string nm, .string hp, .string un, v2, c2]) ∧ Sl.Of Value.string w' v2 V ∧ Ss.Of 2 pc w' c2 L ∧ Below w.heap.size w w'

set_option maxHeartbeats 16000000 in
set_option maxRecDepth 100000 in
theorem metaTo_any (mv : Value) (nm hp un : ByteArray) (V : List ByteArray) (L : List P2) (w : World) (hm : MetaAt w mv nm hp un V L) :
    Calls Tryz.prog 23 #[mv] w (MetaOut nm hp un V L w) := by
  obtain ⟨i0, hi, hz0, hz1, hz2⟩ := info_parts infoS
  obtain ⟨vv, cv, rfl, hvv, hcv⟩ := hm.val
  have hLV := hm.lenV
  have hLL := hm.lenL
  have HV : Hid (∀ W : World, Below w.heap.size w W → Ss.Of 1 (fun z => [Value.string z]) W vv V) := fun W h => (sl_ss hvv).below h
  have HL : Hid (∀ W : World, Below w.heap.size w W → Ss.Of 2 pc W cv L) := fun W h => hcv.below h
  have HOneV : Hid (∀ z : ByteArray, ∀ u ∈ [Value.string z], u.oneCell' = true) := fun z => one_str z
  have s1 : (w.alloc (.cells #[.string nm, .string hp, .string un, vv, cv] 66)).heap.size = w.heap.size + 1 := by simp
  have s2 : ((w.alloc (.cells #[.string nm, .string hp, .string un, vv, cv] 66)).alloc (.cells #[.string ⟨#[]⟩, .string ⟨#[]⟩, .string ⟨#[]⟩, .slice none 0 0, .slice none 0 0] 74)).heap.size = w.heap.size + 1 + 1 := by simp
  have s3 : (((w.alloc (.cells #[.string nm, .string hp, .string un, vv, cv] 66)).alloc (.cells #[.string ⟨#[]⟩, .string ⟨#[]⟩, .string ⟨#[]⟩, .slice none 0 0, .slice none 0 0] 74)).alloc (.cells #[] 9)).drew.heap.size = w.heap.size + 1 + 1 + 1 := by simp [World.drew]
  have hqb : Below w.heap.size w ((w.alloc (.cells #[.string nm, .string hp, .string un, vv, cv] 66)).alloc (.cells #[.string ⟨#[]⟩, .string ⟨#[]⟩, .string ⟨#[]⟩, .slice none 0 0, .slice none 0 0] 74)) := ((Below.refl _ _).alloc (Nat.le_refl _) _).alloc (by simp) _
  have hqd : Below (w.heap.size + 1 + 1) ((w.alloc (.cells #[.string nm, .string hp, .string un, vv, cv] 66)).alloc (.cells #[.string ⟨#[]⟩, .string ⟨#[]⟩, .string ⟨#[]⟩, .slice none 0 0, .slice none 0 0] 74)) (((w.alloc (.cells #[.string nm, .string hp, .string un, vv, cv] 66)).alloc (.cells #[.string ⟨#[]⟩, .string ⟨#[]⟩, .string ⟨#[]⟩, .slice none 0 0, .slice none 0 0] 74)).alloc (.cells #[] 9)).drew := bdr ((Below.refl _ _).alloc (by rw [s2]; exact Nat.le_refl _) _) 1
  have HUp : Hid (∀ W : World, Below (w.heap.size + 1 + 1) ((w.alloc (.cells #[.string nm, .string hp, .string un, vv, cv] 66)).alloc (.cells #[.string ⟨#[]⟩, .string ⟨#[]⟩, .string ⟨#[]⟩, .slice none 0 0, .slice none 0 0] 74)) W → Below w.heap.size w W) := fun W h => hqb.trans (h.mono (by omega))
  have hgn := heap_alloc_new ((w.alloc (.cells #[.string nm, .string hp, .string un, vv, cv] 66)).alloc (.cells #[.string ⟨#[]⟩, .string ⟨#[]⟩, .string ⟨#[]⟩, .slice none 0 0, .slice none 0 0] 74)) (.cells #[] 9)
  rw [s2] at hgn
  have HNil : Hid ((((w.alloc (.cells #[.string nm, .string hp, .string un, vv, cv] 66)).alloc (.cells #[.string ⟨#[]⟩, .string ⟨#[]⟩, .string ⟨#[]⟩, .slice none 0 0, .slice none 0 0] 74)).alloc (.cells #[] 9)).drew.ownsRow (w.heap.size + 1 + 1) 9 1 (.slice (some ⟨w.heap.size + 1 + 1, 0, none⟩) 0 0) 0 []) :=
    ⟨rfl, Or.inr ⟨w.heap.size + 1 + 1, 0, #[], rfl, Nat.le_refl _, hgn, Nat.le_refl _, by unfold maxLen; omega, rfl, rfl⟩⟩
  have HC : Hid (∀ W : World, Below (w.heap.size + 1 + 1) ((w.alloc (.cells #[.string nm, .string hp, .string un, vv, cv] 66)).alloc (.cells #[.string ⟨#[]⟩, .string ⟨#[]⟩, .string ⟨#[]⟩, .slice none 0 0, .slice none 0 0] 74)) W → W.cell? ⟨w.heap.size, 0, none⟩ = some (.string nm) ∧ W.cell? ⟨w.heap.size, 1, none⟩ = some (.string hp) ∧ W.cell? ⟨w.heap.size, 2, none⟩ = some (.string un) ∧ W.cell? ⟨w.heap.size, 3, none⟩ = some vv ∧ W.cell? ⟨w.heap.size, 4, none⟩ = some cv) := fun W h => by
    have e : ∀ j, W.cell? ⟨w.heap.size, j, none⟩ = (#[.string nm, .string hp, .string un, vv, cv] : Array Value)[j]? := fun j => ((h.cell (p := ⟨w.heap.size, j, none⟩) (by show w.heap.size < w.heap.size + 1 + 1; omega)).trans (Sl.cell_old (w.alloc (.cells #[.string nm, .string hp, .string un, vv, cv] 66)) _ _ _ (by rw [s1]; omega))).trans (Sl.cell_new w _ _ j)
    exact ⟨e 0, e 1, e 2, e 3, e 4⟩
  have HD : Hid (∀ W : World, Below (w.heap.size + 1 + 1) ((w.alloc (.cells #[.string nm, .string hp, .string un, vv, cv] 66)).alloc (.cells #[.string ⟨#[]⟩, .string ⟨#[]⟩, .string ⟨#[]⟩, .slice none 0 0, .slice none 0 0] 74)) W → W.heap[w.heap.size + 1]? = some (.cells #[.string ⟨#[]⟩, .string ⟨#[]⟩, .string ⟨#[]⟩, .slice none 0 0, .slice none 0 0] 74 (0, 0))) := fun W h => by
    have h1 := heap_alloc_new (w.alloc (.cells #[.string nm, .string hp, .string un, vv, cv] 66)) (.cells #[.string ⟨#[]⟩, .string ⟨#[]⟩, .string ⟨#[]⟩, .slice none 0 0, .slice none 0 0] 74)
    rw [s1] at h1
    exact (h.block (w.heap.size + 1) (by omega)).trans h1
  have HAp : Hid (∀ v' W', W'.ownsRow (w.heap.size + 1 + 1) 9 1 v' (0 + V.length) ([] ++ V.flatMap fun z => [Value.string z]) → (((w.alloc (.cells #[.string nm, .string hp, .string un, vv, cv] 66)).alloc (.cells #[.string ⟨#[]⟩, .string ⟨#[]⟩, .string ⟨#[]⟩, .slice none 0 0, .slice none 0 0] 74)).alloc (.cells #[] 9)).drew.grownBy W' (Value.slice (some ⟨w.heap.size + 1 + 1, 0, none⟩) 0 0).ownBlock → Below (w.heap.size + 1 + 1) ((w.alloc (.cells #[.string nm, .string hp, .string un, vv, cv] 66)).alloc (.cells #[.string ⟨#[]⟩, .string ⟨#[]⟩, .string ⟨#[]⟩, .slice none 0 0, .slice none 0 0] 74)) W' ∧ W'.ownsRow (w.heap.size + 1 + 1) 9 1 v' V.length (V.map Value.string)) := fun v' W' ho hg => by
    refine ⟨hqd.grown hg (by rw [s3]; omega) (fun j hj => by have h9 : some (w.heap.size + 1 + 1) = some j := hj; injection h9 with h9; omega), ?_⟩
    have e6 : ([] ++ V.flatMap fun z => [Value.string z]) = V.map Value.string := by rw [List.nil_append]; exact flat_one V
    rw [e6, Nat.zero_add] at ho
    exact ho
  have k0 := Lib.hid (HC.out ((w.alloc (.cells #[.string nm, .string hp, .string un, vv, cv] 66)).alloc (.cells #[.string ⟨#[]⟩, .string ⟨#[]⟩, .string ⟨#[]⟩, .slice none 0 0, .slice none 0 0] 74)) (Below.refl _ _))
  have k1 := Lib.hid (HC.out (((w.alloc (.cells #[.string nm, .string hp, .string un, vv, cv] 66)).alloc (.cells #[.string ⟨#[]⟩, .string ⟨#[]⟩, .string ⟨#[]⟩, .slice none 0 0, .slice none 0 0] 74)).alloc (.cells #[] 9)).drew hqd)
  have k5 := Lib.hid (HC.out (((w.alloc (.cells #[.string nm, .string hp, .string un, vv, cv] 66)).alloc (.cells #[.string ⟨#[]⟩, .string ⟨#[]⟩, .string ⟨#[]⟩, .slice none 0 0, .slice none 0 0] 74)).alloc (.cells #[] 9)) ((Below.refl _ _).alloc (by rw [s2]; exact Nat.le_refl _) _))
  have k6 := Lib.hid (HC.out ((w.alloc (.cells #[.string nm, .string hp, .string un, vv, cv] 66)).alloc (.cells #[.string ⟨#[]⟩, .string ⟨#[]⟩, .string ⟨#[]⟩, .slice none 0 0, .slice none 0 0] 74)).drew (bdr (Below.refl _ _) 1))
  have HQD := Lib.hid (HUp.out _ hqd)
  have HLb : Hid (∀ v2 W2 c2 W3, Below (w.heap.size + 1 + 1) ((w.alloc (.cells #[.string nm, .string hp, .string un, vv, cv] 66)).alloc (.cells #[.string ⟨#[]⟩, .string ⟨#[]⟩, .string ⟨#[]⟩, .slice none 0 0, .slice none 0 0] 74)) W2 → W2.ownsRow (w.heap.size + 1 + 1) 9 1 v2 V.length (V.map Value.string) → W3.ownsRow W2.heap.size 211 2 c2 L.length (L.flatMap pc) → Below W2.heap.size W2 W3 → Below (w.heap.size + 1 + 1) ((w.alloc (.cells #[.string nm, .string hp, .string un, vv, cv] 66)).alloc (.cells #[.string ⟨#[]⟩, .string ⟨#[]⟩, .string ⟨#[]⟩, .slice none 0 0, .slice none 0 0] 74)) W3 ∧ W3.ownsRow (w.heap.size + 1 + 1) 9 1 v2 V.length (V.map Value.string) ∧ W3.ownsRow (w.heap.size + 1 + 1) 211 2 c2 L.length (L.flatMap pc)) := fun v2 W2 c2 W3 hb2 hv2 hc3 hb3 => by
    have hz2 := hb2.size
    exact ⟨hb2.trans (hb3.mono (by omega)), own_below hv2 hb3, own_base hc3 (by omega)⟩
  have HFn : Hid (∀ v2 c2 W3 u0 u1 u2 u3 u4, Below (w.heap.size + 1 + 1) ((w.alloc (.cells #[.string nm, .string hp, .string un, vv, cv] 66)).alloc (.cells #[.string ⟨#[]⟩, .string ⟨#[]⟩, .string ⟨#[]⟩, .slice none 0 0, .slice none 0 0] 74)) W3 ∧ W3.ownsRow (w.heap.size + 1 + 1) 9 1 v2 V.length (V.map Value.string) ∧ W3.ownsRow (w.heap.size + 1 + 1) 211 2 c2 L.length (L.flatMap pc) →
      MetaOut nm hp un V L w (.returned (.agg #[.string nm, .string hp, .string un, v2, c2])) (((((W3.setCell ⟨w.heap.size + 1, 0, none⟩ u0).setCell ⟨w.heap.size + 1, 1, none⟩ u1).setCell ⟨w.heap.size + 1, 2, none⟩ u2).setCell ⟨w.heap.size + 1, 3, none⟩ u3).setCell ⟨w.heap.size + 1, 4, none⟩ u4)) := fun v2 c2 W3 u0 u1 u2 u3 u4 ⟨hb, h2, h3⟩ => by
    have l1 : w.heap.size + 1 < w.heap.size + 1 + 1 := by omega
    have l2 : w.heap.size ≤ w.heap.size + 1 := by omega
    exact ⟨v2, c2, rfl, Sl.Of.own (own_set (own_set (own_set (own_set (own_set h2 l1) l1) l1) l1) l1), Ss.Of.own pc_len (own_set (own_set (own_set (own_set (own_set h3 l1) l1) l1) l1) l1), (((((hqb.trans (hb.mono (by omega))).setCell l2 _).setCell l2 _).setCell l2 _).setCell l2 _).setCell l2 _⟩
  have HDc : Hid (∀ W : World, Below (w.heap.size + 1 + 1) ((w.alloc (.cells #[.string nm, .string hp, .string un, vv, cv] 66)).alloc (.cells #[.string ⟨#[]⟩, .string ⟨#[]⟩, .string ⟨#[]⟩, .slice none 0 0, .slice none 0 0] 74)) W → W.cell? ⟨w.heap.size + 1, 0, none⟩ = some (.string ⟨#[]⟩) ∧ W.cell? ⟨w.heap.size + 1, 1, none⟩ = some (.string ⟨#[]⟩) ∧ W.cell? ⟨w.heap.size + 1, 2, none⟩ = some (.string ⟨#[]⟩) ∧ W.cell? ⟨w.heap.size + 1, 3, none⟩ = some (.slice none 0 0) ∧ W.cell? ⟨w.heap.size + 1, 4, none⟩ = some (.slice none 0 0)) := fun W h =>
    have hW : Obs.Whole W (w.heap.size + 1) 74 _ := HD.out W h
    ⟨hW.cell 0, hW.cell 1, hW.cell 2, hW.cell 3, hW.cell 4⟩
  have HDf : Hid (∀ W : World, Below (w.heap.size + 1 + 1) ((w.alloc (.cells #[.string nm, .string hp, .string un, vv, cv] 66)).alloc (.cells #[.string ⟨#[]⟩, .string ⟨#[]⟩, .string ⟨#[]⟩, .slice none 0 0, .slice none 0 0] 74)) W → ∀ j, W.frozen? ⟨w.heap.size + 1, j, none⟩ = false) := fun W h j =>
    have hW : Obs.Whole W (w.heap.size + 1) 74 _ := HD.out W h
    hW.free j
  have hFar : Hid (∀ (W : World) (i j : Nat) (u : Value), (W.setCell ⟨w.heap.size + 1, i, none⟩ u).cell? ⟨w.heap.size, j, none⟩ = W.cell? ⟨w.heap.size, j, none⟩) := fun W i j u => World.cell?_setCell_far W _ _ u (by show w.heap.size + 1 ≠ w.heap.size; omega)
  clear hvv hcv hm hqb hqd hgn
  go_enter Tryz.func23, Tryz.ntmps23
  go_wp2_with fail
  go_region_held3 (fun w' => w'.cell? ⟨w.heap.size, 0, none⟩ = some (.string nm) ∧ w'.cell? ⟨w.heap.size, 1, none⟩ = some (.string hp) ∧ w'.cell? ⟨w.heap.size, 2, none⟩ = some (.string un) ∧ w'.cell? ⟨w.heap.size, 3, none⟩ = some vv ∧ w'.cell? ⟨w.heap.size, 4, none⟩ = some cv) (first | (with_reducible exact k0.out) | (with_reducible exact k1.out) | (with_reducible exact k5.out) | (with_reducible exact k6.out) | (with_reducible exact k2) | (with_reducible exact k3) | (simp only [hFar.out]; with_reducible exact k3))
    (first
      | ((fail_if_success (have := HA2.out)); refine step_of (by rfl) (.tmp 9) (.tmp 11) 64 (by rfl) (w.heap.size + 1 + 1) 9 i0 (.string ByteArray.empty) 1 16 Tryz.underlying64 hi hz0 hz1 hz2 rfl (by decide) _ 0 [] (by rfl) HNil.out (c := fun z => [Value.string z]) (fun _ => rfl) HOneV.out V vv (by rfl) (HV.out _ HQD.out) (by unfold maxLen; omega) (by omega) (Nat.le_of_lt (by rw [s3]; omega)) ?_; intro v2 W2 ho2 hg2 hl2; obtain ⟨a2, q2, rfl⟩ := row_slice2 ho2; have HA2 := Lib.hid (HAp.out _ W2 ho2 hg2); have k2 := HC.out W2 HA2.out.1; clear ho2 hg2 hl2)
      | (go_at_call 68; refine (pairsTo_own L cv _ (HL.out _ (HUp.out _ HA2.out.1)) (by omega)).mono ?_; rintro e W3 ⟨c2, rfl, hc3, hb3⟩; obtain ⟨a3, q3, rfl⟩ := row_slice2 hc3; have HD3 := Lib.hid (HLb.out _ W2 _ W3 HA2.out.1 HA2.out.2 hc3 hb3); have k3 := HC.out W3 HD3.out.1; obtain ⟨m0, m1, m2, m3, m4⟩ := HDc.out W3 HD3.out.1; have n0 := HDf.out W3 HD3.out.1 0; have n1 := HDf.out W3 HD3.out.1 1; have n2 := HDf.out W3 HD3.out.1 2; have n3 := HDf.out W3 HD3.out.1 3; have n4 := HDf.out W3 HD3.out.1 4; clear hc3 hb3))
  have HD4 := HD3.out
  rw [Nat.zero_add] at HD4
  have HD5 := Lib.hid HD4
  clear HLb HAp HD4 HD3 HA2 HC HD HDc HDf
  go_wp2_with fail
  refine bodyPost_ret (v := .agg #[.string nm, .string hp, .string un, .slice a2 V.length q2, .slice a3 L.length q3]) (by simp [results, Tryz.results23, go_sem, m0, m1, m2, m3, m4]) rfl ?_
  exact HFn.out _ _ _ _ _ _ _ _ HD5.out

end Go.Proofs.YtlolomodcbkblaaGreatDoor.Nd

set_option linter.unusedVariables false
set_option linter.unusedSimpArgs false
namespace Go.Proofs.YtlolomodcbkblaaGreatDoor.Cn
open Go.RowKit Go.Maps Go.WideMaps Go.ChangeShapes Go.WideShapes Go.Deep Fp _root_.Go.Proofs.YtlolomodcbkblaaGreatDoor.Sp

/-- a bucket in bounds -/
def cf (p : N2) : N2 := (p.1.tmod 1048576, if p.2.tmod 1073741824 < 0 then -(p.2.tmod 1073741824) else p.2.tmod 1073741824)
theorem tmod_in (x m : Int) (hm : 0 < m) : -m < x.tmod m ∧ x.tmod m < m := by
  have q1 := Int.tmod_lt_of_pos x hm
  have q2 := Int.tmod_lt_of_pos (-x) hm
  rw [Int.neg_tmod] at q2
  omega
theorem cf_in (p : N2) : (-1048576 < (cf p).1 ∧ (cf p).1 < 1048576) ∧ 0 ≤ (cf p).2 ∧ (cf p).2 < 1073741824 := by
  have h1 := tmod_in p.1 1048576 (by decide)
  have h2 := tmod_in p.2 1073741824 (by decide)
  unfold cf
  refine ⟨h1, ?_⟩
  dsimp only
  split <;> omega
theorem wrap_in (x : Int) (h : -9223372036854775808 ≤ x ∧ x ≤ 9223372036854775807) : IntKind.i64.wrap x = x := IntWalk.i64_in _ h

set_option maxHeartbeats 8000000 in
set_option maxRecDepth 100000 in
theorem cellsFit_any (L : List N2) (v : Value) (w : World) (hof : Ss.Of 2 cc w v L) (hL : L.length ≤ 2147483647) :
    Calls Tryz.prog 20 #[v] w (FitsOut (L.map cf) w) := by
  obtain ⟨i0, hi, hz0, hz1, hz2⟩ := info_parts infoC
  obtain ⟨av, cv, rfl, _, _⟩ := hof.slice
  have HOf := Lib.hid hof
  have HG0 : Hid (GotT cc 143 w.heap.size 0 [] (.slice none 0 0) w w) := ⟨Nat.le_refl _, World.ownsRow_nil _ _ _ _, Below.refl _ _⟩
  clear hof
  go_enter Tryz.func20, Tryz.ntmps20
  go_wp2_with fail
  go_loopw [3, 4] (fun vu vk wr => ∃ (k : Nat) (u : Value), k ≤ L.length ∧ u = vu ∧ vk = .int .i64 (k : Int) ∧ Hid (GotT cc 143 w.heap.size k ((L.take k).map cf) u w wr)) (fun _ k _ => L.length - (intOf k).toNat)
  case atStart => exact ⟨0, _, Nat.zero_le _, rfl, rfl, HG0.out⟩
  case round =>
    obtain ⟨k, u, hk, rfl, rfl, hgot⟩ := hrel
    by_cases hlt : k < L.length
    · obtain ⟨b, off, hav, hb, d0, d1⟩ := cell_at HOf.out hlt
      have htk : (L.take (k + 1)).map cf = (L.take k).map cf ++ [cf L[k]] := by rw [List.take_succ_eq_append_getElem hlt, List.map_append]; rfl
      subst hav
      obtain ⟨x, y, hxy⟩ : ∃ x y, L[k] = (x, y) := ⟨_, _, rfl⟩
      rw [hxy] at d0 d1 htk
      obtain ⟨acc, hacc⟩ : ∃ acc, (L.take k).map cf = acc := ⟨_, rfl⟩
      rw [hacc] at hgot htk
      have hal := hgot.out.1
      have hbw := hgot.out.2.2
      have hsz : w.heap.size ≤ wr.heap.size := hbw.size
      have bx := tmod_in x 1048576 (by decide)
      have by' := tmod_in y 1073741824 (by decide)
      have hcut : cf (x, y) = (x.tmod 1048576, if y.tmod 1073741824 < 0 then -(y.tmod 1073741824) else y.tmod 1073741824) := rfl
      rw [hcut] at htk
      obtain ⟨x2, hx2⟩ : ∃ x2, x.tmod 1048576 = x2 := ⟨_, rfl⟩
      obtain ⟨y2, hy2⟩ : ∃ y2, y.tmod 1073741824 = y2 := ⟨_, rfl⟩
      have wx : IntKind.i64.wrap x2 = x2 := wrap_in _ (by omega)
      have wy : IntKind.i64.wrap y2 = y2 := wrap_in _ (by omega)
      have wn : IntKind.i64.wrap (-y2) = -y2 := wrap_in _ (by omega)
      rw [hx2, hy2] at htk
      have c0 : wr.cell? ⟨b, off + k * 2, none⟩ = some (.int .i64 x) := by rw [hbw.cell (p := ⟨b, off + k * 2, none⟩) hb]; exact d0
      have c1 : wr.cell? ⟨b, off + k * 2 + 1, none⟩ = some (.int .i64 y) := by rw [hbw.cell (p := ⟨b, off + k * 2 + 1, none⟩) hb]; exact d1
      have z1 : (0 : Int) ≤ (k : Int) := by omega
      have z2 : (k : Int) < (L.length : Int) := by omega
      obtain ⟨au, cu, rfl⟩ := row_slice2 hgot.out.2.1
      clear bx by' hcut d0 d1 hxy hbw hacc
      by_cases hneg : y2 < 0
      · rw [if_pos hneg] at htk
        have HTk := Lib.hid htk
        have HNews := Lib.hid (Ss.news_one wr #[.int .i64 x2, .int .i64 (-y2)] 143)
        clear htk
        go_wp2_with (first
          | (at_builtin; refine wpList_append_own_at _ rfl _ _ 67 rfl w.heap.size 143 i0 (.agg #[.int .i64 0, .int .i64 0]) 2 16 Tryz.underlying67 hi hz0 hz1 hz2 rfl (by decide) _ _ _ rfl (hgot.out.2.1.alloc _) ⟨wr.heap.size, 0, none⟩ 1 1 [.int .i64 x2, .int .i64 (-y2)] rfl rfl (by simpa using HNews.out) (ones2 [(x2, -y2)]) (by unfold maxLen; omega) (by omega) (by simp; omega) ?_; intro v2 W4 how hgw hnb hlc; have hg3 : Hid (GotT cc 143 w.heap.size (k + 1) ((L.take (k + 1)).map cf) v2 w W4) := (by show GotT _ _ _ _ _ _ _ _; rw [HTk.out]; exact hgot.out.app hsz how hgw); clear how hgw hnb hlc))
        go_roundw
        case rel => exact ⟨k + 1, _, by omega, rfl, by go_num, hg3.out⟩
        case measure => simp [intOf]; omega
      · rw [if_neg hneg] at htk
        have HTk := Lib.hid htk
        have HNews := Lib.hid (Ss.news_one wr #[.int .i64 x2, .int .i64 y2] 143)
        clear htk
        go_wp2_with (first
          | (at_builtin; refine wpList_append_own_at _ rfl _ _ 67 rfl w.heap.size 143 i0 (.agg #[.int .i64 0, .int .i64 0]) 2 16 Tryz.underlying67 hi hz0 hz1 hz2 rfl (by decide) _ _ _ rfl (hgot.out.2.1.alloc _) ⟨wr.heap.size, 0, none⟩ 1 1 [.int .i64 x2, .int .i64 y2] rfl rfl (by simpa using HNews.out) (ones2 [(x2, y2)]) (by unfold maxLen; omega) (by omega) (by simp; omega) ?_; intro v2 W4 how hgw hnb hlc; have hg3 : Hid (GotT cc 143 w.heap.size (k + 1) ((L.take (k + 1)).map cf) v2 w W4) := (by show GotT _ _ _ _ _ _ _ _; rw [HTk.out]; exact hgot.out.app hsz how hgw); clear how hgw hnb hlc))
        go_roundw
        case rel => exact ⟨k + 1, _, by omega, rfl, by go_num, hg3.out⟩
        case measure => simp [intOf]; omega
    · obtain rfl : k = L.length := by omega
      have hg2 := hgot.out
      rw [List.take_length] at hg2
      obtain ⟨au, cu, rfl⟩ := row_slice2 hg2.2.1
      have hll : (L.map cf).length = L.length := List.length_map _
      have hof2 := Ss.Of.own cc_len hg2.2.1
      rw [hll] at hof2
      have CF := Lib.hid (fits_any (L.map cf) _ wr hof2 (by omega))
      have HB := Lib.hid hg2.2.2
      clear hg2 hgot hof2
      go_wp2_with fail
      refine CF.out.mono ?_
      rintro e w1 ⟨v1, rfl, ho, hb⟩
      have hfin : Hid (FitsOut (L.map cf) w (.returned v1) w1) := ⟨v1, rfl, Nd.own_base ho HB.out.size, HB.out.trans (hb.mono HB.out.size)⟩
      clear ho hb
      go_wp2_with fail
      go_ret
      exact hfin.out

def total (L : List N2) : Int := (L.map (·.2)).sum
theorem total_snoc (L : List N2) (p : N2) : total (L ++ [p]) = total L + p.2 := by unfold total; simp
theorem total_in {L : List N2} {m : Int} (h : ∀ p ∈ L, 0 ≤ p.2 ∧ p.2 ≤ m) : 0 ≤ total L ∧ total L ≤ m * L.length := by
  induction L with
  | nil => simp [total]
  | cons p L ih =>
    have h1 := h p (by simp)
    have h2 := ih (fun q hq => h q (by simp [hq]))
    have e : total (p :: L) = p.2 + total L := by unfold total; simp
    rw [e, List.length_cons]
    have e2 : m * ((L.length + 1 : Nat) : Int) = m * L.length + m := by rw [Int.natCast_succ, Int.mul_add, Int.mul_one]
    rw [e2]
    omega

set_option maxHeartbeats 8000000 in
set_option maxRecDepth 100000 in
theorem total_any (L : List N2) (v : Value) (w : World) (hof : Ss.Of 2 cc w v L) (hL : L.length ≤ 2147483647) (hr : ∀ p ∈ L, 0 ≤ p.2 ∧ p.2 ≤ 1073741824) :
    Calls Tryz.prog 21 #[v] w fun e w' => e = .returned (.int .u64 (total L)) ∧ w = w' := by
  obtain ⟨av, cv, rfl, _, _⟩ := hof.slice
  have HOf := Lib.hid hof
  have HR := Lib.hid hr
  clear hof hr
  go_enter Tryz.func21, Tryz.ntmps21
  go_wp2_with fail
  go_loopw [3, 4] (fun vn vk wr => ∃ k : Nat, k ≤ L.length ∧ vn = .int .u64 (total (L.take k)) ∧ vk = .int .i64 (k : Int) ∧ w = wr) (fun _ k _ => L.length - (intOf k).toNat)
  case atStart => exact ⟨0, Nat.zero_le _, rfl, rfl, rfl⟩
  case round =>
    obtain ⟨k, hk, rfl, rfl, rfl⟩ := hrel
    by_cases hlt : k < L.length
    · obtain ⟨b, off, hav, hb, d0, d1⟩ := cell_at HOf.out hlt
      have htk : total (L.take (k + 1)) = total (L.take k) + (L[k]).2 := by rw [List.take_succ_eq_append_getElem hlt, total_snoc]
      have hin := total_in (L := L.take k) (m := 1073741824) (fun p hp => HR.out p (List.mem_of_mem_take hp))
      have hy := HR.out _ (List.getElem_mem hlt)
      subst hav
      obtain ⟨x, y, hxy⟩ : ∃ x y, L[k] = (x, y) := ⟨_, _, rfl⟩
      rw [hxy] at d0 d1 htk hy
      have hy : 0 ≤ y ∧ y ≤ 1073741824 := hy
      have htk : total (L.take (k + 1)) = total (L.take k) + y := htk
      have hlen : ((L.take k).length : Int) ≤ 2147483647 := by rw [List.length_take]; omega
      obtain ⟨t, ht⟩ : ∃ t, total (L.take k) = t := ⟨_, rfl⟩
      rw [ht] at hin htk ⊢
      have hin2 : 0 ≤ t ∧ t ≤ 2305843009213693952 := by omega
      have wy : IntKind.u64.wrap y = y := IntWalk.u64_in _ (by omega)
      have wt : IntKind.u64.wrap (t + y) = t + y := IntWalk.u64_in _ (by omega)
      have HTk := Lib.hid htk
      have z1 : (0 : Int) ≤ (k : Int) := by omega
      have z2 : (k : Int) < (L.length : Int) := by omega
      clear hin hin2 htk hxy hlen
      go_wp2_with fail
      go_roundw
      case rel => exact ⟨k + 1, by omega, by rw [HTk.out], by go_num, trivial⟩
      case measure => simp [intOf]; omega
    · obtain rfl : k = L.length := by omega
      go_wp2_with fail
      go_ret
      exact ⟨by rw [List.take_length]; rfl, rfl⟩

end Go.Proofs.YtlolomodcbkblaaGreatDoor.Cn
