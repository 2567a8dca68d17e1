/- FnWrapTwice: wrapping with a prefix and labels, and then with another prefix and other labels, is wrapping with both prefixes and all labels at once, if that is accepted: how the arguments are read, and the walk of the law. -/
import Derived.Test.YtfcpapbokefdmaaGreatDoorWrp
import Derived.Test.YtfcpapbokefdmaaGreatDoorWrm
import Derived.Test.YtfcpapbokefdmaaGreatDoorTxt
import Derived.Test.YtfcpapbokefdmaaGreatDoorNsh
import Derived.Test.YtfcpapbokefdmaaGreatDoorNlb
import Derived.Test.YtfcpapbokefdmaaGreatDoorNgl
import Derived.Test.YtfcpapbokefdmaaGreatDoorFq
import Derived.Test.YtfcpapbokefdmaaGreatDoorMtv
import Derived.Deep.DeepCutAuto
set_option linter.unusedVariables false
set_option linter.unusedSimpArgs false
namespace Go.Proofs.YtfcpapbokefdmaaGreatDoor.WrapTwice
open Go.RowKit Go.Maps Go.WideMaps Go.ChangeShapes Go.WideShapes Go.Deep Fp Obs _root_.Go.Proofs.YtfcpapbokefdmaaGreatDoor.Nd

def Good (w : World) (v : Value) (n : Nat) : Prop := ∃ nm hp un V L, MetaAt w v nm hp un V L ∧ Small nm hp un V L ∧ nm.size + hp.size + un.size + wt V + wp L ≤ n
def GoodP (w : World) (v : Value) (n : Nat) : Prop := ∃ A : List P2, Ss.Of 2 pc w v A ∧ wp A ≤ n

set_option maxRecDepth 100000 in
theorem read0 {H : Type} {enc : TypeId × Value → H} {W : World} {base b0 : Nat} {held : Bool} {r : Reach} {v : Value} {d : DataW H} {p : List MemPlace}
    (hv : Value.okWide Tryz.prog W r b0 25 v) (h : DataW.Trod enc Tryz.prog W base (fun _ => true) held 25 v d p) (hb : Rows.uptoBulk d ≤ 1048576) : Good W v (Rows.uptoBulk d) := by
  obtain ⟨v0, v1, v2, v3, v4, y0, y1, y2, y3, y4, n, rfl, rfl, _, h0, h1, h2, h3, h4⟩ := open_agg5 Tryz.underlying25 (by kernel_rfl) (by kernel_rfl) hv h
  obtain ⟨s0, e0, x0, w0⟩ := DataW.trod_string Tryz.underlying9 h0
  obtain ⟨s1, e1, x1, w1⟩ := DataW.trod_string Tryz.underlying9 h1
  obtain ⟨s2, e2, x2, w2⟩ := DataW.trod_string Tryz.underlying9 h2
  simp only [List.cons.injEq, and_true] at e0 e1 e2
  subst e0 e1 e2
  obtain ⟨V, hV, hVs, hVb⟩ := Sl.open_strings_bulk0 Tryz.underlying22 Tryz.underlying9 (by kernel_rfl) h3
  obtain ⟨L, hL, hLb, hLl⟩ := pairs_bulk h4
  have hVw : wt V ≤ Rows.uptoBulk y3.1 := hVb
  have z0 := len_of s0
  have z1 := len_of s1
  have z2 := len_of s2
  have hl := wt_len V
  have hl2 := len_wp L
  have hle : s0.size + s1.size + s2.size + wt V + wp L ≤ Rows.uptoBulk (.agg [y0.1, y1.1, y2.1, y3.1, y4.1]) := by
    rw [x0, x1, x2]
    simp only [Rows.uptoBulkAll, Rows.uptoBulk]
    omega
  have hall : s0.size + s1.size + s2.size + wt V + wp L ≤ 1048576 := Nat.le_trans hle hb
  refine ⟨s0, s1, s2, V, L, ⟨⟨v3, v4, rfl, hV, hL⟩, by omega, by omega, by omega, by omega, hVs, fun q hq => ?_⟩, ⟨by omega, by omega, by omega⟩, hle⟩
  have := mem_wp hq
  omega
set_option maxRecDepth 100000 in
theorem read3 {H : Type} {enc : TypeId × Value → H} {W : World} {base b0 : Nat} {held : Bool} {r : Reach} {v : Value} {d : DataW H} {p : List MemPlace}
    (hv : Value.okWide Tryz.prog W r b0 23 v) (h : DataW.Trod enc Tryz.prog W base (fun _ => true) held 23 v d p) (hb : Rows.uptoBulk d ≤ 1048576) : GoodP W v (Rows.uptoBulk d) := by
  have hs := okWide_slice Tryz.underlying23 hv
  obtain ⟨a, n, c, rfl⟩ := hs
  obtain ⟨fuel, hf⟩ := h
  obtain ⟨L, h1, h2, _⟩ := pairs_bulk hf
  exact ⟨L, h1, Nat.le_of_succ_le_succ h2⟩
set_option maxRecDepth 100000 in
theorem read4 {H : Type} {enc : TypeId × Value → H} {W : World} {base b0 : Nat} {held : Bool} {r : Reach} {v : Value} {d : DataW H} {p : List MemPlace}
    (hv : Value.okWide Tryz.prog W r b0 23 v) (h : DataW.Trod enc Tryz.prog W base (fun _ => true) held 23 v d p) (hb : Rows.uptoBulk d ≤ 1048576) : GoodP W v (Rows.uptoBulk d) := read3 hv h hb
theorem yields_whole {P : Program} {ops : Array Oper} {S : World → Prop} {op : Oper} {a : Act} (hw : Region.wanted op (yielded ops a.tmps) = true) (ty : TypeId) (x : Operand) (ho : op.op = .load ty x)
    (b : Nat) (T : TypeId) (cs : Array Value) (hx : a.eval x = .pointer (some ⟨b, 0, none⟩)) (hS : ∀ w, S w → Whole w b T cs) (d : TypeDesc)
    (hu : P.underlying ty = some d) (hd : d.isRow = true) (hi : (P.info? ty).map (·.size) = some cs.size) : YieldsIf P ops S op (.agg cs) a :=
  yieldsIf_load_mid hw ty x ho b 0 hx cs.toList d (fun w h => Big.whole_range (hS w h)) hu hd (by rw [Array.length_toList]; exact hi)
theorem own_grown {W W' : World} {B e sz n b : Nat} {v : Value} {xs : List Value} (h : W.ownsRow B e sz v n xs) (hg : W.grownBy W' (some b)) (hb : b < B) : W'.ownsRow B e sz v n xs :=
  h.kept (row := some b) hg (by
    cases hv : v.ownBlock with
    | none => exact Or.inl rfl
    | some g => exact Or.inr (by have := (h.lt g hv).1; intro e; injection e with e; omega))
theorem own_apart {W W' : World} {B e sz n b : Nat} {v : Value} {xs : List Value} (h : W.ownsRow B e sz v n xs) (hg : W.grownBy W' (some b)) (hb : ∀ g, v.ownBlock = some g → g ≠ b) : W'.ownsRow B e sz v n xs :=
  h.kept (row := some b) hg (by
    cases hv : v.ownBlock with
    | none => exact Or.inl rfl
    | some g => exact Or.inr (fun e => hb g hv (Option.some.inj e)))
/-- a descriptor's data read back: its rows, between which blocks they lie -/
structure Back (W : World) (lo hi : Nat) (V : List ByteArray) (FF : List P2) (v c : Value) : Prop where
  r1 : W.ownsRow lo 9 1 v V.length (V.map Value.string)
  r2 : W.ownsRow lo 88 2 c FF.length (FF.flatMap pc)
  h1 : ∀ g, v.ownBlock = some g → g < hi
  h2 : ∀ g, c.ownBlock = some g → g < hi
theorem Back.below {W W' : World} {lo hi : Nat} {V : List ByteArray} {FF : List P2} {v c : Value} (h : Back W lo hi V FF v c) (k : Below W.heap.size W W') : Back W' lo hi V FF v c := ⟨own_below h.r1 k, own_below h.r2 k, h.h1, h.h2⟩
theorem Back.grown {W W' : World} {lo hi b : Nat} {V : List ByteArray} {FF : List P2} {v c : Value} (h : Back W lo hi V FF v c) (hg : W.grownBy W' (some b)) (hb : b < lo ∨ hi ≤ b) : Back W' lo hi V FF v c :=
  ⟨own_apart h.r1 hg (fun g e => by have := (h.r1.lt g e).1; have := h.h1 g e; omega), own_apart h.r2 hg (fun g e => by have := (h.r2.lt g e).1; have := h.h2 g e; omega), h.h1, h.h2⟩
theorem whole_grown {W W' : World} {g b : Nat} {T : TypeId} {cs : Array Value} (h : Whole W g T cs) (hg : W.grownBy W' (some b)) (hne : g ≠ b) : Whole W' g T cs := (hg.block g h.lt (fun e => hne (Option.some.inj e))).trans h
/-- both ways' data, in blocks Y and Z -/
structure Two (B : Nat) (A wx : World) (Y Z : Nat) (nn hp un : ByteArray) (V : List ByteArray) (FF : List P2) (ya yb za zb : Value) : Prop where
  b : Below B A wx
  y : Whole wx Y 31 #[.string nn, .string hp, .string un, ya, yb]
  z : Whole wx Z 31 #[.string nn, .string hp, .string un, za, zb]
  yv : Sl.Of Value.string wx ya V
  yc : Ss.Of 2 pc wx yb FF
  zv : Sl.Of Value.string wx za V
  zc : Ss.Of 2 pc wx zb FF
/-- both ways' data, read back, in blocks G and H -/
structure Fin (B : Nat) (A wx : World) (G H : Nat) (nn hp un : ByteArray) (V : List ByteArray) (FF : List P2) (ya yb za zb : Value) : Prop where
  b : Below B A wx
  y : Whole wx G 25 #[.string nn, .string hp, .string un, ya, yb]
  z : Whole wx H 25 #[.string nn, .string hp, .string un, za, zb]
  yv : Sl.Of Value.string wx ya V
  yc : Ss.Of 2 pc wx yb FF
  zv : Sl.Of Value.string wx za V
  zc : Ss.Of 2 pc wx zb FF
/-- what a wrap answers: the wrapped descriptor's data, or no -/
def GotM (W : World) (ok : Bool) (nm hp un : ByteArray) (V : List ByteArray) (F A : List P2) (s1 s2 s3 : ByteArray) (xv xc : Value) : Prop :=
  (ok = true ∧ ¬ Clash V F A ∧ s1 = nm ∧ s2 = hp ∧ s3 = un ∧ Sl.Of Value.string W xv V ∧ Ss.Of 2 pc W xc (fit (F ++ A))) ∨ (ok = false ∧ Clash V F A)
theorem GotM.below {W W' : World} {ok : Bool} {nm hp un : ByteArray} {V : List ByteArray} {F A : List P2} {s1 s2 s3 : ByteArray} {xv xc : Value} (h : GotM W ok nm hp un V F A s1 s2 s3 xv xc) (k : Below W.heap.size W W') : GotM W' ok nm hp un V F A s1 s2 s3 xv xc := by
  rcases h with ⟨h1, h2, h3, h4, h5, h6, h7⟩ | h
  · exact Or.inl ⟨h1, h2, h3, h4, h5, h6.below k, h7.below k⟩
  · exact Or.inr h
theorem got_of {nm hp un : ByteArray} {V : List ByteArray} {F A : List P2} {w : World} {e : Ending} {w' : World} (h : WMOut nm hp un V F A w e w') :
    ∃ s1 s2 s3 a1 k1 c1 a2 k2 c2 ok, e = .returned (.tuple #[.agg #[.string s1, .string s2, .string s3, .slice a1 k1 c1, .slice a2 k2 c2], .bool ok]) ∧ Below w.heap.size w w' ∧ GotM w' ok nm hp un V F A s1 s2 s3 (.slice a1 k1 c1) (.slice a2 k2 c2) := by
  rcases h with ⟨hb, ⟨h1, v2, c2, h2, h3, h4⟩ | ⟨h1, h2⟩⟩
  · obtain ⟨a1, c1, rfl⟩ := row_slice2 h3
    obtain ⟨a2, c2, rfl⟩ := row_slice2 h4
    exact ⟨_, _, _, _, _, _, _, _, _, _, h2, hb, Or.inl ⟨rfl, h1, rfl, rfl, rfl, Sl.Of.own h3, Ss.Of.own pc_len h4⟩⟩
  · exact ⟨_, _, _, _, _, _, _, _, _, _, h2, hb, Or.inr ⟨rfl, h1⟩⟩
theorem whole_below {w w' : World} {g : Nat} {T : TypeId} {cs : Array Value} (h : Whole w g T cs) (k : Below w.heap.size w w') : Whole w' g T cs := (k.block g h.lt).trans h
theorem stored (W : World) (T : TypeId) (cs : Array Value) : Below W.heap.size W (W.alloc (.cells cs T)) ∧ Whole (W.alloc (.cells cs T)) W.heap.size T cs :=
  ⟨(Below.refl _ W).alloc (Nat.le_refl _) _, Whole.made W T cs⟩

set_option maxHeartbeats 16000000 in
set_option maxRecDepth 100000 in
theorem law_any (v0 : Value) (p q : ByteArray) (v3 v4 : Value) (w : World) (n0 n3 n4 : Nat) (g0 : Good w v0 n0) (g3 : GoodP w v3 n3) (g4 : GoodP w v4 n4) (hsum : n0 + p.size + q.size + n3 + n4 ≤ 1048576) (hG : Glob w) :
    Calls Tryz.prog 5 #[v0, .string p, .string q, v3, v4] w fun e w' => e = .returned (.bool true) ∧ Below w.heap.size w w' := by
  obtain ⟨nm, hp, un, V, L, hm, hs, hn0⟩ := g0
  obtain ⟨a, ha, han⟩ := g3
  obtain ⟨b, hb, hbn⟩ := g4
  obtain ⟨i0, hi, hz0, hz1, hz2⟩ := info_parts infoSP
  have hal := len_wp a
  have hbl := len_wp b
  have sa : ∀ z ∈ a, z.1.size ≤ 2147483647 ∧ z.2.size ≤ 2147483647 := fun z hz => by have := mem_wp hz; omega
  have sb : ∀ z ∈ b, z.1.size ≤ 2147483647 ∧ z.2.size ≤ 2147483647 := fun z hz => by have := mem_wp hz; omega
  have sab : ∀ z ∈ a ++ b, z.1.size ≤ 2147483647 ∧ z.2.size ≤ 2147483647 := fun z hz => (List.mem_append.1 hz).elim (sa z) (sb z)
  obtain ⟨vv, cv, rfl, hvv, hcv⟩ := id hm.val
  obtain ⟨A, hA⟩ : ∃ A, A = w.alloc (.cells #[.string nm, .string hp, .string un, vv, cv] 25) := ⟨_, rfl⟩
  have s2 : A.heap.size = w.heap.size + 1 := by rw [hA]; simp
  have hqb : Below w.heap.size w A := by rw [hA]; exact (Below.refl _ _).alloc (Nat.le_refl _) _
  have HUp : Hid (∀ W : World, Below (w.heap.size + 1) A W → Below w.heap.size w W) := fun W h => hqb.trans (h.mono (by omega))
  have HTr : Hid (∀ W W' : World, Below (w.heap.size + 1) A W → Below W.heap.size W W' → Below (w.heap.size + 1) A W') := fun W W' h h' => h.trans (h'.mono (by have := h.size; omega))
  have HC : Hid (∀ W : World, Below (w.heap.size + 1) A W → W.cell? ⟨w.heap.size, 0, none⟩ = some (.string nm) ∧ W.cell? ⟨w.heap.size, 1, none⟩ = some (.string hp) ∧ W.cell? ⟨w.heap.size, 2, none⟩ = some (.string un) ∧ W.cell? ⟨w.heap.size, 3, none⟩ = some vv ∧ W.cell? ⟨w.heap.size, 4, none⟩ = some cv) := fun W h => by
    rw [hA] at h
    have e : ∀ j, W.cell? ⟨w.heap.size, j, none⟩ = (#[.string nm, .string hp, .string un, vv, cv] : Array Value)[j]? := fun j => (h.cell (p := ⟨w.heap.size, j, none⟩) (by show w.heap.size < w.heap.size + 1; omega)).trans (Sl.cell_new w _ _ j)
    exact ⟨e 0, e 1, e 2, e 3, e 4⟩
  obtain ⟨av, cva, rfl, _, _⟩ := ha.slice
  obtain ⟨bv, cvb, rfl, _, _⟩ := hb.slice
  have HF4 : Hid (∀ W : World, Below (w.heap.size + 1) A W → Calls Tryz.prog 10 #[.agg #[.string nm, .string hp, .string un, vv, cv]] W (fun e w' => e = .returned (.bool true) ∧ Below (w.heap.size + 1) A w')) := fun W h => (fits4_any _ nm hp un V L W (hm.below (HUp.out W h)) hs).mono fun e w' ⟨he, hb⟩ => ⟨he, HTr.out _ _ h hb⟩
  have HF5 : Hid (∀ W : World, Below (w.heap.size + 1) A W → Calls Tryz.prog 22 #[.slice av a.length cva] W (fun e w' => e = .returned (.bool true) ∧ Below (w.heap.size + 1) A w')) := fun W h => (fits5_any a _ W (ha.below (HUp.out W h)) (by omega) sa).mono fun e w' ⟨he, hb⟩ => ⟨he, HTr.out _ _ h hb⟩
  have HF6 : Hid (∀ W : World, Below (w.heap.size + 1) A W → Calls Tryz.prog 22 #[.slice bv b.length cvb] W (fun e w' => e = .returned (.bool true) ∧ Below (w.heap.size + 1) A w')) := fun W h => (fits5_any b _ W (hb.below (HUp.out W h)) (by omega) sb).mono fun e w' ⟨he, hb⟩ => ⟨he, HTr.out _ _ h hb⟩
  have HLv : Hid (∀ W : World, Below (w.heap.size + 1) A W → Calls Tryz.prog 12 #[] W (fun e w' => e = .returned (.bool true) ∧ Below (w.heap.size + 1) A w')) := fun W h => (Fq.lives_any W).mono fun e w' ⟨he, hb⟩ => ⟨he, HTr.out _ _ h hb⟩
  obtain ⟨b1, e1⟩ : ∃ b1, (sayB nm hp un V L && plainB (p ++ nm) && ppB a) = b1 := ⟨_, rfl⟩
  obtain ⟨b2, e2⟩ : ∃ b2, (sayB nm hp un V L && plainB ((q ++ p) ++ nm) && ppB (a ++ b)) = b2 := ⟨_, rfl⟩
  have CD1 : Hid (∀ W : World, Below (w.heap.size + 1) A W → Calls Tryz.prog 23 #[.agg #[.string nm, .string hp, .string un, vv, cv], .string p, .slice av a.length cva] W (fun e w' => e = .returned (.bool b1) ∧ Below (w.heap.size + 1) A w' ∧ Below W.heap.size W w')) := fun W h => by
    rw [← e1]
    exact (descWraps_any _ _ nm hp un p V L a W (hm.below (HUp.out W h)) (ha.below (HUp.out W h)) (by omega) sa (by omega)).mono fun e w' ⟨he, hb⟩ => ⟨he, HTr.out _ _ h hb, hb⟩
  have CD2 : Hid (∀ (W : World) (vb : Value), Below (w.heap.size + 1) A W → Ss.Of 2 pc W vb (a ++ b) → Calls Tryz.prog 23 #[.agg #[.string nm, .string hp, .string un, vv, cv], .string (q ++ p), vb] W (fun e w' => e = .returned (.bool b2) ∧ Below (w.heap.size + 1) A w' ∧ Below W.heap.size W w')) := fun W vb h h2 => by
    rw [← e2]
    exact (descWraps_any _ _ nm hp un (q ++ p) V L (a ++ b) W (hm.below (HUp.out W h)) h2 (by rw [List.length_append]; omega) sab (by rw [ByteArray.size_append]; omega)).mono fun e w' ⟨he, hb⟩ => ⟨he, HTr.out _ _ h hb, hb⟩
  obtain ⟨fl, hfl⟩ : ∃ fl, (fit (a ++ b)).length = fl := ⟨_, rfl⟩
  have hfl2 : fl ≤ a.length + b.length := by have h := fit_le (a ++ b); rw [hfl, List.length_append] at h; exact h
  have CFP : Hid (∀ (W : World) (vb : Value), Below (w.heap.size + 1) A W → Ss.Of 2 pc W vb (a ++ b) → Calls Tryz.prog 24 #[vb] W (fun e w' => ∃ a8 c8, e = .returned (.slice a8 fl c8) ∧ Below (w.heap.size + 1) A w' ∧ Below W.heap.size W w')) := fun W vb h h2 => by
    refine (fit_any (a ++ b) vb W h2 (by rw [List.length_append]; omega)).mono ?_
    rintro e w' ⟨v8, rfl, ho, hb⟩
    obtain ⟨a8, c8, rfl⟩ := row_slice2 ho
    exact ⟨a8, c8, by rw [hfl], HTr.out _ _ h hb, hb⟩
  have HOneP : Hid (∀ z : P2, ∀ u ∈ pc z, u.oneCell' = true) := fun z u hu => by
    unfold pc at hu
    simp at hu
    rcases hu with rfl | rfl <;> rfl
  have HSa : Hid (∀ W : World, Below (w.heap.size + 1) A W → Ss.Of 2 pc W (.slice av a.length cva) a) := fun W h => ha.below (HUp.out W h)
  have HSb : Hid (∀ W : World, Below (w.heap.size + 1) A W → Ss.Of 2 pc W (.slice bv b.length cvb) b) := fun W h => hb.below (HUp.out W h)
  have HSz : Hid (∀ W : World, Below (w.heap.size + 1) A W → (w.heap.size + 1) ≤ W.heap.size) := fun W h => by have := h.size; show _ ≤ _; omega
  have HR0 : Hid (∀ W : World, Below (w.heap.size + 1) A W → Below (w.heap.size + 1) A (W.alloc (.cells #[] 88)) ∧ (W.alloc (.cells #[] 88)).ownsRow (w.heap.size + 1) 88 2 (.slice (some ⟨W.heap.size, 0, none⟩) 0 0) 0 []) := fun W h => by
    have hsz := HSz.out W h
    exact ⟨h.alloc hsz _, rfl, Or.inr ⟨W.heap.size, 0, #[], rfl, hsz, heap_alloc_new W _, Nat.le_refl _, by unfold maxLen; omega, rfl, rfl⟩⟩
  have HGr : Hid (∀ (W W' : World) (v : Value) (n : Nat) (xs : List Value), Below (w.heap.size + 1) A W → W.ownsRow (w.heap.size + 1) 88 2 v n xs → W.grownBy W' v.ownBlock → Below (w.heap.size + 1) A W') := fun W W' v n xs h ho hg =>
    h.grown hg (HSz.out W h) (fun j hj => (ho.lt j hj).1)
  have hpi : (p.size : Int) ≤ 2147483647 := by omega
  have hqi : (q.size : Int) ≤ 2147483647 := by omega
  have hcat : ¬ (9223372036854775807 < q.size + p.size) := by omega
  have k0 := HC.out A (Below.refl _ _)
  have HB0 : Hid (Below (w.heap.size + 1) A A) := Below.refl _ _
  have hal2 : a.length ≤ 1048576 := by omega
  have hbl2 : b.length ≤ 1048576 := by omega
  have Hm := Lib.hid hm
  have Hs := Lib.hid hs
  have Hsum : Hid (n0 + p.size + q.size + n3 + n4 ≤ 1048576 ∧ nm.size + hp.size + un.size + wt V + wp L ≤ n0 ∧ wp a ≤ n3 ∧ wp b ≤ n4) := ⟨hsum, hn0, han, hbn⟩
  have HG := Lib.hid hG
  have HE1 := Lib.hid e1
  have HE2 := Lib.hid e2
  have HFl := Lib.hid hfl
  have HQb := Lib.hid hqb
  have Hsa := Lib.hid sa
  have Hsb := Lib.hid sb
  clear hm hs hvv hcv hsum hn0 han hbn hG e1 e2 hqb s2 sa sb sab ha hb hal hbl hfl
  go_enter Tryz.func5, Tryz.ntmps5
  go_wp2_with fail
  rw [← hA]
  clear hA
  refine (HF4.out A HB0.out).mono ?_
  rintro e w1 ⟨rfl, hb1⟩
  have HB1 := Lib.hid hb1
  clear hb1 k0
  go_wp2_with fail
  refine (HF5.out w1 HB1.out).mono ?_
  rintro e w2 ⟨rfl, hb2⟩
  have HB2 := Lib.hid hb2
  clear hb2
  go_wp2_with fail
  refine (HF6.out w2 HB2.out).mono ?_
  rintro e w3 ⟨rfl, hb3⟩
  have HB3 := Lib.hid (HR0.out w3 hb3)
  clear hb3
  go_upto_region 4 with (first
    | ((fail_if_success (have := HB4.out)); at_builtin; refine append_of rfl _ _ 23 rfl (w.heap.size + 1) 88 i0 (.agg #[.string ByteArray.empty, .string ByteArray.empty]) 2 32 Tryz.underlying23 hi hz0 hz1 hz2 rfl (by decide) _ 0 [] rfl HB3.out.2 (c := pc) pc_len HOneP.out a _ rfl (HSa.out _ HB3.out.1) (by unfold maxLen; omega) (by omega) (HSz.out _ HB3.out.1) ?_; intro v4 W4 ho4 hg4 hl4; rw [Nat.zero_add] at ho4; obtain ⟨a4, c4, rfl⟩ := row_slice2 ho4; have HB4 := Lib.hid (And.intro (HGr.out _ _ _ _ _ HB3.out.1 HB3.out.2 hg4) ho4); clear ho4 hg4 hl4)
    | (at_builtin; refine append_of rfl _ _ 23 rfl (w.heap.size + 1) 88 i0 (.agg #[.string ByteArray.empty, .string ByteArray.empty]) 2 32 Tryz.underlying23 hi hz0 hz1 hz2 rfl (by decide) _ a.length _ rfl HB4.out.2 (c := pc) pc_len HOneP.out b _ rfl (HSb.out _ HB4.out.1) (by unfold maxLen; omega) (by omega) (HSz.out _ HB4.out.1) ?_; intro v5 W5 ho5 hg5 hl5; obtain ⟨a5, c5, rfl⟩ := row_slice2 ho5; have HB5 := Lib.hid (HGr.out _ _ _ _ _ HB4.out.1 HB4.out.2 hg5); have HO5 := Lib.hid ho5; have k5 := HC.out _ HB5.out; clear ho5 hg5 hl5))
  obtain ⟨nb, hnb⟩ : ∃ nb, a.length + b.length = nb := ⟨_, rfl⟩
  have HBo : Hid (Ss.Of 2 pc W5 (.slice a5 nb c5) (a ++ b)) := by
    have h := HO5.out
    have e : (a ++ b).length = a.length + b.length := List.length_append
    have e2 : [] ++ a.flatMap pc ++ b.flatMap pc = (a ++ b).flatMap pc := by rw [List.nil_append, List.flatMap_append]
    rw [e2, ← e] at h
    have h2 := Ss.Of.own pc_len h
    rw [e, hnb] at h2
    exact h2
  have hnb2 := hnb
  simp only [hnb]
  clear hnb
  clear HO5 HB4 HB3 HB2 HB1
  cases b1 with
  | false =>
    go_wp2_with (first
      | (go_at_call 23; refine (CD1.out _ HB5.out).mono ?_; rintro e w6 ⟨rfl, hb6, hb6'⟩; have HB6 := Lib.hid hb6; have HBo6 := Lib.hid (HBo.out.below hb6'); have k6 := HC.out w6 hb6; clear hb6 hb6')
      | (go_at_call 12; refine (HLv.out _ HB6.out).mono ?_; rintro e w9 ⟨rfl, hb9⟩; have HF := Lib.hid (HUp.out _ hb9); clear hb9))
    go_ret
    exact ⟨rfl, HF.out⟩
  | true =>
    cases b2 with
    | false =>
      go_wp2_with (first
        | ((fail_if_success (have := HB6.out)); go_at_call 23; refine (CD1.out _ HB5.out).mono ?_; rintro e w6 ⟨rfl, hb6, hb6'⟩; have HB6 := Lib.hid hb6; have HBo6 := Lib.hid (HBo.out.below hb6'); have k6 := HC.out w6 hb6; clear hb6 hb6')
        | (go_at_call 23; refine (CD2.out _ _ HB6.out HBo6.out).mono ?_; rintro e w7 ⟨rfl, hb7, hb7'⟩; have HB7 := Lib.hid hb7; have HBo7 := Lib.hid (HBo6.out.below hb7'); have k7 := HC.out w7 hb7; clear hb7 hb7')
        | (go_at_call 12; refine (HLv.out _ HB7.out).mono ?_; rintro e w9 ⟨rfl, hb9⟩; have HF := Lib.hid (HUp.out _ hb9); clear hb9))
      go_ret
      exact ⟨rfl, HF.out⟩
    | true =>
      by_cases hfn : fl = nb
      case neg =>
        have hfi : ¬ ((fl : Int) = (nb : Int)) := by omega
        go_wp2_with (first
          | ((fail_if_success (have := HB6.out)); go_at_call 23; refine (CD1.out _ HB5.out).mono ?_; rintro e w6 ⟨rfl, hb6, hb6'⟩; have HB6 := Lib.hid hb6; have HBo6 := Lib.hid (HBo.out.below hb6'); have k6 := HC.out w6 hb6; clear hb6 hb6')
          | (go_at_call 23; refine (CD2.out _ _ HB6.out HBo6.out).mono ?_; rintro e w7 ⟨rfl, hb7, hb7'⟩; have HB7 := Lib.hid hb7; have HBo7 := Lib.hid (HBo6.out.below hb7'); have k7 := HC.out w7 hb7; clear hb7 hb7')
          | (go_at_call 24; refine (CFP.out _ _ HB7.out HBo7.out).mono ?_; rintro e w8 ⟨a8, c8, rfl, hb8, hb8'⟩; have HB8 := Lib.hid hb8; have HBo8 := Lib.hid (HBo7.out.below hb8'); have k8 := HC.out w8 hb8; clear hb8 hb8')
          | (go_at_call 12; refine (HLv.out _ HB8.out).mono ?_; rintro e w9 ⟨rfl, hb9⟩; have HF := Lib.hid (HUp.out _ hb9); clear hb9))
        go_ret
        exact ⟨rfl, HF.out⟩
      case pos =>
        subst hfn
        go_upto_region 6 with (first
          | ((fail_if_success (have := HB6.out)); go_at_call 23; refine (CD1.out _ HB5.out).mono ?_; rintro e w6 ⟨rfl, hb6, hb6'⟩; have HB6 := Lib.hid hb6; have HBo6 := Lib.hid (HBo.out.below hb6'); have k6 := HC.out w6 hb6; clear hb6 hb6')
          | (go_at_call 23; refine (CD2.out _ _ HB6.out HBo6.out).mono ?_; rintro e w7 ⟨rfl, hb7, hb7'⟩; have HB7 := Lib.hid hb7; have HBo7 := Lib.hid (HBo6.out.below hb7'); have k7 := HC.out w7 hb7; clear hb7 hb7')
          | (go_at_call 24; refine (CFP.out _ _ HB7.out HBo7.out).mono ?_; rintro e w8 ⟨a8, c8, rfl, hb8, hb8'⟩; have HB8 := Lib.hid hb8; have HBo8 := Lib.hid (HBo7.out.below hb8'); have k8 := HC.out w8 hb8; clear hb8 hb8'))
        have hsay := (Bool.and_eq_true_iff.1 (Bool.and_eq_true_iff.1 HE1.out).1)
        have hpa := (Bool.and_eq_true_iff.1 HE1.out).2
        have hq2 := (Bool.and_eq_true_iff.1 (Bool.and_eq_true_iff.1 HE2.out).1).2
        have hpab := (Bool.and_eq_true_iff.1 HE2.out).2
        obtain ⟨u1, u2, u3, u4⟩ := Hsum.out
        have uall := Hs.out.all
        have ok := new_ok hsay.1 Hs.out
        have uab : wp (a ++ b) = wp a + wp b := wp_app a b
        have okA := ok2_of ok hsay.2 (pp_ok hpa (by omega)) (by rw [ByteArray.size_append]; omega)
        have okAll := ok2_of ok hq2 (pp_ok hpab (by omega)) (by rw [ByteArray.size_append, ByteArray.size_append]; omega)
        have hr : ∀ z ∈ L, z.1.size ≤ 2147483647 ∧ z.2.size ≤ 2147483647 := fun z hz => by have := mem_wp hz; omega
        have hrab : ∀ z ∈ a ++ b, z.1.size ≤ 2147483647 ∧ z.2.size ≤ 2147483647 := fun z hz => (List.mem_append.1 hz).elim (Hsa.out z) (Hsb.out z)
        have CM : Hid (∀ W, Below (w.heap.size + 1) A W → Calls Tryz.prog 14 #[.agg #[.string nm, .string hp, .string un, vv, cv]] W (fun e w' => ∃ v2 c2, e = .returned (.agg #[.string nm, .string hp, .string un, v2, c2]) ∧ Sl.Of Value.string w' v2 V ∧ Ss.Of 2 pc w' c2 L ∧ Below (w.heap.size + 1) A w' ∧ Below W.heap.size W w')) := fun W h =>
          (metaTo_any _ nm hp un V L W (Hm.out.below (HUp.out W h))).mono fun e w' ⟨v2, c2, he, hv, hc, hb⟩ => ⟨v2, c2, he, hv, hc, HTr.out _ _ h hb, hb⟩
        have CP : Hid (∀ W v X, Below (w.heap.size + 1) A W → Ss.Of 2 pc W v X → X.length ≤ 2147483647 → Calls Tryz.prog 26 #[v] W (fun e w' => ∃ c2, e = .returned c2 ∧ Ss.Of 2 pc w' c2 X ∧ Below (w.heap.size + 1) A w' ∧ Below W.heap.size W w')) := fun W v X h hv hl =>
          (pairsTo_any X v W hv hl).mono fun e w' ⟨c2, he, hc, hb⟩ => ⟨c2, he, hc, HTr.out _ _ h hb, hb⟩
        have CW1 : Hid (∀ W v2 c2 lv, Below (w.heap.size + 1) A W → Sl.Of Value.string W v2 V → Ss.Of 2 pc W c2 L → Ss.Of 2 pc W lv a → Calls Tryz.prog 25 #[.agg #[.string nm, .string hp, .string un, v2, c2], .string p, lv] W (fun e w' => ∃ s1 s2 s3 a1 k1 c1 a2 k2 c2 ok, e = .returned (.tuple #[.agg #[.string s1, .string s2, .string s3, .slice a1 k1 c1, .slice a2 k2 c2], .bool ok]) ∧ GotM w' ok (p ++ nm) hp un V (fit L) a s1 s2 s3 (.slice a1 k1 c1) (.slice a2 k2 c2) ∧ Below (w.heap.size + 1) A w' ∧ Below W.heap.size W w')) := fun W v2 c2 lv h h1 h2 h3 =>
          (wrapMeta_any nm hp un p V L a v2 c2 lv W (HG.out.below (HUp.out W h)) ok h1 h2 hr h3 Hsa.out okA).mono fun e w' ho => by
            obtain ⟨s1, s2, s3, a1, k1, c1, a2, k2, c2, o, he, hb, hg⟩ := got_of ho
            exact ⟨s1, s2, s3, a1, k1, c1, a2, k2, c2, o, he, hg, HTr.out _ _ h hb, hb⟩
        have CW2 : Hid (∀ W v2 c2 lv, Below (w.heap.size + 1) A W → Sl.Of Value.string W v2 V → Ss.Of 2 pc W c2 L → Ss.Of 2 pc W lv (a ++ b) → Calls Tryz.prog 25 #[.agg #[.string nm, .string hp, .string un, v2, c2], .string (q ++ p), lv] W (fun e w' => ∃ s1 s2 s3 a1 k1 c1 a2 k2 c2 ok, e = .returned (.tuple #[.agg #[.string s1, .string s2, .string s3, .slice a1 k1 c1, .slice a2 k2 c2], .bool ok]) ∧ GotM w' ok ((q ++ p) ++ nm) hp un V (fit L) (a ++ b) s1 s2 s3 (.slice a1 k1 c1) (.slice a2 k2 c2) ∧ Below (w.heap.size + 1) A w' ∧ Below W.heap.size W w')) := fun W v2 c2 lv h h1 h2 h3 =>
          (wrapMeta_any nm hp un (q ++ p) V L (a ++ b) v2 c2 lv W (HG.out.below (HUp.out W h)) ok h1 h2 hr h3 hrab okAll).mono fun e w' ho => by
            obtain ⟨s1, s2, s3, a1, k1, c1, a2, k2, c2, o, he, hb, hg⟩ := got_of ho
            exact ⟨s1, s2, s3, a1, k1, c1, a2, k2, c2, o, he, hg, HTr.out _ _ h hb, hb⟩
        have OkA := Lib.hid okA
        have OkAll := Lib.hid okAll
        have HPab := Lib.hid hpab
        have hlab : (a ++ b).length ≤ 2147483647 := by rw [List.length_append]; omega
        clear okA okAll hr hrab ok hsay hpa hq2 hpab CD1 CD2 CFP HF4 HF5 HF6 HB5 HB6 HB7 HBo HBo6 HBo7 k5 HR0 HGr hi hz0 hz1 hz2 u1 u2 u3 u4 uall uab
        go_upto_region 7 with (first
          | (go_at_call 14; refine (CM.out _ HB8.out).mono ?_; rintro e w9 ⟨v9, c9, rfl, h9, h9', hb9, hb9'⟩; have HV9 := Lib.hid (And.intro h9 h9'); have HB9 := Lib.hid hb9; have HBo9 := Lib.hid (HBo8.out.below hb9'); clear h9 h9' hb9 hb9')
          | (go_at_call 26; refine (CP.out _ _ a HB9.out (HSa.out _ HB9.out) (by omega)).mono ?_; rintro e w10 ⟨c10, rfl, h10, hb10, hb10'⟩; have HL10 := Lib.hid h10; have HV10 := Lib.hid (And.intro (HV9.out.1.below hb10') (HV9.out.2.below hb10')); have HB10 := Lib.hid hb10; have HBo10 := Lib.hid (HBo9.out.below hb10'); clear h10 hb10 hb10')
          | (go_at_call 25; refine (CW1.out _ _ _ _ HB10.out HV10.out.1 HV10.out.2 HL10.out).mono ?_; rintro e w11 ⟨xn, xh, xu, xa, xk, xj, xb, xl, xi, o1, rfl, hg11, hb11, hb11'⟩; have HG11 := Lib.hid hg11; have HB11 := Lib.hid hb11; have HBo11 := Lib.hid (HBo10.out.below hb11'); clear hg11 hb11 hb11'))
        have hst := stored w11 31 #[.string xn, .string xh, .string xu, .slice xa xk xj, .slice xb xl xi]
        generalize w11.alloc (.cells #[.string xn, .string xh, .string xu, .slice xa xk xj, .slice xb xl xi] 31) = W12 at hst ⊢
        have HB12 := Lib.hid (HTr.out _ _ HB11.out hst.1)
        have HG12 := Lib.hid (HG11.out.below hst.1)
        have HBo12 := Lib.hid (HBo11.out.below hst.1)
        have HX12 := Lib.hid hst.2
        have HXlo := Lib.hid (HSz.out _ HB11.out)
        have k12 := HC.out _ HB12.out
        clear hst HB11 HG11 HBo11 HL10 HV10 HB10 HBo10 HV9 HB9 HBo9 HBo8 HB8 k8 k6 k7 CW1 HSa
        generalize w11.heap.size = X at HX12 HXlo ⊢
        go_upto_region 8 with (first
          | (go_at_call 14; refine (CM.out _ HB12.out).mono ?_; rintro e w13 ⟨v9, c9, rfl, h9, h9', hb9, hb9'⟩; have HV13 := Lib.hid (And.intro h9 h9'); have HB13 := Lib.hid hb9; have HBo13 := Lib.hid (HBo12.out.below hb9'); have HG13 := Lib.hid (HG12.out.below hb9'); have HX13 := Lib.hid (whole_below HX12.out hb9'); clear h9 h9' hb9 hb9')
          | (go_at_call 26; refine (CP.out _ _ (a ++ b) HB13.out HBo13.out hlab).mono ?_; rintro e w14 ⟨c14, rfl, h10, hb10, hb10'⟩; have HL14 := Lib.hid h10; have HV14 := Lib.hid (And.intro (HV13.out.1.below hb10') (HV13.out.2.below hb10')); have HB14 := Lib.hid hb10; have HG14 := Lib.hid (HG13.out.below hb10'); have HX14 := Lib.hid (whole_below HX13.out hb10'); clear h10 hb10 hb10')
          | (go_at_call 25; refine (CW2.out _ _ _ _ HB14.out HV14.out.1 HV14.out.2 HL14.out).mono ?_; rintro e w15 ⟨yn, yh, yu, ya, yk, yj, yb, yl, yi, o2, rfl, hg11, hb11, hb11'⟩; have HY15 := Lib.hid hg11; have HB15 := Lib.hid hb11; have HG15 := Lib.hid (HG14.out.below hb11'); have HX15 := Lib.hid (whole_below HX14.out hb11'); clear hg11 hb11 hb11'))
        have hst := stored w15 31 #[.string yn, .string yh, .string yu, .slice ya yk yj, .slice yb yl yi]
        generalize w15.alloc (.cells #[.string yn, .string yh, .string yu, .slice ya yk yj, .slice yb yl yi] 31) = W16 at hst ⊢
        have HB16 := Lib.hid (HTr.out _ _ HB15.out hst.1)
        have HG16 := Lib.hid (HG15.out.below hst.1)
        have HK16 := Lib.hid (HY15.out.below hst.1)
        have HX16 : Hid (Whole W16 X 31 #[.string xn, .string xh, .string xu, .slice xa xk xj, .slice xb xl xi]) := whole_below HX15.out hst.1
        have HY16 : Hid (Whole W16 w15.heap.size 31 #[.string yn, .string yh, .string yu, .slice ya yk yj, .slice yb yl yi]) := hst.2
        have HYlo := Lib.hid (HSz.out _ HB15.out)
        clear hst HB15 HG15 HY15 HX15 HX14 HX13 HX12 HG12 HG13 HG14 HB12 HB13 HB14 HBo12 HBo13 HV13 HV14 HL14 CW2 CM k12
        generalize w15.heap.size = Y at HY16 HYlo ⊢
        rcases HG16.out with ⟨rfl, n1, rfl, rfl, rfl, n5, n6⟩ | ⟨rfl, n1⟩
        case inr =>
          rcases HK16.out with ⟨rfl, m1, rfl, rfl, rfl, m5, m6⟩ | ⟨rfl, m1⟩
          case inl => exact absurd (clash_more b n1) m1
          case inr =>
            clear n1 m1
            go_wp2_with (go_at_call 12; refine (HLv.out _ HB16.out).mono ?_; rintro e w9 ⟨rfl, hb9⟩; have HF := Lib.hid (HUp.out _ hb9); clear hb9)
            go_ret
            exact ⟨rfl, HF.out⟩
        case inl =>
          rcases HK16.out with ⟨rfl, m1, rfl, rfl, rfl, m5, m6⟩ | ⟨rfl, m1⟩
          case inr =>
            clear n1 n5 n6 m1
            go_wp2_with (go_at_call 12; refine (HLv.out _ HB16.out).mono ?_; rintro e w9 ⟨rfl, hb9⟩; have HF := Lib.hid (HUp.out _ hb9); clear hb9)
            go_ret
            exact ⟨rfl, HF.out⟩
          case inl =>
            have hlen : (fit (a ++ b)).length = (a ++ b).length := by rw [HFl.out, List.length_append]; exact hnb2.symm
            have okx := ok_of OkA.out (nodup_of_no n1)
            have hpl : plainB (q ++ (p ++ nm)) = true := by
              have h := (Bool.and_eq_true_iff.1 (Bool.and_eq_true_iff.1 HE2.out).1).2
              rwa [ByteArray.append_assoc] at h
            have hpb : ppB b = true := ppB_iff.2 fun z hz => ppB_iff.1 HPab.out z (List.mem_append.2 (Or.inr hz))
            have t1 := fit_wp (fit L ++ a)
            have t2 := fit_wp L
            rw [wp_app] at t1
            have ok3 : NewOk2 (q ++ (p ++ nm)) yh yu V (fit (fit (fit L ++ a)) ++ b) := ok2_of okx hpl (pp_ok hpb (by have := Hsum.out; omega)) (by have := Hsum.out; rw [ByteArray.size_append, ByteArray.size_append]; omega)
            have hsx : ∀ z ∈ fit (fit L ++ a), z.1.size ≤ 2147483647 ∧ z.2.size ≤ 2147483647 := fun z hz => by have h := mem_wp hz; have := Hsum.out; omega
            have hz16 := HB16.out.size
            have HU : Hid (∀ W, Below W16.heap.size W16 W → Below (w.heap.size + 1) A W) := fun W h => HTr.out _ _ HB16.out h
            have CP3 : Hid (∀ W, Below W16.heap.size W16 W → Calls Tryz.prog 26 #[.slice bv b.length cvb] W (fun e w' => ∃ c2, e = .returned c2 ∧ Ss.Of 2 pc w' c2 b ∧ Below W16.heap.size W16 w' ∧ Below W.heap.size W w')) := fun W h =>
              (CP.out W _ b (HU.out W h) (HSb.out _ (HU.out W h)) (by omega)).mono fun e w' ⟨c2, h1, h2, h3, h4⟩ => ⟨c2, h1, h2, h.trans (h4.mono h.size), h4⟩
            have CW3 : Hid (∀ W lv, Below W16.heap.size W16 W → Ss.Of 2 pc W lv b → Calls Tryz.prog 25 #[.agg #[.string (p ++ nm), .string yh, .string yu, .slice xa xk xj, .slice xb xl xi], .string q, lv] W (fun e w' => ∃ za zj zb zi, e = .returned (.tuple #[.agg #[.string (q ++ (p ++ nm)), .string yh, .string yu, .slice za V.length zj, .slice zb (fit (fit L ++ (a ++ b))).length zi], .bool true]) ∧
                w'.ownsRow W.heap.size 9 1 (.slice za V.length zj) V.length (V.map Value.string) ∧ w'.ownsRow W.heap.size 102 2 (.slice zb (fit (fit L ++ (a ++ b))).length zi) (fit (fit L ++ (a ++ b))).length ((fit (fit L ++ (a ++ b))).flatMap pc) ∧ Below W16.heap.size W16 w' ∧ Below W.heap.size W w')) := fun W lv h hl => by
              refine (wrapMeta_any (p ++ nm) yh yu q V (fit (fit L ++ a)) b _ _ lv W (HG.out.below (HUp.out W (HU.out W h))) okx (n5.below h) (n6.below h) hsx hl Hsb.out ok3).mono ?_
              rintro e w' ⟨hb, ⟨h1, v2, c2, rfl, h3, h4⟩ | ⟨h1, h2⟩⟩
              · rw [fit_idem, fit_two] at h4
                obtain ⟨za, zj, rfl⟩ := row_slice2 h3
                obtain ⟨zb, zi, rfl⟩ := row_slice2 h4
                exact ⟨za, zj, zb, zi, rfl, h3, h4, h.trans (hb.mono h.size), hb⟩
              · exfalso
                rw [fit_idem] at h1
                exact no_clash m1 hlen h1
            clear okx ok3 hpl hpb t1 t2 hsx hlen CP
            have hszM : (Tryz.prog.info? 31).map (·.size) = some 5 := by kernel_rfl
            have HQ : Hid (∀ W, Below W16.heap.size W16 W → Whole W X 31 #[.string (p ++ nm), .string yh, .string yu, .slice xa xk xj, .slice xb xl xi]) := fun W h => whole_below HX16.out h
            have hFF : Hid (Whole W16 Y 31 #[.string (q ++ (p ++ nm)), .string yh, .string yu, .slice ya yk yj, .slice yb yl yi]) := by
              have h := HY16.out
              rw [ByteArray.append_assoc] at h
              exact h
            have M5 := Lib.hid m5
            have M6 := Lib.hid m6
            have HFF2 : Hid ((fit (fit L ++ (a ++ b))).length ≤ 1048576) := by
              have h1 := fit_wp (fit L ++ (a ++ b))
              have h2 := fit_wp L
              have h3 := len_wp (fit (fit L ++ (a ++ b)))
              rw [wp_app, wp_app] at h1
              have := Hsum.out
              exact (by omega : (fit (fit L ++ (a ++ b))).length ≤ 1048576)
            obtain ⟨FF, hFFe⟩ : ∃ FF, fit (fit L ++ (a ++ b)) = FF := ⟨_, rfl⟩
            rw [hFFe] at CW3 M6 HFF2
            have k1 := HQ.out W16.drew (bdr (Below.refl _ _) 1)
            have HE0 : Hid (Below W16.heap.size W16 W16.drew) := bdr (Below.refl _ _) 1
            clear m5 m6 n5 n6 hFFe
            go_upto_region 10 with fail
            go_cut [16, 17] (fun s16 s17 wx => ∃ Z za zj zb zi, s16 = .pointer (some ⟨Z, 0, none⟩) ∧ s17 = .bool true ∧ Hid (Two (w.heap.size + 1) A wx Y Z (q ++ (p ++ nm)) yh yu V FF (.slice ya yk yj) (.slice yb yl yi) (.slice za V.length zj) (.slice zb FF.length zi)))
            case first => as_aux_lemma =>
              refine wp_region_noPanic ?_
              refine wp_region_held_drew (S := fun W => Whole W X 31 #[.string (p ++ nm), .string yh, .string yu, .slice xa xk xj, .slice xb xl xi]) (by kernel_rfl) (by (with_reducible exact k1)) (fun hHeld => ?_)
              refine wpAnyH_take (i := 0) (v := .agg #[.string (p ++ nm), .string yh, .string yu, .slice xa xk xj, .slice xb xl xi]) rfl (by kernel_rfl) (by kernel_rfl) (by kernel_rfl) (fun _ _ _ h => h) (yields_whole (by rfl) 31 _ rfl X 31 #[.string (p ++ nm), .string yh, .string yu, .slice xa xk xj, .slice xb xl xi] rfl (fun W h => h) _ Tryz.underlying31 rfl hszM) hHeld ?_
              try simp only [Act.put, List.setIfInBounds_toArray, List.set_cons_zero, List.set_cons_succ, List.getElem_toArray, List.getElem_cons_zero, List.getElem_cons_succ]
              refine wpAnyH_take (i := 1) (v := ?_) rfl (by kernel_rfl) (by kernel_rfl) (by kernel_rfl) (fun _ _ _ h => h) (Or.inl ⟨by rfl, ?_⟩) hHeld ?_
              rotate_left
              · intro w hSw; (try dsimp only at hSw); go_simp; (try with_reducible rfl)
              try simp only [Act.put, List.setIfInBounds_toArray, List.set_cons_zero, List.set_cons_succ, List.getElem_toArray, List.getElem_cons_zero, List.getElem_cons_succ]
              refine wpAnyH_take (i := 2) (v := ?_) rfl (by kernel_rfl) (by kernel_rfl) (by kernel_rfl) (fun _ _ _ h => h) (Or.inl ⟨by rfl, ?_⟩) hHeld ?_
              rotate_left
              · intro w hSw; (try dsimp only at hSw); go_simp; (try with_reducible rfl)
              try simp only [Act.put, List.setIfInBounds_toArray, List.set_cons_zero, List.set_cons_succ, List.getElem_toArray, List.getElem_cons_zero, List.getElem_cons_succ]
              refine wpAnyH_ready (rs := [3, 8]) (by kernel_rfl) (by simp) (AllReadyH.cons rfl (fun K hK => ?_) (AllReadyH.cons rfl (fun K hK => ?_) AllReadyH.nil))
              · skip
                go_simp
                go_at_call 26; refine (CP3.out _ HE0.out).mono ?_; rintro e y1 ⟨l1, rfl, hl, hb, hb'⟩; have HE1 := Lib.hid hb; have HL1 := Lib.hid hl; have q1 := HQ.out _ hb; clear hl hb hb'
                refine hK.out _ _ ?_ (fun hHeld2 => ?_)
                · first | (with_reducible exact q1) | (with_reducible exact q2) | (with_reducible exact q3) | (with_reducible exact q4) | (with_reducible exact q5) | (with_reducible exact q9)
                clear hK K hHeld; have hHeld := hHeld2; clear hHeld2
                try simp only [Act.put, List.setIfInBounds_toArray, List.set_cons_zero, List.set_cons_succ, List.getElem_toArray, List.getElem_cons_zero, List.getElem_cons_succ]
                refine wpAnyH_ready (rs := [4, 8]) (by kernel_rfl) (by simp) (AllReadyH.cons rfl (fun K hK => ?_) (AllReadyH.cons rfl (fun K hK => ?_) AllReadyH.nil))
                · skip
                  go_simp
                  go_at_call 25; refine (CW3.out _ _ HE1.out HL1.out).mono ?_; rintro e y2 ⟨za, zj, zb, zi, rfl, hr1, hr2, hb, hb'⟩; have HE2 := Lib.hid hb; have HR := Lib.hid (And.intro hr1 hr2); have q2 := HQ.out _ hb; clear hr1 hr2 hb hb'
                  refine hK.out _ _ ?_ (fun hHeld2 => ?_)
                  · first | (with_reducible exact q1) | (with_reducible exact q2) | (with_reducible exact q3) | (with_reducible exact q4) | (with_reducible exact q5) | (with_reducible exact q9)
                  clear hK K hHeld; have hHeld := hHeld2; clear hHeld2
                  try simp only [Act.put, List.setIfInBounds_toArray, List.set_cons_zero, List.set_cons_succ, List.getElem_toArray, List.getElem_cons_zero, List.getElem_cons_succ]
                  refine wpAnyH_take (i := 5) (v := ?_) rfl (by kernel_rfl) (by kernel_rfl) (by kernel_rfl) (fun _ _ _ h => h) (Or.inl ⟨by rfl, ?_⟩) hHeld ?_
                  rotate_left
                  · intro w hSw; (try dsimp only at hSw); go_simp; (try with_reducible rfl)
                  try simp only [Act.put, List.setIfInBounds_toArray, List.set_cons_zero, List.set_cons_succ, List.getElem_toArray, List.getElem_cons_zero, List.getElem_cons_succ]
                  refine wpAnyH_take (i := 6) (v := ?_) rfl (by kernel_rfl) (by kernel_rfl) (by kernel_rfl) (fun _ _ _ h => h) (Or.inl ⟨by rfl, ?_⟩) hHeld ?_
                  rotate_left
                  · intro w hSw; (try dsimp only at hSw); go_simp; (try with_reducible rfl)
                  try simp only [Act.put, List.setIfInBounds_toArray, List.set_cons_zero, List.set_cons_succ, List.getElem_toArray, List.getElem_cons_zero, List.getElem_cons_succ]
                  refine wpAnyH_take (i := 7) (v := ?_) rfl (by kernel_rfl) (by kernel_rfl) (by kernel_rfl) (fun _ _ _ h => h) (Or.inl ⟨by rfl, ?_⟩) hHeld ?_
                  rotate_left
                  · intro w hSw; (try dsimp only at hSw); go_simp; (try with_reducible rfl)
                  try simp only [Act.put, List.setIfInBounds_toArray, List.set_cons_zero, List.set_cons_succ, List.getElem_toArray, List.getElem_cons_zero, List.getElem_cons_succ]
                  refine wpAnyH_ready (rs := [8]) (by kernel_rfl) (by simp) (AllReadyH.cons rfl (fun K hK => ?_) AllReadyH.nil)
                  go_simp
                  have hZge : Hid (W16.heap.size ≤ y2.heap.size) := HE2.out.size; obtain ⟨y3, hy⟩ : ∃ y, y = y2.alloc (.cells #[.string ⟨#[]⟩, .string ⟨#[]⟩, .string ⟨#[]⟩, .slice none 0 0, .slice none 0 0] 31) := ⟨_, rfl⟩; rw [← hy]; have HX3 : Hid (Whole y3 y2.heap.size 31 #[.string ⟨#[]⟩, .string ⟨#[]⟩, .string ⟨#[]⟩, .slice none 0 0, .slice none 0 0]) := (by rw [hy]; exact Whole.made y2 _ _); have HE3 : Hid (Below W16.heap.size W16 y3) := (by rw [hy]; exact HE2.out.alloc HE2.out.size _); have hyb : Hid (Below y2.heap.size y2 y3) := (by rw [hy]; exact (Below.refl _ _).alloc (Nat.le_refl _) _); have hys : y3.heap.size = y2.heap.size + 1 := (by rw [hy]; simp); have q3 := HQ.out _ HE3.out; clear hy
                  refine hK.out _ _ ?_ (fun hHeld2 => ?_)
                  · first | (with_reducible exact q1) | (with_reducible exact q2) | (with_reducible exact q3) | (with_reducible exact q4) | (with_reducible exact q5) | (with_reducible exact q9)
                  clear hK K hHeld; have hHeld := hHeld2; clear hHeld2
                  try simp only [Act.put, List.setIfInBounds_toArray, List.set_cons_zero, List.set_cons_succ, List.getElem_toArray, List.getElem_cons_zero, List.getElem_cons_succ]
                  refine wpAnyH_ready (rs := [9]) (by kernel_rfl) (by simp) (AllReadyH.cons rfl (fun K hK => ?_) AllReadyH.nil)
                  rw [if_pos (by rfl)]
                  refine Big.wp_store_whole _ _ _ rfl (y2.heap.size) 31 _ #[.string (q ++ (p ++ nm)), .string yh, .string yu, .slice za V.length zj, .slice zb FF.length zi] rfl rfl HX3.out rfl hszM (by simp [Value.oneCell']) ?_; intro y9 hx9 hg9 hs9; have hb9 : Below y2.heap.size y2 y9 := hyb.out.grown hg9 hyb.out.size (fun j hj => (by injection hj with hj; omega)); have HE9 : Hid (Below W16.heap.size W16 y9) := HE3.out.grown hg9 HE3.out.size (fun j hj => (by injection hj with hj; subst hj; exact hZge.out)); have q9 := HQ.out _ HE9.out; have HW : Hid (Two (w.heap.size + 1) A y9 Y (y2.heap.size) (q ++ (p ++ nm)) yh yu V FF (.slice ya yk yj) (.slice yb yl yi) (.slice za V.length zj) (.slice zb FF.length zi)) := ⟨HU.out _ HE9.out, whole_below hFF.out HE9.out, hx9, M5.out.below HE9.out, M6.out.below HE9.out, (Sl.Of.own HR.out.1).below hb9, (Ss.Of.own pc_len HR.out.2).below hb9⟩; clear hx9 hg9 hs9
                  refine hK.out _ _ ?_ (fun hHeld2 => ?_)
                  · first | (with_reducible exact q1) | (with_reducible exact q2) | (with_reducible exact q3) | (with_reducible exact q4) | (with_reducible exact q5) | (with_reducible exact q9)
                  clear hK K hHeld; have hHeld := hHeld2; clear hHeld2
                  try simp only [Act.put, List.setIfInBounds_toArray, List.set_cons_zero, List.set_cons_succ, List.getElem_toArray, List.getElem_cons_zero, List.getElem_cons_succ]
                  refine wpAnyH_take (i := 10) (v := ?_) rfl (by kernel_rfl) (by kernel_rfl) (by kernel_rfl) (fun _ _ _ h => h) (Or.inl ⟨by rfl, ?_⟩) hHeld ?_
                  rotate_left
                  · intro w hSw; (try dsimp only at hSw); go_simp; (try with_reducible rfl)
                  try simp only [Act.put, List.setIfInBounds_toArray, List.set_cons_zero, List.set_cons_succ, List.getElem_toArray, List.getElem_cons_zero, List.getElem_cons_succ]
                  refine wpAnyH_done (by kernel_rfl) ?_ _
                  refine NoPanic.normal ?_
                  go_wp2_with fail
                  go_meet
                  exact ⟨_, _, _, _, _, rfl, rfl, HW.out⟩
                · skip
                  go_simp
                  have hZge : Hid (W16.heap.size ≤ y1.heap.size) := HE1.out.size; obtain ⟨y3, hy⟩ : ∃ y, y = y1.alloc (.cells #[.string ⟨#[]⟩, .string ⟨#[]⟩, .string ⟨#[]⟩, .slice none 0 0, .slice none 0 0] 31) := ⟨_, rfl⟩; rw [← hy]; have HX3 : Hid (Whole y3 y1.heap.size 31 #[.string ⟨#[]⟩, .string ⟨#[]⟩, .string ⟨#[]⟩, .slice none 0 0, .slice none 0 0]) := (by rw [hy]; exact Whole.made y1 _ _); have HE3 : Hid (Below W16.heap.size W16 y3) := (by rw [hy]; exact HE1.out.alloc HE1.out.size _); have hyb : Hid (Below y1.heap.size y1 y3) := (by rw [hy]; exact (Below.refl _ _).alloc (Nat.le_refl _) _); have hys : y3.heap.size = y1.heap.size + 1 := (by rw [hy]; simp); have HL3 := Lib.hid (HL1.out.below hyb.out); have q3 := HQ.out _ HE3.out; clear hy
                  refine hK.out _ _ ?_ (fun hHeld2 => ?_)
                  · first | (with_reducible exact q1) | (with_reducible exact q2) | (with_reducible exact q3) | (with_reducible exact q4) | (with_reducible exact q5) | (with_reducible exact q9)
                  clear hK K hHeld; have hHeld := hHeld2; clear hHeld2
                  try simp only [Act.put, List.setIfInBounds_toArray, List.set_cons_zero, List.set_cons_succ, List.getElem_toArray, List.getElem_cons_zero, List.getElem_cons_succ]
                  refine wpAnyH_ready (rs := [4]) (by kernel_rfl) (by simp) (AllReadyH.cons rfl (fun K hK => ?_) AllReadyH.nil)
                  go_simp
                  have hZlt : Hid (y1.heap.size < y3.heap.size) := (by rw [hys]; exact Nat.lt_succ_self _); go_at_call 25; refine (CW3.out _ _ HE3.out HL3.out).mono ?_; rintro e y4 ⟨za, zj, zb, zi, rfl, hr1, hr2, hb, hb'⟩; have HE4 := Lib.hid hb; have HR := Lib.hid (And.intro hr1 hr2); have HX4 := Lib.hid (whole_below HX3.out hb'); have q4 := HQ.out _ hb; clear hr1 hr2 hb hb'
                  refine hK.out _ _ ?_ (fun hHeld2 => ?_)
                  · first | (with_reducible exact q1) | (with_reducible exact q2) | (with_reducible exact q3) | (with_reducible exact q4) | (with_reducible exact q5) | (with_reducible exact q9)
                  clear hK K hHeld; have hHeld := hHeld2; clear hHeld2
                  try simp only [Act.put, List.setIfInBounds_toArray, List.set_cons_zero, List.set_cons_succ, List.getElem_toArray, List.getElem_cons_zero, List.getElem_cons_succ]
                  refine wpAnyH_take (i := 5) (v := ?_) rfl (by kernel_rfl) (by kernel_rfl) (by kernel_rfl) (fun _ _ _ h => h) (Or.inl ⟨by rfl, ?_⟩) hHeld ?_
                  rotate_left
                  · intro w hSw; (try dsimp only at hSw); go_simp; (try with_reducible rfl)
                  try simp only [Act.put, List.setIfInBounds_toArray, List.set_cons_zero, List.set_cons_succ, List.getElem_toArray, List.getElem_cons_zero, List.getElem_cons_succ]
                  refine wpAnyH_take (i := 6) (v := ?_) rfl (by kernel_rfl) (by kernel_rfl) (by kernel_rfl) (fun _ _ _ h => h) (Or.inl ⟨by rfl, ?_⟩) hHeld ?_
                  rotate_left
                  · intro w hSw; (try dsimp only at hSw); go_simp; (try with_reducible rfl)
                  try simp only [Act.put, List.setIfInBounds_toArray, List.set_cons_zero, List.set_cons_succ, List.getElem_toArray, List.getElem_cons_zero, List.getElem_cons_succ]
                  refine wpAnyH_take (i := 7) (v := ?_) rfl (by kernel_rfl) (by kernel_rfl) (by kernel_rfl) (fun _ _ _ h => h) (Or.inl ⟨by rfl, ?_⟩) hHeld ?_
                  rotate_left
                  · intro w hSw; (try dsimp only at hSw); go_simp; (try with_reducible rfl)
                  try simp only [Act.put, List.setIfInBounds_toArray, List.set_cons_zero, List.set_cons_succ, List.getElem_toArray, List.getElem_cons_zero, List.getElem_cons_succ]
                  refine wpAnyH_ready (rs := [9]) (by kernel_rfl) (by simp) (AllReadyH.cons rfl (fun K hK => ?_) AllReadyH.nil)
                  rw [if_pos (by rfl)]
                  refine Big.wp_store_whole _ _ _ rfl (y1.heap.size) 31 _ #[.string (q ++ (p ++ nm)), .string yh, .string yu, .slice za V.length zj, .slice zb FF.length zi] rfl rfl HX4.out rfl hszM (by simp [Value.oneCell']) ?_; intro y9 hx9 hg9 hs9; have HE9 : Hid (Below W16.heap.size W16 y9) := HE4.out.grown hg9 HE4.out.size (fun j hj => (by injection hj with hj; subst hj; exact hZge.out)); have q9 := HQ.out _ HE9.out; have HW : Hid (Two (w.heap.size + 1) A y9 Y (y1.heap.size) (q ++ (p ++ nm)) yh yu V FF (.slice ya yk yj) (.slice yb yl yi) (.slice za V.length zj) (.slice zb FF.length zi)) := ⟨HU.out _ HE9.out, whole_below hFF.out HE9.out, hx9, M5.out.below HE9.out, M6.out.below HE9.out, Sl.Of.own (own_grown HR.out.1 hg9 hZlt.out), Ss.Of.own pc_len (own_grown HR.out.2 hg9 hZlt.out)⟩; clear hx9 hg9 hs9
                  refine hK.out _ _ ?_ (fun hHeld2 => ?_)
                  · first | (with_reducible exact q1) | (with_reducible exact q2) | (with_reducible exact q3) | (with_reducible exact q4) | (with_reducible exact q5) | (with_reducible exact q9)
                  clear hK K hHeld; have hHeld := hHeld2; clear hHeld2
                  try simp only [Act.put, List.setIfInBounds_toArray, List.set_cons_zero, List.set_cons_succ, List.getElem_toArray, List.getElem_cons_zero, List.getElem_cons_succ]
                  refine wpAnyH_take (i := 10) (v := ?_) rfl (by kernel_rfl) (by kernel_rfl) (by kernel_rfl) (fun _ _ _ h => h) (Or.inl ⟨by rfl, ?_⟩) hHeld ?_
                  rotate_left
                  · intro w hSw; (try dsimp only at hSw); go_simp; (try with_reducible rfl)
                  try simp only [Act.put, List.setIfInBounds_toArray, List.set_cons_zero, List.set_cons_succ, List.getElem_toArray, List.getElem_cons_zero, List.getElem_cons_succ]
                  refine wpAnyH_done (by kernel_rfl) ?_ _
                  refine NoPanic.normal ?_
                  go_wp2_with fail
                  go_meet
                  exact ⟨_, _, _, _, _, rfl, rfl, HW.out⟩
              · skip
                go_simp
                have hZge : Hid (W16.heap.size ≤ W16.heap.size) := Nat.le_refl _; obtain ⟨y3, hy⟩ : ∃ y, y = (W16.alloc (.cells #[.string ⟨#[]⟩, .string ⟨#[]⟩, .string ⟨#[]⟩, .slice none 0 0, .slice none 0 0] 31)).drew := ⟨_, rfl⟩; rw [← hy]; have HX3 : Hid (Whole y3 W16.heap.size 31 #[.string ⟨#[]⟩, .string ⟨#[]⟩, .string ⟨#[]⟩, .slice none 0 0, .slice none 0 0]) := (by rw [hy]; exact Whole.made W16 _ _); have HE3 : Hid (Below W16.heap.size W16 y3) := (by rw [hy]; exact bdr ((Below.refl _ _).alloc (Nat.le_refl _) _) 1); have q3 := HQ.out _ HE3.out; clear hy
                refine hK.out _ _ ?_ (fun hHeld2 => ?_)
                · first | (with_reducible exact q1) | (with_reducible exact q2) | (with_reducible exact q3) | (with_reducible exact q4) | (with_reducible exact q5) | (with_reducible exact q9)
                clear hK K hHeld; have hHeld := hHeld2; clear hHeld2
                try simp only [Act.put, List.setIfInBounds_toArray, List.set_cons_zero, List.set_cons_succ, List.getElem_toArray, List.getElem_cons_zero, List.getElem_cons_succ]
                refine wpAnyH_ready (rs := [3]) (by kernel_rfl) (by simp) (AllReadyH.cons rfl (fun K hK => ?_) AllReadyH.nil)
                go_simp
                go_at_call 26; refine (CP3.out _ HE3.out).mono ?_; rintro e y4 ⟨l1, rfl, hl, hb, hb'⟩; have HE4 := Lib.hid hb; have HL4 := Lib.hid hl; have HX4 := Lib.hid (whole_below HX3.out hb'); have q4 := HQ.out _ hb; clear hl hb hb'
                refine hK.out _ _ ?_ (fun hHeld2 => ?_)
                · first | (with_reducible exact q1) | (with_reducible exact q2) | (with_reducible exact q3) | (with_reducible exact q4) | (with_reducible exact q5) | (with_reducible exact q9)
                clear hK K hHeld; have hHeld := hHeld2; clear hHeld2
                try simp only [Act.put, List.setIfInBounds_toArray, List.set_cons_zero, List.set_cons_succ, List.getElem_toArray, List.getElem_cons_zero, List.getElem_cons_succ]
                refine wpAnyH_ready (rs := [4]) (by kernel_rfl) (by simp) (AllReadyH.cons rfl (fun K hK => ?_) AllReadyH.nil)
                go_simp
                have hZlt : Hid (W16.heap.size < y4.heap.size) := (by have h1 := HX4.out.lt; exact h1); go_at_call 25; refine (CW3.out _ _ HE4.out HL4.out).mono ?_; rintro e y5 ⟨za, zj, zb, zi, rfl, hr1, hr2, hb, hb'⟩; have HE5 := Lib.hid hb; have HR := Lib.hid (And.intro hr1 hr2); have HX5 := Lib.hid (whole_below HX4.out hb'); have q5 := HQ.out _ hb; clear hr1 hr2 hb hb'
                refine hK.out _ _ ?_ (fun hHeld2 => ?_)
                · first | (with_reducible exact q1) | (with_reducible exact q2) | (with_reducible exact q3) | (with_reducible exact q4) | (with_reducible exact q5) | (with_reducible exact q9)
                clear hK K hHeld; have hHeld := hHeld2; clear hHeld2
                try simp only [Act.put, List.setIfInBounds_toArray, List.set_cons_zero, List.set_cons_succ, List.getElem_toArray, List.getElem_cons_zero, List.getElem_cons_succ]
                refine wpAnyH_take (i := 5) (v := ?_) rfl (by kernel_rfl) (by kernel_rfl) (by kernel_rfl) (fun _ _ _ h => h) (Or.inl ⟨by rfl, ?_⟩) hHeld ?_
                rotate_left
                · intro w hSw; (try dsimp only at hSw); go_simp; (try with_reducible rfl)
                try simp only [Act.put, List.setIfInBounds_toArray, List.set_cons_zero, List.set_cons_succ, List.getElem_toArray, List.getElem_cons_zero, List.getElem_cons_succ]
                refine wpAnyH_take (i := 6) (v := ?_) rfl (by kernel_rfl) (by kernel_rfl) (by kernel_rfl) (fun _ _ _ h => h) (Or.inl ⟨by rfl, ?_⟩) hHeld ?_
                rotate_left
                · intro w hSw; (try dsimp only at hSw); go_simp; (try with_reducible rfl)
                try simp only [Act.put, List.setIfInBounds_toArray, List.set_cons_zero, List.set_cons_succ, List.getElem_toArray, List.getElem_cons_zero, List.getElem_cons_succ]
                refine wpAnyH_take (i := 7) (v := ?_) rfl (by kernel_rfl) (by kernel_rfl) (by kernel_rfl) (fun _ _ _ h => h) (Or.inl ⟨by rfl, ?_⟩) hHeld ?_
                rotate_left
                · intro w hSw; (try dsimp only at hSw); go_simp; (try with_reducible rfl)
                try simp only [Act.put, List.setIfInBounds_toArray, List.set_cons_zero, List.set_cons_succ, List.getElem_toArray, List.getElem_cons_zero, List.getElem_cons_succ]
                refine wpAnyH_ready (rs := [9]) (by kernel_rfl) (by simp) (AllReadyH.cons rfl (fun K hK => ?_) AllReadyH.nil)
                rw [if_pos (by rfl)]
                refine Big.wp_store_whole _ _ _ rfl (W16.heap.size) 31 _ #[.string (q ++ (p ++ nm)), .string yh, .string yu, .slice za V.length zj, .slice zb FF.length zi] rfl rfl HX5.out rfl hszM (by simp [Value.oneCell']) ?_; intro y9 hx9 hg9 hs9; have HE9 : Hid (Below W16.heap.size W16 y9) := HE5.out.grown hg9 HE5.out.size (fun j hj => (by injection hj with hj; subst hj; exact hZge.out)); have q9 := HQ.out _ HE9.out; have HW : Hid (Two (w.heap.size + 1) A y9 Y (W16.heap.size) (q ++ (p ++ nm)) yh yu V FF (.slice ya yk yj) (.slice yb yl yi) (.slice za V.length zj) (.slice zb FF.length zi)) := ⟨HU.out _ HE9.out, whole_below hFF.out HE9.out, hx9, M5.out.below HE9.out, M6.out.below HE9.out, Sl.Of.own (own_grown HR.out.1 hg9 hZlt.out), Ss.Of.own pc_len (own_grown HR.out.2 hg9 hZlt.out)⟩; clear hx9 hg9 hs9
                refine hK.out _ _ ?_ (fun hHeld2 => ?_)
                · first | (with_reducible exact q1) | (with_reducible exact q2) | (with_reducible exact q3) | (with_reducible exact q4) | (with_reducible exact q5) | (with_reducible exact q9)
                clear hK K hHeld; have hHeld := hHeld2; clear hHeld2
                try simp only [Act.put, List.setIfInBounds_toArray, List.set_cons_zero, List.set_cons_succ, List.getElem_toArray, List.getElem_cons_zero, List.getElem_cons_succ]
                refine wpAnyH_take (i := 10) (v := ?_) rfl (by kernel_rfl) (by kernel_rfl) (by kernel_rfl) (fun _ _ _ h => h) (Or.inl ⟨by rfl, ?_⟩) hHeld ?_
                rotate_left
                · intro w hSw; (try dsimp only at hSw); go_simp; (try with_reducible rfl)
                try simp only [Act.put, List.setIfInBounds_toArray, List.set_cons_zero, List.set_cons_succ, List.getElem_toArray, List.getElem_cons_zero, List.getElem_cons_succ]
                refine wpAnyH_done (by kernel_rfl) ?_ _
                refine NoPanic.normal ?_
                go_wp2_with fail
                go_meet
                exact ⟨_, _, _, _, _, rfl, rfl, HW.out⟩
            case rest => as_aux_lemma =>
              obtain ⟨Z, za, zj, zb, zi, rfl, rfl, hT⟩ := hcut
              obtain ⟨W17, rfl⟩ : ∃ W17, W17 = wc := ⟨_, rfl⟩
              have hz17 := hT.out.b.size
              have HU17 : Hid (∀ W, Below W17.heap.size W17 W → Below (w.heap.size + 1) A W) := fun W h => HTr.out _ _ hT.out.b h
              have HT : Hid (∀ W, Below W17.heap.size W17 W → Two (w.heap.size + 1) A W Y Z (q ++ (p ++ nm)) yh yu V FF (.slice ya yk yj) (.slice yb yl yi) (.slice za V.length zj) (.slice zb FF.length zi)) := fun W h => ⟨HU17.out W h, whole_below hT.out.y h, whole_below hT.out.z h, hT.out.yv.below h, hT.out.yc.below h, hT.out.zv.below h, hT.out.zc.below h⟩
              clear HQ HE0 k1 hFF M5 M6 HX16 HY16 CW3 CP3 HU hT
              have HQ : Hid (∀ W, Below W17.heap.size W17 W → Whole W Z 31 #[.string (q ++ (p ++ nm)), .string yh, .string yu, .slice za V.length zj, .slice zb FF.length zi] ∧ Whole W Y 31 #[.string (q ++ (p ++ nm)), .string yh, .string yu, .slice ya yk yj, .slice yb yl yi]) := fun W h => ⟨(HT.out W h).z, (HT.out W h).y⟩
              have hLV := Hm.out.lenV
              have hszS : (Tryz.prog.info? 25).map (·.size) = some 5 := by kernel_rfl
              have CF : Hid (∀ W vv cv, Below W17.heap.size W17 W → Sl.Of Value.string W vv V → Ss.Of 2 pc W cv FF → Calls Tryz.prog 27 #[.agg #[.string (q ++ (p ++ nm)), .string yh, .string yu, vv, cv]] W (fun e w' => ∃ a k b c, e = .returned (.agg #[.string (q ++ (p ++ nm)), .string yh, .string yu, (.slice a V.length k), (.slice b FF.length c)]) ∧ Back w' W.heap.size w'.heap.size V FF (.slice a V.length k) (.slice b FF.length c) ∧ Below W17.heap.size W17 w' ∧ Below W.heap.size W w')) := fun W vv cv h h1 h2 =>
                (metaFrom_any (q ++ (p ++ nm)) yh yu V FF vv cv W h1 h2 hLV HFF2.out).mono fun e w' ⟨v2, c2, he, h3, h4, h5⟩ => by
                  obtain ⟨a, k, rfl⟩ := row_slice2 h3
                  obtain ⟨b, c, rfl⟩ := row_slice2 h4
                  exact ⟨a, k, b, c, he, ⟨h3, h4, fun g hg => (h3.lt g hg).2, fun g hg => (h4.lt g hg).2⟩, h.trans (h5.mono h.size), h5⟩
              have HE : Hid (Below W17.heap.size W17 W17.drew) := bdr (Below.refl _ _) 1
              have qq := HQ.out _ HE.out
              go_upto_region 11 with fail
              go_cut [18, 19] (fun s18 s19 wx => ∃ G H ma1 mk1 mb1 mc1 ma3 mk3 mb3 mc3, s18 = .pointer (some ⟨G, 0, none⟩) ∧ s19 = .pointer (some ⟨H, 0, none⟩) ∧ Hid (Fin (w.heap.size + 1) A wx G H (q ++ (p ++ nm)) yh yu V FF (.slice ma1 V.length mk1) (.slice mb1 FF.length mc1) (.slice ma3 V.length mk3) (.slice mb3 FF.length mc3)))
              case first => as_aux_lemma =>
                refine wp_region_noPanic ?_
                refine wp_region_held_drew (S := fun W => Whole W Z 31 #[.string (q ++ (p ++ nm)), .string yh, .string yu, .slice za V.length zj, .slice zb FF.length zi] ∧ Whole W Y 31 #[.string (q ++ (p ++ nm)), .string yh, .string yu, .slice ya yk yj, .slice yb yl yi]) (by kernel_rfl) (by (with_reducible exact qq)) (fun hHeld => ?_)
                refine wpAnyH_take (i := 0) (v := .agg #[.string (q ++ (p ++ nm)), .string yh, .string yu, .slice za V.length zj, .slice zb FF.length zi]) rfl (by kernel_rfl) (by kernel_rfl) (by kernel_rfl) (fun _ _ _ h => h) (yields_whole (by rfl) 31 _ rfl Z 31 #[.string (q ++ (p ++ nm)), .string yh, .string yu, .slice za V.length zj, .slice zb FF.length zi] rfl (fun W h => h.1) _ Tryz.underlying31 rfl hszM) hHeld ?_
                try simp only [Act.put, List.setIfInBounds_toArray, List.set_cons_zero, List.set_cons_succ, List.getElem_toArray, List.getElem_cons_zero, List.getElem_cons_succ]
                refine wpAnyH_take (i := 2) (v := .agg #[.string (q ++ (p ++ nm)), .string yh, .string yu, .slice ya yk yj, .slice yb yl yi]) rfl (by kernel_rfl) (by kernel_rfl) (by kernel_rfl) (fun _ _ _ h => h) (yields_whole (by rfl) 31 _ rfl Y 31 #[.string (q ++ (p ++ nm)), .string yh, .string yu, .slice ya yk yj, .slice yb yl yi] rfl (fun W h => h.2) _ Tryz.underlying31 rfl hszM) hHeld ?_
                try simp only [Act.put, List.setIfInBounds_toArray, List.set_cons_zero, List.set_cons_succ, List.getElem_toArray, List.getElem_cons_zero, List.getElem_cons_succ]
                refine wpAnyH_ready (rs := [1, 4, 5]) (by kernel_rfl) (by simp) (AllReadyH.cons rfl (fun K hK => ?_) (AllReadyH.cons rfl (fun K hK => ?_) (AllReadyH.cons rfl (fun K hK => ?_) AllReadyH.nil)))
                · skip
                  go_simp
                  go_at_call 27; refine (CF.out _ _ _ HE.out (HT.out _ HE.out).zv (HT.out _ HE.out).zc).mono ?_; rintro e y1 ⟨ma1, mk1, mb1, mc1, rfl, hk, hb, hb'⟩; have Hr1 := Lib.hid hk; have Hs1 : Hid (y1.heap.size ≤ y1.heap.size) := Nat.le_refl _; replace HE := Lib.hid hb; replace qq := HQ.out _ HE.out; clear hk hb hb'
                  refine hK.out _ _ ?_ (fun hHeld2 => ?_)
                  · with_reducible exact qq
                  clear hK K hHeld; have hHeld := hHeld2; clear hHeld2
                  try simp only [Act.put, List.setIfInBounds_toArray, List.set_cons_zero, List.set_cons_succ, List.getElem_toArray, List.getElem_cons_zero, List.getElem_cons_succ]
                  refine wpAnyH_ready (rs := [3, 4, 5]) (by kernel_rfl) (by simp) (AllReadyH.cons rfl (fun K hK => ?_) (AllReadyH.cons rfl (fun K hK => ?_) (AllReadyH.cons rfl (fun K hK => ?_) AllReadyH.nil)))
                  · skip
                    go_simp
                    go_at_call 27; refine (CF.out _ _ _ HE.out (HT.out _ HE.out).yv (HT.out _ HE.out).yc).mono ?_; rintro e y2 ⟨ma3, mk3, mb3, mc3, rfl, hk, hb, hb'⟩; replace Hr1 := Lib.hid (Hr1.out.below hb'); replace Hs1 := Lib.hid (Nat.le_trans Hs1.out hb'.size); have Hr3 := Lib.hid hk; have Hs3 : Hid (y2.heap.size ≤ y2.heap.size) := Nat.le_refl _; replace HE := Lib.hid hb; replace qq := HQ.out _ HE.out; clear hk hb hb'
                    refine hK.out _ _ ?_ (fun hHeld2 => ?_)
                    · with_reducible exact qq
                    clear hK K hHeld; have hHeld := hHeld2; clear hHeld2
                    try simp only [Act.put, List.setIfInBounds_toArray, List.set_cons_zero, List.set_cons_succ, List.getElem_toArray, List.getElem_cons_zero, List.getElem_cons_succ]
                    refine wpAnyH_ready (rs := [4, 5]) (by kernel_rfl) (by simp) (AllReadyH.cons rfl (fun K hK => ?_) (AllReadyH.cons rfl (fun K hK => ?_) AllReadyH.nil))
                    · skip
                      go_simp
                      obtain ⟨y3, hy⟩ : ∃ y, y = y2.alloc (.cells #[.string ⟨#[]⟩, .string ⟨#[]⟩, .string ⟨#[]⟩, .slice none 0 0, .slice none 0 0] 25) := ⟨_, rfl⟩; rw [← hy]; have Hg4 : Hid (W17.heap.size ≤ y2.heap.size) := HE.out.size; have o41 : Hid (y2.heap.size < W17.drew.heap.size ∨ y1.heap.size ≤ y2.heap.size) := Or.inr Hs1.out; have o43 : Hid (y2.heap.size < y1.heap.size ∨ y2.heap.size ≤ y2.heap.size) := Or.inr Hs3.out; have X4 : Hid (Whole y3 y2.heap.size 25 #[.string ⟨#[]⟩, .string ⟨#[]⟩, .string ⟨#[]⟩, .slice none 0 0, .slice none 0 0]) := (by rw [hy]; exact Whole.made y2 _ _); have hb' : Below y2.heap.size y2 y3 := (by rw [hy]; exact (Below.refl _ _).alloc (Nat.le_refl _) _); replace Hr1 := Lib.hid (Hr1.out.below hb'); replace Hs1 := Lib.hid (Nat.le_trans Hs1.out hb'.size); replace Hr3 := Lib.hid (Hr3.out.below hb'); replace Hs3 := Lib.hid (Nat.le_trans Hs3.out hb'.size); replace HE : Hid (Below W17.heap.size W17 y3) := (by rw [hy]; exact HE.out.alloc HE.out.size _); clear hb'; replace qq := HQ.out _ HE.out; clear hy
                      refine hK.out _ _ ?_ (fun hHeld2 => ?_)
                      · with_reducible exact qq
                      clear hK K hHeld; have hHeld := hHeld2; clear hHeld2
                      try simp only [Act.put, List.setIfInBounds_toArray, List.set_cons_zero, List.set_cons_succ, List.getElem_toArray, List.getElem_cons_zero, List.getElem_cons_succ]
                      refine wpAnyH_ready (rs := [5]) (by kernel_rfl) (by simp) (AllReadyH.cons rfl (fun K hK => ?_) AllReadyH.nil)
                      go_simp
                      obtain ⟨y4, hy⟩ : ∃ y, y = y3.alloc (.cells #[.string ⟨#[]⟩, .string ⟨#[]⟩, .string ⟨#[]⟩, .slice none 0 0, .slice none 0 0] 25) := ⟨_, rfl⟩; rw [← hy]; have Hg5 : Hid (W17.heap.size ≤ y3.heap.size) := HE.out.size; have o51 : Hid (y3.heap.size < W17.drew.heap.size ∨ y1.heap.size ≤ y3.heap.size) := Or.inr Hs1.out; have o53 : Hid (y3.heap.size < y1.heap.size ∨ y2.heap.size ≤ y3.heap.size) := Or.inr Hs3.out; have o45 : Hid (y2.heap.size ≠ y3.heap.size) := Nat.ne_of_lt X4.out.lt; have X5 : Hid (Whole y4 y3.heap.size 25 #[.string ⟨#[]⟩, .string ⟨#[]⟩, .string ⟨#[]⟩, .slice none 0 0, .slice none 0 0]) := (by rw [hy]; exact Whole.made y3 _ _); have hb' : Below y3.heap.size y3 y4 := (by rw [hy]; exact (Below.refl _ _).alloc (Nat.le_refl _) _); replace Hr1 := Lib.hid (Hr1.out.below hb'); replace Hs1 := Lib.hid (Nat.le_trans Hs1.out hb'.size); replace Hr3 := Lib.hid (Hr3.out.below hb'); replace Hs3 := Lib.hid (Nat.le_trans Hs3.out hb'.size); replace X4 := Lib.hid (whole_below X4.out hb'); replace HE : Hid (Below W17.heap.size W17 y4) := (by rw [hy]; exact HE.out.alloc HE.out.size _); clear hb'; replace qq := HQ.out _ HE.out; clear hy
                      refine hK.out _ _ ?_ (fun hHeld2 => ?_)
                      · with_reducible exact qq
                      clear hK K hHeld; have hHeld := hHeld2; clear hHeld2
                      try simp only [Act.put, List.setIfInBounds_toArray, List.set_cons_zero, List.set_cons_succ, List.getElem_toArray, List.getElem_cons_zero, List.getElem_cons_succ]
                      refine wpAnyH_ready (rs := [6]) (by kernel_rfl) (by simp) (AllReadyH.cons rfl (fun K hK => ?_) AllReadyH.nil)
                      rw [if_pos (by rfl)]
                      refine Big.wp_store_whole _ _ _ rfl (y2.heap.size) 25 _ #[.string (q ++ (p ++ nm)), .string yh, .string yu, (.slice ma1 V.length mk1), (.slice mb1 FF.length mc1)] rfl rfl X4.out rfl hszS (by simp [Value.oneCell']) ?_; intro y5 hx9 hg9 hs9; replace HE : Hid (Below W17.heap.size W17 y5) := HE.out.grown hg9 HE.out.size (fun j hj => (by injection hj with hj; subst hj; exact Hg4.out)); replace X5 := Lib.hid (whole_grown X5.out hg9 (Ne.symm o45.out)); replace X4 := Lib.hid hx9; replace Hr1 := Lib.hid (Hr1.out.grown hg9 o41.out); replace Hr3 := Lib.hid (Hr3.out.grown hg9 o43.out); replace qq := HQ.out _ HE.out; clear hx9 hg9 hs9
                      refine hK.out _ _ ?_ (fun hHeld2 => ?_)
                      · with_reducible exact qq
                      clear hK K hHeld; have hHeld := hHeld2; clear hHeld2
                      try simp only [Act.put, List.setIfInBounds_toArray, List.set_cons_zero, List.set_cons_succ, List.getElem_toArray, List.getElem_cons_zero, List.getElem_cons_succ]
                      refine wpAnyH_ready (rs := [7]) (by kernel_rfl) (by simp) (AllReadyH.cons rfl (fun K hK => ?_) AllReadyH.nil)
                      rw [if_pos (by rfl)]
                      refine Big.wp_store_whole _ _ _ rfl (y3.heap.size) 25 _ #[.string (q ++ (p ++ nm)), .string yh, .string yu, (.slice ma3 V.length mk3), (.slice mb3 FF.length mc3)] rfl rfl X5.out rfl hszS (by simp [Value.oneCell']) ?_; intro y6 hx9 hg9 hs9; replace HE : Hid (Below W17.heap.size W17 y6) := HE.out.grown hg9 HE.out.size (fun j hj => (by injection hj with hj; subst hj; exact Hg5.out)); replace X4 := Lib.hid (whole_grown X4.out hg9 o45.out); replace X5 := Lib.hid hx9; replace Hr1 := Lib.hid (Hr1.out.grown hg9 o51.out); replace Hr3 := Lib.hid (Hr3.out.grown hg9 o53.out); replace qq := HQ.out _ HE.out; clear hx9 hg9 hs9
                      refine hK.out _ _ ?_ (fun hHeld2 => ?_)
                      · with_reducible exact qq
                      clear hK K hHeld; have hHeld := hHeld2; clear hHeld2
                      try simp only [Act.put, List.setIfInBounds_toArray, List.set_cons_zero, List.set_cons_succ, List.getElem_toArray, List.getElem_cons_zero, List.getElem_cons_succ]
                      refine wpAnyH_done (by kernel_rfl) ?_ _
                      refine NoPanic.normal ?_
                      go_wp2_with fail
                      go_meet
                      exact ⟨_, _, _, _, _, _, _, _, _, _, rfl, rfl, ⟨HU17.out _ HE.out, X4.out, X5.out, Sl.Of.own Hr1.out.r1, Ss.Of.own pc_len Hr1.out.r2, Sl.Of.own Hr3.out.r1, Ss.Of.own pc_len Hr3.out.r2⟩⟩
                    · skip
                      go_simp
                      obtain ⟨y3, hy⟩ : ∃ y, y = y2.alloc (.cells #[.string ⟨#[]⟩, .string ⟨#[]⟩, .string ⟨#[]⟩, .slice none 0 0, .slice none 0 0] 25) := ⟨_, rfl⟩; rw [← hy]; have Hg5 : Hid (W17.heap.size ≤ y2.heap.size) := HE.out.size; have o51 : Hid (y2.heap.size < W17.drew.heap.size ∨ y1.heap.size ≤ y2.heap.size) := Or.inr Hs1.out; have o53 : Hid (y2.heap.size < y1.heap.size ∨ y2.heap.size ≤ y2.heap.size) := Or.inr Hs3.out; have X5 : Hid (Whole y3 y2.heap.size 25 #[.string ⟨#[]⟩, .string ⟨#[]⟩, .string ⟨#[]⟩, .slice none 0 0, .slice none 0 0]) := (by rw [hy]; exact Whole.made y2 _ _); have hb' : Below y2.heap.size y2 y3 := (by rw [hy]; exact (Below.refl _ _).alloc (Nat.le_refl _) _); replace Hr1 := Lib.hid (Hr1.out.below hb'); replace Hs1 := Lib.hid (Nat.le_trans Hs1.out hb'.size); replace Hr3 := Lib.hid (Hr3.out.below hb'); replace Hs3 := Lib.hid (Nat.le_trans Hs3.out hb'.size); replace HE : Hid (Below W17.heap.size W17 y3) := (by rw [hy]; exact HE.out.alloc HE.out.size _); clear hb'; replace qq := HQ.out _ HE.out; clear hy
                      refine hK.out _ _ ?_ (fun hHeld2 => ?_)
                      · with_reducible exact qq
                      clear hK K hHeld; have hHeld := hHeld2; clear hHeld2
                      try simp only [Act.put, List.setIfInBounds_toArray, List.set_cons_zero, List.set_cons_succ, List.getElem_toArray, List.getElem_cons_zero, List.getElem_cons_succ]
                      refine wpAnyH_ready (rs := [4]) (by kernel_rfl) (by simp) (AllReadyH.cons rfl (fun K hK => ?_) AllReadyH.nil)
                      go_simp
                      obtain ⟨y4, hy⟩ : ∃ y, y = y3.alloc (.cells #[.string ⟨#[]⟩, .string ⟨#[]⟩, .string ⟨#[]⟩, .slice none 0 0, .slice none 0 0] 25) := ⟨_, rfl⟩; rw [← hy]; have Hg4 : Hid (W17.heap.size ≤ y3.heap.size) := HE.out.size; have o41 : Hid (y3.heap.size < W17.drew.heap.size ∨ y1.heap.size ≤ y3.heap.size) := Or.inr Hs1.out; have o43 : Hid (y3.heap.size < y1.heap.size ∨ y2.heap.size ≤ y3.heap.size) := Or.inr Hs3.out; have o45 : Hid (y3.heap.size ≠ y2.heap.size) := Nat.ne_of_gt X5.out.lt; have X4 : Hid (Whole y4 y3.heap.size 25 #[.string ⟨#[]⟩, .string ⟨#[]⟩, .string ⟨#[]⟩, .slice none 0 0, .slice none 0 0]) := (by rw [hy]; exact Whole.made y3 _ _); have hb' : Below y3.heap.size y3 y4 := (by rw [hy]; exact (Below.refl _ _).alloc (Nat.le_refl _) _); replace Hr1 := Lib.hid (Hr1.out.below hb'); replace Hs1 := Lib.hid (Nat.le_trans Hs1.out hb'.size); replace Hr3 := Lib.hid (Hr3.out.below hb'); replace Hs3 := Lib.hid (Nat.le_trans Hs3.out hb'.size); replace X5 := Lib.hid (whole_below X5.out hb'); replace HE : Hid (Below W17.heap.size W17 y4) := (by rw [hy]; exact HE.out.alloc HE.out.size _); clear hb'; replace qq := HQ.out _ HE.out; clear hy
                      refine hK.out _ _ ?_ (fun hHeld2 => ?_)
                      · with_reducible exact qq
                      clear hK K hHeld; have hHeld := hHeld2; clear hHeld2
                      try simp only [Act.put, List.setIfInBounds_toArray, List.set_cons_zero, List.set_cons_succ, List.getElem_toArray, List.getElem_cons_zero, List.getElem_cons_succ]
                      refine wpAnyH_ready (rs := [6]) (by kernel_rfl) (by simp) (AllReadyH.cons rfl (fun K hK => ?_) AllReadyH.nil)
                      rw [if_pos (by rfl)]
                      refine Big.wp_store_whole _ _ _ rfl (y3.heap.size) 25 _ #[.string (q ++ (p ++ nm)), .string yh, .string yu, (.slice ma1 V.length mk1), (.slice mb1 FF.length mc1)] rfl rfl X4.out rfl hszS (by simp [Value.oneCell']) ?_; intro y5 hx9 hg9 hs9; replace HE : Hid (Below W17.heap.size W17 y5) := HE.out.grown hg9 HE.out.size (fun j hj => (by injection hj with hj; subst hj; exact Hg4.out)); replace X5 := Lib.hid (whole_grown X5.out hg9 (Ne.symm o45.out)); replace X4 := Lib.hid hx9; replace Hr1 := Lib.hid (Hr1.out.grown hg9 o41.out); replace Hr3 := Lib.hid (Hr3.out.grown hg9 o43.out); replace qq := HQ.out _ HE.out; clear hx9 hg9 hs9
                      refine hK.out _ _ ?_ (fun hHeld2 => ?_)
                      · with_reducible exact qq
                      clear hK K hHeld; have hHeld := hHeld2; clear hHeld2
                      try simp only [Act.put, List.setIfInBounds_toArray, List.set_cons_zero, List.set_cons_succ, List.getElem_toArray, List.getElem_cons_zero, List.getElem_cons_succ]
                      refine wpAnyH_ready (rs := [7]) (by kernel_rfl) (by simp) (AllReadyH.cons rfl (fun K hK => ?_) AllReadyH.nil)
                      rw [if_pos (by rfl)]
                      refine Big.wp_store_whole _ _ _ rfl (y2.heap.size) 25 _ #[.string (q ++ (p ++ nm)), .string yh, .string yu, (.slice ma3 V.length mk3), (.slice mb3 FF.length mc3)] rfl rfl X5.out rfl hszS (by simp [Value.oneCell']) ?_; intro y6 hx9 hg9 hs9; replace HE : Hid (Below W17.heap.size W17 y6) := HE.out.grown hg9 HE.out.size (fun j hj => (by injection hj with hj; subst hj; exact Hg5.out)); replace X4 := Lib.hid (whole_grown X4.out hg9 o45.out); replace X5 := Lib.hid hx9; replace Hr1 := Lib.hid (Hr1.out.grown hg9 o51.out); replace Hr3 := Lib.hid (Hr3.out.grown hg9 o53.out); replace qq := HQ.out _ HE.out; clear hx9 hg9 hs9
                      refine hK.out _ _ ?_ (fun hHeld2 => ?_)
                      · with_reducible exact qq
                      clear hK K hHeld; have hHeld := hHeld2; clear hHeld2
                      try simp only [Act.put, List.setIfInBounds_toArray, List.set_cons_zero, List.set_cons_succ, List.getElem_toArray, List.getElem_cons_zero, List.getElem_cons_succ]
                      refine wpAnyH_done (by kernel_rfl) ?_ _
                      refine NoPanic.normal ?_
                      go_wp2_with fail
                      go_meet
                      exact ⟨_, _, _, _, _, _, _, _, _, _, rfl, rfl, ⟨HU17.out _ HE.out, X4.out, X5.out, Sl.Of.own Hr1.out.r1, Ss.Of.own pc_len Hr1.out.r2, Sl.Of.own Hr3.out.r1, Ss.Of.own pc_len Hr3.out.r2⟩⟩
                  · skip
                    go_simp
                    obtain ⟨y2, hy⟩ : ∃ y, y = y1.alloc (.cells #[.string ⟨#[]⟩, .string ⟨#[]⟩, .string ⟨#[]⟩, .slice none 0 0, .slice none 0 0] 25) := ⟨_, rfl⟩; rw [← hy]; have Hg4 : Hid (W17.heap.size ≤ y1.heap.size) := HE.out.size; have o41 : Hid (y1.heap.size < W17.drew.heap.size ∨ y1.heap.size ≤ y1.heap.size) := Or.inr Hs1.out; have X4 : Hid (Whole y2 y1.heap.size 25 #[.string ⟨#[]⟩, .string ⟨#[]⟩, .string ⟨#[]⟩, .slice none 0 0, .slice none 0 0]) := (by rw [hy]; exact Whole.made y1 _ _); have hb' : Below y1.heap.size y1 y2 := (by rw [hy]; exact (Below.refl _ _).alloc (Nat.le_refl _) _); replace Hr1 := Lib.hid (Hr1.out.below hb'); replace Hs1 := Lib.hid (Nat.le_trans Hs1.out hb'.size); replace HE : Hid (Below W17.heap.size W17 y2) := (by rw [hy]; exact HE.out.alloc HE.out.size _); clear hb'; replace qq := HQ.out _ HE.out; clear hy
                    refine hK.out _ _ ?_ (fun hHeld2 => ?_)
                    · with_reducible exact qq
                    clear hK K hHeld; have hHeld := hHeld2; clear hHeld2
                    try simp only [Act.put, List.setIfInBounds_toArray, List.set_cons_zero, List.set_cons_succ, List.getElem_toArray, List.getElem_cons_zero, List.getElem_cons_succ]
                    refine wpAnyH_ready (rs := [3, 5]) (by kernel_rfl) (by simp) (AllReadyH.cons rfl (fun K hK => ?_) (AllReadyH.cons rfl (fun K hK => ?_) AllReadyH.nil))
                    · skip
                      go_simp
                      go_at_call 27; refine (CF.out _ _ _ HE.out (HT.out _ HE.out).yv (HT.out _ HE.out).yc).mono ?_; rintro e y3 ⟨ma3, mk3, mb3, mc3, rfl, hk, hb, hb'⟩; have o43 : Hid (y1.heap.size < y2.heap.size ∨ y3.heap.size ≤ y1.heap.size) := Or.inl X4.out.lt; replace Hr1 := Lib.hid (Hr1.out.below hb'); replace Hs1 := Lib.hid (Nat.le_trans Hs1.out hb'.size); replace X4 := Lib.hid (whole_below X4.out hb'); have Hr3 := Lib.hid hk; have Hs3 : Hid (y3.heap.size ≤ y3.heap.size) := Nat.le_refl _; replace HE := Lib.hid hb; replace qq := HQ.out _ HE.out; clear hk hb hb'
                      refine hK.out _ _ ?_ (fun hHeld2 => ?_)
                      · with_reducible exact qq
                      clear hK K hHeld; have hHeld := hHeld2; clear hHeld2
                      try simp only [Act.put, List.setIfInBounds_toArray, List.set_cons_zero, List.set_cons_succ, List.getElem_toArray, List.getElem_cons_zero, List.getElem_cons_succ]
                      refine wpAnyH_ready (rs := [5]) (by kernel_rfl) (by simp) (AllReadyH.cons rfl (fun K hK => ?_) AllReadyH.nil)
                      go_simp
                      obtain ⟨y4, hy⟩ : ∃ y, y = y3.alloc (.cells #[.string ⟨#[]⟩, .string ⟨#[]⟩, .string ⟨#[]⟩, .slice none 0 0, .slice none 0 0] 25) := ⟨_, rfl⟩; rw [← hy]; have Hg5 : Hid (W17.heap.size ≤ y3.heap.size) := HE.out.size; have o51 : Hid (y3.heap.size < W17.drew.heap.size ∨ y1.heap.size ≤ y3.heap.size) := Or.inr Hs1.out; have o53 : Hid (y3.heap.size < y2.heap.size ∨ y3.heap.size ≤ y3.heap.size) := Or.inr Hs3.out; have o45 : Hid (y1.heap.size ≠ y3.heap.size) := Nat.ne_of_lt X4.out.lt; have X5 : Hid (Whole y4 y3.heap.size 25 #[.string ⟨#[]⟩, .string ⟨#[]⟩, .string ⟨#[]⟩, .slice none 0 0, .slice none 0 0]) := (by rw [hy]; exact Whole.made y3 _ _); have hb' : Below y3.heap.size y3 y4 := (by rw [hy]; exact (Below.refl _ _).alloc (Nat.le_refl _) _); replace Hr1 := Lib.hid (Hr1.out.below hb'); replace Hs1 := Lib.hid (Nat.le_trans Hs1.out hb'.size); replace Hr3 := Lib.hid (Hr3.out.below hb'); replace Hs3 := Lib.hid (Nat.le_trans Hs3.out hb'.size); replace X4 := Lib.hid (whole_below X4.out hb'); replace HE : Hid (Below W17.heap.size W17 y4) := (by rw [hy]; exact HE.out.alloc HE.out.size _); clear hb'; replace qq := HQ.out _ HE.out; clear hy
                      refine hK.out _ _ ?_ (fun hHeld2 => ?_)
                      · with_reducible exact qq
                      clear hK K hHeld; have hHeld := hHeld2; clear hHeld2
                      try simp only [Act.put, List.setIfInBounds_toArray, List.set_cons_zero, List.set_cons_succ, List.getElem_toArray, List.getElem_cons_zero, List.getElem_cons_succ]
                      refine wpAnyH_ready (rs := [6]) (by kernel_rfl) (by simp) (AllReadyH.cons rfl (fun K hK => ?_) AllReadyH.nil)
                      rw [if_pos (by rfl)]
                      refine Big.wp_store_whole _ _ _ rfl (y1.heap.size) 25 _ #[.string (q ++ (p ++ nm)), .string yh, .string yu, (.slice ma1 V.length mk1), (.slice mb1 FF.length mc1)] rfl rfl X4.out rfl hszS (by simp [Value.oneCell']) ?_; intro y5 hx9 hg9 hs9; replace HE : Hid (Below W17.heap.size W17 y5) := HE.out.grown hg9 HE.out.size (fun j hj => (by injection hj with hj; subst hj; exact Hg4.out)); replace X5 := Lib.hid (whole_grown X5.out hg9 (Ne.symm o45.out)); replace X4 := Lib.hid hx9; replace Hr1 := Lib.hid (Hr1.out.grown hg9 o41.out); replace Hr3 := Lib.hid (Hr3.out.grown hg9 o43.out); replace qq := HQ.out _ HE.out; clear hx9 hg9 hs9
                      refine hK.out _ _ ?_ (fun hHeld2 => ?_)
                      · with_reducible exact qq
                      clear hK K hHeld; have hHeld := hHeld2; clear hHeld2
                      try simp only [Act.put, List.setIfInBounds_toArray, List.set_cons_zero, List.set_cons_succ, List.getElem_toArray, List.getElem_cons_zero, List.getElem_cons_succ]
                      refine wpAnyH_ready (rs := [7]) (by kernel_rfl) (by simp) (AllReadyH.cons rfl (fun K hK => ?_) AllReadyH.nil)
                      rw [if_pos (by rfl)]
                      refine Big.wp_store_whole _ _ _ rfl (y3.heap.size) 25 _ #[.string (q ++ (p ++ nm)), .string yh, .string yu, (.slice ma3 V.length mk3), (.slice mb3 FF.length mc3)] rfl rfl X5.out rfl hszS (by simp [Value.oneCell']) ?_; intro y6 hx9 hg9 hs9; replace HE : Hid (Below W17.heap.size W17 y6) := HE.out.grown hg9 HE.out.size (fun j hj => (by injection hj with hj; subst hj; exact Hg5.out)); replace X4 := Lib.hid (whole_grown X4.out hg9 o45.out); replace X5 := Lib.hid hx9; replace Hr1 := Lib.hid (Hr1.out.grown hg9 o51.out); replace Hr3 := Lib.hid (Hr3.out.grown hg9 o53.out); replace qq := HQ.out _ HE.out; clear hx9 hg9 hs9
                      refine hK.out _ _ ?_ (fun hHeld2 => ?_)
                      · with_reducible exact qq
                      clear hK K hHeld; have hHeld := hHeld2; clear hHeld2
                      try simp only [Act.put, List.setIfInBounds_toArray, List.set_cons_zero, List.set_cons_succ, List.getElem_toArray, List.getElem_cons_zero, List.getElem_cons_succ]
                      refine wpAnyH_done (by kernel_rfl) ?_ _
                      refine NoPanic.normal ?_
                      go_wp2_with fail
                      go_meet
                      exact ⟨_, _, _, _, _, _, _, _, _, _, rfl, rfl, ⟨HU17.out _ HE.out, X4.out, X5.out, Sl.Of.own Hr1.out.r1, Ss.Of.own pc_len Hr1.out.r2, Sl.Of.own Hr3.out.r1, Ss.Of.own pc_len Hr3.out.r2⟩⟩
                    · skip
                      go_simp
                      obtain ⟨y3, hy⟩ : ∃ y, y = y2.alloc (.cells #[.string ⟨#[]⟩, .string ⟨#[]⟩, .string ⟨#[]⟩, .slice none 0 0, .slice none 0 0] 25) := ⟨_, rfl⟩; rw [← hy]; have Hg5 : Hid (W17.heap.size ≤ y2.heap.size) := HE.out.size; have o51 : Hid (y2.heap.size < W17.drew.heap.size ∨ y1.heap.size ≤ y2.heap.size) := Or.inr Hs1.out; have o45 : Hid (y1.heap.size ≠ y2.heap.size) := Nat.ne_of_lt X4.out.lt; have X5 : Hid (Whole y3 y2.heap.size 25 #[.string ⟨#[]⟩, .string ⟨#[]⟩, .string ⟨#[]⟩, .slice none 0 0, .slice none 0 0]) := (by rw [hy]; exact Whole.made y2 _ _); have hb' : Below y2.heap.size y2 y3 := (by rw [hy]; exact (Below.refl _ _).alloc (Nat.le_refl _) _); replace Hr1 := Lib.hid (Hr1.out.below hb'); replace Hs1 := Lib.hid (Nat.le_trans Hs1.out hb'.size); replace X4 := Lib.hid (whole_below X4.out hb'); replace HE : Hid (Below W17.heap.size W17 y3) := (by rw [hy]; exact HE.out.alloc HE.out.size _); clear hb'; replace qq := HQ.out _ HE.out; clear hy
                      refine hK.out _ _ ?_ (fun hHeld2 => ?_)
                      · with_reducible exact qq
                      clear hK K hHeld; have hHeld := hHeld2; clear hHeld2
                      try simp only [Act.put, List.setIfInBounds_toArray, List.set_cons_zero, List.set_cons_succ, List.getElem_toArray, List.getElem_cons_zero, List.getElem_cons_succ]
                      refine wpAnyH_ready (rs := [3]) (by kernel_rfl) (by simp) (AllReadyH.cons rfl (fun K hK => ?_) AllReadyH.nil)
                      go_simp
                      go_at_call 27; refine (CF.out _ _ _ HE.out (HT.out _ HE.out).yv (HT.out _ HE.out).yc).mono ?_; rintro e y4 ⟨ma3, mk3, mb3, mc3, rfl, hk, hb, hb'⟩; have o43 : Hid (y1.heap.size < y3.heap.size ∨ y4.heap.size ≤ y1.heap.size) := Or.inl X4.out.lt; have o53 : Hid (y2.heap.size < y3.heap.size ∨ y4.heap.size ≤ y2.heap.size) := Or.inl X5.out.lt; replace Hr1 := Lib.hid (Hr1.out.below hb'); replace Hs1 := Lib.hid (Nat.le_trans Hs1.out hb'.size); replace X4 := Lib.hid (whole_below X4.out hb'); replace X5 := Lib.hid (whole_below X5.out hb'); have Hr3 := Lib.hid hk; have Hs3 : Hid (y4.heap.size ≤ y4.heap.size) := Nat.le_refl _; replace HE := Lib.hid hb; replace qq := HQ.out _ HE.out; clear hk hb hb'
                      refine hK.out _ _ ?_ (fun hHeld2 => ?_)
                      · with_reducible exact qq
                      clear hK K hHeld; have hHeld := hHeld2; clear hHeld2
                      try simp only [Act.put, List.setIfInBounds_toArray, List.set_cons_zero, List.set_cons_succ, List.getElem_toArray, List.getElem_cons_zero, List.getElem_cons_succ]
                      refine wpAnyH_ready (rs := [6]) (by kernel_rfl) (by simp) (AllReadyH.cons rfl (fun K hK => ?_) AllReadyH.nil)
                      rw [if_pos (by rfl)]
                      refine Big.wp_store_whole _ _ _ rfl (y1.heap.size) 25 _ #[.string (q ++ (p ++ nm)), .string yh, .string yu, (.slice ma1 V.length mk1), (.slice mb1 FF.length mc1)] rfl rfl X4.out rfl hszS (by simp [Value.oneCell']) ?_; intro y5 hx9 hg9 hs9; replace HE : Hid (Below W17.heap.size W17 y5) := HE.out.grown hg9 HE.out.size (fun j hj => (by injection hj with hj; subst hj; exact Hg4.out)); replace X5 := Lib.hid (whole_grown X5.out hg9 (Ne.symm o45.out)); replace X4 := Lib.hid hx9; replace Hr1 := Lib.hid (Hr1.out.grown hg9 o41.out); replace Hr3 := Lib.hid (Hr3.out.grown hg9 o43.out); replace qq := HQ.out _ HE.out; clear hx9 hg9 hs9
                      refine hK.out _ _ ?_ (fun hHeld2 => ?_)
                      · with_reducible exact qq
                      clear hK K hHeld; have hHeld := hHeld2; clear hHeld2
                      try simp only [Act.put, List.setIfInBounds_toArray, List.set_cons_zero, List.set_cons_succ, List.getElem_toArray, List.getElem_cons_zero, List.getElem_cons_succ]
                      refine wpAnyH_ready (rs := [7]) (by kernel_rfl) (by simp) (AllReadyH.cons rfl (fun K hK => ?_) AllReadyH.nil)
                      rw [if_pos (by rfl)]
                      refine Big.wp_store_whole _ _ _ rfl (y2.heap.size) 25 _ #[.string (q ++ (p ++ nm)), .string yh, .string yu, (.slice ma3 V.length mk3), (.slice mb3 FF.length mc3)] rfl rfl X5.out rfl hszS (by simp [Value.oneCell']) ?_; intro y6 hx9 hg9 hs9; replace HE : Hid (Below W17.heap.size W17 y6) := HE.out.grown hg9 HE.out.size (fun j hj => (by injection hj with hj; subst hj; exact Hg5.out)); replace X4 := Lib.hid (whole_grown X4.out hg9 o45.out); replace X5 := Lib.hid hx9; replace Hr1 := Lib.hid (Hr1.out.grown hg9 o51.out); replace Hr3 := Lib.hid (Hr3.out.grown hg9 o53.out); replace qq := HQ.out _ HE.out; clear hx9 hg9 hs9
                      refine hK.out _ _ ?_ (fun hHeld2 => ?_)
                      · with_reducible exact qq
                      clear hK K hHeld; have hHeld := hHeld2; clear hHeld2
                      try simp only [Act.put, List.setIfInBounds_toArray, List.set_cons_zero, List.set_cons_succ, List.getElem_toArray, List.getElem_cons_zero, List.getElem_cons_succ]
                      refine wpAnyH_done (by kernel_rfl) ?_ _
                      refine NoPanic.normal ?_
                      go_wp2_with fail
                      go_meet
                      exact ⟨_, _, _, _, _, _, _, _, _, _, rfl, rfl, ⟨HU17.out _ HE.out, X4.out, X5.out, Sl.Of.own Hr1.out.r1, Ss.Of.own pc_len Hr1.out.r2, Sl.Of.own Hr3.out.r1, Ss.Of.own pc_len Hr3.out.r2⟩⟩
                  · skip
                    go_simp
                    obtain ⟨y2, hy⟩ : ∃ y, y = y1.alloc (.cells #[.string ⟨#[]⟩, .string ⟨#[]⟩, .string ⟨#[]⟩, .slice none 0 0, .slice none 0 0] 25) := ⟨_, rfl⟩; rw [← hy]; have Hg5 : Hid (W17.heap.size ≤ y1.heap.size) := HE.out.size; have o51 : Hid (y1.heap.size < W17.drew.heap.size ∨ y1.heap.size ≤ y1.heap.size) := Or.inr Hs1.out; have X5 : Hid (Whole y2 y1.heap.size 25 #[.string ⟨#[]⟩, .string ⟨#[]⟩, .string ⟨#[]⟩, .slice none 0 0, .slice none 0 0]) := (by rw [hy]; exact Whole.made y1 _ _); have hb' : Below y1.heap.size y1 y2 := (by rw [hy]; exact (Below.refl _ _).alloc (Nat.le_refl _) _); replace Hr1 := Lib.hid (Hr1.out.below hb'); replace Hs1 := Lib.hid (Nat.le_trans Hs1.out hb'.size); replace HE : Hid (Below W17.heap.size W17 y2) := (by rw [hy]; exact HE.out.alloc HE.out.size _); clear hb'; replace qq := HQ.out _ HE.out; clear hy
                    refine hK.out _ _ ?_ (fun hHeld2 => ?_)
                    · with_reducible exact qq
                    clear hK K hHeld; have hHeld := hHeld2; clear hHeld2
                    try simp only [Act.put, List.setIfInBounds_toArray, List.set_cons_zero, List.set_cons_succ, List.getElem_toArray, List.getElem_cons_zero, List.getElem_cons_succ]
                    refine wpAnyH_ready (rs := [3, 4]) (by kernel_rfl) (by simp) (AllReadyH.cons rfl (fun K hK => ?_) (AllReadyH.cons rfl (fun K hK => ?_) AllReadyH.nil))
                    · skip
                      go_simp
                      go_at_call 27; refine (CF.out _ _ _ HE.out (HT.out _ HE.out).yv (HT.out _ HE.out).yc).mono ?_; rintro e y3 ⟨ma3, mk3, mb3, mc3, rfl, hk, hb, hb'⟩; have o53 : Hid (y1.heap.size < y2.heap.size ∨ y3.heap.size ≤ y1.heap.size) := Or.inl X5.out.lt; replace Hr1 := Lib.hid (Hr1.out.below hb'); replace Hs1 := Lib.hid (Nat.le_trans Hs1.out hb'.size); replace X5 := Lib.hid (whole_below X5.out hb'); have Hr3 := Lib.hid hk; have Hs3 : Hid (y3.heap.size ≤ y3.heap.size) := Nat.le_refl _; replace HE := Lib.hid hb; replace qq := HQ.out _ HE.out; clear hk hb hb'
                      refine hK.out _ _ ?_ (fun hHeld2 => ?_)
                      · with_reducible exact qq
                      clear hK K hHeld; have hHeld := hHeld2; clear hHeld2
                      try simp only [Act.put, List.setIfInBounds_toArray, List.set_cons_zero, List.set_cons_succ, List.getElem_toArray, List.getElem_cons_zero, List.getElem_cons_succ]
                      refine wpAnyH_ready (rs := [4]) (by kernel_rfl) (by simp) (AllReadyH.cons rfl (fun K hK => ?_) AllReadyH.nil)
                      go_simp
                      obtain ⟨y4, hy⟩ : ∃ y, y = y3.alloc (.cells #[.string ⟨#[]⟩, .string ⟨#[]⟩, .string ⟨#[]⟩, .slice none 0 0, .slice none 0 0] 25) := ⟨_, rfl⟩; rw [← hy]; have Hg4 : Hid (W17.heap.size ≤ y3.heap.size) := HE.out.size; have o41 : Hid (y3.heap.size < W17.drew.heap.size ∨ y1.heap.size ≤ y3.heap.size) := Or.inr Hs1.out; have o43 : Hid (y3.heap.size < y2.heap.size ∨ y3.heap.size ≤ y3.heap.size) := Or.inr Hs3.out; have o45 : Hid (y3.heap.size ≠ y1.heap.size) := Nat.ne_of_gt X5.out.lt; have X4 : Hid (Whole y4 y3.heap.size 25 #[.string ⟨#[]⟩, .string ⟨#[]⟩, .string ⟨#[]⟩, .slice none 0 0, .slice none 0 0]) := (by rw [hy]; exact Whole.made y3 _ _); have hb' : Below y3.heap.size y3 y4 := (by rw [hy]; exact (Below.refl _ _).alloc (Nat.le_refl _) _); replace Hr1 := Lib.hid (Hr1.out.below hb'); replace Hs1 := Lib.hid (Nat.le_trans Hs1.out hb'.size); replace Hr3 := Lib.hid (Hr3.out.below hb'); replace Hs3 := Lib.hid (Nat.le_trans Hs3.out hb'.size); replace X5 := Lib.hid (whole_below X5.out hb'); replace HE : Hid (Below W17.heap.size W17 y4) := (by rw [hy]; exact HE.out.alloc HE.out.size _); clear hb'; replace qq := HQ.out _ HE.out; clear hy
                      refine hK.out _ _ ?_ (fun hHeld2 => ?_)
                      · with_reducible exact qq
                      clear hK K hHeld; have hHeld := hHeld2; clear hHeld2
                      try simp only [Act.put, List.setIfInBounds_toArray, List.set_cons_zero, List.set_cons_succ, List.getElem_toArray, List.getElem_cons_zero, List.getElem_cons_succ]
                      refine wpAnyH_ready (rs := [6]) (by kernel_rfl) (by simp) (AllReadyH.cons rfl (fun K hK => ?_) AllReadyH.nil)
                      rw [if_pos (by rfl)]
                      refine Big.wp_store_whole _ _ _ rfl (y3.heap.size) 25 _ #[.string (q ++ (p ++ nm)), .string yh, .string yu, (.slice ma1 V.length mk1), (.slice mb1 FF.length mc1)] rfl rfl X4.out rfl hszS (by simp [Value.oneCell']) ?_; intro y5 hx9 hg9 hs9; replace HE : Hid (Below W17.heap.size W17 y5) := HE.out.grown hg9 HE.out.size (fun j hj => (by injection hj with hj; subst hj; exact Hg4.out)); replace X5 := Lib.hid (whole_grown X5.out hg9 (Ne.symm o45.out)); replace X4 := Lib.hid hx9; replace Hr1 := Lib.hid (Hr1.out.grown hg9 o41.out); replace Hr3 := Lib.hid (Hr3.out.grown hg9 o43.out); replace qq := HQ.out _ HE.out; clear hx9 hg9 hs9
                      refine hK.out _ _ ?_ (fun hHeld2 => ?_)
                      · with_reducible exact qq
                      clear hK K hHeld; have hHeld := hHeld2; clear hHeld2
                      try simp only [Act.put, List.setIfInBounds_toArray, List.set_cons_zero, List.set_cons_succ, List.getElem_toArray, List.getElem_cons_zero, List.getElem_cons_succ]
                      refine wpAnyH_ready (rs := [7]) (by kernel_rfl) (by simp) (AllReadyH.cons rfl (fun K hK => ?_) AllReadyH.nil)
                      rw [if_pos (by rfl)]
                      refine Big.wp_store_whole _ _ _ rfl (y1.heap.size) 25 _ #[.string (q ++ (p ++ nm)), .string yh, .string yu, (.slice ma3 V.length mk3), (.slice mb3 FF.length mc3)] rfl rfl X5.out rfl hszS (by simp [Value.oneCell']) ?_; intro y6 hx9 hg9 hs9; replace HE : Hid (Below W17.heap.size W17 y6) := HE.out.grown hg9 HE.out.size (fun j hj => (by injection hj with hj; subst hj; exact Hg5.out)); replace X4 := Lib.hid (whole_grown X4.out hg9 o45.out); replace X5 := Lib.hid hx9; replace Hr1 := Lib.hid (Hr1.out.grown hg9 o51.out); replace Hr3 := Lib.hid (Hr3.out.grown hg9 o53.out); replace qq := HQ.out _ HE.out; clear hx9 hg9 hs9
                      refine hK.out _ _ ?_ (fun hHeld2 => ?_)
                      · with_reducible exact qq
                      clear hK K hHeld; have hHeld := hHeld2; clear hHeld2
                      try simp only [Act.put, List.setIfInBounds_toArray, List.set_cons_zero, List.set_cons_succ, List.getElem_toArray, List.getElem_cons_zero, List.getElem_cons_succ]
                      refine wpAnyH_done (by kernel_rfl) ?_ _
                      refine NoPanic.normal ?_
                      go_wp2_with fail
                      go_meet
                      exact ⟨_, _, _, _, _, _, _, _, _, _, rfl, rfl, ⟨HU17.out _ HE.out, X4.out, X5.out, Sl.Of.own Hr1.out.r1, Ss.Of.own pc_len Hr1.out.r2, Sl.Of.own Hr3.out.r1, Ss.Of.own pc_len Hr3.out.r2⟩⟩
                    · skip
                      go_simp
                      obtain ⟨y3, hy⟩ : ∃ y, y = y2.alloc (.cells #[.string ⟨#[]⟩, .string ⟨#[]⟩, .string ⟨#[]⟩, .slice none 0 0, .slice none 0 0] 25) := ⟨_, rfl⟩; rw [← hy]; have Hg4 : Hid (W17.heap.size ≤ y2.heap.size) := HE.out.size; have o41 : Hid (y2.heap.size < W17.drew.heap.size ∨ y1.heap.size ≤ y2.heap.size) := Or.inr Hs1.out; have o45 : Hid (y2.heap.size ≠ y1.heap.size) := Nat.ne_of_gt X5.out.lt; have X4 : Hid (Whole y3 y2.heap.size 25 #[.string ⟨#[]⟩, .string ⟨#[]⟩, .string ⟨#[]⟩, .slice none 0 0, .slice none 0 0]) := (by rw [hy]; exact Whole.made y2 _ _); have hb' : Below y2.heap.size y2 y3 := (by rw [hy]; exact (Below.refl _ _).alloc (Nat.le_refl _) _); replace Hr1 := Lib.hid (Hr1.out.below hb'); replace Hs1 := Lib.hid (Nat.le_trans Hs1.out hb'.size); replace X5 := Lib.hid (whole_below X5.out hb'); replace HE : Hid (Below W17.heap.size W17 y3) := (by rw [hy]; exact HE.out.alloc HE.out.size _); clear hb'; replace qq := HQ.out _ HE.out; clear hy
                      refine hK.out _ _ ?_ (fun hHeld2 => ?_)
                      · with_reducible exact qq
                      clear hK K hHeld; have hHeld := hHeld2; clear hHeld2
                      try simp only [Act.put, List.setIfInBounds_toArray, List.set_cons_zero, List.set_cons_succ, List.getElem_toArray, List.getElem_cons_zero, List.getElem_cons_succ]
                      refine wpAnyH_ready (rs := [3]) (by kernel_rfl) (by simp) (AllReadyH.cons rfl (fun K hK => ?_) AllReadyH.nil)
                      go_simp
                      go_at_call 27; refine (CF.out _ _ _ HE.out (HT.out _ HE.out).yv (HT.out _ HE.out).yc).mono ?_; rintro e y4 ⟨ma3, mk3, mb3, mc3, rfl, hk, hb, hb'⟩; have o43 : Hid (y2.heap.size < y3.heap.size ∨ y4.heap.size ≤ y2.heap.size) := Or.inl X4.out.lt; have o53 : Hid (y1.heap.size < y3.heap.size ∨ y4.heap.size ≤ y1.heap.size) := Or.inl X5.out.lt; replace Hr1 := Lib.hid (Hr1.out.below hb'); replace Hs1 := Lib.hid (Nat.le_trans Hs1.out hb'.size); replace X4 := Lib.hid (whole_below X4.out hb'); replace X5 := Lib.hid (whole_below X5.out hb'); have Hr3 := Lib.hid hk; have Hs3 : Hid (y4.heap.size ≤ y4.heap.size) := Nat.le_refl _; replace HE := Lib.hid hb; replace qq := HQ.out _ HE.out; clear hk hb hb'
                      refine hK.out _ _ ?_ (fun hHeld2 => ?_)
                      · with_reducible exact qq
                      clear hK K hHeld; have hHeld := hHeld2; clear hHeld2
                      try simp only [Act.put, List.setIfInBounds_toArray, List.set_cons_zero, List.set_cons_succ, List.getElem_toArray, List.getElem_cons_zero, List.getElem_cons_succ]
                      refine wpAnyH_ready (rs := [6]) (by kernel_rfl) (by simp) (AllReadyH.cons rfl (fun K hK => ?_) AllReadyH.nil)
                      rw [if_pos (by rfl)]
                      refine Big.wp_store_whole _ _ _ rfl (y2.heap.size) 25 _ #[.string (q ++ (p ++ nm)), .string yh, .string yu, (.slice ma1 V.length mk1), (.slice mb1 FF.length mc1)] rfl rfl X4.out rfl hszS (by simp [Value.oneCell']) ?_; intro y5 hx9 hg9 hs9; replace HE : Hid (Below W17.heap.size W17 y5) := HE.out.grown hg9 HE.out.size (fun j hj => (by injection hj with hj; subst hj; exact Hg4.out)); replace X5 := Lib.hid (whole_grown X5.out hg9 (Ne.symm o45.out)); replace X4 := Lib.hid hx9; replace Hr1 := Lib.hid (Hr1.out.grown hg9 o41.out); replace Hr3 := Lib.hid (Hr3.out.grown hg9 o43.out); replace qq := HQ.out _ HE.out; clear hx9 hg9 hs9
                      refine hK.out _ _ ?_ (fun hHeld2 => ?_)
                      · with_reducible exact qq
                      clear hK K hHeld; have hHeld := hHeld2; clear hHeld2
                      try simp only [Act.put, List.setIfInBounds_toArray, List.set_cons_zero, List.set_cons_succ, List.getElem_toArray, List.getElem_cons_zero, List.getElem_cons_succ]
                      refine wpAnyH_ready (rs := [7]) (by kernel_rfl) (by simp) (AllReadyH.cons rfl (fun K hK => ?_) AllReadyH.nil)
                      rw [if_pos (by rfl)]
                      refine Big.wp_store_whole _ _ _ rfl (y1.heap.size) 25 _ #[.string (q ++ (p ++ nm)), .string yh, .string yu, (.slice ma3 V.length mk3), (.slice mb3 FF.length mc3)] rfl rfl X5.out rfl hszS (by simp [Value.oneCell']) ?_; intro y6 hx9 hg9 hs9; replace HE : Hid (Below W17.heap.size W17 y6) := HE.out.grown hg9 HE.out.size (fun j hj => (by injection hj with hj; subst hj; exact Hg5.out)); replace X4 := Lib.hid (whole_grown X4.out hg9 o45.out); replace X5 := Lib.hid hx9; replace Hr1 := Lib.hid (Hr1.out.grown hg9 o51.out); replace Hr3 := Lib.hid (Hr3.out.grown hg9 o53.out); replace qq := HQ.out _ HE.out; clear hx9 hg9 hs9
                      refine hK.out _ _ ?_ (fun hHeld2 => ?_)
                      · with_reducible exact qq
                      clear hK K hHeld; have hHeld := hHeld2; clear hHeld2
                      try simp only [Act.put, List.setIfInBounds_toArray, List.set_cons_zero, List.set_cons_succ, List.getElem_toArray, List.getElem_cons_zero, List.getElem_cons_succ]
                      refine wpAnyH_done (by kernel_rfl) ?_ _
                      refine NoPanic.normal ?_
                      go_wp2_with fail
                      go_meet
                      exact ⟨_, _, _, _, _, _, _, _, _, _, rfl, rfl, ⟨HU17.out _ HE.out, X4.out, X5.out, Sl.Of.own Hr1.out.r1, Ss.Of.own pc_len Hr1.out.r2, Sl.Of.own Hr3.out.r1, Ss.Of.own pc_len Hr3.out.r2⟩⟩
                · skip
                  go_simp
                  obtain ⟨y1, hy⟩ : ∃ y, y = (W17.alloc (.cells #[.string ⟨#[]⟩, .string ⟨#[]⟩, .string ⟨#[]⟩, .slice none 0 0, .slice none 0 0] 25)).drew := ⟨_, rfl⟩; rw [← hy]; have Hg4 : Hid (W17.heap.size ≤ W17.heap.size) := HE.out.size; have X4 : Hid (Whole y1 W17.heap.size 25 #[.string ⟨#[]⟩, .string ⟨#[]⟩, .string ⟨#[]⟩, .slice none 0 0, .slice none 0 0]) := (by rw [hy]; exact Whole.made W17 _ _); replace HE : Hid (Below W17.heap.size W17 y1) := (by rw [hy]; exact bdr ((Below.refl _ _).alloc (Nat.le_refl _) _) 1); replace qq := HQ.out _ HE.out; clear hy
                  refine hK.out _ _ ?_ (fun hHeld2 => ?_)
                  · with_reducible exact qq
                  clear hK K hHeld; have hHeld := hHeld2; clear hHeld2
                  try simp only [Act.put, List.setIfInBounds_toArray, List.set_cons_zero, List.set_cons_succ, List.getElem_toArray, List.getElem_cons_zero, List.getElem_cons_succ]
                  refine wpAnyH_ready (rs := [1, 5]) (by kernel_rfl) (by simp) (AllReadyH.cons rfl (fun K hK => ?_) (AllReadyH.cons rfl (fun K hK => ?_) AllReadyH.nil))
                  · skip
                    go_simp
                    go_at_call 27; refine (CF.out _ _ _ HE.out (HT.out _ HE.out).zv (HT.out _ HE.out).zc).mono ?_; rintro e y2 ⟨ma1, mk1, mb1, mc1, rfl, hk, hb, hb'⟩; have o41 : Hid (W17.heap.size < y1.heap.size ∨ y2.heap.size ≤ W17.heap.size) := Or.inl X4.out.lt; replace X4 := Lib.hid (whole_below X4.out hb'); have Hr1 := Lib.hid hk; have Hs1 : Hid (y2.heap.size ≤ y2.heap.size) := Nat.le_refl _; replace HE := Lib.hid hb; replace qq := HQ.out _ HE.out; clear hk hb hb'
                    refine hK.out _ _ ?_ (fun hHeld2 => ?_)
                    · with_reducible exact qq
                    clear hK K hHeld; have hHeld := hHeld2; clear hHeld2
                    try simp only [Act.put, List.setIfInBounds_toArray, List.set_cons_zero, List.set_cons_succ, List.getElem_toArray, List.getElem_cons_zero, List.getElem_cons_succ]
                    refine wpAnyH_ready (rs := [3, 5]) (by kernel_rfl) (by simp) (AllReadyH.cons rfl (fun K hK => ?_) (AllReadyH.cons rfl (fun K hK => ?_) AllReadyH.nil))
                    · skip
                      go_simp
                      go_at_call 27; refine (CF.out _ _ _ HE.out (HT.out _ HE.out).yv (HT.out _ HE.out).yc).mono ?_; rintro e y3 ⟨ma3, mk3, mb3, mc3, rfl, hk, hb, hb'⟩; have o43 : Hid (W17.heap.size < y2.heap.size ∨ y3.heap.size ≤ W17.heap.size) := Or.inl X4.out.lt; replace Hr1 := Lib.hid (Hr1.out.below hb'); replace Hs1 := Lib.hid (Nat.le_trans Hs1.out hb'.size); replace X4 := Lib.hid (whole_below X4.out hb'); have Hr3 := Lib.hid hk; have Hs3 : Hid (y3.heap.size ≤ y3.heap.size) := Nat.le_refl _; replace HE := Lib.hid hb; replace qq := HQ.out _ HE.out; clear hk hb hb'
                      refine hK.out _ _ ?_ (fun hHeld2 => ?_)
                      · with_reducible exact qq
                      clear hK K hHeld; have hHeld := hHeld2; clear hHeld2
                      try simp only [Act.put, List.setIfInBounds_toArray, List.set_cons_zero, List.set_cons_succ, List.getElem_toArray, List.getElem_cons_zero, List.getElem_cons_succ]
                      refine wpAnyH_ready (rs := [5]) (by kernel_rfl) (by simp) (AllReadyH.cons rfl (fun K hK => ?_) AllReadyH.nil)
                      go_simp
                      obtain ⟨y4, hy⟩ : ∃ y, y = y3.alloc (.cells #[.string ⟨#[]⟩, .string ⟨#[]⟩, .string ⟨#[]⟩, .slice none 0 0, .slice none 0 0] 25) := ⟨_, rfl⟩; rw [← hy]; have Hg5 : Hid (W17.heap.size ≤ y3.heap.size) := HE.out.size; have o51 : Hid (y3.heap.size < y1.heap.size ∨ y2.heap.size ≤ y3.heap.size) := Or.inr Hs1.out; have o53 : Hid (y3.heap.size < y2.heap.size ∨ y3.heap.size ≤ y3.heap.size) := Or.inr Hs3.out; have o45 : Hid (W17.heap.size ≠ y3.heap.size) := Nat.ne_of_lt X4.out.lt; have X5 : Hid (Whole y4 y3.heap.size 25 #[.string ⟨#[]⟩, .string ⟨#[]⟩, .string ⟨#[]⟩, .slice none 0 0, .slice none 0 0]) := (by rw [hy]; exact Whole.made y3 _ _); have hb' : Below y3.heap.size y3 y4 := (by rw [hy]; exact (Below.refl _ _).alloc (Nat.le_refl _) _); replace Hr1 := Lib.hid (Hr1.out.below hb'); replace Hs1 := Lib.hid (Nat.le_trans Hs1.out hb'.size); replace Hr3 := Lib.hid (Hr3.out.below hb'); replace Hs3 := Lib.hid (Nat.le_trans Hs3.out hb'.size); replace X4 := Lib.hid (whole_below X4.out hb'); replace HE : Hid (Below W17.heap.size W17 y4) := (by rw [hy]; exact HE.out.alloc HE.out.size _); clear hb'; replace qq := HQ.out _ HE.out; clear hy
                      refine hK.out _ _ ?_ (fun hHeld2 => ?_)
                      · with_reducible exact qq
                      clear hK K hHeld; have hHeld := hHeld2; clear hHeld2
                      try simp only [Act.put, List.setIfInBounds_toArray, List.set_cons_zero, List.set_cons_succ, List.getElem_toArray, List.getElem_cons_zero, List.getElem_cons_succ]
                      refine wpAnyH_ready (rs := [6]) (by kernel_rfl) (by simp) (AllReadyH.cons rfl (fun K hK => ?_) AllReadyH.nil)
                      rw [if_pos (by rfl)]
                      refine Big.wp_store_whole _ _ _ rfl (W17.heap.size) 25 _ #[.string (q ++ (p ++ nm)), .string yh, .string yu, (.slice ma1 V.length mk1), (.slice mb1 FF.length mc1)] rfl rfl X4.out rfl hszS (by simp [Value.oneCell']) ?_; intro y5 hx9 hg9 hs9; replace HE : Hid (Below W17.heap.size W17 y5) := HE.out.grown hg9 HE.out.size (fun j hj => (by injection hj with hj; subst hj; exact Hg4.out)); replace X5 := Lib.hid (whole_grown X5.out hg9 (Ne.symm o45.out)); replace X4 := Lib.hid hx9; replace Hr1 := Lib.hid (Hr1.out.grown hg9 o41.out); replace Hr3 := Lib.hid (Hr3.out.grown hg9 o43.out); replace qq := HQ.out _ HE.out; clear hx9 hg9 hs9
                      refine hK.out _ _ ?_ (fun hHeld2 => ?_)
                      · with_reducible exact qq
                      clear hK K hHeld; have hHeld := hHeld2; clear hHeld2
                      try simp only [Act.put, List.setIfInBounds_toArray, List.set_cons_zero, List.set_cons_succ, List.getElem_toArray, List.getElem_cons_zero, List.getElem_cons_succ]
                      refine wpAnyH_ready (rs := [7]) (by kernel_rfl) (by simp) (AllReadyH.cons rfl (fun K hK => ?_) AllReadyH.nil)
                      rw [if_pos (by rfl)]
                      refine Big.wp_store_whole _ _ _ rfl (y3.heap.size) 25 _ #[.string (q ++ (p ++ nm)), .string yh, .string yu, (.slice ma3 V.length mk3), (.slice mb3 FF.length mc3)] rfl rfl X5.out rfl hszS (by simp [Value.oneCell']) ?_; intro y6 hx9 hg9 hs9; replace HE : Hid (Below W17.heap.size W17 y6) := HE.out.grown hg9 HE.out.size (fun j hj => (by injection hj with hj; subst hj; exact Hg5.out)); replace X4 := Lib.hid (whole_grown X4.out hg9 o45.out); replace X5 := Lib.hid hx9; replace Hr1 := Lib.hid (Hr1.out.grown hg9 o51.out); replace Hr3 := Lib.hid (Hr3.out.grown hg9 o53.out); replace qq := HQ.out _ HE.out; clear hx9 hg9 hs9
                      refine hK.out _ _ ?_ (fun hHeld2 => ?_)
                      · with_reducible exact qq
                      clear hK K hHeld; have hHeld := hHeld2; clear hHeld2
                      try simp only [Act.put, List.setIfInBounds_toArray, List.set_cons_zero, List.set_cons_succ, List.getElem_toArray, List.getElem_cons_zero, List.getElem_cons_succ]
                      refine wpAnyH_done (by kernel_rfl) ?_ _
                      refine NoPanic.normal ?_
                      go_wp2_with fail
                      go_meet
                      exact ⟨_, _, _, _, _, _, _, _, _, _, rfl, rfl, ⟨HU17.out _ HE.out, X4.out, X5.out, Sl.Of.own Hr1.out.r1, Ss.Of.own pc_len Hr1.out.r2, Sl.Of.own Hr3.out.r1, Ss.Of.own pc_len Hr3.out.r2⟩⟩
                    · skip
                      go_simp
                      obtain ⟨y3, hy⟩ : ∃ y, y = y2.alloc (.cells #[.string ⟨#[]⟩, .string ⟨#[]⟩, .string ⟨#[]⟩, .slice none 0 0, .slice none 0 0] 25) := ⟨_, rfl⟩; rw [← hy]; have Hg5 : Hid (W17.heap.size ≤ y2.heap.size) := HE.out.size; have o51 : Hid (y2.heap.size < y1.heap.size ∨ y2.heap.size ≤ y2.heap.size) := Or.inr Hs1.out; have o45 : Hid (W17.heap.size ≠ y2.heap.size) := Nat.ne_of_lt X4.out.lt; have X5 : Hid (Whole y3 y2.heap.size 25 #[.string ⟨#[]⟩, .string ⟨#[]⟩, .string ⟨#[]⟩, .slice none 0 0, .slice none 0 0]) := (by rw [hy]; exact Whole.made y2 _ _); have hb' : Below y2.heap.size y2 y3 := (by rw [hy]; exact (Below.refl _ _).alloc (Nat.le_refl _) _); replace Hr1 := Lib.hid (Hr1.out.below hb'); replace Hs1 := Lib.hid (Nat.le_trans Hs1.out hb'.size); replace X4 := Lib.hid (whole_below X4.out hb'); replace HE : Hid (Below W17.heap.size W17 y3) := (by rw [hy]; exact HE.out.alloc HE.out.size _); clear hb'; replace qq := HQ.out _ HE.out; clear hy
                      refine hK.out _ _ ?_ (fun hHeld2 => ?_)
                      · with_reducible exact qq
                      clear hK K hHeld; have hHeld := hHeld2; clear hHeld2
                      try simp only [Act.put, List.setIfInBounds_toArray, List.set_cons_zero, List.set_cons_succ, List.getElem_toArray, List.getElem_cons_zero, List.getElem_cons_succ]
                      refine wpAnyH_ready (rs := [3]) (by kernel_rfl) (by simp) (AllReadyH.cons rfl (fun K hK => ?_) AllReadyH.nil)
                      go_simp
                      go_at_call 27; refine (CF.out _ _ _ HE.out (HT.out _ HE.out).yv (HT.out _ HE.out).yc).mono ?_; rintro e y4 ⟨ma3, mk3, mb3, mc3, rfl, hk, hb, hb'⟩; have o43 : Hid (W17.heap.size < y3.heap.size ∨ y4.heap.size ≤ W17.heap.size) := Or.inl X4.out.lt; have o53 : Hid (y2.heap.size < y3.heap.size ∨ y4.heap.size ≤ y2.heap.size) := Or.inl X5.out.lt; replace Hr1 := Lib.hid (Hr1.out.below hb'); replace Hs1 := Lib.hid (Nat.le_trans Hs1.out hb'.size); replace X4 := Lib.hid (whole_below X4.out hb'); replace X5 := Lib.hid (whole_below X5.out hb'); have Hr3 := Lib.hid hk; have Hs3 : Hid (y4.heap.size ≤ y4.heap.size) := Nat.le_refl _; replace HE := Lib.hid hb; replace qq := HQ.out _ HE.out; clear hk hb hb'
                      refine hK.out _ _ ?_ (fun hHeld2 => ?_)
                      · with_reducible exact qq
                      clear hK K hHeld; have hHeld := hHeld2; clear hHeld2
                      try simp only [Act.put, List.setIfInBounds_toArray, List.set_cons_zero, List.set_cons_succ, List.getElem_toArray, List.getElem_cons_zero, List.getElem_cons_succ]
                      refine wpAnyH_ready (rs := [6]) (by kernel_rfl) (by simp) (AllReadyH.cons rfl (fun K hK => ?_) AllReadyH.nil)
                      rw [if_pos (by rfl)]
                      refine Big.wp_store_whole _ _ _ rfl (W17.heap.size) 25 _ #[.string (q ++ (p ++ nm)), .string yh, .string yu, (.slice ma1 V.length mk1), (.slice mb1 FF.length mc1)] rfl rfl X4.out rfl hszS (by simp [Value.oneCell']) ?_; intro y5 hx9 hg9 hs9; replace HE : Hid (Below W17.heap.size W17 y5) := HE.out.grown hg9 HE.out.size (fun j hj => (by injection hj with hj; subst hj; exact Hg4.out)); replace X5 := Lib.hid (whole_grown X5.out hg9 (Ne.symm o45.out)); replace X4 := Lib.hid hx9; replace Hr1 := Lib.hid (Hr1.out.grown hg9 o41.out); replace Hr3 := Lib.hid (Hr3.out.grown hg9 o43.out); replace qq := HQ.out _ HE.out; clear hx9 hg9 hs9
                      refine hK.out _ _ ?_ (fun hHeld2 => ?_)
                      · with_reducible exact qq
                      clear hK K hHeld; have hHeld := hHeld2; clear hHeld2
                      try simp only [Act.put, List.setIfInBounds_toArray, List.set_cons_zero, List.set_cons_succ, List.getElem_toArray, List.getElem_cons_zero, List.getElem_cons_succ]
                      refine wpAnyH_ready (rs := [7]) (by kernel_rfl) (by simp) (AllReadyH.cons rfl (fun K hK => ?_) AllReadyH.nil)
                      rw [if_pos (by rfl)]
                      refine Big.wp_store_whole _ _ _ rfl (y2.heap.size) 25 _ #[.string (q ++ (p ++ nm)), .string yh, .string yu, (.slice ma3 V.length mk3), (.slice mb3 FF.length mc3)] rfl rfl X5.out rfl hszS (by simp [Value.oneCell']) ?_; intro y6 hx9 hg9 hs9; replace HE : Hid (Below W17.heap.size W17 y6) := HE.out.grown hg9 HE.out.size (fun j hj => (by injection hj with hj; subst hj; exact Hg5.out)); replace X4 := Lib.hid (whole_grown X4.out hg9 o45.out); replace X5 := Lib.hid hx9; replace Hr1 := Lib.hid (Hr1.out.grown hg9 o51.out); replace Hr3 := Lib.hid (Hr3.out.grown hg9 o53.out); replace qq := HQ.out _ HE.out; clear hx9 hg9 hs9
                      refine hK.out _ _ ?_ (fun hHeld2 => ?_)
                      · with_reducible exact qq
                      clear hK K hHeld; have hHeld := hHeld2; clear hHeld2
                      try simp only [Act.put, List.setIfInBounds_toArray, List.set_cons_zero, List.set_cons_succ, List.getElem_toArray, List.getElem_cons_zero, List.getElem_cons_succ]
                      refine wpAnyH_done (by kernel_rfl) ?_ _
                      refine NoPanic.normal ?_
                      go_wp2_with fail
                      go_meet
                      exact ⟨_, _, _, _, _, _, _, _, _, _, rfl, rfl, ⟨HU17.out _ HE.out, X4.out, X5.out, Sl.Of.own Hr1.out.r1, Ss.Of.own pc_len Hr1.out.r2, Sl.Of.own Hr3.out.r1, Ss.Of.own pc_len Hr3.out.r2⟩⟩
                  · skip
                    go_simp
                    obtain ⟨y2, hy⟩ : ∃ y, y = y1.alloc (.cells #[.string ⟨#[]⟩, .string ⟨#[]⟩, .string ⟨#[]⟩, .slice none 0 0, .slice none 0 0] 25) := ⟨_, rfl⟩; rw [← hy]; have Hg5 : Hid (W17.heap.size ≤ y1.heap.size) := HE.out.size; have o45 : Hid (W17.heap.size ≠ y1.heap.size) := Nat.ne_of_lt X4.out.lt; have X5 : Hid (Whole y2 y1.heap.size 25 #[.string ⟨#[]⟩, .string ⟨#[]⟩, .string ⟨#[]⟩, .slice none 0 0, .slice none 0 0]) := (by rw [hy]; exact Whole.made y1 _ _); have hb' : Below y1.heap.size y1 y2 := (by rw [hy]; exact (Below.refl _ _).alloc (Nat.le_refl _) _); replace X4 := Lib.hid (whole_below X4.out hb'); replace HE : Hid (Below W17.heap.size W17 y2) := (by rw [hy]; exact HE.out.alloc HE.out.size _); clear hb'; replace qq := HQ.out _ HE.out; clear hy
                    refine hK.out _ _ ?_ (fun hHeld2 => ?_)
                    · with_reducible exact qq
                    clear hK K hHeld; have hHeld := hHeld2; clear hHeld2
                    try simp only [Act.put, List.setIfInBounds_toArray, List.set_cons_zero, List.set_cons_succ, List.getElem_toArray, List.getElem_cons_zero, List.getElem_cons_succ]
                    refine wpAnyH_ready (rs := [1]) (by kernel_rfl) (by simp) (AllReadyH.cons rfl (fun K hK => ?_) AllReadyH.nil)
                    go_simp
                    go_at_call 27; refine (CF.out _ _ _ HE.out (HT.out _ HE.out).zv (HT.out _ HE.out).zc).mono ?_; rintro e y3 ⟨ma1, mk1, mb1, mc1, rfl, hk, hb, hb'⟩; have o41 : Hid (W17.heap.size < y2.heap.size ∨ y3.heap.size ≤ W17.heap.size) := Or.inl X4.out.lt; have o51 : Hid (y1.heap.size < y2.heap.size ∨ y3.heap.size ≤ y1.heap.size) := Or.inl X5.out.lt; replace X4 := Lib.hid (whole_below X4.out hb'); replace X5 := Lib.hid (whole_below X5.out hb'); have Hr1 := Lib.hid hk; have Hs1 : Hid (y3.heap.size ≤ y3.heap.size) := Nat.le_refl _; replace HE := Lib.hid hb; replace qq := HQ.out _ HE.out; clear hk hb hb'
                    refine hK.out _ _ ?_ (fun hHeld2 => ?_)
                    · with_reducible exact qq
                    clear hK K hHeld; have hHeld := hHeld2; clear hHeld2
                    try simp only [Act.put, List.setIfInBounds_toArray, List.set_cons_zero, List.set_cons_succ, List.getElem_toArray, List.getElem_cons_zero, List.getElem_cons_succ]
                    refine wpAnyH_ready (rs := [3]) (by kernel_rfl) (by simp) (AllReadyH.cons rfl (fun K hK => ?_) AllReadyH.nil)
                    go_simp
                    go_at_call 27; refine (CF.out _ _ _ HE.out (HT.out _ HE.out).yv (HT.out _ HE.out).yc).mono ?_; rintro e y4 ⟨ma3, mk3, mb3, mc3, rfl, hk, hb, hb'⟩; have o43 : Hid (W17.heap.size < y3.heap.size ∨ y4.heap.size ≤ W17.heap.size) := Or.inl X4.out.lt; have o53 : Hid (y1.heap.size < y3.heap.size ∨ y4.heap.size ≤ y1.heap.size) := Or.inl X5.out.lt; replace Hr1 := Lib.hid (Hr1.out.below hb'); replace Hs1 := Lib.hid (Nat.le_trans Hs1.out hb'.size); replace X4 := Lib.hid (whole_below X4.out hb'); replace X5 := Lib.hid (whole_below X5.out hb'); have Hr3 := Lib.hid hk; have Hs3 : Hid (y4.heap.size ≤ y4.heap.size) := Nat.le_refl _; replace HE := Lib.hid hb; replace qq := HQ.out _ HE.out; clear hk hb hb'
                    refine hK.out _ _ ?_ (fun hHeld2 => ?_)
                    · with_reducible exact qq
                    clear hK K hHeld; have hHeld := hHeld2; clear hHeld2
                    try simp only [Act.put, List.setIfInBounds_toArray, List.set_cons_zero, List.set_cons_succ, List.getElem_toArray, List.getElem_cons_zero, List.getElem_cons_succ]
                    refine wpAnyH_ready (rs := [6]) (by kernel_rfl) (by simp) (AllReadyH.cons rfl (fun K hK => ?_) AllReadyH.nil)
                    rw [if_pos (by rfl)]
                    refine Big.wp_store_whole _ _ _ rfl (W17.heap.size) 25 _ #[.string (q ++ (p ++ nm)), .string yh, .string yu, (.slice ma1 V.length mk1), (.slice mb1 FF.length mc1)] rfl rfl X4.out rfl hszS (by simp [Value.oneCell']) ?_; intro y5 hx9 hg9 hs9; replace HE : Hid (Below W17.heap.size W17 y5) := HE.out.grown hg9 HE.out.size (fun j hj => (by injection hj with hj; subst hj; exact Hg4.out)); replace X5 := Lib.hid (whole_grown X5.out hg9 (Ne.symm o45.out)); replace X4 := Lib.hid hx9; replace Hr1 := Lib.hid (Hr1.out.grown hg9 o41.out); replace Hr3 := Lib.hid (Hr3.out.grown hg9 o43.out); replace qq := HQ.out _ HE.out; clear hx9 hg9 hs9
                    refine hK.out _ _ ?_ (fun hHeld2 => ?_)
                    · with_reducible exact qq
                    clear hK K hHeld; have hHeld := hHeld2; clear hHeld2
                    try simp only [Act.put, List.setIfInBounds_toArray, List.set_cons_zero, List.set_cons_succ, List.getElem_toArray, List.getElem_cons_zero, List.getElem_cons_succ]
                    refine wpAnyH_ready (rs := [7]) (by kernel_rfl) (by simp) (AllReadyH.cons rfl (fun K hK => ?_) AllReadyH.nil)
                    rw [if_pos (by rfl)]
                    refine Big.wp_store_whole _ _ _ rfl (y1.heap.size) 25 _ #[.string (q ++ (p ++ nm)), .string yh, .string yu, (.slice ma3 V.length mk3), (.slice mb3 FF.length mc3)] rfl rfl X5.out rfl hszS (by simp [Value.oneCell']) ?_; intro y6 hx9 hg9 hs9; replace HE : Hid (Below W17.heap.size W17 y6) := HE.out.grown hg9 HE.out.size (fun j hj => (by injection hj with hj; subst hj; exact Hg5.out)); replace X4 := Lib.hid (whole_grown X4.out hg9 o45.out); replace X5 := Lib.hid hx9; replace Hr1 := Lib.hid (Hr1.out.grown hg9 o51.out); replace Hr3 := Lib.hid (Hr3.out.grown hg9 o53.out); replace qq := HQ.out _ HE.out; clear hx9 hg9 hs9
                    refine hK.out _ _ ?_ (fun hHeld2 => ?_)
                    · with_reducible exact qq
                    clear hK K hHeld; have hHeld := hHeld2; clear hHeld2
                    try simp only [Act.put, List.setIfInBounds_toArray, List.set_cons_zero, List.set_cons_succ, List.getElem_toArray, List.getElem_cons_zero, List.getElem_cons_succ]
                    refine wpAnyH_done (by kernel_rfl) ?_ _
                    refine NoPanic.normal ?_
                    go_wp2_with fail
                    go_meet
                    exact ⟨_, _, _, _, _, _, _, _, _, _, rfl, rfl, ⟨HU17.out _ HE.out, X4.out, X5.out, Sl.Of.own Hr1.out.r1, Ss.Of.own pc_len Hr1.out.r2, Sl.Of.own Hr3.out.r1, Ss.Of.own pc_len Hr3.out.r2⟩⟩
                · skip
                  go_simp
                  obtain ⟨y1, hy⟩ : ∃ y, y = (W17.alloc (.cells #[.string ⟨#[]⟩, .string ⟨#[]⟩, .string ⟨#[]⟩, .slice none 0 0, .slice none 0 0] 25)).drew := ⟨_, rfl⟩; rw [← hy]; have Hg5 : Hid (W17.heap.size ≤ W17.heap.size) := HE.out.size; have X5 : Hid (Whole y1 W17.heap.size 25 #[.string ⟨#[]⟩, .string ⟨#[]⟩, .string ⟨#[]⟩, .slice none 0 0, .slice none 0 0]) := (by rw [hy]; exact Whole.made W17 _ _); replace HE : Hid (Below W17.heap.size W17 y1) := (by rw [hy]; exact bdr ((Below.refl _ _).alloc (Nat.le_refl _) _) 1); replace qq := HQ.out _ HE.out; clear hy
                  refine hK.out _ _ ?_ (fun hHeld2 => ?_)
                  · with_reducible exact qq
                  clear hK K hHeld; have hHeld := hHeld2; clear hHeld2
                  try simp only [Act.put, List.setIfInBounds_toArray, List.set_cons_zero, List.set_cons_succ, List.getElem_toArray, List.getElem_cons_zero, List.getElem_cons_succ]
                  refine wpAnyH_ready (rs := [1, 4]) (by kernel_rfl) (by simp) (AllReadyH.cons rfl (fun K hK => ?_) (AllReadyH.cons rfl (fun K hK => ?_) AllReadyH.nil))
                  · skip
                    go_simp
                    go_at_call 27; refine (CF.out _ _ _ HE.out (HT.out _ HE.out).zv (HT.out _ HE.out).zc).mono ?_; rintro e y2 ⟨ma1, mk1, mb1, mc1, rfl, hk, hb, hb'⟩; have o51 : Hid (W17.heap.size < y1.heap.size ∨ y2.heap.size ≤ W17.heap.size) := Or.inl X5.out.lt; replace X5 := Lib.hid (whole_below X5.out hb'); have Hr1 := Lib.hid hk; have Hs1 : Hid (y2.heap.size ≤ y2.heap.size) := Nat.le_refl _; replace HE := Lib.hid hb; replace qq := HQ.out _ HE.out; clear hk hb hb'
                    refine hK.out _ _ ?_ (fun hHeld2 => ?_)
                    · with_reducible exact qq
                    clear hK K hHeld; have hHeld := hHeld2; clear hHeld2
                    try simp only [Act.put, List.setIfInBounds_toArray, List.set_cons_zero, List.set_cons_succ, List.getElem_toArray, List.getElem_cons_zero, List.getElem_cons_succ]
                    refine wpAnyH_ready (rs := [3, 4]) (by kernel_rfl) (by simp) (AllReadyH.cons rfl (fun K hK => ?_) (AllReadyH.cons rfl (fun K hK => ?_) AllReadyH.nil))
                    · skip
                      go_simp
                      go_at_call 27; refine (CF.out _ _ _ HE.out (HT.out _ HE.out).yv (HT.out _ HE.out).yc).mono ?_; rintro e y3 ⟨ma3, mk3, mb3, mc3, rfl, hk, hb, hb'⟩; have o53 : Hid (W17.heap.size < y2.heap.size ∨ y3.heap.size ≤ W17.heap.size) := Or.inl X5.out.lt; replace Hr1 := Lib.hid (Hr1.out.below hb'); replace Hs1 := Lib.hid (Nat.le_trans Hs1.out hb'.size); replace X5 := Lib.hid (whole_below X5.out hb'); have Hr3 := Lib.hid hk; have Hs3 : Hid (y3.heap.size ≤ y3.heap.size) := Nat.le_refl _; replace HE := Lib.hid hb; replace qq := HQ.out _ HE.out; clear hk hb hb'
                      refine hK.out _ _ ?_ (fun hHeld2 => ?_)
                      · with_reducible exact qq
                      clear hK K hHeld; have hHeld := hHeld2; clear hHeld2
                      try simp only [Act.put, List.setIfInBounds_toArray, List.set_cons_zero, List.set_cons_succ, List.getElem_toArray, List.getElem_cons_zero, List.getElem_cons_succ]
                      refine wpAnyH_ready (rs := [4]) (by kernel_rfl) (by simp) (AllReadyH.cons rfl (fun K hK => ?_) AllReadyH.nil)
                      go_simp
                      obtain ⟨y4, hy⟩ : ∃ y, y = y3.alloc (.cells #[.string ⟨#[]⟩, .string ⟨#[]⟩, .string ⟨#[]⟩, .slice none 0 0, .slice none 0 0] 25) := ⟨_, rfl⟩; rw [← hy]; have Hg4 : Hid (W17.heap.size ≤ y3.heap.size) := HE.out.size; have o41 : Hid (y3.heap.size < y1.heap.size ∨ y2.heap.size ≤ y3.heap.size) := Or.inr Hs1.out; have o43 : Hid (y3.heap.size < y2.heap.size ∨ y3.heap.size ≤ y3.heap.size) := Or.inr Hs3.out; have o45 : Hid (y3.heap.size ≠ W17.heap.size) := Nat.ne_of_gt X5.out.lt; have X4 : Hid (Whole y4 y3.heap.size 25 #[.string ⟨#[]⟩, .string ⟨#[]⟩, .string ⟨#[]⟩, .slice none 0 0, .slice none 0 0]) := (by rw [hy]; exact Whole.made y3 _ _); have hb' : Below y3.heap.size y3 y4 := (by rw [hy]; exact (Below.refl _ _).alloc (Nat.le_refl _) _); replace Hr1 := Lib.hid (Hr1.out.below hb'); replace Hs1 := Lib.hid (Nat.le_trans Hs1.out hb'.size); replace Hr3 := Lib.hid (Hr3.out.below hb'); replace Hs3 := Lib.hid (Nat.le_trans Hs3.out hb'.size); replace X5 := Lib.hid (whole_below X5.out hb'); replace HE : Hid (Below W17.heap.size W17 y4) := (by rw [hy]; exact HE.out.alloc HE.out.size _); clear hb'; replace qq := HQ.out _ HE.out; clear hy
                      refine hK.out _ _ ?_ (fun hHeld2 => ?_)
                      · with_reducible exact qq
                      clear hK K hHeld; have hHeld := hHeld2; clear hHeld2
                      try simp only [Act.put, List.setIfInBounds_toArray, List.set_cons_zero, List.set_cons_succ, List.getElem_toArray, List.getElem_cons_zero, List.getElem_cons_succ]
                      refine wpAnyH_ready (rs := [6]) (by kernel_rfl) (by simp) (AllReadyH.cons rfl (fun K hK => ?_) AllReadyH.nil)
                      rw [if_pos (by rfl)]
                      refine Big.wp_store_whole _ _ _ rfl (y3.heap.size) 25 _ #[.string (q ++ (p ++ nm)), .string yh, .string yu, (.slice ma1 V.length mk1), (.slice mb1 FF.length mc1)] rfl rfl X4.out rfl hszS (by simp [Value.oneCell']) ?_; intro y5 hx9 hg9 hs9; replace HE : Hid (Below W17.heap.size W17 y5) := HE.out.grown hg9 HE.out.size (fun j hj => (by injection hj with hj; subst hj; exact Hg4.out)); replace X5 := Lib.hid (whole_grown X5.out hg9 (Ne.symm o45.out)); replace X4 := Lib.hid hx9; replace Hr1 := Lib.hid (Hr1.out.grown hg9 o41.out); replace Hr3 := Lib.hid (Hr3.out.grown hg9 o43.out); replace qq := HQ.out _ HE.out; clear hx9 hg9 hs9
                      refine hK.out _ _ ?_ (fun hHeld2 => ?_)
                      · with_reducible exact qq
                      clear hK K hHeld; have hHeld := hHeld2; clear hHeld2
                      try simp only [Act.put, List.setIfInBounds_toArray, List.set_cons_zero, List.set_cons_succ, List.getElem_toArray, List.getElem_cons_zero, List.getElem_cons_succ]
                      refine wpAnyH_ready (rs := [7]) (by kernel_rfl) (by simp) (AllReadyH.cons rfl (fun K hK => ?_) AllReadyH.nil)
                      rw [if_pos (by rfl)]
                      refine Big.wp_store_whole _ _ _ rfl (W17.heap.size) 25 _ #[.string (q ++ (p ++ nm)), .string yh, .string yu, (.slice ma3 V.length mk3), (.slice mb3 FF.length mc3)] rfl rfl X5.out rfl hszS (by simp [Value.oneCell']) ?_; intro y6 hx9 hg9 hs9; replace HE : Hid (Below W17.heap.size W17 y6) := HE.out.grown hg9 HE.out.size (fun j hj => (by injection hj with hj; subst hj; exact Hg5.out)); replace X4 := Lib.hid (whole_grown X4.out hg9 o45.out); replace X5 := Lib.hid hx9; replace Hr1 := Lib.hid (Hr1.out.grown hg9 o51.out); replace Hr3 := Lib.hid (Hr3.out.grown hg9 o53.out); replace qq := HQ.out _ HE.out; clear hx9 hg9 hs9
                      refine hK.out _ _ ?_ (fun hHeld2 => ?_)
                      · with_reducible exact qq
                      clear hK K hHeld; have hHeld := hHeld2; clear hHeld2
                      try simp only [Act.put, List.setIfInBounds_toArray, List.set_cons_zero, List.set_cons_succ, List.getElem_toArray, List.getElem_cons_zero, List.getElem_cons_succ]
                      refine wpAnyH_done (by kernel_rfl) ?_ _
                      refine NoPanic.normal ?_
                      go_wp2_with fail
                      go_meet
                      exact ⟨_, _, _, _, _, _, _, _, _, _, rfl, rfl, ⟨HU17.out _ HE.out, X4.out, X5.out, Sl.Of.own Hr1.out.r1, Ss.Of.own pc_len Hr1.out.r2, Sl.Of.own Hr3.out.r1, Ss.Of.own pc_len Hr3.out.r2⟩⟩
                    · skip
                      go_simp
                      obtain ⟨y3, hy⟩ : ∃ y, y = y2.alloc (.cells #[.string ⟨#[]⟩, .string ⟨#[]⟩, .string ⟨#[]⟩, .slice none 0 0, .slice none 0 0] 25) := ⟨_, rfl⟩; rw [← hy]; have Hg4 : Hid (W17.heap.size ≤ y2.heap.size) := HE.out.size; have o41 : Hid (y2.heap.size < y1.heap.size ∨ y2.heap.size ≤ y2.heap.size) := Or.inr Hs1.out; have o45 : Hid (y2.heap.size ≠ W17.heap.size) := Nat.ne_of_gt X5.out.lt; have X4 : Hid (Whole y3 y2.heap.size 25 #[.string ⟨#[]⟩, .string ⟨#[]⟩, .string ⟨#[]⟩, .slice none 0 0, .slice none 0 0]) := (by rw [hy]; exact Whole.made y2 _ _); have hb' : Below y2.heap.size y2 y3 := (by rw [hy]; exact (Below.refl _ _).alloc (Nat.le_refl _) _); replace Hr1 := Lib.hid (Hr1.out.below hb'); replace Hs1 := Lib.hid (Nat.le_trans Hs1.out hb'.size); replace X5 := Lib.hid (whole_below X5.out hb'); replace HE : Hid (Below W17.heap.size W17 y3) := (by rw [hy]; exact HE.out.alloc HE.out.size _); clear hb'; replace qq := HQ.out _ HE.out; clear hy
                      refine hK.out _ _ ?_ (fun hHeld2 => ?_)
                      · with_reducible exact qq
                      clear hK K hHeld; have hHeld := hHeld2; clear hHeld2
                      try simp only [Act.put, List.setIfInBounds_toArray, List.set_cons_zero, List.set_cons_succ, List.getElem_toArray, List.getElem_cons_zero, List.getElem_cons_succ]
                      refine wpAnyH_ready (rs := [3]) (by kernel_rfl) (by simp) (AllReadyH.cons rfl (fun K hK => ?_) AllReadyH.nil)
                      go_simp
                      go_at_call 27; refine (CF.out _ _ _ HE.out (HT.out _ HE.out).yv (HT.out _ HE.out).yc).mono ?_; rintro e y4 ⟨ma3, mk3, mb3, mc3, rfl, hk, hb, hb'⟩; have o43 : Hid (y2.heap.size < y3.heap.size ∨ y4.heap.size ≤ y2.heap.size) := Or.inl X4.out.lt; have o53 : Hid (W17.heap.size < y3.heap.size ∨ y4.heap.size ≤ W17.heap.size) := Or.inl X5.out.lt; replace Hr1 := Lib.hid (Hr1.out.below hb'); replace Hs1 := Lib.hid (Nat.le_trans Hs1.out hb'.size); replace X4 := Lib.hid (whole_below X4.out hb'); replace X5 := Lib.hid (whole_below X5.out hb'); have Hr3 := Lib.hid hk; have Hs3 : Hid (y4.heap.size ≤ y4.heap.size) := Nat.le_refl _; replace HE := Lib.hid hb; replace qq := HQ.out _ HE.out; clear hk hb hb'
                      refine hK.out _ _ ?_ (fun hHeld2 => ?_)
                      · with_reducible exact qq
                      clear hK K hHeld; have hHeld := hHeld2; clear hHeld2
                      try simp only [Act.put, List.setIfInBounds_toArray, List.set_cons_zero, List.set_cons_succ, List.getElem_toArray, List.getElem_cons_zero, List.getElem_cons_succ]
                      refine wpAnyH_ready (rs := [6]) (by kernel_rfl) (by simp) (AllReadyH.cons rfl (fun K hK => ?_) AllReadyH.nil)
                      rw [if_pos (by rfl)]
                      refine Big.wp_store_whole _ _ _ rfl (y2.heap.size) 25 _ #[.string (q ++ (p ++ nm)), .string yh, .string yu, (.slice ma1 V.length mk1), (.slice mb1 FF.length mc1)] rfl rfl X4.out rfl hszS (by simp [Value.oneCell']) ?_; intro y5 hx9 hg9 hs9; replace HE : Hid (Below W17.heap.size W17 y5) := HE.out.grown hg9 HE.out.size (fun j hj => (by injection hj with hj; subst hj; exact Hg4.out)); replace X5 := Lib.hid (whole_grown X5.out hg9 (Ne.symm o45.out)); replace X4 := Lib.hid hx9; replace Hr1 := Lib.hid (Hr1.out.grown hg9 o41.out); replace Hr3 := Lib.hid (Hr3.out.grown hg9 o43.out); replace qq := HQ.out _ HE.out; clear hx9 hg9 hs9
                      refine hK.out _ _ ?_ (fun hHeld2 => ?_)
                      · with_reducible exact qq
                      clear hK K hHeld; have hHeld := hHeld2; clear hHeld2
                      try simp only [Act.put, List.setIfInBounds_toArray, List.set_cons_zero, List.set_cons_succ, List.getElem_toArray, List.getElem_cons_zero, List.getElem_cons_succ]
                      refine wpAnyH_ready (rs := [7]) (by kernel_rfl) (by simp) (AllReadyH.cons rfl (fun K hK => ?_) AllReadyH.nil)
                      rw [if_pos (by rfl)]
                      refine Big.wp_store_whole _ _ _ rfl (W17.heap.size) 25 _ #[.string (q ++ (p ++ nm)), .string yh, .string yu, (.slice ma3 V.length mk3), (.slice mb3 FF.length mc3)] rfl rfl X5.out rfl hszS (by simp [Value.oneCell']) ?_; intro y6 hx9 hg9 hs9; replace HE : Hid (Below W17.heap.size W17 y6) := HE.out.grown hg9 HE.out.size (fun j hj => (by injection hj with hj; subst hj; exact Hg5.out)); replace X4 := Lib.hid (whole_grown X4.out hg9 o45.out); replace X5 := Lib.hid hx9; replace Hr1 := Lib.hid (Hr1.out.grown hg9 o51.out); replace Hr3 := Lib.hid (Hr3.out.grown hg9 o53.out); replace qq := HQ.out _ HE.out; clear hx9 hg9 hs9
                      refine hK.out _ _ ?_ (fun hHeld2 => ?_)
                      · with_reducible exact qq
                      clear hK K hHeld; have hHeld := hHeld2; clear hHeld2
                      try simp only [Act.put, List.setIfInBounds_toArray, List.set_cons_zero, List.set_cons_succ, List.getElem_toArray, List.getElem_cons_zero, List.getElem_cons_succ]
                      refine wpAnyH_done (by kernel_rfl) ?_ _
                      refine NoPanic.normal ?_
                      go_wp2_with fail
                      go_meet
                      exact ⟨_, _, _, _, _, _, _, _, _, _, rfl, rfl, ⟨HU17.out _ HE.out, X4.out, X5.out, Sl.Of.own Hr1.out.r1, Ss.Of.own pc_len Hr1.out.r2, Sl.Of.own Hr3.out.r1, Ss.Of.own pc_len Hr3.out.r2⟩⟩
                  · skip
                    go_simp
                    obtain ⟨y2, hy⟩ : ∃ y, y = y1.alloc (.cells #[.string ⟨#[]⟩, .string ⟨#[]⟩, .string ⟨#[]⟩, .slice none 0 0, .slice none 0 0] 25) := ⟨_, rfl⟩; rw [← hy]; have Hg4 : Hid (W17.heap.size ≤ y1.heap.size) := HE.out.size; have o45 : Hid (y1.heap.size ≠ W17.heap.size) := Nat.ne_of_gt X5.out.lt; have X4 : Hid (Whole y2 y1.heap.size 25 #[.string ⟨#[]⟩, .string ⟨#[]⟩, .string ⟨#[]⟩, .slice none 0 0, .slice none 0 0]) := (by rw [hy]; exact Whole.made y1 _ _); have hb' : Below y1.heap.size y1 y2 := (by rw [hy]; exact (Below.refl _ _).alloc (Nat.le_refl _) _); replace X5 := Lib.hid (whole_below X5.out hb'); replace HE : Hid (Below W17.heap.size W17 y2) := (by rw [hy]; exact HE.out.alloc HE.out.size _); clear hb'; replace qq := HQ.out _ HE.out; clear hy
                    refine hK.out _ _ ?_ (fun hHeld2 => ?_)
                    · with_reducible exact qq
                    clear hK K hHeld; have hHeld := hHeld2; clear hHeld2
                    try simp only [Act.put, List.setIfInBounds_toArray, List.set_cons_zero, List.set_cons_succ, List.getElem_toArray, List.getElem_cons_zero, List.getElem_cons_succ]
                    refine wpAnyH_ready (rs := [1]) (by kernel_rfl) (by simp) (AllReadyH.cons rfl (fun K hK => ?_) AllReadyH.nil)
                    go_simp
                    go_at_call 27; refine (CF.out _ _ _ HE.out (HT.out _ HE.out).zv (HT.out _ HE.out).zc).mono ?_; rintro e y3 ⟨ma1, mk1, mb1, mc1, rfl, hk, hb, hb'⟩; have o41 : Hid (y1.heap.size < y2.heap.size ∨ y3.heap.size ≤ y1.heap.size) := Or.inl X4.out.lt; have o51 : Hid (W17.heap.size < y2.heap.size ∨ y3.heap.size ≤ W17.heap.size) := Or.inl X5.out.lt; replace X4 := Lib.hid (whole_below X4.out hb'); replace X5 := Lib.hid (whole_below X5.out hb'); have Hr1 := Lib.hid hk; have Hs1 : Hid (y3.heap.size ≤ y3.heap.size) := Nat.le_refl _; replace HE := Lib.hid hb; replace qq := HQ.out _ HE.out; clear hk hb hb'
                    refine hK.out _ _ ?_ (fun hHeld2 => ?_)
                    · with_reducible exact qq
                    clear hK K hHeld; have hHeld := hHeld2; clear hHeld2
                    try simp only [Act.put, List.setIfInBounds_toArray, List.set_cons_zero, List.set_cons_succ, List.getElem_toArray, List.getElem_cons_zero, List.getElem_cons_succ]
                    refine wpAnyH_ready (rs := [3]) (by kernel_rfl) (by simp) (AllReadyH.cons rfl (fun K hK => ?_) AllReadyH.nil)
                    go_simp
                    go_at_call 27; refine (CF.out _ _ _ HE.out (HT.out _ HE.out).yv (HT.out _ HE.out).yc).mono ?_; rintro e y4 ⟨ma3, mk3, mb3, mc3, rfl, hk, hb, hb'⟩; have o43 : Hid (y1.heap.size < y3.heap.size ∨ y4.heap.size ≤ y1.heap.size) := Or.inl X4.out.lt; have o53 : Hid (W17.heap.size < y3.heap.size ∨ y4.heap.size ≤ W17.heap.size) := Or.inl X5.out.lt; replace Hr1 := Lib.hid (Hr1.out.below hb'); replace Hs1 := Lib.hid (Nat.le_trans Hs1.out hb'.size); replace X4 := Lib.hid (whole_below X4.out hb'); replace X5 := Lib.hid (whole_below X5.out hb'); have Hr3 := Lib.hid hk; have Hs3 : Hid (y4.heap.size ≤ y4.heap.size) := Nat.le_refl _; replace HE := Lib.hid hb; replace qq := HQ.out _ HE.out; clear hk hb hb'
                    refine hK.out _ _ ?_ (fun hHeld2 => ?_)
                    · with_reducible exact qq
                    clear hK K hHeld; have hHeld := hHeld2; clear hHeld2
                    try simp only [Act.put, List.setIfInBounds_toArray, List.set_cons_zero, List.set_cons_succ, List.getElem_toArray, List.getElem_cons_zero, List.getElem_cons_succ]
                    refine wpAnyH_ready (rs := [6]) (by kernel_rfl) (by simp) (AllReadyH.cons rfl (fun K hK => ?_) AllReadyH.nil)
                    rw [if_pos (by rfl)]
                    refine Big.wp_store_whole _ _ _ rfl (y1.heap.size) 25 _ #[.string (q ++ (p ++ nm)), .string yh, .string yu, (.slice ma1 V.length mk1), (.slice mb1 FF.length mc1)] rfl rfl X4.out rfl hszS (by simp [Value.oneCell']) ?_; intro y5 hx9 hg9 hs9; replace HE : Hid (Below W17.heap.size W17 y5) := HE.out.grown hg9 HE.out.size (fun j hj => (by injection hj with hj; subst hj; exact Hg4.out)); replace X5 := Lib.hid (whole_grown X5.out hg9 (Ne.symm o45.out)); replace X4 := Lib.hid hx9; replace Hr1 := Lib.hid (Hr1.out.grown hg9 o41.out); replace Hr3 := Lib.hid (Hr3.out.grown hg9 o43.out); replace qq := HQ.out _ HE.out; clear hx9 hg9 hs9
                    refine hK.out _ _ ?_ (fun hHeld2 => ?_)
                    · with_reducible exact qq
                    clear hK K hHeld; have hHeld := hHeld2; clear hHeld2
                    try simp only [Act.put, List.setIfInBounds_toArray, List.set_cons_zero, List.set_cons_succ, List.getElem_toArray, List.getElem_cons_zero, List.getElem_cons_succ]
                    refine wpAnyH_ready (rs := [7]) (by kernel_rfl) (by simp) (AllReadyH.cons rfl (fun K hK => ?_) AllReadyH.nil)
                    rw [if_pos (by rfl)]
                    refine Big.wp_store_whole _ _ _ rfl (W17.heap.size) 25 _ #[.string (q ++ (p ++ nm)), .string yh, .string yu, (.slice ma3 V.length mk3), (.slice mb3 FF.length mc3)] rfl rfl X5.out rfl hszS (by simp [Value.oneCell']) ?_; intro y6 hx9 hg9 hs9; replace HE : Hid (Below W17.heap.size W17 y6) := HE.out.grown hg9 HE.out.size (fun j hj => (by injection hj with hj; subst hj; exact Hg5.out)); replace X4 := Lib.hid (whole_grown X4.out hg9 o45.out); replace X5 := Lib.hid hx9; replace Hr1 := Lib.hid (Hr1.out.grown hg9 o51.out); replace Hr3 := Lib.hid (Hr3.out.grown hg9 o53.out); replace qq := HQ.out _ HE.out; clear hx9 hg9 hs9
                    refine hK.out _ _ ?_ (fun hHeld2 => ?_)
                    · with_reducible exact qq
                    clear hK K hHeld; have hHeld := hHeld2; clear hHeld2
                    try simp only [Act.put, List.setIfInBounds_toArray, List.set_cons_zero, List.set_cons_succ, List.getElem_toArray, List.getElem_cons_zero, List.getElem_cons_succ]
                    refine wpAnyH_done (by kernel_rfl) ?_ _
                    refine NoPanic.normal ?_
                    go_wp2_with fail
                    go_meet
                    exact ⟨_, _, _, _, _, _, _, _, _, _, rfl, rfl, ⟨HU17.out _ HE.out, X4.out, X5.out, Sl.Of.own Hr1.out.r1, Ss.Of.own pc_len Hr1.out.r2, Sl.Of.own Hr3.out.r1, Ss.Of.own pc_len Hr3.out.r2⟩⟩
              case rest => as_aux_lemma =>
                obtain ⟨G, H, ma1, mk1, mb1, mc1, ma3, mk3, mb3, mc3, rfl, rfl, hF⟩ := hcut
                obtain ⟨W18, rfl⟩ : ∃ W18, W18 = wc := ⟨_, rfl⟩
                have hz18 := hF.out.b.size
                have HU18 : Hid (∀ W, Below W18.heap.size W18 W → Below (w.heap.size + 1) A W) := fun W h => HTr.out _ _ hF.out.b h
                have HK : Hid (∀ W, Below W18.heap.size W18 W → W.cell? ⟨G, 0, none⟩ = some (.string (q ++ (p ++ nm))) ∧ W.cell? ⟨G, 1, none⟩ = some (.string yh) ∧ W.cell? ⟨G, 2, none⟩ = some (.string yu) ∧ W.cell? ⟨G, 3, none⟩ = some ((.slice ma1 V.length mk1)) ∧ W.cell? ⟨G, 4, none⟩ = some ((.slice mb1 FF.length mc1)) ∧ W.cell? ⟨H, 0, none⟩ = some (.string (q ++ (p ++ nm))) ∧ W.cell? ⟨H, 1, none⟩ = some (.string yh) ∧ W.cell? ⟨H, 2, none⟩ = some (.string yu) ∧ W.cell? ⟨H, 3, none⟩ = some ((.slice ma3 V.length mk3)) ∧ W.cell? ⟨H, 4, none⟩ = some ((.slice mb3 FF.length mc3))) := fun W h => by
                  have g1 := whole_below hF.out.y h
                  have g2 := whole_below hF.out.z h
                  exact ⟨g1.cell 0, g1.cell 1, g1.cell 2, g1.cell 3, g1.cell 4, g2.cell 0, g2.cell 1, g2.cell 2, g2.cell 3, g2.cell 4⟩
                have CT : Hid (∀ W, Below W18.heap.size W18 W → Calls Tryz.prog 28 #[(.slice ma1 V.length mk1), (.slice ma3 V.length mk3)] W (fun e w' => e = .returned (.bool true) ∧ Below W18.heap.size W18 w')) := fun W h =>
                  (Tx.sameTexts_any _ _ V V W (hF.out.yv.below h) (hF.out.zv.below h)).mono fun e w' ⟨he, m, hm⟩ => ⟨by rw [he, decide_eq_true (rfl : V = V)], by rw [hm]; exact bdr h m⟩
                have CS : Hid (∀ W, Below W18.heap.size W18 W → Calls Tryz.prog 19 #[(.slice mb1 FF.length mc1), (.slice mb3 FF.length mc3)] W (fun e w' => e = .returned (.bool true) ∧ Below W18.heap.size W18 w')) := fun W h =>
                  (samePairs_any FF FF _ _ W (hF.out.yc.below h) (hF.out.zc.below h) (Nat.le_trans HFF2.out (by omega)) (Nat.le_trans HFF2.out (by omega))).mono fun e w' ⟨he, hb⟩ => ⟨by rw [he, pairsB_iff.2 rfl], h.trans (hb.mono h.size)⟩
                have HE0 : Hid (Below W18.heap.size W18 W18) := Below.refl _ _
                have k0 := HK.out _ HE0.out
                clear CF HE HT HQ qq HU17 hz17
                go_wp2_with (first
                  | (go_at_call 28; refine (CT.out _ HE0.out).mono ?_; rintro e w1 ⟨rfl, hb⟩; have HE1 := Lib.hid hb; have k1 := HK.out _ hb; clear hb)
                  | (go_at_call 19; refine (CS.out _ HE1.out).mono ?_; rintro e w2 ⟨rfl, hb⟩; have HE2 := Lib.hid hb; have k2 := HK.out _ hb; clear hb)
                  | (go_at_call 12; refine (HLv.out _ (HU18.out _ HE2.out)).mono ?_; rintro e w9 ⟨rfl, hb9⟩; have HF9 := Lib.hid (HUp.out _ hb9); clear hb9))
                go_ret
                exact ⟨rfl, HF9.out⟩

end Go.Proofs.YtfcpapbokefdmaaGreatDoor.WrapTwice
