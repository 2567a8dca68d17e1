/- A native histogram converted (laws.histFrom). -/
import Derived.Test.YtlolomodcbkblaaGreatDoorMg7
import Derived.Test.YtlolomodcbkblaaGreatDoorMtv
import Derived.Deep.RegionHeld3
import Derived.Deep.MidRow
import Derived.Test.YtlolomodcbkblaaGreatDoorMtx
import Derived.Test.YtlolomodcbkblaaGreatDoorMg2
import Derived.Test.YtlolomodcbkblaaGreatDoorMg13
set_option linter.unusedVariables false
set_option linter.unusedSimpArgs false
namespace Go.Proofs.YtlolomodcbkblaaGreatDoor.Cn
open Go.RowKit Go.Maps Go.WideMaps Go.ChangeShapes Go.WideShapes Go.Deep Fp Obs _root_.Go.Proofs.YtlolomodcbkblaaGreatDoor.Sp
open _root_.Go.Proofs.YtlolomodcbkblaaGreatDoor (Mt.res1)

theorem bdrH {B : Nat} {A w : World} (h : Below B A w) : Below B A w.drew := h.drew
/-- a row that does not lie in block g -/
def NE (v : Value) (g : Nat) : Prop := v.ownBlock = none ∨ v.ownBlock ≠ some g
section
variable {W W' : World} {B e sz n : Nat} {v : Value} {xs : List Value}
theorem ne_of_base {g : Nat} (h : W.ownsRow B e sz v n xs) (hg : g < B) : NE v g := by
  unfold NE
  cases hv : v.ownBlock with
  | none => exact Or.inl rfl
  | some b => exact Or.inr (by have := (h.lt b hv).1; intro e; injection e with e; omega)
theorem ne_of_lt {g : Nat} (h : W.ownsRow B e sz v n xs) (hg : W.heap.size ≤ g) : NE v g := by
  unfold NE
  cases hv : v.ownBlock with
  | none => exact Or.inl rfl
  | some b => exact Or.inr (by have := (h.lt b hv).2; intro e; injection e with e; omega)
theorem own_ge {g c : Nat} (h : W.ownsRow B e sz (.slice (some ⟨g, 0, none⟩) n c) n xs) : B ≤ g := (h.lt g rfl).1
theorem ne_two {g g2 s : Nat} (h : v.ownBlock = some g ∨ v.ownBlock = some s) (h1 : g ≠ g2) (h2 : s ≠ g2) : NE v g2 := by
  rcases h with h | h
  · exact Or.inr (by rw [h]; intro e; injection e with e; exact h1 e)
  · exact Or.inr (by rw [h]; intro e; injection e with e; exact h2 e)
end
theorem dest_made (W : World) {B : Nat} (hB : B ≤ W.heap.size) (T : TypeId) : (W.alloc (.cells #[] T)).ownsRow B T 1 (.slice (some ⟨W.heap.size, 0, none⟩) 0 0) 0 [] :=
  ⟨rfl, Or.inr ⟨W.heap.size, 0, #[], rfl, hB, heap_alloc_new W _, Nat.le_refl _, Nat.zero_le _, rfl, rfl⟩⟩

/-- the histogram converted -/
def HistF (count : Int) (z : Nat) (sch : Int) (zt : Nat) (zc : Int) (Rn Rp : List N2) (Dn Dp : List Int) (w : World) (e : Ending) (w' : World) : Prop :=
  ∃ a15 k15 a16 k16 a18 k18 a19 k19, e = .returned (.agg #[.int .u64 count, .float .f64 z, .slice none 0 0, .int .i64 0, .bool true, .int .i32 sch, .float .f64 zt, .int .u64 zc, .slice a15 Rn.length k15, .slice a16 Rp.length k16, .slice a18 Dn.length k18, .slice a19 Dp.length k19, .slice none 0 0]) ∧ w'.ownsRow w.heap.size 260 2 (.slice a15 Rn.length k15) Rn.length (Rn.flatMap rc) ∧ w'.ownsRow w.heap.size 260 2 (.slice a16 Rp.length k16) Rp.length (Rp.flatMap rc) ∧ w'.ownsRow w.heap.size 2 1 (.slice a18 Dn.length k18) Dn.length (Dn.flatMap fun z => [Value.int .i64 z]) ∧ w'.ownsRow w.heap.size 2 1 (.slice a19 Dp.length k19) Dp.length (Dp.flatMap fun z => [Value.int .i64 z]) ∧ Below w.heap.size w w'

set_option maxHeartbeats 16000000 in
set_option maxRecDepth 100000 in
theorem histFrom_h (an ap adn adp : Option Addr) (nn np cn cp cdn cdp : Nat) (count : Int) (z : Nat) (sch : Int) (zt : Nat) (zc : Int) (Rn Rp : List N2) (Dn Dp : List Int) (w : World)
    (hn : Ss.Of 2 rc w (.slice an nn cn) Rn) (hp : Ss.Of 2 rc w (.slice ap np cp) Rp) (hdn : Sl.Of (Value.int .i64) w (.slice adn Dn.length cdn) Dn) (hdp : Sl.Of (Value.int .i64) w (.slice adp Dp.length cdp) Dp) (lRn : Rn.length ≤ 2147483647) (lRp : Rp.length ≤ 2147483647) (lDn : Dn.length ≤ 2147483648) (lDp : Dp.length ≤ 2147483648) :
    Calls Tryz.prog 49 #[.agg #[.int .u64 count, .float .f64 z, .slice none 0 0, .int .i64 0, .bool true, .int .i32 sch, .float .f64 zt, .int .u64 zc, .slice an nn cn, .slice ap np cp, .slice adn Dn.length cdn, .slice adp Dp.length cdp, .slice none 0 0]] w (HistF count z sch zt zc Rn Rp Dn Dp w) := by
  obtain ⟨i0, hi, hz0, hz1, hz2⟩ := info_parts _root_.Go.Proofs.YtlolomodcbkblaaGreatDoor.Mt.infoI64
  have HOneI : Hid (∀ z : Int, ∀ u ∈ [Value.int .i64 z], u.oneCell' = true) := fun z u hu => by rw [List.mem_singleton.1 hu]; rfl
  obtain ⟨A, hA⟩ : ∃ A, A = (w.alloc (.cells #[.int .u64 count, .float .f64 z, .slice none 0 0, .int .i64 0, .bool true, .int .i32 sch, .float .f64 zt, .int .u64 zc, .slice an nn cn, .slice ap np cp, .slice adn Dn.length cdn, .slice adp Dp.length cdp, .slice none 0 0] 37)).alloc (.cells #[.int .u64 0, .float .f64 0, .slice none 0 0, .int .i64 0, .bool false, .int .i32 0, .float .f64 0, .int .u64 0, .slice none 0 0, .slice none 0 0, .slice none 0 0, .slice none 0 0, .slice none 0 0] 52) := ⟨_, rfl⟩
  have s1 : (w.alloc (.cells #[.int .u64 count, .float .f64 z, .slice none 0 0, .int .i64 0, .bool true, .int .i32 sch, .float .f64 zt, .int .u64 zc, .slice an nn cn, .slice ap np cp, .slice adn Dn.length cdn, .slice adp Dp.length cdp, .slice none 0 0] 37)).heap.size = w.heap.size + 1 := by simp
  have s2 : A.heap.size = w.heap.size + 1 + 1 := by rw [hA]; simp
  have hqb : Below w.heap.size w A := by rw [hA]; exact ((Below.refl _ _).alloc (Nat.le_refl _) _).alloc (by simp) _
  have HUp : Hid (∀ W : World, Below A.heap.size A W → Below w.heap.size w W) := fun W h => hqb.trans (h.mono (by omega))
  have HC : Hid (∀ W : World, Below A.heap.size A W → W.cell? ⟨w.heap.size, 0, none⟩ = some (.int .u64 count) ∧ W.cell? ⟨w.heap.size, 1, none⟩ = some (.float .f64 z) ∧ W.cell? ⟨w.heap.size, 2, none⟩ = some (.slice none 0 0) ∧ W.cell? ⟨w.heap.size, 3, none⟩ = some (.int .i64 0) ∧ W.cell? ⟨w.heap.size, 4, none⟩ = some (.bool true) ∧ W.cell? ⟨w.heap.size, 5, none⟩ = some (.int .i32 sch) ∧ W.cell? ⟨w.heap.size, 6, none⟩ = some (.float .f64 zt) ∧ W.cell? ⟨w.heap.size, 7, none⟩ = some (.int .u64 zc) ∧ W.cell? ⟨w.heap.size, 8, none⟩ = some (.slice an nn cn) ∧ W.cell? ⟨w.heap.size, 9, none⟩ = some (.slice ap np cp) ∧ W.cell? ⟨w.heap.size, 10, none⟩ = some (.slice adn Dn.length cdn) ∧ W.cell? ⟨w.heap.size, 11, none⟩ = some (.slice adp Dp.length cdp) ∧ W.cell? ⟨w.heap.size, 12, none⟩ = some (.slice none 0 0)) := fun W h => by
    have ea : ∀ j, A.cell? ⟨w.heap.size, j, none⟩ = (#[.int .u64 count, .float .f64 z, .slice none 0 0, .int .i64 0, .bool true, .int .i32 sch, .float .f64 zt, .int .u64 zc, .slice an nn cn, .slice ap np cp, .slice adn Dn.length cdn, .slice adp Dp.length cdp, .slice none 0 0] : Array Value)[j]? := fun j => by rw [hA]; exact (Sl.cell_old _ _ _ _ (by rw [s1]; omega)).trans (Sl.cell_new w _ _ j)
    have e : ∀ j, W.cell? ⟨w.heap.size, j, none⟩ = (#[.int .u64 count, .float .f64 z, .slice none 0 0, .int .i64 0, .bool true, .int .i32 sch, .float .f64 zt, .int .u64 zc, .slice an nn cn, .slice ap np cp, .slice adn Dn.length cdn, .slice adp Dp.length cdp, .slice none 0 0] : Array Value)[j]? := fun j => (h.cell (p := ⟨w.heap.size, j, none⟩) (by show w.heap.size < A.heap.size; omega)).trans (ea j)
    exact ⟨e 0, e 1, e 2, e 3, e 4, e 5, e 6, e 7, e 8, e 9, e 10, e 11, e 12⟩
  have HD : Hid (∀ W : World, Below A.heap.size A W → Whole W (w.heap.size + 1) 52 #[.int .u64 0, .float .f64 0, .slice none 0 0, .int .i64 0, .bool false, .int .i32 0, .float .f64 0, .int .u64 0, .slice none 0 0, .slice none 0 0, .slice none 0 0, .slice none 0 0, .slice none 0 0]) := fun W h => by
    have h1 := heap_alloc_new (w.alloc (.cells #[.int .u64 count, .float .f64 z, .slice none 0 0, .int .i64 0, .bool true, .int .i32 sch, .float .f64 zt, .int .u64 zc, .slice an nn cn, .slice ap np cp, .slice adn Dn.length cdn, .slice adp Dp.length cdp, .slice none 0 0] 37)) (.cells #[.int .u64 0, .float .f64 0, .slice none 0 0, .int .i64 0, .bool false, .int .i32 0, .float .f64 0, .int .u64 0, .slice none 0 0, .slice none 0 0, .slice none 0 0, .slice none 0 0, .slice none 0 0] 52)
    rw [s1, ← hA] at h1
    exact (h.block (w.heap.size + 1) (by omega)).trans h1
  have HI : Hid (∀ W : World, Below A.heap.size A W → Ss.Of 2 rc W (.slice an nn cn) Rn ∧ Ss.Of 2 rc W (.slice ap np cp) Rp ∧ Sl.Of (Value.int .i64) W (.slice adn Dn.length cdn) Dn ∧ Sl.Of (Value.int .i64) W (.slice adp Dp.length cdp) Dp) := fun W k => by
    have kk := HUp.out W k
    exact ⟨hn.below kk, hp.below kk, hdn.below kk, hdp.below kk⟩
  have hsz : (Tryz.prog.info? 52).map (·.size) = some 13 := by kernel_rfl
  have HOut : Hid (∀ a15 k15 a16 k16 a18 k18 a19 k19 W, Below A.heap.size A W → W.ownsRow A.heap.size 260 2 (.slice a15 Rn.length k15) Rn.length (Rn.flatMap rc) → W.ownsRow A.heap.size 260 2 (.slice a16 Rp.length k16) Rp.length (Rp.flatMap rc) → W.ownsRow A.heap.size 2 1 (.slice a18 Dn.length k18) Dn.length (Dn.flatMap fun z => [Value.int .i64 z]) → W.ownsRow A.heap.size 2 1 (.slice a19 Dp.length k19) Dp.length (Dp.flatMap fun z => [Value.int .i64 z]) → ∀ Wf, W.grownBy Wf (some (w.heap.size + 1)) → Wf.heap.size = W.heap.size → HistF count z sch zt zc Rn Rp Dn Dp w (.returned (.agg #[.int .u64 count, .float .f64 z, .slice none 0 0, .int .i64 0, .bool true, .int .i32 sch, .float .f64 zt, .int .u64 zc, .slice a15 Rn.length k15, .slice a16 Rp.length k16, .slice a18 Dn.length k18, .slice a19 Dp.length k19, .slice none 0 0])) Wf ∧ Wf.cell? ⟨w.heap.size, 0, none⟩ = some (.int .u64 count) ∧ Wf.cell? ⟨w.heap.size, 1, none⟩ = some (.float .f64 z) ∧ Wf.cell? ⟨w.heap.size, 2, none⟩ = some (.slice none 0 0) ∧ Wf.cell? ⟨w.heap.size, 3, none⟩ = some (.int .i64 0) ∧ Wf.cell? ⟨w.heap.size, 4, none⟩ = some (.bool true) ∧ Wf.cell? ⟨w.heap.size, 5, none⟩ = some (.int .i32 sch) ∧ Wf.cell? ⟨w.heap.size, 6, none⟩ = some (.float .f64 zt) ∧ Wf.cell? ⟨w.heap.size, 7, none⟩ = some (.int .u64 zc) ∧ Wf.cell? ⟨w.heap.size, 8, none⟩ = some (.slice an nn cn) ∧ Wf.cell? ⟨w.heap.size, 9, none⟩ = some (.slice ap np cp) ∧ Wf.cell? ⟨w.heap.size, 10, none⟩ = some (.slice adn Dn.length cdn) ∧ Wf.cell? ⟨w.heap.size, 11, none⟩ = some (.slice adp Dp.length cdp) ∧ Wf.cell? ⟨w.heap.size, 12, none⟩ = some (.slice none 0 0)) := fun a15 k15 a16 k16 a18 k18 a19 k19 W hb r1 r2 r3 r4 Wf hg hs => by
    have hz := hb.size
    have kp : ∀ {e sz n : Nat} {v : Value} {xs : List Value}, W.ownsRow A.heap.size e sz v n xs → Wf.ownsRow w.heap.size e sz v n xs := fun {e sz n v xs} ho => Nd.own_base (ho.kept hg (ne_of_base ho (by omega))) (by omega)
    have hc := HC.out W hb
    have e : ∀ j, Wf.cell? ⟨w.heap.size, j, none⟩ = W.cell? ⟨w.heap.size, j, none⟩ := fun j => World.cell?_of_block (w := W) (hg.block w.heap.size (by omega) (by intro e; injection e with e; omega))
    refine ⟨⟨a15, k15, a16, k16, a18, k18, a19, k19, rfl, kp r1, kp r2, kp r3, kp r4, (HUp.out W hb).grown hg (by omega) (fun j hj => by injection hj with hj; omega)⟩, ?_⟩
    simp only [e]
    exact hc
  have HE0 : Hid (Below A.heap.size A A.drew) := bdrH (Below.refl _ _)
  have q0 := HC.out A.drew HE0.out
  clear hn hp hdn hdp hqb s1 s2
  go_enter Tryz.func49, Tryz.ntmps49
  go_wp2_with fail
  rw [← hA]
  clear hA
  refine wp_region_noPanic ?_
  refine wp_region_held_drew (S := fun W => W.cell? ⟨w.heap.size, 0, none⟩ = some (.int .u64 count) ∧ W.cell? ⟨w.heap.size, 1, none⟩ = some (.float .f64 z) ∧ W.cell? ⟨w.heap.size, 2, none⟩ = some (.slice none 0 0) ∧ W.cell? ⟨w.heap.size, 3, none⟩ = some (.int .i64 0) ∧ W.cell? ⟨w.heap.size, 4, none⟩ = some (.bool true) ∧ W.cell? ⟨w.heap.size, 5, none⟩ = some (.int .i32 sch) ∧ W.cell? ⟨w.heap.size, 6, none⟩ = some (.float .f64 zt) ∧ W.cell? ⟨w.heap.size, 7, none⟩ = some (.int .u64 zc) ∧ W.cell? ⟨w.heap.size, 8, none⟩ = some (.slice an nn cn) ∧ W.cell? ⟨w.heap.size, 9, none⟩ = some (.slice ap np cp) ∧ W.cell? ⟨w.heap.size, 10, none⟩ = some (.slice adn Dn.length cdn) ∧ W.cell? ⟨w.heap.size, 11, none⟩ = some (.slice adp Dp.length cdp) ∧ W.cell? ⟨w.heap.size, 12, none⟩ = some (.slice none 0 0)) (by kernel_rfl) (by (with_reducible exact q0)) (fun hHeld => ?_)
  refine wpAnyH_take (i := 0) (v := ?_) rfl (by kernel_rfl) (by kernel_rfl) (by kernel_rfl) (fun _ _ _ h => h) (Or.inl ⟨by rfl, ?_⟩) hHeld ?_
  rotate_left
  · intro w hSw; (try dsimp only at hSw); go_simp; (try with_reducible rfl)
  try simp only [Act.put, List.setIfInBounds_toArray, List.set_cons_zero, List.set_cons_succ, List.getElem_toArray, List.getElem_cons_zero, List.getElem_cons_succ]
  refine wpAnyH_take (i := 1) (v := ?_) rfl (by kernel_rfl) (by kernel_rfl) (by kernel_rfl) (fun _ _ _ h => h) (Or.inl ⟨by rfl, ?_⟩) hHeld ?_
  rotate_left
  · intro w hSw; (try dsimp only at hSw); go_simp; (try with_reducible rfl)
  try simp only [Act.put, List.setIfInBounds_toArray, List.set_cons_zero, List.set_cons_succ, List.getElem_toArray, List.getElem_cons_zero, List.getElem_cons_succ]
  refine wpAnyH_take (i := 2) (v := ?_) rfl (by kernel_rfl) (by kernel_rfl) (by kernel_rfl) (fun _ _ _ h => h) (Or.inl ⟨by rfl, ?_⟩) hHeld ?_
  rotate_left
  · intro w hSw; (try dsimp only at hSw); go_simp; (try with_reducible rfl)
  try simp only [Act.put, List.setIfInBounds_toArray, List.set_cons_zero, List.set_cons_succ, List.getElem_toArray, List.getElem_cons_zero, List.getElem_cons_succ]
  refine wpAnyH_take (i := 3) (v := ?_) rfl (by kernel_rfl) (by kernel_rfl) (by kernel_rfl) (fun _ _ _ h => h) (Or.inl ⟨by rfl, ?_⟩) hHeld ?_
  rotate_left
  · intro w hSw; (try dsimp only at hSw); go_simp; (try with_reducible rfl)
  try simp only [Act.put, List.setIfInBounds_toArray, List.set_cons_zero, List.set_cons_succ, List.getElem_toArray, List.getElem_cons_zero, List.getElem_cons_succ]
  refine wpAnyH_take (i := 4) (v := ?_) rfl (by kernel_rfl) (by kernel_rfl) (by kernel_rfl) (fun _ _ _ h => h) (Or.inl ⟨by rfl, ?_⟩) hHeld ?_
  rotate_left
  · intro w hSw; (try dsimp only at hSw); go_simp; (try with_reducible rfl)
  try simp only [Act.put, List.setIfInBounds_toArray, List.set_cons_zero, List.set_cons_succ, List.getElem_toArray, List.getElem_cons_zero, List.getElem_cons_succ]
  refine wpAnyH_take (i := 5) (v := ?_) rfl (by kernel_rfl) (by kernel_rfl) (by kernel_rfl) (fun _ _ _ h => h) (Or.inl ⟨by rfl, ?_⟩) hHeld ?_
  rotate_left
  · intro w hSw; (try dsimp only at hSw); go_simp; (try with_reducible rfl)
  try simp only [Act.put, List.setIfInBounds_toArray, List.set_cons_zero, List.set_cons_succ, List.getElem_toArray, List.getElem_cons_zero, List.getElem_cons_succ]
  refine Calm.take (i := 6) (v := .slice none 0 0) rfl (by kernel_rfl) (by kernel_rfl) (by kernel_rfl) (fun _ _ _ h => h) ⟨by rfl, fun W hSw => ⟨92, #[.slice none 0 0], ?_, _root_.Go.Proofs.YtlolomodcbkblaaGreatDoor.Mt.bucketsFrom_nil _ _ W⟩⟩ hHeld ?_
  · go_simp; (try with_reducible rfl)
  try simp only [Act.put, List.setIfInBounds_toArray, List.set_cons_zero, List.set_cons_succ, List.getElem_toArray, List.getElem_cons_zero, List.getElem_cons_succ]
  refine wpAnyH_take (i := 7) (v := ?_) rfl (by kernel_rfl) (by kernel_rfl) (by kernel_rfl) (fun _ _ _ h => h) (Or.inl ⟨by rfl, ?_⟩) hHeld ?_
  rotate_left
  · intro w hSw; (try dsimp only at hSw); go_simp; (try with_reducible rfl)
  try simp only [Act.put, List.setIfInBounds_toArray, List.set_cons_zero, List.set_cons_succ, List.getElem_toArray, List.getElem_cons_zero, List.getElem_cons_succ]
  refine wpAnyH_take (i := 8) (v := ?_) rfl (by kernel_rfl) (by kernel_rfl) (by kernel_rfl) (fun _ _ _ h => h) (Or.inl ⟨by rfl, ?_⟩) hHeld ?_
  rotate_left
  · intro w hSw; (try dsimp only at hSw); go_simp; (try with_reducible rfl)
  try simp only [Act.put, List.setIfInBounds_toArray, List.set_cons_zero, List.set_cons_succ, List.getElem_toArray, List.getElem_cons_zero, List.getElem_cons_succ]
  refine wpAnyH_take (i := 9) (v := ?_) rfl (by kernel_rfl) (by kernel_rfl) (by kernel_rfl) (fun _ _ _ h => h) (Or.inl ⟨by rfl, ?_⟩) hHeld ?_
  rotate_left
  · intro w hSw; (try dsimp only at hSw); go_simp; (try with_reducible rfl)
  try simp only [Act.put, List.setIfInBounds_toArray, List.set_cons_zero, List.set_cons_succ, List.getElem_toArray, List.getElem_cons_zero, List.getElem_cons_succ]
  refine wpAnyH_take (i := 10) (v := ?_) rfl (by kernel_rfl) (by kernel_rfl) (by kernel_rfl) (fun _ _ _ h => h) (Or.inl ⟨by rfl, ?_⟩) hHeld ?_
  rotate_left
  · intro w hSw; (try dsimp only at hSw); go_simp; (try with_reducible rfl)
  try simp only [Act.put, List.setIfInBounds_toArray, List.set_cons_zero, List.set_cons_succ, List.getElem_toArray, List.getElem_cons_zero, List.getElem_cons_succ]
  refine wpAnyH_take (i := 11) (v := ?_) rfl (by kernel_rfl) (by kernel_rfl) (by kernel_rfl) (fun _ _ _ h => h) (Or.inl ⟨by rfl, ?_⟩) hHeld ?_
  rotate_left
  · intro w hSw; (try dsimp only at hSw); go_simp; (try with_reducible rfl)
  try simp only [Act.put, List.setIfInBounds_toArray, List.set_cons_zero, List.set_cons_succ, List.getElem_toArray, List.getElem_cons_zero, List.getElem_cons_succ]
  refine wpAnyH_take (i := 12) (v := ?_) rfl (by kernel_rfl) (by kernel_rfl) (by kernel_rfl) (fun _ _ _ h => h) (Or.inl ⟨by rfl, ?_⟩) hHeld ?_
  rotate_left
  · intro w hSw; (try dsimp only at hSw); go_simp; (try with_reducible rfl)
  try simp only [Act.put, List.setIfInBounds_toArray, List.set_cons_zero, List.set_cons_succ, List.getElem_toArray, List.getElem_cons_zero, List.getElem_cons_succ]
  refine wpAnyH_take (i := 13) (v := ?_) rfl (by kernel_rfl) (by kernel_rfl) (by kernel_rfl) (fun _ _ _ h => h) (Or.inl ⟨by rfl, ?_⟩) hHeld ?_
  rotate_left
  · intro w hSw; (try dsimp only at hSw); go_simp; (try with_reducible rfl)
  try simp only [Act.put, List.setIfInBounds_toArray, List.set_cons_zero, List.set_cons_succ, List.getElem_toArray, List.getElem_cons_zero, List.getElem_cons_succ]
  refine wpAnyH_take (i := 14) (v := ?_) rfl (by kernel_rfl) (by kernel_rfl) (by kernel_rfl) (fun _ _ _ h => h) (Or.inl ⟨by rfl, ?_⟩) hHeld ?_
  rotate_left
  · intro w hSw; (try dsimp only at hSw); go_simp; (try with_reducible rfl)
  try simp only [Act.put, List.setIfInBounds_toArray, List.set_cons_zero, List.set_cons_succ, List.getElem_toArray, List.getElem_cons_zero, List.getElem_cons_succ]
  refine wpAnyH_take (i := 15) (v := ?_) rfl (by kernel_rfl) (by kernel_rfl) (by kernel_rfl) (fun _ _ _ h => h) (Or.inl ⟨by rfl, ?_⟩) hHeld ?_
  rotate_left
  · intro w hSw; (try dsimp only at hSw); go_simp; (try with_reducible rfl)
  try simp only [Act.put, List.setIfInBounds_toArray, List.set_cons_zero, List.set_cons_succ, List.getElem_toArray, List.getElem_cons_zero, List.getElem_cons_succ]
  refine wpAnyH_take (i := 16) (v := ?_) rfl (by kernel_rfl) (by kernel_rfl) (by kernel_rfl) (fun _ _ _ h => h) (Or.inl ⟨by rfl, ?_⟩) hHeld ?_
  rotate_left
  · intro w hSw; (try dsimp only at hSw); go_simp; (try with_reducible rfl)
  try simp only [Act.put, List.setIfInBounds_toArray, List.set_cons_zero, List.set_cons_succ, List.getElem_toArray, List.getElem_cons_zero, List.getElem_cons_succ]
  refine wpAnyH_take (i := 17) (v := ?_) rfl (by kernel_rfl) (by kernel_rfl) (by kernel_rfl) (fun _ _ _ h => h) (Or.inl ⟨by rfl, ?_⟩) hHeld ?_
  rotate_left
  · intro w hSw; (try dsimp only at hSw); go_simp; (try with_reducible rfl)
  try simp only [Act.put, List.setIfInBounds_toArray, List.set_cons_zero, List.set_cons_succ, List.getElem_toArray, List.getElem_cons_zero, List.getElem_cons_succ]
  refine wpAnyH_take (i := 18) (v := ?_) rfl (by kernel_rfl) (by kernel_rfl) (by kernel_rfl) (fun _ _ _ h => h) (Or.inl ⟨by rfl, ?_⟩) hHeld ?_
  rotate_left
  · intro w hSw; (try dsimp only at hSw); go_simp; (try with_reducible rfl)
  try simp only [Act.put, List.setIfInBounds_toArray, List.set_cons_zero, List.set_cons_succ, List.getElem_toArray, List.getElem_cons_zero, List.getElem_cons_succ]
  refine wpAnyH_take (i := 20) (v := ?_) rfl (by kernel_rfl) (by kernel_rfl) (by kernel_rfl) (fun _ _ _ h => h) (Or.inl ⟨by rfl, ?_⟩) hHeld ?_
  rotate_left
  · intro w hSw; (try dsimp only at hSw); go_simp; (try with_reducible rfl)
  try simp only [Act.put, List.setIfInBounds_toArray, List.set_cons_zero, List.set_cons_succ, List.getElem_toArray, List.getElem_cons_zero, List.getElem_cons_succ]
  refine wpAnyH_take (i := 21) (v := ?_) rfl (by kernel_rfl) (by kernel_rfl) (by kernel_rfl) (fun _ _ _ h => h) (Or.inl ⟨by rfl, ?_⟩) hHeld ?_
  rotate_left
  · intro w hSw; (try dsimp only at hSw); go_simp; (try with_reducible rfl)
  try simp only [Act.put, List.setIfInBounds_toArray, List.set_cons_zero, List.set_cons_succ, List.getElem_toArray, List.getElem_cons_zero, List.getElem_cons_succ]
  refine wpAnyH_take (i := 24) (v := ?_) rfl (by kernel_rfl) (by kernel_rfl) (by kernel_rfl) (fun _ _ _ h => h) (Or.inl ⟨by rfl, ?_⟩) hHeld ?_
  rotate_left
  · intro w hSw; (try dsimp only at hSw); go_simp; (try with_reducible rfl)
  try simp only [Act.put, List.setIfInBounds_toArray, List.set_cons_zero, List.set_cons_succ, List.getElem_toArray, List.getElem_cons_zero, List.getElem_cons_succ]
  refine wpAnyH_take (i := 25) (v := ?_) rfl (by kernel_rfl) (by kernel_rfl) (by kernel_rfl) (fun _ _ _ h => h) (Or.inl ⟨by rfl, ?_⟩) hHeld ?_
  rotate_left
  · intro w hSw; (try dsimp only at hSw); go_simp; (try with_reducible rfl)
  try simp only [Act.put, List.setIfInBounds_toArray, List.set_cons_zero, List.set_cons_succ, List.getElem_toArray, List.getElem_cons_zero, List.getElem_cons_succ]
  refine wpAnyH_take (i := 28) (v := ?_) rfl (by kernel_rfl) (by kernel_rfl) (by kernel_rfl) (fun _ _ _ h => h) (Or.inl ⟨by rfl, ?_⟩) hHeld ?_
  rotate_left
  · intro w hSw; (try dsimp only at hSw); go_simp; (try with_reducible rfl)
  try simp only [Act.put, List.setIfInBounds_toArray, List.set_cons_zero, List.set_cons_succ, List.getElem_toArray, List.getElem_cons_zero, List.getElem_cons_succ]
  refine wpAnyH_take (i := 29) (v := ?_) rfl (by kernel_rfl) (by kernel_rfl) (by kernel_rfl) (fun _ _ _ h => h) (Or.inl ⟨by rfl, ?_⟩) hHeld ?_
  rotate_left
  · intro w hSw; (try dsimp only at hSw); go_simp; (try with_reducible rfl)
  try simp only [Act.put, List.setIfInBounds_toArray, List.set_cons_zero, List.set_cons_succ, List.getElem_toArray, List.getElem_cons_zero, List.getElem_cons_succ]
  refine wpAnyH_take (i := 31) (v := ?_) rfl (by kernel_rfl) (by kernel_rfl) (by kernel_rfl) (fun _ _ _ h => h) (Or.inl ⟨by rfl, ?_⟩) hHeld ?_
  rotate_left
  · intro w hSw; (try dsimp only at hSw); go_simp; (try with_reducible rfl)
  try simp only [Act.put, List.setIfInBounds_toArray, List.set_cons_zero, List.set_cons_succ, List.getElem_toArray, List.getElem_cons_zero, List.getElem_cons_succ]
  refine wpAnyH_take (i := 32) (v := ?_) rfl (by kernel_rfl) (by kernel_rfl) (by kernel_rfl) (fun _ _ _ h => h) (Or.inl ⟨by rfl, ?_⟩) hHeld ?_
  rotate_left
  · intro w hSw; (try dsimp only at hSw); go_simp; (try with_reducible rfl)
  try simp only [Act.put, List.setIfInBounds_toArray, List.set_cons_zero, List.set_cons_succ, List.getElem_toArray, List.getElem_cons_zero, List.getElem_cons_succ]
  refine wpAnyH_ready (rs := [19, 23, 27]) (by kernel_rfl) (by simp) (AllReadyH.cons rfl (fun K hK => ?_) (AllReadyH.cons rfl (fun K hK => ?_) (AllReadyH.cons rfl (fun K hK => ?_) AllReadyH.nil)))
  · skip
    go_simp
    go_at_call 93; refine (_root_.Go.Proofs.YtlolomodcbkblaaGreatDoor.Sp.runsTo_own Rn (.slice an nn cn) _ ((HI.out _ HE0.out).1) lRn).mono ?_; rintro e y1 ⟨v0, rfl, ho, hb⟩; obtain ⟨a15, k15, rfl⟩ := row_slice2 ho
    have HE1 : Hid (Below A.heap.size A y1) := HE0.out.trans (hb.mono HE0.out.size)
    have HR1_19 : Hid (y1.ownsRow A.heap.size 260 2 (.slice a15 Rn.length k15) Rn.length (Rn.flatMap rc)) := Nd.own_base ho HE0.out.size
    clear hb ho
    have q1 := HC.out _ HE1.out
    refine hK.out _ _ ?_ (fun hHeld2 => ?_)
    · with_reducible exact q1
    clear hK K hHeld q1; have hHeld := hHeld2; clear hHeld2
    try simp only [Act.put, List.setIfInBounds_toArray, List.set_cons_zero, List.set_cons_succ, List.getElem_toArray, List.getElem_cons_zero, List.getElem_cons_succ]
    refine wpAnyH_ready (rs := [22, 23, 27]) (by kernel_rfl) (by simp) (AllReadyH.cons rfl (fun K hK => ?_) (AllReadyH.cons rfl (fun K hK => ?_) (AllReadyH.cons rfl (fun K hK => ?_) AllReadyH.nil)))
    · skip
      go_simp
      go_at_call 93; refine (_root_.Go.Proofs.YtlolomodcbkblaaGreatDoor.Sp.runsTo_own Rp (.slice ap np cp) _ ((HI.out _ HE1.out).2.1) lRp).mono ?_; rintro e y2 ⟨v0, rfl, ho, hb⟩; obtain ⟨a16, k16, rfl⟩ := row_slice2 ho
      have HE2 : Hid (Below A.heap.size A y2) := HE1.out.trans (hb.mono HE1.out.size)
      have HR2_22 : Hid (y2.ownsRow A.heap.size 260 2 (.slice a16 Rp.length k16) Rp.length (Rp.flatMap rc)) := Nd.own_base ho HE1.out.size
      have HR2_19 : Hid (y2.ownsRow A.heap.size 260 2 (.slice a15 Rn.length k15) Rn.length (Rn.flatMap rc)) := Nd.own_below HR1_19.out hb
      clear hb ho
      have q2 := HC.out _ HE2.out
      refine hK.out _ _ ?_ (fun hHeld2 => ?_)
      · with_reducible exact q2
      clear hK K hHeld q2; have hHeld := hHeld2; clear hHeld2
      try simp only [Act.put, List.setIfInBounds_toArray, List.set_cons_zero, List.set_cons_succ, List.getElem_toArray, List.getElem_cons_zero, List.getElem_cons_succ]
      clear HR1_19 HE1
      refine wpAnyH_ready (rs := [23, 27]) (by kernel_rfl) (by simp) (AllReadyH.cons rfl (fun K hK => ?_) (AllReadyH.cons rfl (fun K hK => ?_) AllReadyH.nil))
      · skip
        go_simp
        obtain ⟨y3, hy⟩ : ∃ y, y = (y2.alloc (.cells #[] 2)) := ⟨_, rfl⟩; rw [← hy]
        have hb : Below y2.heap.size y2 y3 := by rw [hy]; exact (Below.refl _ _).alloc (Nat.le_refl _) _
        have HE3 : Hid (Below A.heap.size A y3) := HE2.out.trans (hb.mono HE2.out.size)
        have HD3 : Hid (y3.ownsRow A.heap.size 2 1 (.slice (some ⟨y2.heap.size, 0, none⟩) 0 0) 0 []) := by rw [hy]; exact dest_made y2 HE2.out.size _
        have HL3 : Hid (y2.heap.size < y3.heap.size) := by rw [hy]; show y2.heap.size < (y2.alloc _).heap.size; simp
        have HR3_19 : Hid (y3.ownsRow A.heap.size 260 2 (.slice a15 Rn.length k15) Rn.length (Rn.flatMap rc)) := Nd.own_below HR2_19.out hb
        have HN3_19_23 : Hid (NE (.slice a15 Rn.length k15) (y2.heap.size)) := ne_of_lt HR2_19.out (Nat.le_refl _)
        have HR3_22 : Hid (y3.ownsRow A.heap.size 260 2 (.slice a16 Rp.length k16) Rp.length (Rp.flatMap rc)) := Nd.own_below HR2_22.out hb
        have HN3_22_23 : Hid (NE (.slice a16 Rp.length k16) (y2.heap.size)) := ne_of_lt HR2_22.out (Nat.le_refl _)
        clear hb hy
        have q3 := HC.out _ HE3.out
        refine hK.out _ _ ?_ (fun hHeld2 => ?_)
        · with_reducible exact q3
        clear hK K hHeld q3; have hHeld := hHeld2; clear hHeld2
        try simp only [Act.put, List.setIfInBounds_toArray, List.set_cons_zero, List.set_cons_succ, List.getElem_toArray, List.getElem_cons_zero, List.getElem_cons_succ]
        clear HR2_19 HR2_22 HE2
        refine wpAnyH_ready (rs := [26, 27]) (by kernel_rfl) (by simp) (AllReadyH.cons rfl (fun K hK => ?_) (AllReadyH.cons rfl (fun K hK => ?_) AllReadyH.nil))
        · skip
          refine Nd.step_of (by rfl) (.tmp 26) (.tmp 28) 34 (by rfl) A.heap.size 2 i0 (.int .i64 0) 1 8 Tryz.underlying34 hi hz0 hz1 hz2 rfl (by decide) (.slice (some ⟨y2.heap.size, 0, none⟩) 0 0) 0 [] (by rfl) HD3.out (c := fun z => [Value.int .i64 z]) (fun _ => rfl) HOneI.out Dn _ (by rfl) (Nd.sl_ss ((HI.out _ HE3.out).2.2.1)) (by unfold maxLen; omega) (by omega) HE3.out.size ?_; intro v0 y4 ho hg hl; rw [Nat.zero_add, List.nil_append] at ho; obtain ⟨a18, k18, rfl⟩ := row_slice2 ho
          have hg : y3.grownBy y4 (some (y2.heap.size)) := hg
          have HE4 : Hid (Below A.heap.size A y4) := HE3.out.grown hg HE3.out.size (fun j hj => by injection hj with hj; rw [← hj]; exact own_ge HD3.out)
          have HR4_26 : Hid (y4.ownsRow A.heap.size 2 1 (.slice a18 Dn.length k18) Dn.length (Dn.flatMap fun z => [Value.int .i64 z])) := ho
          have HR4_19 : Hid (y4.ownsRow A.heap.size 260 2 (.slice a15 Rn.length k15) Rn.length (Rn.flatMap rc)) := HR3_19.out.kept hg HN3_19_23.out
          have HR4_22 : Hid (y4.ownsRow A.heap.size 260 2 (.slice a16 Rp.length k16) Rp.length (Rp.flatMap rc)) := HR3_22.out.kept hg HN3_22_23.out
          clear ho hg hl
          have q4 := HC.out _ HE4.out
          refine hK.out _ _ ?_ (fun hHeld2 => ?_)
          · with_reducible exact q4
          clear hK K hHeld q4; have hHeld := hHeld2; clear hHeld2
          try simp only [Act.put, List.setIfInBounds_toArray, List.set_cons_zero, List.set_cons_succ, List.getElem_toArray, List.getElem_cons_zero, List.getElem_cons_succ]
          clear HR3_19 HR3_22 HD3 HL3 HE3
          refine wpAnyH_ready (rs := [27]) (by kernel_rfl) (by simp) (AllReadyH.cons rfl (fun K hK => ?_) AllReadyH.nil)
          · skip
            go_simp
            obtain ⟨y5, hy⟩ : ∃ y, y = (y4.alloc (.cells #[] 2)) := ⟨_, rfl⟩; rw [← hy]
            have hb : Below y4.heap.size y4 y5 := by rw [hy]; exact (Below.refl _ _).alloc (Nat.le_refl _) _
            have HE5 : Hid (Below A.heap.size A y5) := HE4.out.trans (hb.mono HE4.out.size)
            have HD5 : Hid (y5.ownsRow A.heap.size 2 1 (.slice (some ⟨y4.heap.size, 0, none⟩) 0 0) 0 []) := by rw [hy]; exact dest_made y4 HE4.out.size _
            have HL5 : Hid (y4.heap.size < y5.heap.size) := by rw [hy]; show y4.heap.size < (y4.alloc _).heap.size; simp
            have HR5_19 : Hid (y5.ownsRow A.heap.size 260 2 (.slice a15 Rn.length k15) Rn.length (Rn.flatMap rc)) := Nd.own_below HR4_19.out hb
            have HN5_19_27 : Hid (NE (.slice a15 Rn.length k15) (y4.heap.size)) := ne_of_lt HR4_19.out (Nat.le_refl _)
            have HR5_22 : Hid (y5.ownsRow A.heap.size 260 2 (.slice a16 Rp.length k16) Rp.length (Rp.flatMap rc)) := Nd.own_below HR4_22.out hb
            have HN5_22_27 : Hid (NE (.slice a16 Rp.length k16) (y4.heap.size)) := ne_of_lt HR4_22.out (Nat.le_refl _)
            have HR5_26 : Hid (y5.ownsRow A.heap.size 2 1 (.slice a18 Dn.length k18) Dn.length (Dn.flatMap fun z => [Value.int .i64 z])) := Nd.own_below HR4_26.out hb
            have HN5_26_27 : Hid (NE (.slice a18 Dn.length k18) (y4.heap.size)) := ne_of_lt HR4_26.out (Nat.le_refl _)
            clear hb hy
            have q5 := HC.out _ HE5.out
            refine hK.out _ _ ?_ (fun hHeld2 => ?_)
            · with_reducible exact q5
            clear hK K hHeld q5; have hHeld := hHeld2; clear hHeld2
            try simp only [Act.put, List.setIfInBounds_toArray, List.set_cons_zero, List.set_cons_succ, List.getElem_toArray, List.getElem_cons_zero, List.getElem_cons_succ]
            clear HR4_19 HR4_22 HR4_26 HE4
            refine wpAnyH_ready (rs := [30]) (by kernel_rfl) (by simp) (AllReadyH.cons rfl (fun K hK => ?_) AllReadyH.nil)
            · skip
              refine Nd.step_of (by rfl) (.tmp 30) (.tmp 32) 34 (by rfl) A.heap.size 2 i0 (.int .i64 0) 1 8 Tryz.underlying34 hi hz0 hz1 hz2 rfl (by decide) (.slice (some ⟨y4.heap.size, 0, none⟩) 0 0) 0 [] (by rfl) HD5.out (c := fun z => [Value.int .i64 z]) (fun _ => rfl) HOneI.out Dp _ (by rfl) (Nd.sl_ss ((HI.out _ HE5.out).2.2.2)) (by unfold maxLen; omega) (by omega) HE5.out.size ?_; intro v0 y6 ho hg hl; rw [Nat.zero_add, List.nil_append] at ho; obtain ⟨a19, k19, rfl⟩ := row_slice2 ho
              have hg : y5.grownBy y6 (some (y4.heap.size)) := hg
              have HE6 : Hid (Below A.heap.size A y6) := HE5.out.grown hg HE5.out.size (fun j hj => by injection hj with hj; rw [← hj]; exact own_ge HD5.out)
              have HR6_30 : Hid (y6.ownsRow A.heap.size 2 1 (.slice a19 Dp.length k19) Dp.length (Dp.flatMap fun z => [Value.int .i64 z])) := ho
              have HR6_19 : Hid (y6.ownsRow A.heap.size 260 2 (.slice a15 Rn.length k15) Rn.length (Rn.flatMap rc)) := HR5_19.out.kept hg HN5_19_27.out
              have HR6_22 : Hid (y6.ownsRow A.heap.size 260 2 (.slice a16 Rp.length k16) Rp.length (Rp.flatMap rc)) := HR5_22.out.kept hg HN5_22_27.out
              have HR6_26 : Hid (y6.ownsRow A.heap.size 2 1 (.slice a18 Dn.length k18) Dn.length (Dn.flatMap fun z => [Value.int .i64 z])) := HR5_26.out.kept hg HN5_26_27.out
              clear ho hg hl
              have q6 := HC.out _ HE6.out
              refine hK.out _ _ ?_ (fun hHeld2 => ?_)
              · with_reducible exact q6
              clear hK K hHeld q6; have hHeld := hHeld2; clear hHeld2
              try simp only [Act.put, List.setIfInBounds_toArray, List.set_cons_zero, List.set_cons_succ, List.getElem_toArray, List.getElem_cons_zero, List.getElem_cons_succ]
              clear HR5_19 HR5_22 HR5_26 HD5 HL5 HE5
              refine Calm.take (i := 33) (v := .slice none 0 0) rfl (by kernel_rfl) (by kernel_rfl) (by kernel_rfl) (fun _ _ _ h => h) ⟨by rfl, fun W hSw => ⟨94, #[.slice none 0 0], ?_, _root_.Go.Proofs.YtlolomodcbkblaaGreatDoor.Mt.marksFrom_nil _ _ W⟩⟩ hHeld ?_
              · go_simp; (try with_reducible rfl)
              try simp only [Act.put, List.setIfInBounds_toArray, List.set_cons_zero, List.set_cons_succ, List.getElem_toArray, List.getElem_cons_zero, List.getElem_cons_succ]
              refine wpAnyH_take (i := 34) (v := ?_) rfl (by kernel_rfl) (by kernel_rfl) (by kernel_rfl) (fun _ _ _ h => h) (Or.inl ⟨by rfl, ?_⟩) hHeld ?_
              rotate_left
              · intro w hSw; (try dsimp only at hSw); go_simp; (try with_reducible rfl)
              try simp only [Act.put, List.setIfInBounds_toArray, List.set_cons_zero, List.set_cons_succ, List.getElem_toArray, List.getElem_cons_zero, List.getElem_cons_succ]
              refine wpAnyH_ready (rs := [35]) (by kernel_rfl) (by simp) (AllReadyH.cons rfl (fun K hK => ?_) AllReadyH.nil)
              rw [if_pos (by rfl)]
              refine Big.wp_store_whole _ _ _ rfl (w.heap.size + 1) 52 #[.int .u64 0, .float .f64 0, .slice none 0 0, .int .i64 0, .bool false, .int .i32 0, .float .f64 0, .int .u64 0, .slice none 0 0, .slice none 0 0, .slice none 0 0, .slice none 0 0, .slice none 0 0] #[.int .u64 count, .float .f64 z, .slice none 0 0, .int .i64 0, .bool true, .int .i32 sch, .float .f64 zt, .int .u64 zc, .slice a15 Rn.length k15, .slice a16 Rp.length k16, .slice a18 Dn.length k18, .slice a19 Dp.length k19, .slice none 0 0] rfl rfl (HD.out _ HE6.out) rfl hsz (by simp [Value.oneCell']) ?_; intro yf hx hg hs
              have HF := Lib.hid (HOut.out _ _ _ _ _ _ _ _ _ HE6.out HR6_19.out HR6_22.out HR6_26.out HR6_30.out yf hg hs); have q9 := HF.out.2; have HXf := Lib.hid hx; clear hx hg hs
              refine hK.out _ _ ?_ (fun hHeld2 => ?_)
              · with_reducible exact q9
              clear hK K hHeld; have hHeld := hHeld2; clear hHeld2
              try simp only [Act.put, List.setIfInBounds_toArray, List.set_cons_zero, List.set_cons_succ, List.getElem_toArray, List.getElem_cons_zero, List.getElem_cons_succ]
              refine wpAnyH_done (by kernel_rfl) ?_ _
              refine NoPanic.normal ?_
              clear q9
              go_wp2_with fail
              exact bodyPost_ret (v := .agg #[.int .u64 count, .float .f64 z, .slice none 0 0, .int .i64 0, .bool true, .int .i32 sch, .float .f64 zt, .int .u64 zc, .slice a15 Rn.length k15, .slice a16 Rp.length k16, .slice a18 Dn.length k18, .slice a19 Dp.length k19, .slice none 0 0]) (Mt.res1 Tryz.results49 _ _ _ _ _ rfl (Big.loaded_whole 52 (w.heap.size + 1) 52 _ HXf.out _ Tryz.underlying52 rfl hsz)) rfl HF.out.1
        · skip
          go_simp
          obtain ⟨y7, hy⟩ : ∃ y, y = (y3.alloc (.cells #[] 2)) := ⟨_, rfl⟩; rw [← hy]
          have hb : Below y3.heap.size y3 y7 := by rw [hy]; exact (Below.refl _ _).alloc (Nat.le_refl _) _
          have HE7 : Hid (Below A.heap.size A y7) := HE3.out.trans (hb.mono HE3.out.size)
          have HD7 : Hid (y7.ownsRow A.heap.size 2 1 (.slice (some ⟨y3.heap.size, 0, none⟩) 0 0) 0 []) := by rw [hy]; exact dest_made y3 HE3.out.size _
          have HL7 : Hid (y3.heap.size < y7.heap.size) := by rw [hy]; show y3.heap.size < (y3.alloc _).heap.size; simp
          have HR7_19 : Hid (y7.ownsRow A.heap.size 260 2 (.slice a15 Rn.length k15) Rn.length (Rn.flatMap rc)) := Nd.own_below HR3_19.out hb
          have HN7_19_27 : Hid (NE (.slice a15 Rn.length k15) (y3.heap.size)) := ne_of_lt HR3_19.out (Nat.le_refl _)
          have HR7_22 : Hid (y7.ownsRow A.heap.size 260 2 (.slice a16 Rp.length k16) Rp.length (Rp.flatMap rc)) := Nd.own_below HR3_22.out hb
          have HN7_22_27 : Hid (NE (.slice a16 Rp.length k16) (y3.heap.size)) := ne_of_lt HR3_22.out (Nat.le_refl _)
          have HD7_23 : Hid (y7.ownsRow A.heap.size 2 1 (.slice (some ⟨y2.heap.size, 0, none⟩) 0 0) 0 []) := Nd.own_below HD3.out hb; have HL7_23 : Hid (y2.heap.size < y7.heap.size) := Nat.lt_of_lt_of_le HL3.out hb.size; have HG7_23 : Hid (y2.heap.size ≠ y3.heap.size) := Nat.ne_of_lt HL3.out
          clear hb hy
          have q7 := HC.out _ HE7.out
          refine hK.out _ _ ?_ (fun hHeld2 => ?_)
          · with_reducible exact q7
          clear hK K hHeld q7; have hHeld := hHeld2; clear hHeld2
          try simp only [Act.put, List.setIfInBounds_toArray, List.set_cons_zero, List.set_cons_succ, List.getElem_toArray, List.getElem_cons_zero, List.getElem_cons_succ]
          clear HR3_19 HR3_22 HD3 HL3 HE3
          refine wpAnyH_ready (rs := [26]) (by kernel_rfl) (by simp) (AllReadyH.cons rfl (fun K hK => ?_) AllReadyH.nil)
          · skip
            refine Nd.step_of (by rfl) (.tmp 26) (.tmp 28) 34 (by rfl) A.heap.size 2 i0 (.int .i64 0) 1 8 Tryz.underlying34 hi hz0 hz1 hz2 rfl (by decide) (.slice (some ⟨y2.heap.size, 0, none⟩) 0 0) 0 [] (by rfl) HD7_23.out (c := fun z => [Value.int .i64 z]) (fun _ => rfl) HOneI.out Dn _ (by rfl) (Nd.sl_ss ((HI.out _ HE7.out).2.2.1)) (by unfold maxLen; omega) (by omega) HE7.out.size ?_; intro v0 y8 ho hg hl; rw [Nat.zero_add, List.nil_append] at ho; obtain ⟨a18, k18, rfl⟩ := row_slice2 ho
            have hg : y7.grownBy y8 (some (y2.heap.size)) := hg
            have HE8 : Hid (Below A.heap.size A y8) := HE7.out.grown hg HE7.out.size (fun j hj => by injection hj with hj; rw [← hj]; exact own_ge HD7_23.out)
            have HR8_26 : Hid (y8.ownsRow A.heap.size 2 1 (.slice a18 Dn.length k18) Dn.length (Dn.flatMap fun z => [Value.int .i64 z])) := ho
            have HR8_19 : Hid (y8.ownsRow A.heap.size 260 2 (.slice a15 Rn.length k15) Rn.length (Rn.flatMap rc)) := HR7_19.out.kept hg HN3_19_23.out
            have HR8_22 : Hid (y8.ownsRow A.heap.size 260 2 (.slice a16 Rp.length k16) Rp.length (Rp.flatMap rc)) := HR7_22.out.kept hg HN3_22_23.out
            have HD8_27 : Hid (y8.ownsRow A.heap.size 2 1 (.slice (some ⟨y3.heap.size, 0, none⟩) 0 0) 0 []) := HD7.out.kept hg (Or.inr (fun e => Ne.symm HG7_23.out (by injection e))); have HL8_27 : Hid (y3.heap.size < y8.heap.size) := Nat.lt_of_lt_of_le HL7.out hg.size; have HN8_26_27 : Hid (NE (.slice a18 Dn.length k18) (y3.heap.size)) := ne_two hl (HG7_23.out) (Nat.ne_of_gt HL7.out)
            clear ho hg hl
            have q8 := HC.out _ HE8.out
            refine hK.out _ _ ?_ (fun hHeld2 => ?_)
            · with_reducible exact q8
            clear hK K hHeld q8; have hHeld := hHeld2; clear hHeld2
            try simp only [Act.put, List.setIfInBounds_toArray, List.set_cons_zero, List.set_cons_succ, List.getElem_toArray, List.getElem_cons_zero, List.getElem_cons_succ]
            clear HR7_19 HR7_22 HD7_23 HL7_23 HD7 HL7 HE7
            refine wpAnyH_ready (rs := [30]) (by kernel_rfl) (by simp) (AllReadyH.cons rfl (fun K hK => ?_) AllReadyH.nil)
            · skip
              refine Nd.step_of (by rfl) (.tmp 30) (.tmp 32) 34 (by rfl) A.heap.size 2 i0 (.int .i64 0) 1 8 Tryz.underlying34 hi hz0 hz1 hz2 rfl (by decide) (.slice (some ⟨y3.heap.size, 0, none⟩) 0 0) 0 [] (by rfl) HD8_27.out (c := fun z => [Value.int .i64 z]) (fun _ => rfl) HOneI.out Dp _ (by rfl) (Nd.sl_ss ((HI.out _ HE8.out).2.2.2)) (by unfold maxLen; omega) (by omega) HE8.out.size ?_; intro v0 y9 ho hg hl; rw [Nat.zero_add, List.nil_append] at ho; obtain ⟨a19, k19, rfl⟩ := row_slice2 ho
              have hg : y8.grownBy y9 (some (y3.heap.size)) := hg
              have HE9 : Hid (Below A.heap.size A y9) := HE8.out.grown hg HE8.out.size (fun j hj => by injection hj with hj; rw [← hj]; exact own_ge HD8_27.out)
              have HR9_30 : Hid (y9.ownsRow A.heap.size 2 1 (.slice a19 Dp.length k19) Dp.length (Dp.flatMap fun z => [Value.int .i64 z])) := ho
              have HR9_19 : Hid (y9.ownsRow A.heap.size 260 2 (.slice a15 Rn.length k15) Rn.length (Rn.flatMap rc)) := HR8_19.out.kept hg HN7_19_27.out
              have HR9_22 : Hid (y9.ownsRow A.heap.size 260 2 (.slice a16 Rp.length k16) Rp.length (Rp.flatMap rc)) := HR8_22.out.kept hg HN7_22_27.out
              have HR9_26 : Hid (y9.ownsRow A.heap.size 2 1 (.slice a18 Dn.length k18) Dn.length (Dn.flatMap fun z => [Value.int .i64 z])) := HR8_26.out.kept hg HN8_26_27.out
              clear ho hg hl
              have q9 := HC.out _ HE9.out
              refine hK.out _ _ ?_ (fun hHeld2 => ?_)
              · with_reducible exact q9
              clear hK K hHeld q9; have hHeld := hHeld2; clear hHeld2
              try simp only [Act.put, List.setIfInBounds_toArray, List.set_cons_zero, List.set_cons_succ, List.getElem_toArray, List.getElem_cons_zero, List.getElem_cons_succ]
              clear HR8_19 HR8_22 HR8_26 HD8_27 HL8_27 HE8
              refine Calm.take (i := 33) (v := .slice none 0 0) rfl (by kernel_rfl) (by kernel_rfl) (by kernel_rfl) (fun _ _ _ h => h) ⟨by rfl, fun W hSw => ⟨94, #[.slice none 0 0], ?_, _root_.Go.Proofs.YtlolomodcbkblaaGreatDoor.Mt.marksFrom_nil _ _ W⟩⟩ hHeld ?_
              · go_simp; (try with_reducible rfl)
              try simp only [Act.put, List.setIfInBounds_toArray, List.set_cons_zero, List.set_cons_succ, List.getElem_toArray, List.getElem_cons_zero, List.getElem_cons_succ]
              refine wpAnyH_take (i := 34) (v := ?_) rfl (by kernel_rfl) (by kernel_rfl) (by kernel_rfl) (fun _ _ _ h => h) (Or.inl ⟨by rfl, ?_⟩) hHeld ?_
              rotate_left
              · intro w hSw; (try dsimp only at hSw); go_simp; (try with_reducible rfl)
              try simp only [Act.put, List.setIfInBounds_toArray, List.set_cons_zero, List.set_cons_succ, List.getElem_toArray, List.getElem_cons_zero, List.getElem_cons_succ]
              refine wpAnyH_ready (rs := [35]) (by kernel_rfl) (by simp) (AllReadyH.cons rfl (fun K hK => ?_) AllReadyH.nil)
              rw [if_pos (by rfl)]
              refine Big.wp_store_whole _ _ _ rfl (w.heap.size + 1) 52 #[.int .u64 0, .float .f64 0, .slice none 0 0, .int .i64 0, .bool false, .int .i32 0, .float .f64 0, .int .u64 0, .slice none 0 0, .slice none 0 0, .slice none 0 0, .slice none 0 0, .slice none 0 0] #[.int .u64 count, .float .f64 z, .slice none 0 0, .int .i64 0, .bool true, .int .i32 sch, .float .f64 zt, .int .u64 zc, .slice a15 Rn.length k15, .slice a16 Rp.length k16, .slice a18 Dn.length k18, .slice a19 Dp.length k19, .slice none 0 0] rfl rfl (HD.out _ HE9.out) rfl hsz (by simp [Value.oneCell']) ?_; intro yf hx hg hs
              have HF := Lib.hid (HOut.out _ _ _ _ _ _ _ _ _ HE9.out HR9_19.out HR9_22.out HR9_26.out HR9_30.out yf hg hs); have q9 := HF.out.2; have HXf := Lib.hid hx; clear hx hg hs
              refine hK.out _ _ ?_ (fun hHeld2 => ?_)
              · with_reducible exact q9
              clear hK K hHeld; have hHeld := hHeld2; clear hHeld2
              try simp only [Act.put, List.setIfInBounds_toArray, List.set_cons_zero, List.set_cons_succ, List.getElem_toArray, List.getElem_cons_zero, List.getElem_cons_succ]
              refine wpAnyH_done (by kernel_rfl) ?_ _
              refine NoPanic.normal ?_
              clear q9
              go_wp2_with fail
              exact bodyPost_ret (v := .agg #[.int .u64 count, .float .f64 z, .slice none 0 0, .int .i64 0, .bool true, .int .i32 sch, .float .f64 zt, .int .u64 zc, .slice a15 Rn.length k15, .slice a16 Rp.length k16, .slice a18 Dn.length k18, .slice a19 Dp.length k19, .slice none 0 0]) (Mt.res1 Tryz.results49 _ _ _ _ _ rfl (Big.loaded_whole 52 (w.heap.size + 1) 52 _ HXf.out _ Tryz.underlying52 rfl hsz)) rfl HF.out.1
      · skip
        go_simp
        obtain ⟨y10, hy⟩ : ∃ y, y = (y2.alloc (.cells #[] 2)) := ⟨_, rfl⟩; rw [← hy]
        have hb : Below y2.heap.size y2 y10 := by rw [hy]; exact (Below.refl _ _).alloc (Nat.le_refl _) _
        have HE10 : Hid (Below A.heap.size A y10) := HE2.out.trans (hb.mono HE2.out.size)
        have HD10 : Hid (y10.ownsRow A.heap.size 2 1 (.slice (some ⟨y2.heap.size, 0, none⟩) 0 0) 0 []) := by rw [hy]; exact dest_made y2 HE2.out.size _
        have HL10 : Hid (y2.heap.size < y10.heap.size) := by rw [hy]; show y2.heap.size < (y2.alloc _).heap.size; simp
        have HR10_19 : Hid (y10.ownsRow A.heap.size 260 2 (.slice a15 Rn.length k15) Rn.length (Rn.flatMap rc)) := Nd.own_below HR2_19.out hb
        have HN10_19_27 : Hid (NE (.slice a15 Rn.length k15) (y2.heap.size)) := ne_of_lt HR2_19.out (Nat.le_refl _)
        have HR10_22 : Hid (y10.ownsRow A.heap.size 260 2 (.slice a16 Rp.length k16) Rp.length (Rp.flatMap rc)) := Nd.own_below HR2_22.out hb
        have HN10_22_27 : Hid (NE (.slice a16 Rp.length k16) (y2.heap.size)) := ne_of_lt HR2_22.out (Nat.le_refl _)
        clear hb hy
        have q10 := HC.out _ HE10.out
        refine hK.out _ _ ?_ (fun hHeld2 => ?_)
        · with_reducible exact q10
        clear hK K hHeld q10; have hHeld := hHeld2; clear hHeld2
        try simp only [Act.put, List.setIfInBounds_toArray, List.set_cons_zero, List.set_cons_succ, List.getElem_toArray, List.getElem_cons_zero, List.getElem_cons_succ]
        clear HR2_19 HR2_22 HE2
        refine wpAnyH_ready (rs := [23]) (by kernel_rfl) (by simp) (AllReadyH.cons rfl (fun K hK => ?_) AllReadyH.nil)
        · skip
          go_simp
          obtain ⟨y11, hy⟩ : ∃ y, y = (y10.alloc (.cells #[] 2)) := ⟨_, rfl⟩; rw [← hy]
          have hb : Below y10.heap.size y10 y11 := by rw [hy]; exact (Below.refl _ _).alloc (Nat.le_refl _) _
          have HE11 : Hid (Below A.heap.size A y11) := HE10.out.trans (hb.mono HE10.out.size)
          have HD11 : Hid (y11.ownsRow A.heap.size 2 1 (.slice (some ⟨y10.heap.size, 0, none⟩) 0 0) 0 []) := by rw [hy]; exact dest_made y10 HE10.out.size _
          have HL11 : Hid (y10.heap.size < y11.heap.size) := by rw [hy]; show y10.heap.size < (y10.alloc _).heap.size; simp
          have HR11_19 : Hid (y11.ownsRow A.heap.size 260 2 (.slice a15 Rn.length k15) Rn.length (Rn.flatMap rc)) := Nd.own_below HR10_19.out hb
          have HN11_19_23 : Hid (NE (.slice a15 Rn.length k15) (y10.heap.size)) := ne_of_lt HR10_19.out (Nat.le_refl _)
          have HR11_22 : Hid (y11.ownsRow A.heap.size 260 2 (.slice a16 Rp.length k16) Rp.length (Rp.flatMap rc)) := Nd.own_below HR10_22.out hb
          have HN11_22_23 : Hid (NE (.slice a16 Rp.length k16) (y10.heap.size)) := ne_of_lt HR10_22.out (Nat.le_refl _)
          have HD11_27 : Hid (y11.ownsRow A.heap.size 2 1 (.slice (some ⟨y2.heap.size, 0, none⟩) 0 0) 0 []) := Nd.own_below HD10.out hb; have HL11_27 : Hid (y2.heap.size < y11.heap.size) := Nat.lt_of_lt_of_le HL10.out hb.size; have HG11_27 : Hid (y2.heap.size ≠ y10.heap.size) := Nat.ne_of_lt HL10.out
          clear hb hy
          have q11 := HC.out _ HE11.out
          refine hK.out _ _ ?_ (fun hHeld2 => ?_)
          · with_reducible exact q11
          clear hK K hHeld q11; have hHeld := hHeld2; clear hHeld2
          try simp only [Act.put, List.setIfInBounds_toArray, List.set_cons_zero, List.set_cons_succ, List.getElem_toArray, List.getElem_cons_zero, List.getElem_cons_succ]
          clear HR10_19 HR10_22 HD10 HL10 HE10
          refine wpAnyH_ready (rs := [26]) (by kernel_rfl) (by simp) (AllReadyH.cons rfl (fun K hK => ?_) AllReadyH.nil)
          · skip
            refine Nd.step_of (by rfl) (.tmp 26) (.tmp 28) 34 (by rfl) A.heap.size 2 i0 (.int .i64 0) 1 8 Tryz.underlying34 hi hz0 hz1 hz2 rfl (by decide) (.slice (some ⟨y10.heap.size, 0, none⟩) 0 0) 0 [] (by rfl) HD11.out (c := fun z => [Value.int .i64 z]) (fun _ => rfl) HOneI.out Dn _ (by rfl) (Nd.sl_ss ((HI.out _ HE11.out).2.2.1)) (by unfold maxLen; omega) (by omega) HE11.out.size ?_; intro v0 y12 ho hg hl; rw [Nat.zero_add, List.nil_append] at ho; obtain ⟨a18, k18, rfl⟩ := row_slice2 ho
            have hg : y11.grownBy y12 (some (y10.heap.size)) := hg
            have HE12 : Hid (Below A.heap.size A y12) := HE11.out.grown hg HE11.out.size (fun j hj => by injection hj with hj; rw [← hj]; exact own_ge HD11.out)
            have HR12_26 : Hid (y12.ownsRow A.heap.size 2 1 (.slice a18 Dn.length k18) Dn.length (Dn.flatMap fun z => [Value.int .i64 z])) := ho
            have HR12_19 : Hid (y12.ownsRow A.heap.size 260 2 (.slice a15 Rn.length k15) Rn.length (Rn.flatMap rc)) := HR11_19.out.kept hg HN11_19_23.out
            have HR12_22 : Hid (y12.ownsRow A.heap.size 260 2 (.slice a16 Rp.length k16) Rp.length (Rp.flatMap rc)) := HR11_22.out.kept hg HN11_22_23.out
            have HD12_27 : Hid (y12.ownsRow A.heap.size 2 1 (.slice (some ⟨y2.heap.size, 0, none⟩) 0 0) 0 []) := HD11_27.out.kept hg (Or.inr (fun e => HG11_27.out (by injection e))); have HL12_27 : Hid (y2.heap.size < y12.heap.size) := Nat.lt_of_lt_of_le HL11_27.out hg.size; have HN12_26_27 : Hid (NE (.slice a18 Dn.length k18) (y2.heap.size)) := ne_two hl (Ne.symm HG11_27.out) (Nat.ne_of_gt HL11_27.out)
            clear ho hg hl
            have q12 := HC.out _ HE12.out
            refine hK.out _ _ ?_ (fun hHeld2 => ?_)
            · with_reducible exact q12
            clear hK K hHeld q12; have hHeld := hHeld2; clear hHeld2
            try simp only [Act.put, List.setIfInBounds_toArray, List.set_cons_zero, List.set_cons_succ, List.getElem_toArray, List.getElem_cons_zero, List.getElem_cons_succ]
            clear HR11_19 HR11_22 HD11_27 HL11_27 HD11 HL11 HE11
            refine wpAnyH_ready (rs := [30]) (by kernel_rfl) (by simp) (AllReadyH.cons rfl (fun K hK => ?_) AllReadyH.nil)
            · skip
              refine Nd.step_of (by rfl) (.tmp 30) (.tmp 32) 34 (by rfl) A.heap.size 2 i0 (.int .i64 0) 1 8 Tryz.underlying34 hi hz0 hz1 hz2 rfl (by decide) (.slice (some ⟨y2.heap.size, 0, none⟩) 0 0) 0 [] (by rfl) HD12_27.out (c := fun z => [Value.int .i64 z]) (fun _ => rfl) HOneI.out Dp _ (by rfl) (Nd.sl_ss ((HI.out _ HE12.out).2.2.2)) (by unfold maxLen; omega) (by omega) HE12.out.size ?_; intro v0 y13 ho hg hl; rw [Nat.zero_add, List.nil_append] at ho; obtain ⟨a19, k19, rfl⟩ := row_slice2 ho
              have hg : y12.grownBy y13 (some (y2.heap.size)) := hg
              have HE13 : Hid (Below A.heap.size A y13) := HE12.out.grown hg HE12.out.size (fun j hj => by injection hj with hj; rw [← hj]; exact own_ge HD12_27.out)
              have HR13_30 : Hid (y13.ownsRow A.heap.size 2 1 (.slice a19 Dp.length k19) Dp.length (Dp.flatMap fun z => [Value.int .i64 z])) := ho
              have HR13_19 : Hid (y13.ownsRow A.heap.size 260 2 (.slice a15 Rn.length k15) Rn.length (Rn.flatMap rc)) := HR12_19.out.kept hg HN10_19_27.out
              have HR13_22 : Hid (y13.ownsRow A.heap.size 260 2 (.slice a16 Rp.length k16) Rp.length (Rp.flatMap rc)) := HR12_22.out.kept hg HN10_22_27.out
              have HR13_26 : Hid (y13.ownsRow A.heap.size 2 1 (.slice a18 Dn.length k18) Dn.length (Dn.flatMap fun z => [Value.int .i64 z])) := HR12_26.out.kept hg HN12_26_27.out
              clear ho hg hl
              have q13 := HC.out _ HE13.out
              refine hK.out _ _ ?_ (fun hHeld2 => ?_)
              · with_reducible exact q13
              clear hK K hHeld q13; have hHeld := hHeld2; clear hHeld2
              try simp only [Act.put, List.setIfInBounds_toArray, List.set_cons_zero, List.set_cons_succ, List.getElem_toArray, List.getElem_cons_zero, List.getElem_cons_succ]
              clear HR12_19 HR12_22 HR12_26 HD12_27 HL12_27 HE12
              refine Calm.take (i := 33) (v := .slice none 0 0) rfl (by kernel_rfl) (by kernel_rfl) (by kernel_rfl) (fun _ _ _ h => h) ⟨by rfl, fun W hSw => ⟨94, #[.slice none 0 0], ?_, _root_.Go.Proofs.YtlolomodcbkblaaGreatDoor.Mt.marksFrom_nil _ _ W⟩⟩ hHeld ?_
              · go_simp; (try with_reducible rfl)
              try simp only [Act.put, List.setIfInBounds_toArray, List.set_cons_zero, List.set_cons_succ, List.getElem_toArray, List.getElem_cons_zero, List.getElem_cons_succ]
              refine wpAnyH_take (i := 34) (v := ?_) rfl (by kernel_rfl) (by kernel_rfl) (by kernel_rfl) (fun _ _ _ h => h) (Or.inl ⟨by rfl, ?_⟩) hHeld ?_
              rotate_left
              · intro w hSw; (try dsimp only at hSw); go_simp; (try with_reducible rfl)
              try simp only [Act.put, List.setIfInBounds_toArray, List.set_cons_zero, List.set_cons_succ, List.getElem_toArray, List.getElem_cons_zero, List.getElem_cons_succ]
              refine wpAnyH_ready (rs := [35]) (by kernel_rfl) (by simp) (AllReadyH.cons rfl (fun K hK => ?_) AllReadyH.nil)
              rw [if_pos (by rfl)]
              refine Big.wp_store_whole _ _ _ rfl (w.heap.size + 1) 52 #[.int .u64 0, .float .f64 0, .slice none 0 0, .int .i64 0, .bool false, .int .i32 0, .float .f64 0, .int .u64 0, .slice none 0 0, .slice none 0 0, .slice none 0 0, .slice none 0 0, .slice none 0 0] #[.int .u64 count, .float .f64 z, .slice none 0 0, .int .i64 0, .bool true, .int .i32 sch, .float .f64 zt, .int .u64 zc, .slice a15 Rn.length k15, .slice a16 Rp.length k16, .slice a18 Dn.length k18, .slice a19 Dp.length k19, .slice none 0 0] rfl rfl (HD.out _ HE13.out) rfl hsz (by simp [Value.oneCell']) ?_; intro yf hx hg hs
              have HF := Lib.hid (HOut.out _ _ _ _ _ _ _ _ _ HE13.out HR13_19.out HR13_22.out HR13_26.out HR13_30.out yf hg hs); have q9 := HF.out.2; have HXf := Lib.hid hx; clear hx hg hs
              refine hK.out _ _ ?_ (fun hHeld2 => ?_)
              · with_reducible exact q9
              clear hK K hHeld; have hHeld := hHeld2; clear hHeld2
              try simp only [Act.put, List.setIfInBounds_toArray, List.set_cons_zero, List.set_cons_succ, List.getElem_toArray, List.getElem_cons_zero, List.getElem_cons_succ]
              refine wpAnyH_done (by kernel_rfl) ?_ _
              refine NoPanic.normal ?_
              clear q9
              go_wp2_with fail
              exact bodyPost_ret (v := .agg #[.int .u64 count, .float .f64 z, .slice none 0 0, .int .i64 0, .bool true, .int .i32 sch, .float .f64 zt, .int .u64 zc, .slice a15 Rn.length k15, .slice a16 Rp.length k16, .slice a18 Dn.length k18, .slice a19 Dp.length k19, .slice none 0 0]) (Mt.res1 Tryz.results49 _ _ _ _ _ rfl (Big.loaded_whole 52 (w.heap.size + 1) 52 _ HXf.out _ Tryz.underlying52 rfl hsz)) rfl HF.out.1
    · skip
      go_simp
      obtain ⟨y14, hy⟩ : ∃ y, y = (y1.alloc (.cells #[] 2)) := ⟨_, rfl⟩; rw [← hy]
      have hb : Below y1.heap.size y1 y14 := by rw [hy]; exact (Below.refl _ _).alloc (Nat.le_refl _) _
      have HE14 : Hid (Below A.heap.size A y14) := HE1.out.trans (hb.mono HE1.out.size)
      have HD14 : Hid (y14.ownsRow A.heap.size 2 1 (.slice (some ⟨y1.heap.size, 0, none⟩) 0 0) 0 []) := by rw [hy]; exact dest_made y1 HE1.out.size _
      have HL14 : Hid (y1.heap.size < y14.heap.size) := by rw [hy]; show y1.heap.size < (y1.alloc _).heap.size; simp
      have HR14_19 : Hid (y14.ownsRow A.heap.size 260 2 (.slice a15 Rn.length k15) Rn.length (Rn.flatMap rc)) := Nd.own_below HR1_19.out hb
      have HN14_19_23 : Hid (NE (.slice a15 Rn.length k15) (y1.heap.size)) := ne_of_lt HR1_19.out (Nat.le_refl _)
      clear hb hy
      have q14 := HC.out _ HE14.out
      refine hK.out _ _ ?_ (fun hHeld2 => ?_)
      · with_reducible exact q14
      clear hK K hHeld q14; have hHeld := hHeld2; clear hHeld2
      try simp only [Act.put, List.setIfInBounds_toArray, List.set_cons_zero, List.set_cons_succ, List.getElem_toArray, List.getElem_cons_zero, List.getElem_cons_succ]
      clear HR1_19 HE1
      refine wpAnyH_ready (rs := [22, 27]) (by kernel_rfl) (by simp) (AllReadyH.cons rfl (fun K hK => ?_) (AllReadyH.cons rfl (fun K hK => ?_) AllReadyH.nil))
      · skip
        go_simp
        go_at_call 93; refine (_root_.Go.Proofs.YtlolomodcbkblaaGreatDoor.Sp.runsTo_own Rp (.slice ap np cp) _ ((HI.out _ HE14.out).2.1) lRp).mono ?_; rintro e y15 ⟨v0, rfl, ho, hb⟩; obtain ⟨a16, k16, rfl⟩ := row_slice2 ho
        have HE15 : Hid (Below A.heap.size A y15) := HE14.out.trans (hb.mono HE14.out.size)
        have HR15_22 : Hid (y15.ownsRow A.heap.size 260 2 (.slice a16 Rp.length k16) Rp.length (Rp.flatMap rc)) := Nd.own_base ho HE14.out.size
        have HR15_19 : Hid (y15.ownsRow A.heap.size 260 2 (.slice a15 Rn.length k15) Rn.length (Rn.flatMap rc)) := Nd.own_below HR14_19.out hb
        have HD15_23 : Hid (y15.ownsRow A.heap.size 2 1 (.slice (some ⟨y1.heap.size, 0, none⟩) 0 0) 0 []) := Nd.own_below HD14.out hb; have HL15_23 : Hid (y1.heap.size < y15.heap.size) := Nat.lt_of_lt_of_le HL14.out hb.size; have HN15_22_23 : Hid (NE (.slice a16 Rp.length k16) (y1.heap.size)) := ne_of_base ho HL14.out
        clear hb ho
        have q15 := HC.out _ HE15.out
        refine hK.out _ _ ?_ (fun hHeld2 => ?_)
        · with_reducible exact q15
        clear hK K hHeld q15; have hHeld := hHeld2; clear hHeld2
        try simp only [Act.put, List.setIfInBounds_toArray, List.set_cons_zero, List.set_cons_succ, List.getElem_toArray, List.getElem_cons_zero, List.getElem_cons_succ]
        clear HR14_19 HD14 HL14 HE14
        refine wpAnyH_ready (rs := [26, 27]) (by kernel_rfl) (by simp) (AllReadyH.cons rfl (fun K hK => ?_) (AllReadyH.cons rfl (fun K hK => ?_) AllReadyH.nil))
        · skip
          refine Nd.step_of (by rfl) (.tmp 26) (.tmp 28) 34 (by rfl) A.heap.size 2 i0 (.int .i64 0) 1 8 Tryz.underlying34 hi hz0 hz1 hz2 rfl (by decide) (.slice (some ⟨y1.heap.size, 0, none⟩) 0 0) 0 [] (by rfl) HD15_23.out (c := fun z => [Value.int .i64 z]) (fun _ => rfl) HOneI.out Dn _ (by rfl) (Nd.sl_ss ((HI.out _ HE15.out).2.2.1)) (by unfold maxLen; omega) (by omega) HE15.out.size ?_; intro v0 y16 ho hg hl; rw [Nat.zero_add, List.nil_append] at ho; obtain ⟨a18, k18, rfl⟩ := row_slice2 ho
          have hg : y15.grownBy y16 (some (y1.heap.size)) := hg
          have HE16 : Hid (Below A.heap.size A y16) := HE15.out.grown hg HE15.out.size (fun j hj => by injection hj with hj; rw [← hj]; exact own_ge HD15_23.out)
          have HR16_26 : Hid (y16.ownsRow A.heap.size 2 1 (.slice a18 Dn.length k18) Dn.length (Dn.flatMap fun z => [Value.int .i64 z])) := ho
          have HR16_19 : Hid (y16.ownsRow A.heap.size 260 2 (.slice a15 Rn.length k15) Rn.length (Rn.flatMap rc)) := HR15_19.out.kept hg HN14_19_23.out
          have HR16_22 : Hid (y16.ownsRow A.heap.size 260 2 (.slice a16 Rp.length k16) Rp.length (Rp.flatMap rc)) := HR15_22.out.kept hg HN15_22_23.out
          clear ho hg hl
          have q16 := HC.out _ HE16.out
          refine hK.out _ _ ?_ (fun hHeld2 => ?_)
          · with_reducible exact q16
          clear hK K hHeld q16; have hHeld := hHeld2; clear hHeld2
          try simp only [Act.put, List.setIfInBounds_toArray, List.set_cons_zero, List.set_cons_succ, List.getElem_toArray, List.getElem_cons_zero, List.getElem_cons_succ]
          clear HR15_19 HR15_22 HD15_23 HL15_23 HE15
          refine wpAnyH_ready (rs := [27]) (by kernel_rfl) (by simp) (AllReadyH.cons rfl (fun K hK => ?_) AllReadyH.nil)
          · skip
            go_simp
            obtain ⟨y17, hy⟩ : ∃ y, y = (y16.alloc (.cells #[] 2)) := ⟨_, rfl⟩; rw [← hy]
            have hb : Below y16.heap.size y16 y17 := by rw [hy]; exact (Below.refl _ _).alloc (Nat.le_refl _) _
            have HE17 : Hid (Below A.heap.size A y17) := HE16.out.trans (hb.mono HE16.out.size)
            have HD17 : Hid (y17.ownsRow A.heap.size 2 1 (.slice (some ⟨y16.heap.size, 0, none⟩) 0 0) 0 []) := by rw [hy]; exact dest_made y16 HE16.out.size _
            have HL17 : Hid (y16.heap.size < y17.heap.size) := by rw [hy]; show y16.heap.size < (y16.alloc _).heap.size; simp
            have HR17_19 : Hid (y17.ownsRow A.heap.size 260 2 (.slice a15 Rn.length k15) Rn.length (Rn.flatMap rc)) := Nd.own_below HR16_19.out hb
            have HN17_19_27 : Hid (NE (.slice a15 Rn.length k15) (y16.heap.size)) := ne_of_lt HR16_19.out (Nat.le_refl _)
            have HR17_22 : Hid (y17.ownsRow A.heap.size 260 2 (.slice a16 Rp.length k16) Rp.length (Rp.flatMap rc)) := Nd.own_below HR16_22.out hb
            have HN17_22_27 : Hid (NE (.slice a16 Rp.length k16) (y16.heap.size)) := ne_of_lt HR16_22.out (Nat.le_refl _)
            have HR17_26 : Hid (y17.ownsRow A.heap.size 2 1 (.slice a18 Dn.length k18) Dn.length (Dn.flatMap fun z => [Value.int .i64 z])) := Nd.own_below HR16_26.out hb
            have HN17_26_27 : Hid (NE (.slice a18 Dn.length k18) (y16.heap.size)) := ne_of_lt HR16_26.out (Nat.le_refl _)
            clear hb hy
            have q17 := HC.out _ HE17.out
            refine hK.out _ _ ?_ (fun hHeld2 => ?_)
            · with_reducible exact q17
            clear hK K hHeld q17; have hHeld := hHeld2; clear hHeld2
            try simp only [Act.put, List.setIfInBounds_toArray, List.set_cons_zero, List.set_cons_succ, List.getElem_toArray, List.getElem_cons_zero, List.getElem_cons_succ]
            clear HR16_19 HR16_22 HR16_26 HE16
            refine wpAnyH_ready (rs := [30]) (by kernel_rfl) (by simp) (AllReadyH.cons rfl (fun K hK => ?_) AllReadyH.nil)
            · skip
              refine Nd.step_of (by rfl) (.tmp 30) (.tmp 32) 34 (by rfl) A.heap.size 2 i0 (.int .i64 0) 1 8 Tryz.underlying34 hi hz0 hz1 hz2 rfl (by decide) (.slice (some ⟨y16.heap.size, 0, none⟩) 0 0) 0 [] (by rfl) HD17.out (c := fun z => [Value.int .i64 z]) (fun _ => rfl) HOneI.out Dp _ (by rfl) (Nd.sl_ss ((HI.out _ HE17.out).2.2.2)) (by unfold maxLen; omega) (by omega) HE17.out.size ?_; intro v0 y18 ho hg hl; rw [Nat.zero_add, List.nil_append] at ho; obtain ⟨a19, k19, rfl⟩ := row_slice2 ho
              have hg : y17.grownBy y18 (some (y16.heap.size)) := hg
              have HE18 : Hid (Below A.heap.size A y18) := HE17.out.grown hg HE17.out.size (fun j hj => by injection hj with hj; rw [← hj]; exact own_ge HD17.out)
              have HR18_30 : Hid (y18.ownsRow A.heap.size 2 1 (.slice a19 Dp.length k19) Dp.length (Dp.flatMap fun z => [Value.int .i64 z])) := ho
              have HR18_19 : Hid (y18.ownsRow A.heap.size 260 2 (.slice a15 Rn.length k15) Rn.length (Rn.flatMap rc)) := HR17_19.out.kept hg HN17_19_27.out
              have HR18_22 : Hid (y18.ownsRow A.heap.size 260 2 (.slice a16 Rp.length k16) Rp.length (Rp.flatMap rc)) := HR17_22.out.kept hg HN17_22_27.out
              have HR18_26 : Hid (y18.ownsRow A.heap.size 2 1 (.slice a18 Dn.length k18) Dn.length (Dn.flatMap fun z => [Value.int .i64 z])) := HR17_26.out.kept hg HN17_26_27.out
              clear ho hg hl
              have q18 := HC.out _ HE18.out
              refine hK.out _ _ ?_ (fun hHeld2 => ?_)
              · with_reducible exact q18
              clear hK K hHeld q18; have hHeld := hHeld2; clear hHeld2
              try simp only [Act.put, List.setIfInBounds_toArray, List.set_cons_zero, List.set_cons_succ, List.getElem_toArray, List.getElem_cons_zero, List.getElem_cons_succ]
              clear HR17_19 HR17_22 HR17_26 HD17 HL17 HE17
              refine Calm.take (i := 33) (v := .slice none 0 0) rfl (by kernel_rfl) (by kernel_rfl) (by kernel_rfl) (fun _ _ _ h => h) ⟨by rfl, fun W hSw => ⟨94, #[.slice none 0 0], ?_, _root_.Go.Proofs.YtlolomodcbkblaaGreatDoor.Mt.marksFrom_nil _ _ W⟩⟩ hHeld ?_
              · go_simp; (try with_reducible rfl)
              try simp only [Act.put, List.setIfInBounds_toArray, List.set_cons_zero, List.set_cons_succ, List.getElem_toArray, List.getElem_cons_zero, List.getElem_cons_succ]
              refine wpAnyH_take (i := 34) (v := ?_) rfl (by kernel_rfl) (by kernel_rfl) (by kernel_rfl) (fun _ _ _ h => h) (Or.inl ⟨by rfl, ?_⟩) hHeld ?_
              rotate_left
              · intro w hSw; (try dsimp only at hSw); go_simp; (try with_reducible rfl)
              try simp only [Act.put, List.setIfInBounds_toArray, List.set_cons_zero, List.set_cons_succ, List.getElem_toArray, List.getElem_cons_zero, List.getElem_cons_succ]
              refine wpAnyH_ready (rs := [35]) (by kernel_rfl) (by simp) (AllReadyH.cons rfl (fun K hK => ?_) AllReadyH.nil)
              rw [if_pos (by rfl)]
              refine Big.wp_store_whole _ _ _ rfl (w.heap.size + 1) 52 #[.int .u64 0, .float .f64 0, .slice none 0 0, .int .i64 0, .bool false, .int .i32 0, .float .f64 0, .int .u64 0, .slice none 0 0, .slice none 0 0, .slice none 0 0, .slice none 0 0, .slice none 0 0] #[.int .u64 count, .float .f64 z, .slice none 0 0, .int .i64 0, .bool true, .int .i32 sch, .float .f64 zt, .int .u64 zc, .slice a15 Rn.length k15, .slice a16 Rp.length k16, .slice a18 Dn.length k18, .slice a19 Dp.length k19, .slice none 0 0] rfl rfl (HD.out _ HE18.out) rfl hsz (by simp [Value.oneCell']) ?_; intro yf hx hg hs
              have HF := Lib.hid (HOut.out _ _ _ _ _ _ _ _ _ HE18.out HR18_19.out HR18_22.out HR18_26.out HR18_30.out yf hg hs); have q9 := HF.out.2; have HXf := Lib.hid hx; clear hx hg hs
              refine hK.out _ _ ?_ (fun hHeld2 => ?_)
              · with_reducible exact q9
              clear hK K hHeld; have hHeld := hHeld2; clear hHeld2
              try simp only [Act.put, List.setIfInBounds_toArray, List.set_cons_zero, List.set_cons_succ, List.getElem_toArray, List.getElem_cons_zero, List.getElem_cons_succ]
              refine wpAnyH_done (by kernel_rfl) ?_ _
              refine NoPanic.normal ?_
              clear q9
              go_wp2_with fail
              exact bodyPost_ret (v := .agg #[.int .u64 count, .float .f64 z, .slice none 0 0, .int .i64 0, .bool true, .int .i32 sch, .float .f64 zt, .int .u64 zc, .slice a15 Rn.length k15, .slice a16 Rp.length k16, .slice a18 Dn.length k18, .slice a19 Dp.length k19, .slice none 0 0]) (Mt.res1 Tryz.results49 _ _ _ _ _ rfl (Big.loaded_whole 52 (w.heap.size + 1) 52 _ HXf.out _ Tryz.underlying52 rfl hsz)) rfl HF.out.1
        · skip
          go_simp
          obtain ⟨y19, hy⟩ : ∃ y, y = (y15.alloc (.cells #[] 2)) := ⟨_, rfl⟩; rw [← hy]
          have hb : Below y15.heap.size y15 y19 := by rw [hy]; exact (Below.refl _ _).alloc (Nat.le_refl _) _
          have HE19 : Hid (Below A.heap.size A y19) := HE15.out.trans (hb.mono HE15.out.size)
          have HD19 : Hid (y19.ownsRow A.heap.size 2 1 (.slice (some ⟨y15.heap.size, 0, none⟩) 0 0) 0 []) := by rw [hy]; exact dest_made y15 HE15.out.size _
          have HL19 : Hid (y15.heap.size < y19.heap.size) := by rw [hy]; show y15.heap.size < (y15.alloc _).heap.size; simp
          have HR19_19 : Hid (y19.ownsRow A.heap.size 260 2 (.slice a15 Rn.length k15) Rn.length (Rn.flatMap rc)) := Nd.own_below HR15_19.out hb
          have HN19_19_27 : Hid (NE (.slice a15 Rn.length k15) (y15.heap.size)) := ne_of_lt HR15_19.out (Nat.le_refl _)
          have HR19_22 : Hid (y19.ownsRow A.heap.size 260 2 (.slice a16 Rp.length k16) Rp.length (Rp.flatMap rc)) := Nd.own_below HR15_22.out hb
          have HN19_22_27 : Hid (NE (.slice a16 Rp.length k16) (y15.heap.size)) := ne_of_lt HR15_22.out (Nat.le_refl _)
          have HD19_23 : Hid (y19.ownsRow A.heap.size 2 1 (.slice (some ⟨y1.heap.size, 0, none⟩) 0 0) 0 []) := Nd.own_below HD15_23.out hb; have HL19_23 : Hid (y1.heap.size < y19.heap.size) := Nat.lt_of_lt_of_le HL15_23.out hb.size; have HG19_23 : Hid (y1.heap.size ≠ y15.heap.size) := Nat.ne_of_lt HL15_23.out
          clear hb hy
          have q19 := HC.out _ HE19.out
          refine hK.out _ _ ?_ (fun hHeld2 => ?_)
          · with_reducible exact q19
          clear hK K hHeld q19; have hHeld := hHeld2; clear hHeld2
          try simp only [Act.put, List.setIfInBounds_toArray, List.set_cons_zero, List.set_cons_succ, List.getElem_toArray, List.getElem_cons_zero, List.getElem_cons_succ]
          clear HR15_19 HR15_22 HD15_23 HL15_23 HE15
          refine wpAnyH_ready (rs := [26]) (by kernel_rfl) (by simp) (AllReadyH.cons rfl (fun K hK => ?_) AllReadyH.nil)
          · skip
            refine Nd.step_of (by rfl) (.tmp 26) (.tmp 28) 34 (by rfl) A.heap.size 2 i0 (.int .i64 0) 1 8 Tryz.underlying34 hi hz0 hz1 hz2 rfl (by decide) (.slice (some ⟨y1.heap.size, 0, none⟩) 0 0) 0 [] (by rfl) HD19_23.out (c := fun z => [Value.int .i64 z]) (fun _ => rfl) HOneI.out Dn _ (by rfl) (Nd.sl_ss ((HI.out _ HE19.out).2.2.1)) (by unfold maxLen; omega) (by omega) HE19.out.size ?_; intro v0 y20 ho hg hl; rw [Nat.zero_add, List.nil_append] at ho; obtain ⟨a18, k18, rfl⟩ := row_slice2 ho
            have hg : y19.grownBy y20 (some (y1.heap.size)) := hg
            have HE20 : Hid (Below A.heap.size A y20) := HE19.out.grown hg HE19.out.size (fun j hj => by injection hj with hj; rw [← hj]; exact own_ge HD19_23.out)
            have HR20_26 : Hid (y20.ownsRow A.heap.size 2 1 (.slice a18 Dn.length k18) Dn.length (Dn.flatMap fun z => [Value.int .i64 z])) := ho
            have HR20_19 : Hid (y20.ownsRow A.heap.size 260 2 (.slice a15 Rn.length k15) Rn.length (Rn.flatMap rc)) := HR19_19.out.kept hg HN14_19_23.out
            have HR20_22 : Hid (y20.ownsRow A.heap.size 260 2 (.slice a16 Rp.length k16) Rp.length (Rp.flatMap rc)) := HR19_22.out.kept hg HN15_22_23.out
            have HD20_27 : Hid (y20.ownsRow A.heap.size 2 1 (.slice (some ⟨y15.heap.size, 0, none⟩) 0 0) 0 []) := HD19.out.kept hg (Or.inr (fun e => Ne.symm HG19_23.out (by injection e))); have HL20_27 : Hid (y15.heap.size < y20.heap.size) := Nat.lt_of_lt_of_le HL19.out hg.size; have HN20_26_27 : Hid (NE (.slice a18 Dn.length k18) (y15.heap.size)) := ne_two hl (HG19_23.out) (Nat.ne_of_gt HL19.out)
            clear ho hg hl
            have q20 := HC.out _ HE20.out
            refine hK.out _ _ ?_ (fun hHeld2 => ?_)
            · with_reducible exact q20
            clear hK K hHeld q20; have hHeld := hHeld2; clear hHeld2
            try simp only [Act.put, List.setIfInBounds_toArray, List.set_cons_zero, List.set_cons_succ, List.getElem_toArray, List.getElem_cons_zero, List.getElem_cons_succ]
            clear HR19_19 HR19_22 HD19_23 HL19_23 HD19 HL19 HE19
            refine wpAnyH_ready (rs := [30]) (by kernel_rfl) (by simp) (AllReadyH.cons rfl (fun K hK => ?_) AllReadyH.nil)
            · skip
              refine Nd.step_of (by rfl) (.tmp 30) (.tmp 32) 34 (by rfl) A.heap.size 2 i0 (.int .i64 0) 1 8 Tryz.underlying34 hi hz0 hz1 hz2 rfl (by decide) (.slice (some ⟨y15.heap.size, 0, none⟩) 0 0) 0 [] (by rfl) HD20_27.out (c := fun z => [Value.int .i64 z]) (fun _ => rfl) HOneI.out Dp _ (by rfl) (Nd.sl_ss ((HI.out _ HE20.out).2.2.2)) (by unfold maxLen; omega) (by omega) HE20.out.size ?_; intro v0 y21 ho hg hl; rw [Nat.zero_add, List.nil_append] at ho; obtain ⟨a19, k19, rfl⟩ := row_slice2 ho
              have hg : y20.grownBy y21 (some (y15.heap.size)) := hg
              have HE21 : Hid (Below A.heap.size A y21) := HE20.out.grown hg HE20.out.size (fun j hj => by injection hj with hj; rw [← hj]; exact own_ge HD20_27.out)
              have HR21_30 : Hid (y21.ownsRow A.heap.size 2 1 (.slice a19 Dp.length k19) Dp.length (Dp.flatMap fun z => [Value.int .i64 z])) := ho
              have HR21_19 : Hid (y21.ownsRow A.heap.size 260 2 (.slice a15 Rn.length k15) Rn.length (Rn.flatMap rc)) := HR20_19.out.kept hg HN19_19_27.out
              have HR21_22 : Hid (y21.ownsRow A.heap.size 260 2 (.slice a16 Rp.length k16) Rp.length (Rp.flatMap rc)) := HR20_22.out.kept hg HN19_22_27.out
              have HR21_26 : Hid (y21.ownsRow A.heap.size 2 1 (.slice a18 Dn.length k18) Dn.length (Dn.flatMap fun z => [Value.int .i64 z])) := HR20_26.out.kept hg HN20_26_27.out
              clear ho hg hl
              have q21 := HC.out _ HE21.out
              refine hK.out _ _ ?_ (fun hHeld2 => ?_)
              · with_reducible exact q21
              clear hK K hHeld q21; have hHeld := hHeld2; clear hHeld2
              try simp only [Act.put, List.setIfInBounds_toArray, List.set_cons_zero, List.set_cons_succ, List.getElem_toArray, List.getElem_cons_zero, List.getElem_cons_succ]
              clear HR20_19 HR20_22 HR20_26 HD20_27 HL20_27 HE20
              refine Calm.take (i := 33) (v := .slice none 0 0) rfl (by kernel_rfl) (by kernel_rfl) (by kernel_rfl) (fun _ _ _ h => h) ⟨by rfl, fun W hSw => ⟨94, #[.slice none 0 0], ?_, _root_.Go.Proofs.YtlolomodcbkblaaGreatDoor.Mt.marksFrom_nil _ _ W⟩⟩ hHeld ?_
              · go_simp; (try with_reducible rfl)
              try simp only [Act.put, List.setIfInBounds_toArray, List.set_cons_zero, List.set_cons_succ, List.getElem_toArray, List.getElem_cons_zero, List.getElem_cons_succ]
              refine wpAnyH_take (i := 34) (v := ?_) rfl (by kernel_rfl) (by kernel_rfl) (by kernel_rfl) (fun _ _ _ h => h) (Or.inl ⟨by rfl, ?_⟩) hHeld ?_
              rotate_left
              · intro w hSw; (try dsimp only at hSw); go_simp; (try with_reducible rfl)
              try simp only [Act.put, List.setIfInBounds_toArray, List.set_cons_zero, List.set_cons_succ, List.getElem_toArray, List.getElem_cons_zero, List.getElem_cons_succ]
              refine wpAnyH_ready (rs := [35]) (by kernel_rfl) (by simp) (AllReadyH.cons rfl (fun K hK => ?_) AllReadyH.nil)
              rw [if_pos (by rfl)]
              refine Big.wp_store_whole _ _ _ rfl (w.heap.size + 1) 52 #[.int .u64 0, .float .f64 0, .slice none 0 0, .int .i64 0, .bool false, .int .i32 0, .float .f64 0, .int .u64 0, .slice none 0 0, .slice none 0 0, .slice none 0 0, .slice none 0 0, .slice none 0 0] #[.int .u64 count, .float .f64 z, .slice none 0 0, .int .i64 0, .bool true, .int .i32 sch, .float .f64 zt, .int .u64 zc, .slice a15 Rn.length k15, .slice a16 Rp.length k16, .slice a18 Dn.length k18, .slice a19 Dp.length k19, .slice none 0 0] rfl rfl (HD.out _ HE21.out) rfl hsz (by simp [Value.oneCell']) ?_; intro yf hx hg hs
              have HF := Lib.hid (HOut.out _ _ _ _ _ _ _ _ _ HE21.out HR21_19.out HR21_22.out HR21_26.out HR21_30.out yf hg hs); have q9 := HF.out.2; have HXf := Lib.hid hx; clear hx hg hs
              refine hK.out _ _ ?_ (fun hHeld2 => ?_)
              · with_reducible exact q9
              clear hK K hHeld; have hHeld := hHeld2; clear hHeld2
              try simp only [Act.put, List.setIfInBounds_toArray, List.set_cons_zero, List.set_cons_succ, List.getElem_toArray, List.getElem_cons_zero, List.getElem_cons_succ]
              refine wpAnyH_done (by kernel_rfl) ?_ _
              refine NoPanic.normal ?_
              clear q9
              go_wp2_with fail
              exact bodyPost_ret (v := .agg #[.int .u64 count, .float .f64 z, .slice none 0 0, .int .i64 0, .bool true, .int .i32 sch, .float .f64 zt, .int .u64 zc, .slice a15 Rn.length k15, .slice a16 Rp.length k16, .slice a18 Dn.length k18, .slice a19 Dp.length k19, .slice none 0 0]) (Mt.res1 Tryz.results49 _ _ _ _ _ rfl (Big.loaded_whole 52 (w.heap.size + 1) 52 _ HXf.out _ Tryz.underlying52 rfl hsz)) rfl HF.out.1
      · skip
        go_simp
        obtain ⟨y22, hy⟩ : ∃ y, y = (y14.alloc (.cells #[] 2)) := ⟨_, rfl⟩; rw [← hy]
        have hb : Below y14.heap.size y14 y22 := by rw [hy]; exact (Below.refl _ _).alloc (Nat.le_refl _) _
        have HE22 : Hid (Below A.heap.size A y22) := HE14.out.trans (hb.mono HE14.out.size)
        have HD22 : Hid (y22.ownsRow A.heap.size 2 1 (.slice (some ⟨y14.heap.size, 0, none⟩) 0 0) 0 []) := by rw [hy]; exact dest_made y14 HE14.out.size _
        have HL22 : Hid (y14.heap.size < y22.heap.size) := by rw [hy]; show y14.heap.size < (y14.alloc _).heap.size; simp
        have HR22_19 : Hid (y22.ownsRow A.heap.size 260 2 (.slice a15 Rn.length k15) Rn.length (Rn.flatMap rc)) := Nd.own_below HR14_19.out hb
        have HN22_19_27 : Hid (NE (.slice a15 Rn.length k15) (y14.heap.size)) := ne_of_lt HR14_19.out (Nat.le_refl _)
        have HD22_23 : Hid (y22.ownsRow A.heap.size 2 1 (.slice (some ⟨y1.heap.size, 0, none⟩) 0 0) 0 []) := Nd.own_below HD14.out hb; have HL22_23 : Hid (y1.heap.size < y22.heap.size) := Nat.lt_of_lt_of_le HL14.out hb.size; have HG22_23 : Hid (y1.heap.size ≠ y14.heap.size) := Nat.ne_of_lt HL14.out
        clear hb hy
        have q22 := HC.out _ HE22.out
        refine hK.out _ _ ?_ (fun hHeld2 => ?_)
        · with_reducible exact q22
        clear hK K hHeld q22; have hHeld := hHeld2; clear hHeld2
        try simp only [Act.put, List.setIfInBounds_toArray, List.set_cons_zero, List.set_cons_succ, List.getElem_toArray, List.getElem_cons_zero, List.getElem_cons_succ]
        clear HR14_19 HD14 HL14 HE14
        refine wpAnyH_ready (rs := [22]) (by kernel_rfl) (by simp) (AllReadyH.cons rfl (fun K hK => ?_) AllReadyH.nil)
        · skip
          go_simp
          go_at_call 93; refine (_root_.Go.Proofs.YtlolomodcbkblaaGreatDoor.Sp.runsTo_own Rp (.slice ap np cp) _ ((HI.out _ HE22.out).2.1) lRp).mono ?_; rintro e y23 ⟨v0, rfl, ho, hb⟩; obtain ⟨a16, k16, rfl⟩ := row_slice2 ho
          have HE23 : Hid (Below A.heap.size A y23) := HE22.out.trans (hb.mono HE22.out.size)
          have HR23_22 : Hid (y23.ownsRow A.heap.size 260 2 (.slice a16 Rp.length k16) Rp.length (Rp.flatMap rc)) := Nd.own_base ho HE22.out.size
          have HR23_19 : Hid (y23.ownsRow A.heap.size 260 2 (.slice a15 Rn.length k15) Rn.length (Rn.flatMap rc)) := Nd.own_below HR22_19.out hb
          have HD23_23 : Hid (y23.ownsRow A.heap.size 2 1 (.slice (some ⟨y1.heap.size, 0, none⟩) 0 0) 0 []) := Nd.own_below HD22_23.out hb; have HL23_23 : Hid (y1.heap.size < y23.heap.size) := Nat.lt_of_lt_of_le HL22_23.out hb.size; have HN23_22_23 : Hid (NE (.slice a16 Rp.length k16) (y1.heap.size)) := ne_of_base ho HL22_23.out
          have HD23_27 : Hid (y23.ownsRow A.heap.size 2 1 (.slice (some ⟨y14.heap.size, 0, none⟩) 0 0) 0 []) := Nd.own_below HD22.out hb; have HL23_27 : Hid (y14.heap.size < y23.heap.size) := Nat.lt_of_lt_of_le HL22.out hb.size; have HN23_22_27 : Hid (NE (.slice a16 Rp.length k16) (y14.heap.size)) := ne_of_base ho HL22.out
          clear hb ho
          have q23 := HC.out _ HE23.out
          refine hK.out _ _ ?_ (fun hHeld2 => ?_)
          · with_reducible exact q23
          clear hK K hHeld q23; have hHeld := hHeld2; clear hHeld2
          try simp only [Act.put, List.setIfInBounds_toArray, List.set_cons_zero, List.set_cons_succ, List.getElem_toArray, List.getElem_cons_zero, List.getElem_cons_succ]
          clear HR22_19 HD22_23 HL22_23 HD22 HL22 HE22
          refine wpAnyH_ready (rs := [26]) (by kernel_rfl) (by simp) (AllReadyH.cons rfl (fun K hK => ?_) AllReadyH.nil)
          · skip
            refine Nd.step_of (by rfl) (.tmp 26) (.tmp 28) 34 (by rfl) A.heap.size 2 i0 (.int .i64 0) 1 8 Tryz.underlying34 hi hz0 hz1 hz2 rfl (by decide) (.slice (some ⟨y1.heap.size, 0, none⟩) 0 0) 0 [] (by rfl) HD23_23.out (c := fun z => [Value.int .i64 z]) (fun _ => rfl) HOneI.out Dn _ (by rfl) (Nd.sl_ss ((HI.out _ HE23.out).2.2.1)) (by unfold maxLen; omega) (by omega) HE23.out.size ?_; intro v0 y24 ho hg hl; rw [Nat.zero_add, List.nil_append] at ho; obtain ⟨a18, k18, rfl⟩ := row_slice2 ho
            have hg : y23.grownBy y24 (some (y1.heap.size)) := hg
            have HE24 : Hid (Below A.heap.size A y24) := HE23.out.grown hg HE23.out.size (fun j hj => by injection hj with hj; rw [← hj]; exact own_ge HD23_23.out)
            have HR24_26 : Hid (y24.ownsRow A.heap.size 2 1 (.slice a18 Dn.length k18) Dn.length (Dn.flatMap fun z => [Value.int .i64 z])) := ho
            have HR24_19 : Hid (y24.ownsRow A.heap.size 260 2 (.slice a15 Rn.length k15) Rn.length (Rn.flatMap rc)) := HR23_19.out.kept hg HN14_19_23.out
            have HR24_22 : Hid (y24.ownsRow A.heap.size 260 2 (.slice a16 Rp.length k16) Rp.length (Rp.flatMap rc)) := HR23_22.out.kept hg HN23_22_23.out
            have HD24_27 : Hid (y24.ownsRow A.heap.size 2 1 (.slice (some ⟨y14.heap.size, 0, none⟩) 0 0) 0 []) := HD23_27.out.kept hg (Or.inr (fun e => Ne.symm HG22_23.out (by injection e))); have HL24_27 : Hid (y14.heap.size < y24.heap.size) := Nat.lt_of_lt_of_le HL23_27.out hg.size; have HN24_26_27 : Hid (NE (.slice a18 Dn.length k18) (y14.heap.size)) := ne_two hl (HG22_23.out) (Nat.ne_of_gt HL23_27.out)
            clear ho hg hl
            have q24 := HC.out _ HE24.out
            refine hK.out _ _ ?_ (fun hHeld2 => ?_)
            · with_reducible exact q24
            clear hK K hHeld q24; have hHeld := hHeld2; clear hHeld2
            try simp only [Act.put, List.setIfInBounds_toArray, List.set_cons_zero, List.set_cons_succ, List.getElem_toArray, List.getElem_cons_zero, List.getElem_cons_succ]
            clear HR23_19 HR23_22 HD23_23 HL23_23 HD23_27 HL23_27 HE23
            refine wpAnyH_ready (rs := [30]) (by kernel_rfl) (by simp) (AllReadyH.cons rfl (fun K hK => ?_) AllReadyH.nil)
            · skip
              refine Nd.step_of (by rfl) (.tmp 30) (.tmp 32) 34 (by rfl) A.heap.size 2 i0 (.int .i64 0) 1 8 Tryz.underlying34 hi hz0 hz1 hz2 rfl (by decide) (.slice (some ⟨y14.heap.size, 0, none⟩) 0 0) 0 [] (by rfl) HD24_27.out (c := fun z => [Value.int .i64 z]) (fun _ => rfl) HOneI.out Dp _ (by rfl) (Nd.sl_ss ((HI.out _ HE24.out).2.2.2)) (by unfold maxLen; omega) (by omega) HE24.out.size ?_; intro v0 y25 ho hg hl; rw [Nat.zero_add, List.nil_append] at ho; obtain ⟨a19, k19, rfl⟩ := row_slice2 ho
              have hg : y24.grownBy y25 (some (y14.heap.size)) := hg
              have HE25 : Hid (Below A.heap.size A y25) := HE24.out.grown hg HE24.out.size (fun j hj => by injection hj with hj; rw [← hj]; exact own_ge HD24_27.out)
              have HR25_30 : Hid (y25.ownsRow A.heap.size 2 1 (.slice a19 Dp.length k19) Dp.length (Dp.flatMap fun z => [Value.int .i64 z])) := ho
              have HR25_19 : Hid (y25.ownsRow A.heap.size 260 2 (.slice a15 Rn.length k15) Rn.length (Rn.flatMap rc)) := HR24_19.out.kept hg HN22_19_27.out
              have HR25_22 : Hid (y25.ownsRow A.heap.size 260 2 (.slice a16 Rp.length k16) Rp.length (Rp.flatMap rc)) := HR24_22.out.kept hg HN23_22_27.out
              have HR25_26 : Hid (y25.ownsRow A.heap.size 2 1 (.slice a18 Dn.length k18) Dn.length (Dn.flatMap fun z => [Value.int .i64 z])) := HR24_26.out.kept hg HN24_26_27.out
              clear ho hg hl
              have q25 := HC.out _ HE25.out
              refine hK.out _ _ ?_ (fun hHeld2 => ?_)
              · with_reducible exact q25
              clear hK K hHeld q25; have hHeld := hHeld2; clear hHeld2
              try simp only [Act.put, List.setIfInBounds_toArray, List.set_cons_zero, List.set_cons_succ, List.getElem_toArray, List.getElem_cons_zero, List.getElem_cons_succ]
              clear HR24_19 HR24_22 HR24_26 HD24_27 HL24_27 HE24
              refine Calm.take (i := 33) (v := .slice none 0 0) rfl (by kernel_rfl) (by kernel_rfl) (by kernel_rfl) (fun _ _ _ h => h) ⟨by rfl, fun W hSw => ⟨94, #[.slice none 0 0], ?_, _root_.Go.Proofs.YtlolomodcbkblaaGreatDoor.Mt.marksFrom_nil _ _ W⟩⟩ hHeld ?_
              · go_simp; (try with_reducible rfl)
              try simp only [Act.put, List.setIfInBounds_toArray, List.set_cons_zero, List.set_cons_succ, List.getElem_toArray, List.getElem_cons_zero, List.getElem_cons_succ]
              refine wpAnyH_take (i := 34) (v := ?_) rfl (by kernel_rfl) (by kernel_rfl) (by kernel_rfl) (fun _ _ _ h => h) (Or.inl ⟨by rfl, ?_⟩) hHeld ?_
              rotate_left
              · intro w hSw; (try dsimp only at hSw); go_simp; (try with_reducible rfl)
              try simp only [Act.put, List.setIfInBounds_toArray, List.set_cons_zero, List.set_cons_succ, List.getElem_toArray, List.getElem_cons_zero, List.getElem_cons_succ]
              refine wpAnyH_ready (rs := [35]) (by kernel_rfl) (by simp) (AllReadyH.cons rfl (fun K hK => ?_) AllReadyH.nil)
              rw [if_pos (by rfl)]
              refine Big.wp_store_whole _ _ _ rfl (w.heap.size + 1) 52 #[.int .u64 0, .float .f64 0, .slice none 0 0, .int .i64 0, .bool false, .int .i32 0, .float .f64 0, .int .u64 0, .slice none 0 0, .slice none 0 0, .slice none 0 0, .slice none 0 0, .slice none 0 0] #[.int .u64 count, .float .f64 z, .slice none 0 0, .int .i64 0, .bool true, .int .i32 sch, .float .f64 zt, .int .u64 zc, .slice a15 Rn.length k15, .slice a16 Rp.length k16, .slice a18 Dn.length k18, .slice a19 Dp.length k19, .slice none 0 0] rfl rfl (HD.out _ HE25.out) rfl hsz (by simp [Value.oneCell']) ?_; intro yf hx hg hs
              have HF := Lib.hid (HOut.out _ _ _ _ _ _ _ _ _ HE25.out HR25_19.out HR25_22.out HR25_26.out HR25_30.out yf hg hs); have q9 := HF.out.2; have HXf := Lib.hid hx; clear hx hg hs
              refine hK.out _ _ ?_ (fun hHeld2 => ?_)
              · with_reducible exact q9
              clear hK K hHeld; have hHeld := hHeld2; clear hHeld2
              try simp only [Act.put, List.setIfInBounds_toArray, List.set_cons_zero, List.set_cons_succ, List.getElem_toArray, List.getElem_cons_zero, List.getElem_cons_succ]
              refine wpAnyH_done (by kernel_rfl) ?_ _
              refine NoPanic.normal ?_
              clear q9
              go_wp2_with fail
              exact bodyPost_ret (v := .agg #[.int .u64 count, .float .f64 z, .slice none 0 0, .int .i64 0, .bool true, .int .i32 sch, .float .f64 zt, .int .u64 zc, .slice a15 Rn.length k15, .slice a16 Rp.length k16, .slice a18 Dn.length k18, .slice a19 Dp.length k19, .slice none 0 0]) (Mt.res1 Tryz.results49 _ _ _ _ _ rfl (Big.loaded_whole 52 (w.heap.size + 1) 52 _ HXf.out _ Tryz.underlying52 rfl hsz)) rfl HF.out.1
    · skip
      go_simp
      obtain ⟨y26, hy⟩ : ∃ y, y = (y1.alloc (.cells #[] 2)) := ⟨_, rfl⟩; rw [← hy]
      have hb : Below y1.heap.size y1 y26 := by rw [hy]; exact (Below.refl _ _).alloc (Nat.le_refl _) _
      have HE26 : Hid (Below A.heap.size A y26) := HE1.out.trans (hb.mono HE1.out.size)
      have HD26 : Hid (y26.ownsRow A.heap.size 2 1 (.slice (some ⟨y1.heap.size, 0, none⟩) 0 0) 0 []) := by rw [hy]; exact dest_made y1 HE1.out.size _
      have HL26 : Hid (y1.heap.size < y26.heap.size) := by rw [hy]; show y1.heap.size < (y1.alloc _).heap.size; simp
      have HR26_19 : Hid (y26.ownsRow A.heap.size 260 2 (.slice a15 Rn.length k15) Rn.length (Rn.flatMap rc)) := Nd.own_below HR1_19.out hb
      have HN26_19_27 : Hid (NE (.slice a15 Rn.length k15) (y1.heap.size)) := ne_of_lt HR1_19.out (Nat.le_refl _)
      clear hb hy
      have q26 := HC.out _ HE26.out
      refine hK.out _ _ ?_ (fun hHeld2 => ?_)
      · with_reducible exact q26
      clear hK K hHeld q26; have hHeld := hHeld2; clear hHeld2
      try simp only [Act.put, List.setIfInBounds_toArray, List.set_cons_zero, List.set_cons_succ, List.getElem_toArray, List.getElem_cons_zero, List.getElem_cons_succ]
      clear HR1_19 HE1
      refine wpAnyH_ready (rs := [22, 23]) (by kernel_rfl) (by simp) (AllReadyH.cons rfl (fun K hK => ?_) (AllReadyH.cons rfl (fun K hK => ?_) AllReadyH.nil))
      · skip
        go_simp
        go_at_call 93; refine (_root_.Go.Proofs.YtlolomodcbkblaaGreatDoor.Sp.runsTo_own Rp (.slice ap np cp) _ ((HI.out _ HE26.out).2.1) lRp).mono ?_; rintro e y27 ⟨v0, rfl, ho, hb⟩; obtain ⟨a16, k16, rfl⟩ := row_slice2 ho
        have HE27 : Hid (Below A.heap.size A y27) := HE26.out.trans (hb.mono HE26.out.size)
        have HR27_22 : Hid (y27.ownsRow A.heap.size 260 2 (.slice a16 Rp.length k16) Rp.length (Rp.flatMap rc)) := Nd.own_base ho HE26.out.size
        have HR27_19 : Hid (y27.ownsRow A.heap.size 260 2 (.slice a15 Rn.length k15) Rn.length (Rn.flatMap rc)) := Nd.own_below HR26_19.out hb
        have HD27_27 : Hid (y27.ownsRow A.heap.size 2 1 (.slice (some ⟨y1.heap.size, 0, none⟩) 0 0) 0 []) := Nd.own_below HD26.out hb; have HL27_27 : Hid (y1.heap.size < y27.heap.size) := Nat.lt_of_lt_of_le HL26.out hb.size; have HN27_22_27 : Hid (NE (.slice a16 Rp.length k16) (y1.heap.size)) := ne_of_base ho HL26.out
        clear hb ho
        have q27 := HC.out _ HE27.out
        refine hK.out _ _ ?_ (fun hHeld2 => ?_)
        · with_reducible exact q27
        clear hK K hHeld q27; have hHeld := hHeld2; clear hHeld2
        try simp only [Act.put, List.setIfInBounds_toArray, List.set_cons_zero, List.set_cons_succ, List.getElem_toArray, List.getElem_cons_zero, List.getElem_cons_succ]
        clear HR26_19 HD26 HL26 HE26
        refine wpAnyH_ready (rs := [23]) (by kernel_rfl) (by simp) (AllReadyH.cons rfl (fun K hK => ?_) AllReadyH.nil)
        · skip
          go_simp
          obtain ⟨y28, hy⟩ : ∃ y, y = (y27.alloc (.cells #[] 2)) := ⟨_, rfl⟩; rw [← hy]
          have hb : Below y27.heap.size y27 y28 := by rw [hy]; exact (Below.refl _ _).alloc (Nat.le_refl _) _
          have HE28 : Hid (Below A.heap.size A y28) := HE27.out.trans (hb.mono HE27.out.size)
          have HD28 : Hid (y28.ownsRow A.heap.size 2 1 (.slice (some ⟨y27.heap.size, 0, none⟩) 0 0) 0 []) := by rw [hy]; exact dest_made y27 HE27.out.size _
          have HL28 : Hid (y27.heap.size < y28.heap.size) := by rw [hy]; show y27.heap.size < (y27.alloc _).heap.size; simp
          have HR28_19 : Hid (y28.ownsRow A.heap.size 260 2 (.slice a15 Rn.length k15) Rn.length (Rn.flatMap rc)) := Nd.own_below HR27_19.out hb
          have HN28_19_23 : Hid (NE (.slice a15 Rn.length k15) (y27.heap.size)) := ne_of_lt HR27_19.out (Nat.le_refl _)
          have HR28_22 : Hid (y28.ownsRow A.heap.size 260 2 (.slice a16 Rp.length k16) Rp.length (Rp.flatMap rc)) := Nd.own_below HR27_22.out hb
          have HN28_22_23 : Hid (NE (.slice a16 Rp.length k16) (y27.heap.size)) := ne_of_lt HR27_22.out (Nat.le_refl _)
          have HD28_27 : Hid (y28.ownsRow A.heap.size 2 1 (.slice (some ⟨y1.heap.size, 0, none⟩) 0 0) 0 []) := Nd.own_below HD27_27.out hb; have HL28_27 : Hid (y1.heap.size < y28.heap.size) := Nat.lt_of_lt_of_le HL27_27.out hb.size; have HG28_27 : Hid (y1.heap.size ≠ y27.heap.size) := Nat.ne_of_lt HL27_27.out
          clear hb hy
          have q28 := HC.out _ HE28.out
          refine hK.out _ _ ?_ (fun hHeld2 => ?_)
          · with_reducible exact q28
          clear hK K hHeld q28; have hHeld := hHeld2; clear hHeld2
          try simp only [Act.put, List.setIfInBounds_toArray, List.set_cons_zero, List.set_cons_succ, List.getElem_toArray, List.getElem_cons_zero, List.getElem_cons_succ]
          clear HR27_19 HR27_22 HD27_27 HL27_27 HE27
          refine wpAnyH_ready (rs := [26]) (by kernel_rfl) (by simp) (AllReadyH.cons rfl (fun K hK => ?_) AllReadyH.nil)
          · skip
            refine Nd.step_of (by rfl) (.tmp 26) (.tmp 28) 34 (by rfl) A.heap.size 2 i0 (.int .i64 0) 1 8 Tryz.underlying34 hi hz0 hz1 hz2 rfl (by decide) (.slice (some ⟨y27.heap.size, 0, none⟩) 0 0) 0 [] (by rfl) HD28.out (c := fun z => [Value.int .i64 z]) (fun _ => rfl) HOneI.out Dn _ (by rfl) (Nd.sl_ss ((HI.out _ HE28.out).2.2.1)) (by unfold maxLen; omega) (by omega) HE28.out.size ?_; intro v0 y29 ho hg hl; rw [Nat.zero_add, List.nil_append] at ho; obtain ⟨a18, k18, rfl⟩ := row_slice2 ho
            have hg : y28.grownBy y29 (some (y27.heap.size)) := hg
            have HE29 : Hid (Below A.heap.size A y29) := HE28.out.grown hg HE28.out.size (fun j hj => by injection hj with hj; rw [← hj]; exact own_ge HD28.out)
            have HR29_26 : Hid (y29.ownsRow A.heap.size 2 1 (.slice a18 Dn.length k18) Dn.length (Dn.flatMap fun z => [Value.int .i64 z])) := ho
            have HR29_19 : Hid (y29.ownsRow A.heap.size 260 2 (.slice a15 Rn.length k15) Rn.length (Rn.flatMap rc)) := HR28_19.out.kept hg HN28_19_23.out
            have HR29_22 : Hid (y29.ownsRow A.heap.size 260 2 (.slice a16 Rp.length k16) Rp.length (Rp.flatMap rc)) := HR28_22.out.kept hg HN28_22_23.out
            have HD29_27 : Hid (y29.ownsRow A.heap.size 2 1 (.slice (some ⟨y1.heap.size, 0, none⟩) 0 0) 0 []) := HD28_27.out.kept hg (Or.inr (fun e => HG28_27.out (by injection e))); have HL29_27 : Hid (y1.heap.size < y29.heap.size) := Nat.lt_of_lt_of_le HL28_27.out hg.size; have HN29_26_27 : Hid (NE (.slice a18 Dn.length k18) (y1.heap.size)) := ne_two hl (Ne.symm HG28_27.out) (Nat.ne_of_gt HL28_27.out)
            clear ho hg hl
            have q29 := HC.out _ HE29.out
            refine hK.out _ _ ?_ (fun hHeld2 => ?_)
            · with_reducible exact q29
            clear hK K hHeld q29; have hHeld := hHeld2; clear hHeld2
            try simp only [Act.put, List.setIfInBounds_toArray, List.set_cons_zero, List.set_cons_succ, List.getElem_toArray, List.getElem_cons_zero, List.getElem_cons_succ]
            clear HR28_19 HR28_22 HD28_27 HL28_27 HD28 HL28 HE28
            refine wpAnyH_ready (rs := [30]) (by kernel_rfl) (by simp) (AllReadyH.cons rfl (fun K hK => ?_) AllReadyH.nil)
            · skip
              refine Nd.step_of (by rfl) (.tmp 30) (.tmp 32) 34 (by rfl) A.heap.size 2 i0 (.int .i64 0) 1 8 Tryz.underlying34 hi hz0 hz1 hz2 rfl (by decide) (.slice (some ⟨y1.heap.size, 0, none⟩) 0 0) 0 [] (by rfl) HD29_27.out (c := fun z => [Value.int .i64 z]) (fun _ => rfl) HOneI.out Dp _ (by rfl) (Nd.sl_ss ((HI.out _ HE29.out).2.2.2)) (by unfold maxLen; omega) (by omega) HE29.out.size ?_; intro v0 y30 ho hg hl; rw [Nat.zero_add, List.nil_append] at ho; obtain ⟨a19, k19, rfl⟩ := row_slice2 ho
              have hg : y29.grownBy y30 (some (y1.heap.size)) := hg
              have HE30 : Hid (Below A.heap.size A y30) := HE29.out.grown hg HE29.out.size (fun j hj => by injection hj with hj; rw [← hj]; exact own_ge HD29_27.out)
              have HR30_30 : Hid (y30.ownsRow A.heap.size 2 1 (.slice a19 Dp.length k19) Dp.length (Dp.flatMap fun z => [Value.int .i64 z])) := ho
              have HR30_19 : Hid (y30.ownsRow A.heap.size 260 2 (.slice a15 Rn.length k15) Rn.length (Rn.flatMap rc)) := HR29_19.out.kept hg HN26_19_27.out
              have HR30_22 : Hid (y30.ownsRow A.heap.size 260 2 (.slice a16 Rp.length k16) Rp.length (Rp.flatMap rc)) := HR29_22.out.kept hg HN27_22_27.out
              have HR30_26 : Hid (y30.ownsRow A.heap.size 2 1 (.slice a18 Dn.length k18) Dn.length (Dn.flatMap fun z => [Value.int .i64 z])) := HR29_26.out.kept hg HN29_26_27.out
              clear ho hg hl
              have q30 := HC.out _ HE30.out
              refine hK.out _ _ ?_ (fun hHeld2 => ?_)
              · with_reducible exact q30
              clear hK K hHeld q30; have hHeld := hHeld2; clear hHeld2
              try simp only [Act.put, List.setIfInBounds_toArray, List.set_cons_zero, List.set_cons_succ, List.getElem_toArray, List.getElem_cons_zero, List.getElem_cons_succ]
              clear HR29_19 HR29_22 HR29_26 HD29_27 HL29_27 HE29
              refine Calm.take (i := 33) (v := .slice none 0 0) rfl (by kernel_rfl) (by kernel_rfl) (by kernel_rfl) (fun _ _ _ h => h) ⟨by rfl, fun W hSw => ⟨94, #[.slice none 0 0], ?_, _root_.Go.Proofs.YtlolomodcbkblaaGreatDoor.Mt.marksFrom_nil _ _ W⟩⟩ hHeld ?_
              · go_simp; (try with_reducible rfl)
              try simp only [Act.put, List.setIfInBounds_toArray, List.set_cons_zero, List.set_cons_succ, List.getElem_toArray, List.getElem_cons_zero, List.getElem_cons_succ]
              refine wpAnyH_take (i := 34) (v := ?_) rfl (by kernel_rfl) (by kernel_rfl) (by kernel_rfl) (fun _ _ _ h => h) (Or.inl ⟨by rfl, ?_⟩) hHeld ?_
              rotate_left
              · intro w hSw; (try dsimp only at hSw); go_simp; (try with_reducible rfl)
              try simp only [Act.put, List.setIfInBounds_toArray, List.set_cons_zero, List.set_cons_succ, List.getElem_toArray, List.getElem_cons_zero, List.getElem_cons_succ]
              refine wpAnyH_ready (rs := [35]) (by kernel_rfl) (by simp) (AllReadyH.cons rfl (fun K hK => ?_) AllReadyH.nil)
              rw [if_pos (by rfl)]
              refine Big.wp_store_whole _ _ _ rfl (w.heap.size + 1) 52 #[.int .u64 0, .float .f64 0, .slice none 0 0, .int .i64 0, .bool false, .int .i32 0, .float .f64 0, .int .u64 0, .slice none 0 0, .slice none 0 0, .slice none 0 0, .slice none 0 0, .slice none 0 0] #[.int .u64 count, .float .f64 z, .slice none 0 0, .int .i64 0, .bool true, .int .i32 sch, .float .f64 zt, .int .u64 zc, .slice a15 Rn.length k15, .slice a16 Rp.length k16, .slice a18 Dn.length k18, .slice a19 Dp.length k19, .slice none 0 0] rfl rfl (HD.out _ HE30.out) rfl hsz (by simp [Value.oneCell']) ?_; intro yf hx hg hs
              have HF := Lib.hid (HOut.out _ _ _ _ _ _ _ _ _ HE30.out HR30_19.out HR30_22.out HR30_26.out HR30_30.out yf hg hs); have q9 := HF.out.2; have HXf := Lib.hid hx; clear hx hg hs
              refine hK.out _ _ ?_ (fun hHeld2 => ?_)
              · with_reducible exact q9
              clear hK K hHeld; have hHeld := hHeld2; clear hHeld2
              try simp only [Act.put, List.setIfInBounds_toArray, List.set_cons_zero, List.set_cons_succ, List.getElem_toArray, List.getElem_cons_zero, List.getElem_cons_succ]
              refine wpAnyH_done (by kernel_rfl) ?_ _
              refine NoPanic.normal ?_
              clear q9
              go_wp2_with fail
              exact bodyPost_ret (v := .agg #[.int .u64 count, .float .f64 z, .slice none 0 0, .int .i64 0, .bool true, .int .i32 sch, .float .f64 zt, .int .u64 zc, .slice a15 Rn.length k15, .slice a16 Rp.length k16, .slice a18 Dn.length k18, .slice a19 Dp.length k19, .slice none 0 0]) (Mt.res1 Tryz.results49 _ _ _ _ _ rfl (Big.loaded_whole 52 (w.heap.size + 1) 52 _ HXf.out _ Tryz.underlying52 rfl hsz)) rfl HF.out.1
      · skip
        go_simp
        obtain ⟨y31, hy⟩ : ∃ y, y = (y26.alloc (.cells #[] 2)) := ⟨_, rfl⟩; rw [← hy]
        have hb : Below y26.heap.size y26 y31 := by rw [hy]; exact (Below.refl _ _).alloc (Nat.le_refl _) _
        have HE31 : Hid (Below A.heap.size A y31) := HE26.out.trans (hb.mono HE26.out.size)
        have HD31 : Hid (y31.ownsRow A.heap.size 2 1 (.slice (some ⟨y26.heap.size, 0, none⟩) 0 0) 0 []) := by rw [hy]; exact dest_made y26 HE26.out.size _
        have HL31 : Hid (y26.heap.size < y31.heap.size) := by rw [hy]; show y26.heap.size < (y26.alloc _).heap.size; simp
        have HR31_19 : Hid (y31.ownsRow A.heap.size 260 2 (.slice a15 Rn.length k15) Rn.length (Rn.flatMap rc)) := Nd.own_below HR26_19.out hb
        have HN31_19_23 : Hid (NE (.slice a15 Rn.length k15) (y26.heap.size)) := ne_of_lt HR26_19.out (Nat.le_refl _)
        have HD31_27 : Hid (y31.ownsRow A.heap.size 2 1 (.slice (some ⟨y1.heap.size, 0, none⟩) 0 0) 0 []) := Nd.own_below HD26.out hb; have HL31_27 : Hid (y1.heap.size < y31.heap.size) := Nat.lt_of_lt_of_le HL26.out hb.size; have HG31_27 : Hid (y1.heap.size ≠ y26.heap.size) := Nat.ne_of_lt HL26.out
        clear hb hy
        have q31 := HC.out _ HE31.out
        refine hK.out _ _ ?_ (fun hHeld2 => ?_)
        · with_reducible exact q31
        clear hK K hHeld q31; have hHeld := hHeld2; clear hHeld2
        try simp only [Act.put, List.setIfInBounds_toArray, List.set_cons_zero, List.set_cons_succ, List.getElem_toArray, List.getElem_cons_zero, List.getElem_cons_succ]
        clear HR26_19 HD26 HL26 HE26
        refine wpAnyH_ready (rs := [22]) (by kernel_rfl) (by simp) (AllReadyH.cons rfl (fun K hK => ?_) AllReadyH.nil)
        · skip
          go_simp
          go_at_call 93; refine (_root_.Go.Proofs.YtlolomodcbkblaaGreatDoor.Sp.runsTo_own Rp (.slice ap np cp) _ ((HI.out _ HE31.out).2.1) lRp).mono ?_; rintro e y32 ⟨v0, rfl, ho, hb⟩; obtain ⟨a16, k16, rfl⟩ := row_slice2 ho
          have HE32 : Hid (Below A.heap.size A y32) := HE31.out.trans (hb.mono HE31.out.size)
          have HR32_22 : Hid (y32.ownsRow A.heap.size 260 2 (.slice a16 Rp.length k16) Rp.length (Rp.flatMap rc)) := Nd.own_base ho HE31.out.size
          have HR32_19 : Hid (y32.ownsRow A.heap.size 260 2 (.slice a15 Rn.length k15) Rn.length (Rn.flatMap rc)) := Nd.own_below HR31_19.out hb
          have HD32_27 : Hid (y32.ownsRow A.heap.size 2 1 (.slice (some ⟨y1.heap.size, 0, none⟩) 0 0) 0 []) := Nd.own_below HD31_27.out hb; have HL32_27 : Hid (y1.heap.size < y32.heap.size) := Nat.lt_of_lt_of_le HL31_27.out hb.size; have HN32_22_27 : Hid (NE (.slice a16 Rp.length k16) (y1.heap.size)) := ne_of_base ho HL31_27.out
          have HD32_23 : Hid (y32.ownsRow A.heap.size 2 1 (.slice (some ⟨y26.heap.size, 0, none⟩) 0 0) 0 []) := Nd.own_below HD31.out hb; have HL32_23 : Hid (y26.heap.size < y32.heap.size) := Nat.lt_of_lt_of_le HL31.out hb.size; have HN32_22_23 : Hid (NE (.slice a16 Rp.length k16) (y26.heap.size)) := ne_of_base ho HL31.out
          clear hb ho
          have q32 := HC.out _ HE32.out
          refine hK.out _ _ ?_ (fun hHeld2 => ?_)
          · with_reducible exact q32
          clear hK K hHeld q32; have hHeld := hHeld2; clear hHeld2
          try simp only [Act.put, List.setIfInBounds_toArray, List.set_cons_zero, List.set_cons_succ, List.getElem_toArray, List.getElem_cons_zero, List.getElem_cons_succ]
          clear HR31_19 HD31_27 HL31_27 HD31 HL31 HE31
          refine wpAnyH_ready (rs := [26]) (by kernel_rfl) (by simp) (AllReadyH.cons rfl (fun K hK => ?_) AllReadyH.nil)
          · skip
            refine Nd.step_of (by rfl) (.tmp 26) (.tmp 28) 34 (by rfl) A.heap.size 2 i0 (.int .i64 0) 1 8 Tryz.underlying34 hi hz0 hz1 hz2 rfl (by decide) (.slice (some ⟨y26.heap.size, 0, none⟩) 0 0) 0 [] (by rfl) HD32_23.out (c := fun z => [Value.int .i64 z]) (fun _ => rfl) HOneI.out Dn _ (by rfl) (Nd.sl_ss ((HI.out _ HE32.out).2.2.1)) (by unfold maxLen; omega) (by omega) HE32.out.size ?_; intro v0 y33 ho hg hl; rw [Nat.zero_add, List.nil_append] at ho; obtain ⟨a18, k18, rfl⟩ := row_slice2 ho
            have hg : y32.grownBy y33 (some (y26.heap.size)) := hg
            have HE33 : Hid (Below A.heap.size A y33) := HE32.out.grown hg HE32.out.size (fun j hj => by injection hj with hj; rw [← hj]; exact own_ge HD32_23.out)
            have HR33_26 : Hid (y33.ownsRow A.heap.size 2 1 (.slice a18 Dn.length k18) Dn.length (Dn.flatMap fun z => [Value.int .i64 z])) := ho
            have HR33_19 : Hid (y33.ownsRow A.heap.size 260 2 (.slice a15 Rn.length k15) Rn.length (Rn.flatMap rc)) := HR32_19.out.kept hg HN31_19_23.out
            have HR33_22 : Hid (y33.ownsRow A.heap.size 260 2 (.slice a16 Rp.length k16) Rp.length (Rp.flatMap rc)) := HR32_22.out.kept hg HN32_22_23.out
            have HD33_27 : Hid (y33.ownsRow A.heap.size 2 1 (.slice (some ⟨y1.heap.size, 0, none⟩) 0 0) 0 []) := HD32_27.out.kept hg (Or.inr (fun e => HG31_27.out (by injection e))); have HL33_27 : Hid (y1.heap.size < y33.heap.size) := Nat.lt_of_lt_of_le HL32_27.out hg.size; have HN33_26_27 : Hid (NE (.slice a18 Dn.length k18) (y1.heap.size)) := ne_two hl (Ne.symm HG31_27.out) (Nat.ne_of_gt HL32_27.out)
            clear ho hg hl
            have q33 := HC.out _ HE33.out
            refine hK.out _ _ ?_ (fun hHeld2 => ?_)
            · with_reducible exact q33
            clear hK K hHeld q33; have hHeld := hHeld2; clear hHeld2
            try simp only [Act.put, List.setIfInBounds_toArray, List.set_cons_zero, List.set_cons_succ, List.getElem_toArray, List.getElem_cons_zero, List.getElem_cons_succ]
            clear HR32_19 HR32_22 HD32_27 HL32_27 HD32_23 HL32_23 HE32
            refine wpAnyH_ready (rs := [30]) (by kernel_rfl) (by simp) (AllReadyH.cons rfl (fun K hK => ?_) AllReadyH.nil)
            · skip
              refine Nd.step_of (by rfl) (.tmp 30) (.tmp 32) 34 (by rfl) A.heap.size 2 i0 (.int .i64 0) 1 8 Tryz.underlying34 hi hz0 hz1 hz2 rfl (by decide) (.slice (some ⟨y1.heap.size, 0, none⟩) 0 0) 0 [] (by rfl) HD33_27.out (c := fun z => [Value.int .i64 z]) (fun _ => rfl) HOneI.out Dp _ (by rfl) (Nd.sl_ss ((HI.out _ HE33.out).2.2.2)) (by unfold maxLen; omega) (by omega) HE33.out.size ?_; intro v0 y34 ho hg hl; rw [Nat.zero_add, List.nil_append] at ho; obtain ⟨a19, k19, rfl⟩ := row_slice2 ho
              have hg : y33.grownBy y34 (some (y1.heap.size)) := hg
              have HE34 : Hid (Below A.heap.size A y34) := HE33.out.grown hg HE33.out.size (fun j hj => by injection hj with hj; rw [← hj]; exact own_ge HD33_27.out)
              have HR34_30 : Hid (y34.ownsRow A.heap.size 2 1 (.slice a19 Dp.length k19) Dp.length (Dp.flatMap fun z => [Value.int .i64 z])) := ho
              have HR34_19 : Hid (y34.ownsRow A.heap.size 260 2 (.slice a15 Rn.length k15) Rn.length (Rn.flatMap rc)) := HR33_19.out.kept hg HN26_19_27.out
              have HR34_22 : Hid (y34.ownsRow A.heap.size 260 2 (.slice a16 Rp.length k16) Rp.length (Rp.flatMap rc)) := HR33_22.out.kept hg HN32_22_27.out
              have HR34_26 : Hid (y34.ownsRow A.heap.size 2 1 (.slice a18 Dn.length k18) Dn.length (Dn.flatMap fun z => [Value.int .i64 z])) := HR33_26.out.kept hg HN33_26_27.out
              clear ho hg hl
              have q34 := HC.out _ HE34.out
              refine hK.out _ _ ?_ (fun hHeld2 => ?_)
              · with_reducible exact q34
              clear hK K hHeld q34; have hHeld := hHeld2; clear hHeld2
              try simp only [Act.put, List.setIfInBounds_toArray, List.set_cons_zero, List.set_cons_succ, List.getElem_toArray, List.getElem_cons_zero, List.getElem_cons_succ]
              clear HR33_19 HR33_22 HR33_26 HD33_27 HL33_27 HE33
              refine Calm.take (i := 33) (v := .slice none 0 0) rfl (by kernel_rfl) (by kernel_rfl) (by kernel_rfl) (fun _ _ _ h => h) ⟨by rfl, fun W hSw => ⟨94, #[.slice none 0 0], ?_, _root_.Go.Proofs.YtlolomodcbkblaaGreatDoor.Mt.marksFrom_nil _ _ W⟩⟩ hHeld ?_
              · go_simp; (try with_reducible rfl)
              try simp only [Act.put, List.setIfInBounds_toArray, List.set_cons_zero, List.set_cons_succ, List.getElem_toArray, List.getElem_cons_zero, List.getElem_cons_succ]
              refine wpAnyH_take (i := 34) (v := ?_) rfl (by kernel_rfl) (by kernel_rfl) (by kernel_rfl) (fun _ _ _ h => h) (Or.inl ⟨by rfl, ?_⟩) hHeld ?_
              rotate_left
              · intro w hSw; (try dsimp only at hSw); go_simp; (try with_reducible rfl)
              try simp only [Act.put, List.setIfInBounds_toArray, List.set_cons_zero, List.set_cons_succ, List.getElem_toArray, List.getElem_cons_zero, List.getElem_cons_succ]
              refine wpAnyH_ready (rs := [35]) (by kernel_rfl) (by simp) (AllReadyH.cons rfl (fun K hK => ?_) AllReadyH.nil)
              rw [if_pos (by rfl)]
              refine Big.wp_store_whole _ _ _ rfl (w.heap.size + 1) 52 #[.int .u64 0, .float .f64 0, .slice none 0 0, .int .i64 0, .bool false, .int .i32 0, .float .f64 0, .int .u64 0, .slice none 0 0, .slice none 0 0, .slice none 0 0, .slice none 0 0, .slice none 0 0] #[.int .u64 count, .float .f64 z, .slice none 0 0, .int .i64 0, .bool true, .int .i32 sch, .float .f64 zt, .int .u64 zc, .slice a15 Rn.length k15, .slice a16 Rp.length k16, .slice a18 Dn.length k18, .slice a19 Dp.length k19, .slice none 0 0] rfl rfl (HD.out _ HE34.out) rfl hsz (by simp [Value.oneCell']) ?_; intro yf hx hg hs
              have HF := Lib.hid (HOut.out _ _ _ _ _ _ _ _ _ HE34.out HR34_19.out HR34_22.out HR34_26.out HR34_30.out yf hg hs); have q9 := HF.out.2; have HXf := Lib.hid hx; clear hx hg hs
              refine hK.out _ _ ?_ (fun hHeld2 => ?_)
              · with_reducible exact q9
              clear hK K hHeld; have hHeld := hHeld2; clear hHeld2
              try simp only [Act.put, List.setIfInBounds_toArray, List.set_cons_zero, List.set_cons_succ, List.getElem_toArray, List.getElem_cons_zero, List.getElem_cons_succ]
              refine wpAnyH_done (by kernel_rfl) ?_ _
              refine NoPanic.normal ?_
              clear q9
              go_wp2_with fail
              exact bodyPost_ret (v := .agg #[.int .u64 count, .float .f64 z, .slice none 0 0, .int .i64 0, .bool true, .int .i32 sch, .float .f64 zt, .int .u64 zc, .slice a15 Rn.length k15, .slice a16 Rp.length k16, .slice a18 Dn.length k18, .slice a19 Dp.length k19, .slice none 0 0]) (Mt.res1 Tryz.results49 _ _ _ _ _ rfl (Big.loaded_whole 52 (w.heap.size + 1) 52 _ HXf.out _ Tryz.underlying52 rfl hsz)) rfl HF.out.1
  · skip
    go_simp
    obtain ⟨y35, hy⟩ : ∃ y, y = (A.alloc (.cells #[] 2)).drew := ⟨_, rfl⟩; rw [← hy]
    have hb : Below A.drew.heap.size A.drew y35 := by rw [hy]; have h := bdrH ((Below.refl A.heap.size A).alloc (Nat.le_refl _) (.cells #[] 2)); exact ⟨h.os, h.tape, h.output, h.size, h.block⟩
    have HE35 : Hid (Below A.heap.size A y35) := HE0.out.trans (hb.mono HE0.out.size)
    have HD35 : Hid (y35.ownsRow A.heap.size 2 1 (.slice (some ⟨A.heap.size, 0, none⟩) 0 0) 0 []) := by rw [hy]; exact dest_made A HE0.out.size _
    have HL35 : Hid (A.heap.size < y35.heap.size) := by rw [hy]; show A.heap.size < (A.alloc _).heap.size; simp
    clear hb hy
    have q35 := HC.out _ HE35.out
    refine hK.out _ _ ?_ (fun hHeld2 => ?_)
    · with_reducible exact q35
    clear hK K hHeld q35; have hHeld := hHeld2; clear hHeld2
    try simp only [Act.put, List.setIfInBounds_toArray, List.set_cons_zero, List.set_cons_succ, List.getElem_toArray, List.getElem_cons_zero, List.getElem_cons_succ]
    refine wpAnyH_ready (rs := [19, 27]) (by kernel_rfl) (by simp) (AllReadyH.cons rfl (fun K hK => ?_) (AllReadyH.cons rfl (fun K hK => ?_) AllReadyH.nil))
    · skip
      go_simp
      go_at_call 93; refine (_root_.Go.Proofs.YtlolomodcbkblaaGreatDoor.Sp.runsTo_own Rn (.slice an nn cn) _ ((HI.out _ HE35.out).1) lRn).mono ?_; rintro e y36 ⟨v0, rfl, ho, hb⟩; obtain ⟨a15, k15, rfl⟩ := row_slice2 ho
      have HE36 : Hid (Below A.heap.size A y36) := HE35.out.trans (hb.mono HE35.out.size)
      have HR36_19 : Hid (y36.ownsRow A.heap.size 260 2 (.slice a15 Rn.length k15) Rn.length (Rn.flatMap rc)) := Nd.own_base ho HE35.out.size
      have HD36_23 : Hid (y36.ownsRow A.heap.size 2 1 (.slice (some ⟨A.heap.size, 0, none⟩) 0 0) 0 []) := Nd.own_below HD35.out hb; have HL36_23 : Hid (A.heap.size < y36.heap.size) := Nat.lt_of_lt_of_le HL35.out hb.size; have HN36_19_23 : Hid (NE (.slice a15 Rn.length k15) (A.heap.size)) := ne_of_base ho HL35.out
      clear hb ho
      have q36 := HC.out _ HE36.out
      refine hK.out _ _ ?_ (fun hHeld2 => ?_)
      · with_reducible exact q36
      clear hK K hHeld q36; have hHeld := hHeld2; clear hHeld2
      try simp only [Act.put, List.setIfInBounds_toArray, List.set_cons_zero, List.set_cons_succ, List.getElem_toArray, List.getElem_cons_zero, List.getElem_cons_succ]
      clear HD35 HL35 HE35
      refine wpAnyH_ready (rs := [22, 27]) (by kernel_rfl) (by simp) (AllReadyH.cons rfl (fun K hK => ?_) (AllReadyH.cons rfl (fun K hK => ?_) AllReadyH.nil))
      · skip
        go_simp
        go_at_call 93; refine (_root_.Go.Proofs.YtlolomodcbkblaaGreatDoor.Sp.runsTo_own Rp (.slice ap np cp) _ ((HI.out _ HE36.out).2.1) lRp).mono ?_; rintro e y37 ⟨v0, rfl, ho, hb⟩; obtain ⟨a16, k16, rfl⟩ := row_slice2 ho
        have HE37 : Hid (Below A.heap.size A y37) := HE36.out.trans (hb.mono HE36.out.size)
        have HR37_22 : Hid (y37.ownsRow A.heap.size 260 2 (.slice a16 Rp.length k16) Rp.length (Rp.flatMap rc)) := Nd.own_base ho HE36.out.size
        have HR37_19 : Hid (y37.ownsRow A.heap.size 260 2 (.slice a15 Rn.length k15) Rn.length (Rn.flatMap rc)) := Nd.own_below HR36_19.out hb
        have HD37_23 : Hid (y37.ownsRow A.heap.size 2 1 (.slice (some ⟨A.heap.size, 0, none⟩) 0 0) 0 []) := Nd.own_below HD36_23.out hb; have HL37_23 : Hid (A.heap.size < y37.heap.size) := Nat.lt_of_lt_of_le HL36_23.out hb.size; have HN37_22_23 : Hid (NE (.slice a16 Rp.length k16) (A.heap.size)) := ne_of_base ho HL36_23.out
        clear hb ho
        have q37 := HC.out _ HE37.out
        refine hK.out _ _ ?_ (fun hHeld2 => ?_)
        · with_reducible exact q37
        clear hK K hHeld q37; have hHeld := hHeld2; clear hHeld2
        try simp only [Act.put, List.setIfInBounds_toArray, List.set_cons_zero, List.set_cons_succ, List.getElem_toArray, List.getElem_cons_zero, List.getElem_cons_succ]
        clear HR36_19 HD36_23 HL36_23 HE36
        refine wpAnyH_ready (rs := [26, 27]) (by kernel_rfl) (by simp) (AllReadyH.cons rfl (fun K hK => ?_) (AllReadyH.cons rfl (fun K hK => ?_) AllReadyH.nil))
        · skip
          refine Nd.step_of (by rfl) (.tmp 26) (.tmp 28) 34 (by rfl) A.heap.size 2 i0 (.int .i64 0) 1 8 Tryz.underlying34 hi hz0 hz1 hz2 rfl (by decide) (.slice (some ⟨A.heap.size, 0, none⟩) 0 0) 0 [] (by rfl) HD37_23.out (c := fun z => [Value.int .i64 z]) (fun _ => rfl) HOneI.out Dn _ (by rfl) (Nd.sl_ss ((HI.out _ HE37.out).2.2.1)) (by unfold maxLen; omega) (by omega) HE37.out.size ?_; intro v0 y38 ho hg hl; rw [Nat.zero_add, List.nil_append] at ho; obtain ⟨a18, k18, rfl⟩ := row_slice2 ho
          have hg : y37.grownBy y38 (some (A.heap.size)) := hg
          have HE38 : Hid (Below A.heap.size A y38) := HE37.out.grown hg HE37.out.size (fun j hj => by injection hj with hj; rw [← hj]; exact own_ge HD37_23.out)
          have HR38_26 : Hid (y38.ownsRow A.heap.size 2 1 (.slice a18 Dn.length k18) Dn.length (Dn.flatMap fun z => [Value.int .i64 z])) := ho
          have HR38_19 : Hid (y38.ownsRow A.heap.size 260 2 (.slice a15 Rn.length k15) Rn.length (Rn.flatMap rc)) := HR37_19.out.kept hg HN36_19_23.out
          have HR38_22 : Hid (y38.ownsRow A.heap.size 260 2 (.slice a16 Rp.length k16) Rp.length (Rp.flatMap rc)) := HR37_22.out.kept hg HN37_22_23.out
          clear ho hg hl
          have q38 := HC.out _ HE38.out
          refine hK.out _ _ ?_ (fun hHeld2 => ?_)
          · with_reducible exact q38
          clear hK K hHeld q38; have hHeld := hHeld2; clear hHeld2
          try simp only [Act.put, List.setIfInBounds_toArray, List.set_cons_zero, List.set_cons_succ, List.getElem_toArray, List.getElem_cons_zero, List.getElem_cons_succ]
          clear HR37_19 HR37_22 HD37_23 HL37_23 HE37
          refine wpAnyH_ready (rs := [27]) (by kernel_rfl) (by simp) (AllReadyH.cons rfl (fun K hK => ?_) AllReadyH.nil)
          · skip
            go_simp
            obtain ⟨y39, hy⟩ : ∃ y, y = (y38.alloc (.cells #[] 2)) := ⟨_, rfl⟩; rw [← hy]
            have hb : Below y38.heap.size y38 y39 := by rw [hy]; exact (Below.refl _ _).alloc (Nat.le_refl _) _
            have HE39 : Hid (Below A.heap.size A y39) := HE38.out.trans (hb.mono HE38.out.size)
            have HD39 : Hid (y39.ownsRow A.heap.size 2 1 (.slice (some ⟨y38.heap.size, 0, none⟩) 0 0) 0 []) := by rw [hy]; exact dest_made y38 HE38.out.size _
            have HL39 : Hid (y38.heap.size < y39.heap.size) := by rw [hy]; show y38.heap.size < (y38.alloc _).heap.size; simp
            have HR39_19 : Hid (y39.ownsRow A.heap.size 260 2 (.slice a15 Rn.length k15) Rn.length (Rn.flatMap rc)) := Nd.own_below HR38_19.out hb
            have HN39_19_27 : Hid (NE (.slice a15 Rn.length k15) (y38.heap.size)) := ne_of_lt HR38_19.out (Nat.le_refl _)
            have HR39_22 : Hid (y39.ownsRow A.heap.size 260 2 (.slice a16 Rp.length k16) Rp.length (Rp.flatMap rc)) := Nd.own_below HR38_22.out hb
            have HN39_22_27 : Hid (NE (.slice a16 Rp.length k16) (y38.heap.size)) := ne_of_lt HR38_22.out (Nat.le_refl _)
            have HR39_26 : Hid (y39.ownsRow A.heap.size 2 1 (.slice a18 Dn.length k18) Dn.length (Dn.flatMap fun z => [Value.int .i64 z])) := Nd.own_below HR38_26.out hb
            have HN39_26_27 : Hid (NE (.slice a18 Dn.length k18) (y38.heap.size)) := ne_of_lt HR38_26.out (Nat.le_refl _)
            clear hb hy
            have q39 := HC.out _ HE39.out
            refine hK.out _ _ ?_ (fun hHeld2 => ?_)
            · with_reducible exact q39
            clear hK K hHeld q39; have hHeld := hHeld2; clear hHeld2
            try simp only [Act.put, List.setIfInBounds_toArray, List.set_cons_zero, List.set_cons_succ, List.getElem_toArray, List.getElem_cons_zero, List.getElem_cons_succ]
            clear HR38_19 HR38_22 HR38_26 HE38
            refine wpAnyH_ready (rs := [30]) (by kernel_rfl) (by simp) (AllReadyH.cons rfl (fun K hK => ?_) AllReadyH.nil)
            · skip
              refine Nd.step_of (by rfl) (.tmp 30) (.tmp 32) 34 (by rfl) A.heap.size 2 i0 (.int .i64 0) 1 8 Tryz.underlying34 hi hz0 hz1 hz2 rfl (by decide) (.slice (some ⟨y38.heap.size, 0, none⟩) 0 0) 0 [] (by rfl) HD39.out (c := fun z => [Value.int .i64 z]) (fun _ => rfl) HOneI.out Dp _ (by rfl) (Nd.sl_ss ((HI.out _ HE39.out).2.2.2)) (by unfold maxLen; omega) (by omega) HE39.out.size ?_; intro v0 y40 ho hg hl; rw [Nat.zero_add, List.nil_append] at ho; obtain ⟨a19, k19, rfl⟩ := row_slice2 ho
              have hg : y39.grownBy y40 (some (y38.heap.size)) := hg
              have HE40 : Hid (Below A.heap.size A y40) := HE39.out.grown hg HE39.out.size (fun j hj => by injection hj with hj; rw [← hj]; exact own_ge HD39.out)
              have HR40_30 : Hid (y40.ownsRow A.heap.size 2 1 (.slice a19 Dp.length k19) Dp.length (Dp.flatMap fun z => [Value.int .i64 z])) := ho
              have HR40_19 : Hid (y40.ownsRow A.heap.size 260 2 (.slice a15 Rn.length k15) Rn.length (Rn.flatMap rc)) := HR39_19.out.kept hg HN39_19_27.out
              have HR40_22 : Hid (y40.ownsRow A.heap.size 260 2 (.slice a16 Rp.length k16) Rp.length (Rp.flatMap rc)) := HR39_22.out.kept hg HN39_22_27.out
              have HR40_26 : Hid (y40.ownsRow A.heap.size 2 1 (.slice a18 Dn.length k18) Dn.length (Dn.flatMap fun z => [Value.int .i64 z])) := HR39_26.out.kept hg HN39_26_27.out
              clear ho hg hl
              have q40 := HC.out _ HE40.out
              refine hK.out _ _ ?_ (fun hHeld2 => ?_)
              · with_reducible exact q40
              clear hK K hHeld q40; have hHeld := hHeld2; clear hHeld2
              try simp only [Act.put, List.setIfInBounds_toArray, List.set_cons_zero, List.set_cons_succ, List.getElem_toArray, List.getElem_cons_zero, List.getElem_cons_succ]
              clear HR39_19 HR39_22 HR39_26 HD39 HL39 HE39
              refine Calm.take (i := 33) (v := .slice none 0 0) rfl (by kernel_rfl) (by kernel_rfl) (by kernel_rfl) (fun _ _ _ h => h) ⟨by rfl, fun W hSw => ⟨94, #[.slice none 0 0], ?_, _root_.Go.Proofs.YtlolomodcbkblaaGreatDoor.Mt.marksFrom_nil _ _ W⟩⟩ hHeld ?_
              · go_simp; (try with_reducible rfl)
              try simp only [Act.put, List.setIfInBounds_toArray, List.set_cons_zero, List.set_cons_succ, List.getElem_toArray, List.getElem_cons_zero, List.getElem_cons_succ]
              refine wpAnyH_take (i := 34) (v := ?_) rfl (by kernel_rfl) (by kernel_rfl) (by kernel_rfl) (fun _ _ _ h => h) (Or.inl ⟨by rfl, ?_⟩) hHeld ?_
              rotate_left
              · intro w hSw; (try dsimp only at hSw); go_simp; (try with_reducible rfl)
              try simp only [Act.put, List.setIfInBounds_toArray, List.set_cons_zero, List.set_cons_succ, List.getElem_toArray, List.getElem_cons_zero, List.getElem_cons_succ]
              refine wpAnyH_ready (rs := [35]) (by kernel_rfl) (by simp) (AllReadyH.cons rfl (fun K hK => ?_) AllReadyH.nil)
              rw [if_pos (by rfl)]
              refine Big.wp_store_whole _ _ _ rfl (w.heap.size + 1) 52 #[.int .u64 0, .float .f64 0, .slice none 0 0, .int .i64 0, .bool false, .int .i32 0, .float .f64 0, .int .u64 0, .slice none 0 0, .slice none 0 0, .slice none 0 0, .slice none 0 0, .slice none 0 0] #[.int .u64 count, .float .f64 z, .slice none 0 0, .int .i64 0, .bool true, .int .i32 sch, .float .f64 zt, .int .u64 zc, .slice a15 Rn.length k15, .slice a16 Rp.length k16, .slice a18 Dn.length k18, .slice a19 Dp.length k19, .slice none 0 0] rfl rfl (HD.out _ HE40.out) rfl hsz (by simp [Value.oneCell']) ?_; intro yf hx hg hs
              have HF := Lib.hid (HOut.out _ _ _ _ _ _ _ _ _ HE40.out HR40_19.out HR40_22.out HR40_26.out HR40_30.out yf hg hs); have q9 := HF.out.2; have HXf := Lib.hid hx; clear hx hg hs
              refine hK.out _ _ ?_ (fun hHeld2 => ?_)
              · with_reducible exact q9
              clear hK K hHeld; have hHeld := hHeld2; clear hHeld2
              try simp only [Act.put, List.setIfInBounds_toArray, List.set_cons_zero, List.set_cons_succ, List.getElem_toArray, List.getElem_cons_zero, List.getElem_cons_succ]
              refine wpAnyH_done (by kernel_rfl) ?_ _
              refine NoPanic.normal ?_
              clear q9
              go_wp2_with fail
              exact bodyPost_ret (v := .agg #[.int .u64 count, .float .f64 z, .slice none 0 0, .int .i64 0, .bool true, .int .i32 sch, .float .f64 zt, .int .u64 zc, .slice a15 Rn.length k15, .slice a16 Rp.length k16, .slice a18 Dn.length k18, .slice a19 Dp.length k19, .slice none 0 0]) (Mt.res1 Tryz.results49 _ _ _ _ _ rfl (Big.loaded_whole 52 (w.heap.size + 1) 52 _ HXf.out _ Tryz.underlying52 rfl hsz)) rfl HF.out.1
        · skip
          go_simp
          obtain ⟨y41, hy⟩ : ∃ y, y = (y37.alloc (.cells #[] 2)) := ⟨_, rfl⟩; rw [← hy]
          have hb : Below y37.heap.size y37 y41 := by rw [hy]; exact (Below.refl _ _).alloc (Nat.le_refl _) _
          have HE41 : Hid (Below A.heap.size A y41) := HE37.out.trans (hb.mono HE37.out.size)
          have HD41 : Hid (y41.ownsRow A.heap.size 2 1 (.slice (some ⟨y37.heap.size, 0, none⟩) 0 0) 0 []) := by rw [hy]; exact dest_made y37 HE37.out.size _
          have HL41 : Hid (y37.heap.size < y41.heap.size) := by rw [hy]; show y37.heap.size < (y37.alloc _).heap.size; simp
          have HR41_19 : Hid (y41.ownsRow A.heap.size 260 2 (.slice a15 Rn.length k15) Rn.length (Rn.flatMap rc)) := Nd.own_below HR37_19.out hb
          have HN41_19_27 : Hid (NE (.slice a15 Rn.length k15) (y37.heap.size)) := ne_of_lt HR37_19.out (Nat.le_refl _)
          have HR41_22 : Hid (y41.ownsRow A.heap.size 260 2 (.slice a16 Rp.length k16) Rp.length (Rp.flatMap rc)) := Nd.own_below HR37_22.out hb
          have HN41_22_27 : Hid (NE (.slice a16 Rp.length k16) (y37.heap.size)) := ne_of_lt HR37_22.out (Nat.le_refl _)
          have HD41_23 : Hid (y41.ownsRow A.heap.size 2 1 (.slice (some ⟨A.heap.size, 0, none⟩) 0 0) 0 []) := Nd.own_below HD37_23.out hb; have HL41_23 : Hid (A.heap.size < y41.heap.size) := Nat.lt_of_lt_of_le HL37_23.out hb.size; have HG41_23 : Hid (A.heap.size ≠ y37.heap.size) := Nat.ne_of_lt HL37_23.out
          clear hb hy
          have q41 := HC.out _ HE41.out
          refine hK.out _ _ ?_ (fun hHeld2 => ?_)
          · with_reducible exact q41
          clear hK K hHeld q41; have hHeld := hHeld2; clear hHeld2
          try simp only [Act.put, List.setIfInBounds_toArray, List.set_cons_zero, List.set_cons_succ, List.getElem_toArray, List.getElem_cons_zero, List.getElem_cons_succ]
          clear HR37_19 HR37_22 HD37_23 HL37_23 HE37
          refine wpAnyH_ready (rs := [26]) (by kernel_rfl) (by simp) (AllReadyH.cons rfl (fun K hK => ?_) AllReadyH.nil)
          · skip
            refine Nd.step_of (by rfl) (.tmp 26) (.tmp 28) 34 (by rfl) A.heap.size 2 i0 (.int .i64 0) 1 8 Tryz.underlying34 hi hz0 hz1 hz2 rfl (by decide) (.slice (some ⟨A.heap.size, 0, none⟩) 0 0) 0 [] (by rfl) HD41_23.out (c := fun z => [Value.int .i64 z]) (fun _ => rfl) HOneI.out Dn _ (by rfl) (Nd.sl_ss ((HI.out _ HE41.out).2.2.1)) (by unfold maxLen; omega) (by omega) HE41.out.size ?_; intro v0 y42 ho hg hl; rw [Nat.zero_add, List.nil_append] at ho; obtain ⟨a18, k18, rfl⟩ := row_slice2 ho
            have hg : y41.grownBy y42 (some (A.heap.size)) := hg
            have HE42 : Hid (Below A.heap.size A y42) := HE41.out.grown hg HE41.out.size (fun j hj => by injection hj with hj; rw [← hj]; exact own_ge HD41_23.out)
            have HR42_26 : Hid (y42.ownsRow A.heap.size 2 1 (.slice a18 Dn.length k18) Dn.length (Dn.flatMap fun z => [Value.int .i64 z])) := ho
            have HR42_19 : Hid (y42.ownsRow A.heap.size 260 2 (.slice a15 Rn.length k15) Rn.length (Rn.flatMap rc)) := HR41_19.out.kept hg HN36_19_23.out
            have HR42_22 : Hid (y42.ownsRow A.heap.size 260 2 (.slice a16 Rp.length k16) Rp.length (Rp.flatMap rc)) := HR41_22.out.kept hg HN37_22_23.out
            have HD42_27 : Hid (y42.ownsRow A.heap.size 2 1 (.slice (some ⟨y37.heap.size, 0, none⟩) 0 0) 0 []) := HD41.out.kept hg (Or.inr (fun e => Ne.symm HG41_23.out (by injection e))); have HL42_27 : Hid (y37.heap.size < y42.heap.size) := Nat.lt_of_lt_of_le HL41.out hg.size; have HN42_26_27 : Hid (NE (.slice a18 Dn.length k18) (y37.heap.size)) := ne_two hl (HG41_23.out) (Nat.ne_of_gt HL41.out)
            clear ho hg hl
            have q42 := HC.out _ HE42.out
            refine hK.out _ _ ?_ (fun hHeld2 => ?_)
            · with_reducible exact q42
            clear hK K hHeld q42; have hHeld := hHeld2; clear hHeld2
            try simp only [Act.put, List.setIfInBounds_toArray, List.set_cons_zero, List.set_cons_succ, List.getElem_toArray, List.getElem_cons_zero, List.getElem_cons_succ]
            clear HR41_19 HR41_22 HD41_23 HL41_23 HD41 HL41 HE41
            refine wpAnyH_ready (rs := [30]) (by kernel_rfl) (by simp) (AllReadyH.cons rfl (fun K hK => ?_) AllReadyH.nil)
            · skip
              refine Nd.step_of (by rfl) (.tmp 30) (.tmp 32) 34 (by rfl) A.heap.size 2 i0 (.int .i64 0) 1 8 Tryz.underlying34 hi hz0 hz1 hz2 rfl (by decide) (.slice (some ⟨y37.heap.size, 0, none⟩) 0 0) 0 [] (by rfl) HD42_27.out (c := fun z => [Value.int .i64 z]) (fun _ => rfl) HOneI.out Dp _ (by rfl) (Nd.sl_ss ((HI.out _ HE42.out).2.2.2)) (by unfold maxLen; omega) (by omega) HE42.out.size ?_; intro v0 y43 ho hg hl; rw [Nat.zero_add, List.nil_append] at ho; obtain ⟨a19, k19, rfl⟩ := row_slice2 ho
              have hg : y42.grownBy y43 (some (y37.heap.size)) := hg
              have HE43 : Hid (Below A.heap.size A y43) := HE42.out.grown hg HE42.out.size (fun j hj => by injection hj with hj; rw [← hj]; exact own_ge HD42_27.out)
              have HR43_30 : Hid (y43.ownsRow A.heap.size 2 1 (.slice a19 Dp.length k19) Dp.length (Dp.flatMap fun z => [Value.int .i64 z])) := ho
              have HR43_19 : Hid (y43.ownsRow A.heap.size 260 2 (.slice a15 Rn.length k15) Rn.length (Rn.flatMap rc)) := HR42_19.out.kept hg HN41_19_27.out
              have HR43_22 : Hid (y43.ownsRow A.heap.size 260 2 (.slice a16 Rp.length k16) Rp.length (Rp.flatMap rc)) := HR42_22.out.kept hg HN41_22_27.out
              have HR43_26 : Hid (y43.ownsRow A.heap.size 2 1 (.slice a18 Dn.length k18) Dn.length (Dn.flatMap fun z => [Value.int .i64 z])) := HR42_26.out.kept hg HN42_26_27.out
              clear ho hg hl
              have q43 := HC.out _ HE43.out
              refine hK.out _ _ ?_ (fun hHeld2 => ?_)
              · with_reducible exact q43
              clear hK K hHeld q43; have hHeld := hHeld2; clear hHeld2
              try simp only [Act.put, List.setIfInBounds_toArray, List.set_cons_zero, List.set_cons_succ, List.getElem_toArray, List.getElem_cons_zero, List.getElem_cons_succ]
              clear HR42_19 HR42_22 HR42_26 HD42_27 HL42_27 HE42
              refine Calm.take (i := 33) (v := .slice none 0 0) rfl (by kernel_rfl) (by kernel_rfl) (by kernel_rfl) (fun _ _ _ h => h) ⟨by rfl, fun W hSw => ⟨94, #[.slice none 0 0], ?_, _root_.Go.Proofs.YtlolomodcbkblaaGreatDoor.Mt.marksFrom_nil _ _ W⟩⟩ hHeld ?_
              · go_simp; (try with_reducible rfl)
              try simp only [Act.put, List.setIfInBounds_toArray, List.set_cons_zero, List.set_cons_succ, List.getElem_toArray, List.getElem_cons_zero, List.getElem_cons_succ]
              refine wpAnyH_take (i := 34) (v := ?_) rfl (by kernel_rfl) (by kernel_rfl) (by kernel_rfl) (fun _ _ _ h => h) (Or.inl ⟨by rfl, ?_⟩) hHeld ?_
              rotate_left
              · intro w hSw; (try dsimp only at hSw); go_simp; (try with_reducible rfl)
              try simp only [Act.put, List.setIfInBounds_toArray, List.set_cons_zero, List.set_cons_succ, List.getElem_toArray, List.getElem_cons_zero, List.getElem_cons_succ]
              refine wpAnyH_ready (rs := [35]) (by kernel_rfl) (by simp) (AllReadyH.cons rfl (fun K hK => ?_) AllReadyH.nil)
              rw [if_pos (by rfl)]
              refine Big.wp_store_whole _ _ _ rfl (w.heap.size + 1) 52 #[.int .u64 0, .float .f64 0, .slice none 0 0, .int .i64 0, .bool false, .int .i32 0, .float .f64 0, .int .u64 0, .slice none 0 0, .slice none 0 0, .slice none 0 0, .slice none 0 0, .slice none 0 0] #[.int .u64 count, .float .f64 z, .slice none 0 0, .int .i64 0, .bool true, .int .i32 sch, .float .f64 zt, .int .u64 zc, .slice a15 Rn.length k15, .slice a16 Rp.length k16, .slice a18 Dn.length k18, .slice a19 Dp.length k19, .slice none 0 0] rfl rfl (HD.out _ HE43.out) rfl hsz (by simp [Value.oneCell']) ?_; intro yf hx hg hs
              have HF := Lib.hid (HOut.out _ _ _ _ _ _ _ _ _ HE43.out HR43_19.out HR43_22.out HR43_26.out HR43_30.out yf hg hs); have q9 := HF.out.2; have HXf := Lib.hid hx; clear hx hg hs
              refine hK.out _ _ ?_ (fun hHeld2 => ?_)
              · with_reducible exact q9
              clear hK K hHeld; have hHeld := hHeld2; clear hHeld2
              try simp only [Act.put, List.setIfInBounds_toArray, List.set_cons_zero, List.set_cons_succ, List.getElem_toArray, List.getElem_cons_zero, List.getElem_cons_succ]
              refine wpAnyH_done (by kernel_rfl) ?_ _
              refine NoPanic.normal ?_
              clear q9
              go_wp2_with fail
              exact bodyPost_ret (v := .agg #[.int .u64 count, .float .f64 z, .slice none 0 0, .int .i64 0, .bool true, .int .i32 sch, .float .f64 zt, .int .u64 zc, .slice a15 Rn.length k15, .slice a16 Rp.length k16, .slice a18 Dn.length k18, .slice a19 Dp.length k19, .slice none 0 0]) (Mt.res1 Tryz.results49 _ _ _ _ _ rfl (Big.loaded_whole 52 (w.heap.size + 1) 52 _ HXf.out _ Tryz.underlying52 rfl hsz)) rfl HF.out.1
      · skip
        go_simp
        obtain ⟨y44, hy⟩ : ∃ y, y = (y36.alloc (.cells #[] 2)) := ⟨_, rfl⟩; rw [← hy]
        have hb : Below y36.heap.size y36 y44 := by rw [hy]; exact (Below.refl _ _).alloc (Nat.le_refl _) _
        have HE44 : Hid (Below A.heap.size A y44) := HE36.out.trans (hb.mono HE36.out.size)
        have HD44 : Hid (y44.ownsRow A.heap.size 2 1 (.slice (some ⟨y36.heap.size, 0, none⟩) 0 0) 0 []) := by rw [hy]; exact dest_made y36 HE36.out.size _
        have HL44 : Hid (y36.heap.size < y44.heap.size) := by rw [hy]; show y36.heap.size < (y36.alloc _).heap.size; simp
        have HR44_19 : Hid (y44.ownsRow A.heap.size 260 2 (.slice a15 Rn.length k15) Rn.length (Rn.flatMap rc)) := Nd.own_below HR36_19.out hb
        have HN44_19_27 : Hid (NE (.slice a15 Rn.length k15) (y36.heap.size)) := ne_of_lt HR36_19.out (Nat.le_refl _)
        have HD44_23 : Hid (y44.ownsRow A.heap.size 2 1 (.slice (some ⟨A.heap.size, 0, none⟩) 0 0) 0 []) := Nd.own_below HD36_23.out hb; have HL44_23 : Hid (A.heap.size < y44.heap.size) := Nat.lt_of_lt_of_le HL36_23.out hb.size; have HG44_23 : Hid (A.heap.size ≠ y36.heap.size) := Nat.ne_of_lt HL36_23.out
        clear hb hy
        have q44 := HC.out _ HE44.out
        refine hK.out _ _ ?_ (fun hHeld2 => ?_)
        · with_reducible exact q44
        clear hK K hHeld q44; have hHeld := hHeld2; clear hHeld2
        try simp only [Act.put, List.setIfInBounds_toArray, List.set_cons_zero, List.set_cons_succ, List.getElem_toArray, List.getElem_cons_zero, List.getElem_cons_succ]
        clear HR36_19 HD36_23 HL36_23 HE36
        refine wpAnyH_ready (rs := [22]) (by kernel_rfl) (by simp) (AllReadyH.cons rfl (fun K hK => ?_) AllReadyH.nil)
        · skip
          go_simp
          go_at_call 93; refine (_root_.Go.Proofs.YtlolomodcbkblaaGreatDoor.Sp.runsTo_own Rp (.slice ap np cp) _ ((HI.out _ HE44.out).2.1) lRp).mono ?_; rintro e y45 ⟨v0, rfl, ho, hb⟩; obtain ⟨a16, k16, rfl⟩ := row_slice2 ho
          have HE45 : Hid (Below A.heap.size A y45) := HE44.out.trans (hb.mono HE44.out.size)
          have HR45_22 : Hid (y45.ownsRow A.heap.size 260 2 (.slice a16 Rp.length k16) Rp.length (Rp.flatMap rc)) := Nd.own_base ho HE44.out.size
          have HR45_19 : Hid (y45.ownsRow A.heap.size 260 2 (.slice a15 Rn.length k15) Rn.length (Rn.flatMap rc)) := Nd.own_below HR44_19.out hb
          have HD45_23 : Hid (y45.ownsRow A.heap.size 2 1 (.slice (some ⟨A.heap.size, 0, none⟩) 0 0) 0 []) := Nd.own_below HD44_23.out hb; have HL45_23 : Hid (A.heap.size < y45.heap.size) := Nat.lt_of_lt_of_le HL44_23.out hb.size; have HN45_22_23 : Hid (NE (.slice a16 Rp.length k16) (A.heap.size)) := ne_of_base ho HL44_23.out
          have HD45_27 : Hid (y45.ownsRow A.heap.size 2 1 (.slice (some ⟨y36.heap.size, 0, none⟩) 0 0) 0 []) := Nd.own_below HD44.out hb; have HL45_27 : Hid (y36.heap.size < y45.heap.size) := Nat.lt_of_lt_of_le HL44.out hb.size; have HN45_22_27 : Hid (NE (.slice a16 Rp.length k16) (y36.heap.size)) := ne_of_base ho HL44.out
          clear hb ho
          have q45 := HC.out _ HE45.out
          refine hK.out _ _ ?_ (fun hHeld2 => ?_)
          · with_reducible exact q45
          clear hK K hHeld q45; have hHeld := hHeld2; clear hHeld2
          try simp only [Act.put, List.setIfInBounds_toArray, List.set_cons_zero, List.set_cons_succ, List.getElem_toArray, List.getElem_cons_zero, List.getElem_cons_succ]
          clear HR44_19 HD44_23 HL44_23 HD44 HL44 HE44
          refine wpAnyH_ready (rs := [26]) (by kernel_rfl) (by simp) (AllReadyH.cons rfl (fun K hK => ?_) AllReadyH.nil)
          · skip
            refine Nd.step_of (by rfl) (.tmp 26) (.tmp 28) 34 (by rfl) A.heap.size 2 i0 (.int .i64 0) 1 8 Tryz.underlying34 hi hz0 hz1 hz2 rfl (by decide) (.slice (some ⟨A.heap.size, 0, none⟩) 0 0) 0 [] (by rfl) HD45_23.out (c := fun z => [Value.int .i64 z]) (fun _ => rfl) HOneI.out Dn _ (by rfl) (Nd.sl_ss ((HI.out _ HE45.out).2.2.1)) (by unfold maxLen; omega) (by omega) HE45.out.size ?_; intro v0 y46 ho hg hl; rw [Nat.zero_add, List.nil_append] at ho; obtain ⟨a18, k18, rfl⟩ := row_slice2 ho
            have hg : y45.grownBy y46 (some (A.heap.size)) := hg
            have HE46 : Hid (Below A.heap.size A y46) := HE45.out.grown hg HE45.out.size (fun j hj => by injection hj with hj; rw [← hj]; exact own_ge HD45_23.out)
            have HR46_26 : Hid (y46.ownsRow A.heap.size 2 1 (.slice a18 Dn.length k18) Dn.length (Dn.flatMap fun z => [Value.int .i64 z])) := ho
            have HR46_19 : Hid (y46.ownsRow A.heap.size 260 2 (.slice a15 Rn.length k15) Rn.length (Rn.flatMap rc)) := HR45_19.out.kept hg HN36_19_23.out
            have HR46_22 : Hid (y46.ownsRow A.heap.size 260 2 (.slice a16 Rp.length k16) Rp.length (Rp.flatMap rc)) := HR45_22.out.kept hg HN45_22_23.out
            have HD46_27 : Hid (y46.ownsRow A.heap.size 2 1 (.slice (some ⟨y36.heap.size, 0, none⟩) 0 0) 0 []) := HD45_27.out.kept hg (Or.inr (fun e => Ne.symm HG44_23.out (by injection e))); have HL46_27 : Hid (y36.heap.size < y46.heap.size) := Nat.lt_of_lt_of_le HL45_27.out hg.size; have HN46_26_27 : Hid (NE (.slice a18 Dn.length k18) (y36.heap.size)) := ne_two hl (HG44_23.out) (Nat.ne_of_gt HL45_27.out)
            clear ho hg hl
            have q46 := HC.out _ HE46.out
            refine hK.out _ _ ?_ (fun hHeld2 => ?_)
            · with_reducible exact q46
            clear hK K hHeld q46; have hHeld := hHeld2; clear hHeld2
            try simp only [Act.put, List.setIfInBounds_toArray, List.set_cons_zero, List.set_cons_succ, List.getElem_toArray, List.getElem_cons_zero, List.getElem_cons_succ]
            clear HR45_19 HR45_22 HD45_23 HL45_23 HD45_27 HL45_27 HE45
            refine wpAnyH_ready (rs := [30]) (by kernel_rfl) (by simp) (AllReadyH.cons rfl (fun K hK => ?_) AllReadyH.nil)
            · skip
              refine Nd.step_of (by rfl) (.tmp 30) (.tmp 32) 34 (by rfl) A.heap.size 2 i0 (.int .i64 0) 1 8 Tryz.underlying34 hi hz0 hz1 hz2 rfl (by decide) (.slice (some ⟨y36.heap.size, 0, none⟩) 0 0) 0 [] (by rfl) HD46_27.out (c := fun z => [Value.int .i64 z]) (fun _ => rfl) HOneI.out Dp _ (by rfl) (Nd.sl_ss ((HI.out _ HE46.out).2.2.2)) (by unfold maxLen; omega) (by omega) HE46.out.size ?_; intro v0 y47 ho hg hl; rw [Nat.zero_add, List.nil_append] at ho; obtain ⟨a19, k19, rfl⟩ := row_slice2 ho
              have hg : y46.grownBy y47 (some (y36.heap.size)) := hg
              have HE47 : Hid (Below A.heap.size A y47) := HE46.out.grown hg HE46.out.size (fun j hj => by injection hj with hj; rw [← hj]; exact own_ge HD46_27.out)
              have HR47_30 : Hid (y47.ownsRow A.heap.size 2 1 (.slice a19 Dp.length k19) Dp.length (Dp.flatMap fun z => [Value.int .i64 z])) := ho
              have HR47_19 : Hid (y47.ownsRow A.heap.size 260 2 (.slice a15 Rn.length k15) Rn.length (Rn.flatMap rc)) := HR46_19.out.kept hg HN44_19_27.out
              have HR47_22 : Hid (y47.ownsRow A.heap.size 260 2 (.slice a16 Rp.length k16) Rp.length (Rp.flatMap rc)) := HR46_22.out.kept hg HN45_22_27.out
              have HR47_26 : Hid (y47.ownsRow A.heap.size 2 1 (.slice a18 Dn.length k18) Dn.length (Dn.flatMap fun z => [Value.int .i64 z])) := HR46_26.out.kept hg HN46_26_27.out
              clear ho hg hl
              have q47 := HC.out _ HE47.out
              refine hK.out _ _ ?_ (fun hHeld2 => ?_)
              · with_reducible exact q47
              clear hK K hHeld q47; have hHeld := hHeld2; clear hHeld2
              try simp only [Act.put, List.setIfInBounds_toArray, List.set_cons_zero, List.set_cons_succ, List.getElem_toArray, List.getElem_cons_zero, List.getElem_cons_succ]
              clear HR46_19 HR46_22 HR46_26 HD46_27 HL46_27 HE46
              refine Calm.take (i := 33) (v := .slice none 0 0) rfl (by kernel_rfl) (by kernel_rfl) (by kernel_rfl) (fun _ _ _ h => h) ⟨by rfl, fun W hSw => ⟨94, #[.slice none 0 0], ?_, _root_.Go.Proofs.YtlolomodcbkblaaGreatDoor.Mt.marksFrom_nil _ _ W⟩⟩ hHeld ?_
              · go_simp; (try with_reducible rfl)
              try simp only [Act.put, List.setIfInBounds_toArray, List.set_cons_zero, List.set_cons_succ, List.getElem_toArray, List.getElem_cons_zero, List.getElem_cons_succ]
              refine wpAnyH_take (i := 34) (v := ?_) rfl (by kernel_rfl) (by kernel_rfl) (by kernel_rfl) (fun _ _ _ h => h) (Or.inl ⟨by rfl, ?_⟩) hHeld ?_
              rotate_left
              · intro w hSw; (try dsimp only at hSw); go_simp; (try with_reducible rfl)
              try simp only [Act.put, List.setIfInBounds_toArray, List.set_cons_zero, List.set_cons_succ, List.getElem_toArray, List.getElem_cons_zero, List.getElem_cons_succ]
              refine wpAnyH_ready (rs := [35]) (by kernel_rfl) (by simp) (AllReadyH.cons rfl (fun K hK => ?_) AllReadyH.nil)
              rw [if_pos (by rfl)]
              refine Big.wp_store_whole _ _ _ rfl (w.heap.size + 1) 52 #[.int .u64 0, .float .f64 0, .slice none 0 0, .int .i64 0, .bool false, .int .i32 0, .float .f64 0, .int .u64 0, .slice none 0 0, .slice none 0 0, .slice none 0 0, .slice none 0 0, .slice none 0 0] #[.int .u64 count, .float .f64 z, .slice none 0 0, .int .i64 0, .bool true, .int .i32 sch, .float .f64 zt, .int .u64 zc, .slice a15 Rn.length k15, .slice a16 Rp.length k16, .slice a18 Dn.length k18, .slice a19 Dp.length k19, .slice none 0 0] rfl rfl (HD.out _ HE47.out) rfl hsz (by simp [Value.oneCell']) ?_; intro yf hx hg hs
              have HF := Lib.hid (HOut.out _ _ _ _ _ _ _ _ _ HE47.out HR47_19.out HR47_22.out HR47_26.out HR47_30.out yf hg hs); have q9 := HF.out.2; have HXf := Lib.hid hx; clear hx hg hs
              refine hK.out _ _ ?_ (fun hHeld2 => ?_)
              · with_reducible exact q9
              clear hK K hHeld; have hHeld := hHeld2; clear hHeld2
              try simp only [Act.put, List.setIfInBounds_toArray, List.set_cons_zero, List.set_cons_succ, List.getElem_toArray, List.getElem_cons_zero, List.getElem_cons_succ]
              refine wpAnyH_done (by kernel_rfl) ?_ _
              refine NoPanic.normal ?_
              clear q9
              go_wp2_with fail
              exact bodyPost_ret (v := .agg #[.int .u64 count, .float .f64 z, .slice none 0 0, .int .i64 0, .bool true, .int .i32 sch, .float .f64 zt, .int .u64 zc, .slice a15 Rn.length k15, .slice a16 Rp.length k16, .slice a18 Dn.length k18, .slice a19 Dp.length k19, .slice none 0 0]) (Mt.res1 Tryz.results49 _ _ _ _ _ rfl (Big.loaded_whole 52 (w.heap.size + 1) 52 _ HXf.out _ Tryz.underlying52 rfl hsz)) rfl HF.out.1
    · skip
      go_simp
      obtain ⟨y48, hy⟩ : ∃ y, y = (y35.alloc (.cells #[] 2)) := ⟨_, rfl⟩; rw [← hy]
      have hb : Below y35.heap.size y35 y48 := by rw [hy]; exact (Below.refl _ _).alloc (Nat.le_refl _) _
      have HE48 : Hid (Below A.heap.size A y48) := HE35.out.trans (hb.mono HE35.out.size)
      have HD48 : Hid (y48.ownsRow A.heap.size 2 1 (.slice (some ⟨y35.heap.size, 0, none⟩) 0 0) 0 []) := by rw [hy]; exact dest_made y35 HE35.out.size _
      have HL48 : Hid (y35.heap.size < y48.heap.size) := by rw [hy]; show y35.heap.size < (y35.alloc _).heap.size; simp
      have HD48_23 : Hid (y48.ownsRow A.heap.size 2 1 (.slice (some ⟨A.heap.size, 0, none⟩) 0 0) 0 []) := Nd.own_below HD35.out hb; have HL48_23 : Hid (A.heap.size < y48.heap.size) := Nat.lt_of_lt_of_le HL35.out hb.size; have HG48_23 : Hid (A.heap.size ≠ y35.heap.size) := Nat.ne_of_lt HL35.out
      clear hb hy
      have q48 := HC.out _ HE48.out
      refine hK.out _ _ ?_ (fun hHeld2 => ?_)
      · with_reducible exact q48
      clear hK K hHeld q48; have hHeld := hHeld2; clear hHeld2
      try simp only [Act.put, List.setIfInBounds_toArray, List.set_cons_zero, List.set_cons_succ, List.getElem_toArray, List.getElem_cons_zero, List.getElem_cons_succ]
      clear HD35 HL35 HE35
      refine wpAnyH_ready (rs := [19]) (by kernel_rfl) (by simp) (AllReadyH.cons rfl (fun K hK => ?_) AllReadyH.nil)
      · skip
        go_simp
        go_at_call 93; refine (_root_.Go.Proofs.YtlolomodcbkblaaGreatDoor.Sp.runsTo_own Rn (.slice an nn cn) _ ((HI.out _ HE48.out).1) lRn).mono ?_; rintro e y49 ⟨v0, rfl, ho, hb⟩; obtain ⟨a15, k15, rfl⟩ := row_slice2 ho
        have HE49 : Hid (Below A.heap.size A y49) := HE48.out.trans (hb.mono HE48.out.size)
        have HR49_19 : Hid (y49.ownsRow A.heap.size 260 2 (.slice a15 Rn.length k15) Rn.length (Rn.flatMap rc)) := Nd.own_base ho HE48.out.size
        have HD49_23 : Hid (y49.ownsRow A.heap.size 2 1 (.slice (some ⟨A.heap.size, 0, none⟩) 0 0) 0 []) := Nd.own_below HD48_23.out hb; have HL49_23 : Hid (A.heap.size < y49.heap.size) := Nat.lt_of_lt_of_le HL48_23.out hb.size; have HN49_19_23 : Hid (NE (.slice a15 Rn.length k15) (A.heap.size)) := ne_of_base ho HL48_23.out
        have HD49_27 : Hid (y49.ownsRow A.heap.size 2 1 (.slice (some ⟨y35.heap.size, 0, none⟩) 0 0) 0 []) := Nd.own_below HD48.out hb; have HL49_27 : Hid (y35.heap.size < y49.heap.size) := Nat.lt_of_lt_of_le HL48.out hb.size; have HN49_19_27 : Hid (NE (.slice a15 Rn.length k15) (y35.heap.size)) := ne_of_base ho HL48.out
        clear hb ho
        have q49 := HC.out _ HE49.out
        refine hK.out _ _ ?_ (fun hHeld2 => ?_)
        · with_reducible exact q49
        clear hK K hHeld q49; have hHeld := hHeld2; clear hHeld2
        try simp only [Act.put, List.setIfInBounds_toArray, List.set_cons_zero, List.set_cons_succ, List.getElem_toArray, List.getElem_cons_zero, List.getElem_cons_succ]
        clear HD48_23 HL48_23 HD48 HL48 HE48
        refine wpAnyH_ready (rs := [22]) (by kernel_rfl) (by simp) (AllReadyH.cons rfl (fun K hK => ?_) AllReadyH.nil)
        · skip
          go_simp
          go_at_call 93; refine (_root_.Go.Proofs.YtlolomodcbkblaaGreatDoor.Sp.runsTo_own Rp (.slice ap np cp) _ ((HI.out _ HE49.out).2.1) lRp).mono ?_; rintro e y50 ⟨v0, rfl, ho, hb⟩; obtain ⟨a16, k16, rfl⟩ := row_slice2 ho
          have HE50 : Hid (Below A.heap.size A y50) := HE49.out.trans (hb.mono HE49.out.size)
          have HR50_22 : Hid (y50.ownsRow A.heap.size 260 2 (.slice a16 Rp.length k16) Rp.length (Rp.flatMap rc)) := Nd.own_base ho HE49.out.size
          have HR50_19 : Hid (y50.ownsRow A.heap.size 260 2 (.slice a15 Rn.length k15) Rn.length (Rn.flatMap rc)) := Nd.own_below HR49_19.out hb
          have HD50_23 : Hid (y50.ownsRow A.heap.size 2 1 (.slice (some ⟨A.heap.size, 0, none⟩) 0 0) 0 []) := Nd.own_below HD49_23.out hb; have HL50_23 : Hid (A.heap.size < y50.heap.size) := Nat.lt_of_lt_of_le HL49_23.out hb.size; have HN50_22_23 : Hid (NE (.slice a16 Rp.length k16) (A.heap.size)) := ne_of_base ho HL49_23.out
          have HD50_27 : Hid (y50.ownsRow A.heap.size 2 1 (.slice (some ⟨y35.heap.size, 0, none⟩) 0 0) 0 []) := Nd.own_below HD49_27.out hb; have HL50_27 : Hid (y35.heap.size < y50.heap.size) := Nat.lt_of_lt_of_le HL49_27.out hb.size; have HN50_22_27 : Hid (NE (.slice a16 Rp.length k16) (y35.heap.size)) := ne_of_base ho HL49_27.out
          clear hb ho
          have q50 := HC.out _ HE50.out
          refine hK.out _ _ ?_ (fun hHeld2 => ?_)
          · with_reducible exact q50
          clear hK K hHeld q50; have hHeld := hHeld2; clear hHeld2
          try simp only [Act.put, List.setIfInBounds_toArray, List.set_cons_zero, List.set_cons_succ, List.getElem_toArray, List.getElem_cons_zero, List.getElem_cons_succ]
          clear HR49_19 HD49_23 HL49_23 HD49_27 HL49_27 HE49
          refine wpAnyH_ready (rs := [26]) (by kernel_rfl) (by simp) (AllReadyH.cons rfl (fun K hK => ?_) AllReadyH.nil)
          · skip
            refine Nd.step_of (by rfl) (.tmp 26) (.tmp 28) 34 (by rfl) A.heap.size 2 i0 (.int .i64 0) 1 8 Tryz.underlying34 hi hz0 hz1 hz2 rfl (by decide) (.slice (some ⟨A.heap.size, 0, none⟩) 0 0) 0 [] (by rfl) HD50_23.out (c := fun z => [Value.int .i64 z]) (fun _ => rfl) HOneI.out Dn _ (by rfl) (Nd.sl_ss ((HI.out _ HE50.out).2.2.1)) (by unfold maxLen; omega) (by omega) HE50.out.size ?_; intro v0 y51 ho hg hl; rw [Nat.zero_add, List.nil_append] at ho; obtain ⟨a18, k18, rfl⟩ := row_slice2 ho
            have hg : y50.grownBy y51 (some (A.heap.size)) := hg
            have HE51 : Hid (Below A.heap.size A y51) := HE50.out.grown hg HE50.out.size (fun j hj => by injection hj with hj; rw [← hj]; exact own_ge HD50_23.out)
            have HR51_26 : Hid (y51.ownsRow A.heap.size 2 1 (.slice a18 Dn.length k18) Dn.length (Dn.flatMap fun z => [Value.int .i64 z])) := ho
            have HR51_19 : Hid (y51.ownsRow A.heap.size 260 2 (.slice a15 Rn.length k15) Rn.length (Rn.flatMap rc)) := HR50_19.out.kept hg HN49_19_23.out
            have HR51_22 : Hid (y51.ownsRow A.heap.size 260 2 (.slice a16 Rp.length k16) Rp.length (Rp.flatMap rc)) := HR50_22.out.kept hg HN50_22_23.out
            have HD51_27 : Hid (y51.ownsRow A.heap.size 2 1 (.slice (some ⟨y35.heap.size, 0, none⟩) 0 0) 0 []) := HD50_27.out.kept hg (Or.inr (fun e => Ne.symm HG48_23.out (by injection e))); have HL51_27 : Hid (y35.heap.size < y51.heap.size) := Nat.lt_of_lt_of_le HL50_27.out hg.size; have HN51_26_27 : Hid (NE (.slice a18 Dn.length k18) (y35.heap.size)) := ne_two hl (HG48_23.out) (Nat.ne_of_gt HL50_27.out)
            clear ho hg hl
            have q51 := HC.out _ HE51.out
            refine hK.out _ _ ?_ (fun hHeld2 => ?_)
            · with_reducible exact q51
            clear hK K hHeld q51; have hHeld := hHeld2; clear hHeld2
            try simp only [Act.put, List.setIfInBounds_toArray, List.set_cons_zero, List.set_cons_succ, List.getElem_toArray, List.getElem_cons_zero, List.getElem_cons_succ]
            clear HR50_19 HR50_22 HD50_23 HL50_23 HD50_27 HL50_27 HE50
            refine wpAnyH_ready (rs := [30]) (by kernel_rfl) (by simp) (AllReadyH.cons rfl (fun K hK => ?_) AllReadyH.nil)
            · skip
              refine Nd.step_of (by rfl) (.tmp 30) (.tmp 32) 34 (by rfl) A.heap.size 2 i0 (.int .i64 0) 1 8 Tryz.underlying34 hi hz0 hz1 hz2 rfl (by decide) (.slice (some ⟨y35.heap.size, 0, none⟩) 0 0) 0 [] (by rfl) HD51_27.out (c := fun z => [Value.int .i64 z]) (fun _ => rfl) HOneI.out Dp _ (by rfl) (Nd.sl_ss ((HI.out _ HE51.out).2.2.2)) (by unfold maxLen; omega) (by omega) HE51.out.size ?_; intro v0 y52 ho hg hl; rw [Nat.zero_add, List.nil_append] at ho; obtain ⟨a19, k19, rfl⟩ := row_slice2 ho
              have hg : y51.grownBy y52 (some (y35.heap.size)) := hg
              have HE52 : Hid (Below A.heap.size A y52) := HE51.out.grown hg HE51.out.size (fun j hj => by injection hj with hj; rw [← hj]; exact own_ge HD51_27.out)
              have HR52_30 : Hid (y52.ownsRow A.heap.size 2 1 (.slice a19 Dp.length k19) Dp.length (Dp.flatMap fun z => [Value.int .i64 z])) := ho
              have HR52_19 : Hid (y52.ownsRow A.heap.size 260 2 (.slice a15 Rn.length k15) Rn.length (Rn.flatMap rc)) := HR51_19.out.kept hg HN49_19_27.out
              have HR52_22 : Hid (y52.ownsRow A.heap.size 260 2 (.slice a16 Rp.length k16) Rp.length (Rp.flatMap rc)) := HR51_22.out.kept hg HN50_22_27.out
              have HR52_26 : Hid (y52.ownsRow A.heap.size 2 1 (.slice a18 Dn.length k18) Dn.length (Dn.flatMap fun z => [Value.int .i64 z])) := HR51_26.out.kept hg HN51_26_27.out
              clear ho hg hl
              have q52 := HC.out _ HE52.out
              refine hK.out _ _ ?_ (fun hHeld2 => ?_)
              · with_reducible exact q52
              clear hK K hHeld q52; have hHeld := hHeld2; clear hHeld2
              try simp only [Act.put, List.setIfInBounds_toArray, List.set_cons_zero, List.set_cons_succ, List.getElem_toArray, List.getElem_cons_zero, List.getElem_cons_succ]
              clear HR51_19 HR51_22 HR51_26 HD51_27 HL51_27 HE51
              refine Calm.take (i := 33) (v := .slice none 0 0) rfl (by kernel_rfl) (by kernel_rfl) (by kernel_rfl) (fun _ _ _ h => h) ⟨by rfl, fun W hSw => ⟨94, #[.slice none 0 0], ?_, _root_.Go.Proofs.YtlolomodcbkblaaGreatDoor.Mt.marksFrom_nil _ _ W⟩⟩ hHeld ?_
              · go_simp; (try with_reducible rfl)
              try simp only [Act.put, List.setIfInBounds_toArray, List.set_cons_zero, List.set_cons_succ, List.getElem_toArray, List.getElem_cons_zero, List.getElem_cons_succ]
              refine wpAnyH_take (i := 34) (v := ?_) rfl (by kernel_rfl) (by kernel_rfl) (by kernel_rfl) (fun _ _ _ h => h) (Or.inl ⟨by rfl, ?_⟩) hHeld ?_
              rotate_left
              · intro w hSw; (try dsimp only at hSw); go_simp; (try with_reducible rfl)
              try simp only [Act.put, List.setIfInBounds_toArray, List.set_cons_zero, List.set_cons_succ, List.getElem_toArray, List.getElem_cons_zero, List.getElem_cons_succ]
              refine wpAnyH_ready (rs := [35]) (by kernel_rfl) (by simp) (AllReadyH.cons rfl (fun K hK => ?_) AllReadyH.nil)
              rw [if_pos (by rfl)]
              refine Big.wp_store_whole _ _ _ rfl (w.heap.size + 1) 52 #[.int .u64 0, .float .f64 0, .slice none 0 0, .int .i64 0, .bool false, .int .i32 0, .float .f64 0, .int .u64 0, .slice none 0 0, .slice none 0 0, .slice none 0 0, .slice none 0 0, .slice none 0 0] #[.int .u64 count, .float .f64 z, .slice none 0 0, .int .i64 0, .bool true, .int .i32 sch, .float .f64 zt, .int .u64 zc, .slice a15 Rn.length k15, .slice a16 Rp.length k16, .slice a18 Dn.length k18, .slice a19 Dp.length k19, .slice none 0 0] rfl rfl (HD.out _ HE52.out) rfl hsz (by simp [Value.oneCell']) ?_; intro yf hx hg hs
              have HF := Lib.hid (HOut.out _ _ _ _ _ _ _ _ _ HE52.out HR52_19.out HR52_22.out HR52_26.out HR52_30.out yf hg hs); have q9 := HF.out.2; have HXf := Lib.hid hx; clear hx hg hs
              refine hK.out _ _ ?_ (fun hHeld2 => ?_)
              · with_reducible exact q9
              clear hK K hHeld; have hHeld := hHeld2; clear hHeld2
              try simp only [Act.put, List.setIfInBounds_toArray, List.set_cons_zero, List.set_cons_succ, List.getElem_toArray, List.getElem_cons_zero, List.getElem_cons_succ]
              refine wpAnyH_done (by kernel_rfl) ?_ _
              refine NoPanic.normal ?_
              clear q9
              go_wp2_with fail
              exact bodyPost_ret (v := .agg #[.int .u64 count, .float .f64 z, .slice none 0 0, .int .i64 0, .bool true, .int .i32 sch, .float .f64 zt, .int .u64 zc, .slice a15 Rn.length k15, .slice a16 Rp.length k16, .slice a18 Dn.length k18, .slice a19 Dp.length k19, .slice none 0 0]) (Mt.res1 Tryz.results49 _ _ _ _ _ rfl (Big.loaded_whole 52 (w.heap.size + 1) 52 _ HXf.out _ Tryz.underlying52 rfl hsz)) rfl HF.out.1
  · skip
    go_simp
    obtain ⟨y53, hy⟩ : ∃ y, y = (A.alloc (.cells #[] 2)).drew := ⟨_, rfl⟩; rw [← hy]
    have hb : Below A.drew.heap.size A.drew y53 := by rw [hy]; have h := bdrH ((Below.refl A.heap.size A).alloc (Nat.le_refl _) (.cells #[] 2)); exact ⟨h.os, h.tape, h.output, h.size, h.block⟩
    have HE53 : Hid (Below A.heap.size A y53) := HE0.out.trans (hb.mono HE0.out.size)
    have HD53 : Hid (y53.ownsRow A.heap.size 2 1 (.slice (some ⟨A.heap.size, 0, none⟩) 0 0) 0 []) := by rw [hy]; exact dest_made A HE0.out.size _
    have HL53 : Hid (A.heap.size < y53.heap.size) := by rw [hy]; show A.heap.size < (A.alloc _).heap.size; simp
    clear hb hy
    have q53 := HC.out _ HE53.out
    refine hK.out _ _ ?_ (fun hHeld2 => ?_)
    · with_reducible exact q53
    clear hK K hHeld q53; have hHeld := hHeld2; clear hHeld2
    try simp only [Act.put, List.setIfInBounds_toArray, List.set_cons_zero, List.set_cons_succ, List.getElem_toArray, List.getElem_cons_zero, List.getElem_cons_succ]
    refine wpAnyH_ready (rs := [19, 23]) (by kernel_rfl) (by simp) (AllReadyH.cons rfl (fun K hK => ?_) (AllReadyH.cons rfl (fun K hK => ?_) AllReadyH.nil))
    · skip
      go_simp
      go_at_call 93; refine (_root_.Go.Proofs.YtlolomodcbkblaaGreatDoor.Sp.runsTo_own Rn (.slice an nn cn) _ ((HI.out _ HE53.out).1) lRn).mono ?_; rintro e y54 ⟨v0, rfl, ho, hb⟩; obtain ⟨a15, k15, rfl⟩ := row_slice2 ho
      have HE54 : Hid (Below A.heap.size A y54) := HE53.out.trans (hb.mono HE53.out.size)
      have HR54_19 : Hid (y54.ownsRow A.heap.size 260 2 (.slice a15 Rn.length k15) Rn.length (Rn.flatMap rc)) := Nd.own_base ho HE53.out.size
      have HD54_27 : Hid (y54.ownsRow A.heap.size 2 1 (.slice (some ⟨A.heap.size, 0, none⟩) 0 0) 0 []) := Nd.own_below HD53.out hb; have HL54_27 : Hid (A.heap.size < y54.heap.size) := Nat.lt_of_lt_of_le HL53.out hb.size; have HN54_19_27 : Hid (NE (.slice a15 Rn.length k15) (A.heap.size)) := ne_of_base ho HL53.out
      clear hb ho
      have q54 := HC.out _ HE54.out
      refine hK.out _ _ ?_ (fun hHeld2 => ?_)
      · with_reducible exact q54
      clear hK K hHeld q54; have hHeld := hHeld2; clear hHeld2
      try simp only [Act.put, List.setIfInBounds_toArray, List.set_cons_zero, List.set_cons_succ, List.getElem_toArray, List.getElem_cons_zero, List.getElem_cons_succ]
      clear HD53 HL53 HE53
      refine wpAnyH_ready (rs := [22, 23]) (by kernel_rfl) (by simp) (AllReadyH.cons rfl (fun K hK => ?_) (AllReadyH.cons rfl (fun K hK => ?_) AllReadyH.nil))
      · skip
        go_simp
        go_at_call 93; refine (_root_.Go.Proofs.YtlolomodcbkblaaGreatDoor.Sp.runsTo_own Rp (.slice ap np cp) _ ((HI.out _ HE54.out).2.1) lRp).mono ?_; rintro e y55 ⟨v0, rfl, ho, hb⟩; obtain ⟨a16, k16, rfl⟩ := row_slice2 ho
        have HE55 : Hid (Below A.heap.size A y55) := HE54.out.trans (hb.mono HE54.out.size)
        have HR55_22 : Hid (y55.ownsRow A.heap.size 260 2 (.slice a16 Rp.length k16) Rp.length (Rp.flatMap rc)) := Nd.own_base ho HE54.out.size
        have HR55_19 : Hid (y55.ownsRow A.heap.size 260 2 (.slice a15 Rn.length k15) Rn.length (Rn.flatMap rc)) := Nd.own_below HR54_19.out hb
        have HD55_27 : Hid (y55.ownsRow A.heap.size 2 1 (.slice (some ⟨A.heap.size, 0, none⟩) 0 0) 0 []) := Nd.own_below HD54_27.out hb; have HL55_27 : Hid (A.heap.size < y55.heap.size) := Nat.lt_of_lt_of_le HL54_27.out hb.size; have HN55_22_27 : Hid (NE (.slice a16 Rp.length k16) (A.heap.size)) := ne_of_base ho HL54_27.out
        clear hb ho
        have q55 := HC.out _ HE55.out
        refine hK.out _ _ ?_ (fun hHeld2 => ?_)
        · with_reducible exact q55
        clear hK K hHeld q55; have hHeld := hHeld2; clear hHeld2
        try simp only [Act.put, List.setIfInBounds_toArray, List.set_cons_zero, List.set_cons_succ, List.getElem_toArray, List.getElem_cons_zero, List.getElem_cons_succ]
        clear HR54_19 HD54_27 HL54_27 HE54
        refine wpAnyH_ready (rs := [23]) (by kernel_rfl) (by simp) (AllReadyH.cons rfl (fun K hK => ?_) AllReadyH.nil)
        · skip
          go_simp
          obtain ⟨y56, hy⟩ : ∃ y, y = (y55.alloc (.cells #[] 2)) := ⟨_, rfl⟩; rw [← hy]
          have hb : Below y55.heap.size y55 y56 := by rw [hy]; exact (Below.refl _ _).alloc (Nat.le_refl _) _
          have HE56 : Hid (Below A.heap.size A y56) := HE55.out.trans (hb.mono HE55.out.size)
          have HD56 : Hid (y56.ownsRow A.heap.size 2 1 (.slice (some ⟨y55.heap.size, 0, none⟩) 0 0) 0 []) := by rw [hy]; exact dest_made y55 HE55.out.size _
          have HL56 : Hid (y55.heap.size < y56.heap.size) := by rw [hy]; show y55.heap.size < (y55.alloc _).heap.size; simp
          have HR56_19 : Hid (y56.ownsRow A.heap.size 260 2 (.slice a15 Rn.length k15) Rn.length (Rn.flatMap rc)) := Nd.own_below HR55_19.out hb
          have HN56_19_23 : Hid (NE (.slice a15 Rn.length k15) (y55.heap.size)) := ne_of_lt HR55_19.out (Nat.le_refl _)
          have HR56_22 : Hid (y56.ownsRow A.heap.size 260 2 (.slice a16 Rp.length k16) Rp.length (Rp.flatMap rc)) := Nd.own_below HR55_22.out hb
          have HN56_22_23 : Hid (NE (.slice a16 Rp.length k16) (y55.heap.size)) := ne_of_lt HR55_22.out (Nat.le_refl _)
          have HD56_27 : Hid (y56.ownsRow A.heap.size 2 1 (.slice (some ⟨A.heap.size, 0, none⟩) 0 0) 0 []) := Nd.own_below HD55_27.out hb; have HL56_27 : Hid (A.heap.size < y56.heap.size) := Nat.lt_of_lt_of_le HL55_27.out hb.size; have HG56_27 : Hid (A.heap.size ≠ y55.heap.size) := Nat.ne_of_lt HL55_27.out
          clear hb hy
          have q56 := HC.out _ HE56.out
          refine hK.out _ _ ?_ (fun hHeld2 => ?_)
          · with_reducible exact q56
          clear hK K hHeld q56; have hHeld := hHeld2; clear hHeld2
          try simp only [Act.put, List.setIfInBounds_toArray, List.set_cons_zero, List.set_cons_succ, List.getElem_toArray, List.getElem_cons_zero, List.getElem_cons_succ]
          clear HR55_19 HR55_22 HD55_27 HL55_27 HE55
          refine wpAnyH_ready (rs := [26]) (by kernel_rfl) (by simp) (AllReadyH.cons rfl (fun K hK => ?_) AllReadyH.nil)
          · skip
            refine Nd.step_of (by rfl) (.tmp 26) (.tmp 28) 34 (by rfl) A.heap.size 2 i0 (.int .i64 0) 1 8 Tryz.underlying34 hi hz0 hz1 hz2 rfl (by decide) (.slice (some ⟨y55.heap.size, 0, none⟩) 0 0) 0 [] (by rfl) HD56.out (c := fun z => [Value.int .i64 z]) (fun _ => rfl) HOneI.out Dn _ (by rfl) (Nd.sl_ss ((HI.out _ HE56.out).2.2.1)) (by unfold maxLen; omega) (by omega) HE56.out.size ?_; intro v0 y57 ho hg hl; rw [Nat.zero_add, List.nil_append] at ho; obtain ⟨a18, k18, rfl⟩ := row_slice2 ho
            have hg : y56.grownBy y57 (some (y55.heap.size)) := hg
            have HE57 : Hid (Below A.heap.size A y57) := HE56.out.grown hg HE56.out.size (fun j hj => by injection hj with hj; rw [← hj]; exact own_ge HD56.out)
            have HR57_26 : Hid (y57.ownsRow A.heap.size 2 1 (.slice a18 Dn.length k18) Dn.length (Dn.flatMap fun z => [Value.int .i64 z])) := ho
            have HR57_19 : Hid (y57.ownsRow A.heap.size 260 2 (.slice a15 Rn.length k15) Rn.length (Rn.flatMap rc)) := HR56_19.out.kept hg HN56_19_23.out
            have HR57_22 : Hid (y57.ownsRow A.heap.size 260 2 (.slice a16 Rp.length k16) Rp.length (Rp.flatMap rc)) := HR56_22.out.kept hg HN56_22_23.out
            have HD57_27 : Hid (y57.ownsRow A.heap.size 2 1 (.slice (some ⟨A.heap.size, 0, none⟩) 0 0) 0 []) := HD56_27.out.kept hg (Or.inr (fun e => HG56_27.out (by injection e))); have HL57_27 : Hid (A.heap.size < y57.heap.size) := Nat.lt_of_lt_of_le HL56_27.out hg.size; have HN57_26_27 : Hid (NE (.slice a18 Dn.length k18) (A.heap.size)) := ne_two hl (Ne.symm HG56_27.out) (Nat.ne_of_gt HL56_27.out)
            clear ho hg hl
            have q57 := HC.out _ HE57.out
            refine hK.out _ _ ?_ (fun hHeld2 => ?_)
            · with_reducible exact q57
            clear hK K hHeld q57; have hHeld := hHeld2; clear hHeld2
            try simp only [Act.put, List.setIfInBounds_toArray, List.set_cons_zero, List.set_cons_succ, List.getElem_toArray, List.getElem_cons_zero, List.getElem_cons_succ]
            clear HR56_19 HR56_22 HD56_27 HL56_27 HD56 HL56 HE56
            refine wpAnyH_ready (rs := [30]) (by kernel_rfl) (by simp) (AllReadyH.cons rfl (fun K hK => ?_) AllReadyH.nil)
            · skip
              refine Nd.step_of (by rfl) (.tmp 30) (.tmp 32) 34 (by rfl) A.heap.size 2 i0 (.int .i64 0) 1 8 Tryz.underlying34 hi hz0 hz1 hz2 rfl (by decide) (.slice (some ⟨A.heap.size, 0, none⟩) 0 0) 0 [] (by rfl) HD57_27.out (c := fun z => [Value.int .i64 z]) (fun _ => rfl) HOneI.out Dp _ (by rfl) (Nd.sl_ss ((HI.out _ HE57.out).2.2.2)) (by unfold maxLen; omega) (by omega) HE57.out.size ?_; intro v0 y58 ho hg hl; rw [Nat.zero_add, List.nil_append] at ho; obtain ⟨a19, k19, rfl⟩ := row_slice2 ho
              have hg : y57.grownBy y58 (some (A.heap.size)) := hg
              have HE58 : Hid (Below A.heap.size A y58) := HE57.out.grown hg HE57.out.size (fun j hj => by injection hj with hj; rw [← hj]; exact own_ge HD57_27.out)
              have HR58_30 : Hid (y58.ownsRow A.heap.size 2 1 (.slice a19 Dp.length k19) Dp.length (Dp.flatMap fun z => [Value.int .i64 z])) := ho
              have HR58_19 : Hid (y58.ownsRow A.heap.size 260 2 (.slice a15 Rn.length k15) Rn.length (Rn.flatMap rc)) := HR57_19.out.kept hg HN54_19_27.out
              have HR58_22 : Hid (y58.ownsRow A.heap.size 260 2 (.slice a16 Rp.length k16) Rp.length (Rp.flatMap rc)) := HR57_22.out.kept hg HN55_22_27.out
              have HR58_26 : Hid (y58.ownsRow A.heap.size 2 1 (.slice a18 Dn.length k18) Dn.length (Dn.flatMap fun z => [Value.int .i64 z])) := HR57_26.out.kept hg HN57_26_27.out
              clear ho hg hl
              have q58 := HC.out _ HE58.out
              refine hK.out _ _ ?_ (fun hHeld2 => ?_)
              · with_reducible exact q58
              clear hK K hHeld q58; have hHeld := hHeld2; clear hHeld2
              try simp only [Act.put, List.setIfInBounds_toArray, List.set_cons_zero, List.set_cons_succ, List.getElem_toArray, List.getElem_cons_zero, List.getElem_cons_succ]
              clear HR57_19 HR57_22 HR57_26 HD57_27 HL57_27 HE57
              refine Calm.take (i := 33) (v := .slice none 0 0) rfl (by kernel_rfl) (by kernel_rfl) (by kernel_rfl) (fun _ _ _ h => h) ⟨by rfl, fun W hSw => ⟨94, #[.slice none 0 0], ?_, _root_.Go.Proofs.YtlolomodcbkblaaGreatDoor.Mt.marksFrom_nil _ _ W⟩⟩ hHeld ?_
              · go_simp; (try with_reducible rfl)
              try simp only [Act.put, List.setIfInBounds_toArray, List.set_cons_zero, List.set_cons_succ, List.getElem_toArray, List.getElem_cons_zero, List.getElem_cons_succ]
              refine wpAnyH_take (i := 34) (v := ?_) rfl (by kernel_rfl) (by kernel_rfl) (by kernel_rfl) (fun _ _ _ h => h) (Or.inl ⟨by rfl, ?_⟩) hHeld ?_
              rotate_left
              · intro w hSw; (try dsimp only at hSw); go_simp; (try with_reducible rfl)
              try simp only [Act.put, List.setIfInBounds_toArray, List.set_cons_zero, List.set_cons_succ, List.getElem_toArray, List.getElem_cons_zero, List.getElem_cons_succ]
              refine wpAnyH_ready (rs := [35]) (by kernel_rfl) (by simp) (AllReadyH.cons rfl (fun K hK => ?_) AllReadyH.nil)
              rw [if_pos (by rfl)]
              refine Big.wp_store_whole _ _ _ rfl (w.heap.size + 1) 52 #[.int .u64 0, .float .f64 0, .slice none 0 0, .int .i64 0, .bool false, .int .i32 0, .float .f64 0, .int .u64 0, .slice none 0 0, .slice none 0 0, .slice none 0 0, .slice none 0 0, .slice none 0 0] #[.int .u64 count, .float .f64 z, .slice none 0 0, .int .i64 0, .bool true, .int .i32 sch, .float .f64 zt, .int .u64 zc, .slice a15 Rn.length k15, .slice a16 Rp.length k16, .slice a18 Dn.length k18, .slice a19 Dp.length k19, .slice none 0 0] rfl rfl (HD.out _ HE58.out) rfl hsz (by simp [Value.oneCell']) ?_; intro yf hx hg hs
              have HF := Lib.hid (HOut.out _ _ _ _ _ _ _ _ _ HE58.out HR58_19.out HR58_22.out HR58_26.out HR58_30.out yf hg hs); have q9 := HF.out.2; have HXf := Lib.hid hx; clear hx hg hs
              refine hK.out _ _ ?_ (fun hHeld2 => ?_)
              · with_reducible exact q9
              clear hK K hHeld; have hHeld := hHeld2; clear hHeld2
              try simp only [Act.put, List.setIfInBounds_toArray, List.set_cons_zero, List.set_cons_succ, List.getElem_toArray, List.getElem_cons_zero, List.getElem_cons_succ]
              refine wpAnyH_done (by kernel_rfl) ?_ _
              refine NoPanic.normal ?_
              clear q9
              go_wp2_with fail
              exact bodyPost_ret (v := .agg #[.int .u64 count, .float .f64 z, .slice none 0 0, .int .i64 0, .bool true, .int .i32 sch, .float .f64 zt, .int .u64 zc, .slice a15 Rn.length k15, .slice a16 Rp.length k16, .slice a18 Dn.length k18, .slice a19 Dp.length k19, .slice none 0 0]) (Mt.res1 Tryz.results49 _ _ _ _ _ rfl (Big.loaded_whole 52 (w.heap.size + 1) 52 _ HXf.out _ Tryz.underlying52 rfl hsz)) rfl HF.out.1
      · skip
        go_simp
        obtain ⟨y59, hy⟩ : ∃ y, y = (y54.alloc (.cells #[] 2)) := ⟨_, rfl⟩; rw [← hy]
        have hb : Below y54.heap.size y54 y59 := by rw [hy]; exact (Below.refl _ _).alloc (Nat.le_refl _) _
        have HE59 : Hid (Below A.heap.size A y59) := HE54.out.trans (hb.mono HE54.out.size)
        have HD59 : Hid (y59.ownsRow A.heap.size 2 1 (.slice (some ⟨y54.heap.size, 0, none⟩) 0 0) 0 []) := by rw [hy]; exact dest_made y54 HE54.out.size _
        have HL59 : Hid (y54.heap.size < y59.heap.size) := by rw [hy]; show y54.heap.size < (y54.alloc _).heap.size; simp
        have HR59_19 : Hid (y59.ownsRow A.heap.size 260 2 (.slice a15 Rn.length k15) Rn.length (Rn.flatMap rc)) := Nd.own_below HR54_19.out hb
        have HN59_19_23 : Hid (NE (.slice a15 Rn.length k15) (y54.heap.size)) := ne_of_lt HR54_19.out (Nat.le_refl _)
        have HD59_27 : Hid (y59.ownsRow A.heap.size 2 1 (.slice (some ⟨A.heap.size, 0, none⟩) 0 0) 0 []) := Nd.own_below HD54_27.out hb; have HL59_27 : Hid (A.heap.size < y59.heap.size) := Nat.lt_of_lt_of_le HL54_27.out hb.size; have HG59_27 : Hid (A.heap.size ≠ y54.heap.size) := Nat.ne_of_lt HL54_27.out
        clear hb hy
        have q59 := HC.out _ HE59.out
        refine hK.out _ _ ?_ (fun hHeld2 => ?_)
        · with_reducible exact q59
        clear hK K hHeld q59; have hHeld := hHeld2; clear hHeld2
        try simp only [Act.put, List.setIfInBounds_toArray, List.set_cons_zero, List.set_cons_succ, List.getElem_toArray, List.getElem_cons_zero, List.getElem_cons_succ]
        clear HR54_19 HD54_27 HL54_27 HE54
        refine wpAnyH_ready (rs := [22]) (by kernel_rfl) (by simp) (AllReadyH.cons rfl (fun K hK => ?_) AllReadyH.nil)
        · skip
          go_simp
          go_at_call 93; refine (_root_.Go.Proofs.YtlolomodcbkblaaGreatDoor.Sp.runsTo_own Rp (.slice ap np cp) _ ((HI.out _ HE59.out).2.1) lRp).mono ?_; rintro e y60 ⟨v0, rfl, ho, hb⟩; obtain ⟨a16, k16, rfl⟩ := row_slice2 ho
          have HE60 : Hid (Below A.heap.size A y60) := HE59.out.trans (hb.mono HE59.out.size)
          have HR60_22 : Hid (y60.ownsRow A.heap.size 260 2 (.slice a16 Rp.length k16) Rp.length (Rp.flatMap rc)) := Nd.own_base ho HE59.out.size
          have HR60_19 : Hid (y60.ownsRow A.heap.size 260 2 (.slice a15 Rn.length k15) Rn.length (Rn.flatMap rc)) := Nd.own_below HR59_19.out hb
          have HD60_27 : Hid (y60.ownsRow A.heap.size 2 1 (.slice (some ⟨A.heap.size, 0, none⟩) 0 0) 0 []) := Nd.own_below HD59_27.out hb; have HL60_27 : Hid (A.heap.size < y60.heap.size) := Nat.lt_of_lt_of_le HL59_27.out hb.size; have HN60_22_27 : Hid (NE (.slice a16 Rp.length k16) (A.heap.size)) := ne_of_base ho HL59_27.out
          have HD60_23 : Hid (y60.ownsRow A.heap.size 2 1 (.slice (some ⟨y54.heap.size, 0, none⟩) 0 0) 0 []) := Nd.own_below HD59.out hb; have HL60_23 : Hid (y54.heap.size < y60.heap.size) := Nat.lt_of_lt_of_le HL59.out hb.size; have HN60_22_23 : Hid (NE (.slice a16 Rp.length k16) (y54.heap.size)) := ne_of_base ho HL59.out
          clear hb ho
          have q60 := HC.out _ HE60.out
          refine hK.out _ _ ?_ (fun hHeld2 => ?_)
          · with_reducible exact q60
          clear hK K hHeld q60; have hHeld := hHeld2; clear hHeld2
          try simp only [Act.put, List.setIfInBounds_toArray, List.set_cons_zero, List.set_cons_succ, List.getElem_toArray, List.getElem_cons_zero, List.getElem_cons_succ]
          clear HR59_19 HD59_27 HL59_27 HD59 HL59 HE59
          refine wpAnyH_ready (rs := [26]) (by kernel_rfl) (by simp) (AllReadyH.cons rfl (fun K hK => ?_) AllReadyH.nil)
          · skip
            refine Nd.step_of (by rfl) (.tmp 26) (.tmp 28) 34 (by rfl) A.heap.size 2 i0 (.int .i64 0) 1 8 Tryz.underlying34 hi hz0 hz1 hz2 rfl (by decide) (.slice (some ⟨y54.heap.size, 0, none⟩) 0 0) 0 [] (by rfl) HD60_23.out (c := fun z => [Value.int .i64 z]) (fun _ => rfl) HOneI.out Dn _ (by rfl) (Nd.sl_ss ((HI.out _ HE60.out).2.2.1)) (by unfold maxLen; omega) (by omega) HE60.out.size ?_; intro v0 y61 ho hg hl; rw [Nat.zero_add, List.nil_append] at ho; obtain ⟨a18, k18, rfl⟩ := row_slice2 ho
            have hg : y60.grownBy y61 (some (y54.heap.size)) := hg
            have HE61 : Hid (Below A.heap.size A y61) := HE60.out.grown hg HE60.out.size (fun j hj => by injection hj with hj; rw [← hj]; exact own_ge HD60_23.out)
            have HR61_26 : Hid (y61.ownsRow A.heap.size 2 1 (.slice a18 Dn.length k18) Dn.length (Dn.flatMap fun z => [Value.int .i64 z])) := ho
            have HR61_19 : Hid (y61.ownsRow A.heap.size 260 2 (.slice a15 Rn.length k15) Rn.length (Rn.flatMap rc)) := HR60_19.out.kept hg HN59_19_23.out
            have HR61_22 : Hid (y61.ownsRow A.heap.size 260 2 (.slice a16 Rp.length k16) Rp.length (Rp.flatMap rc)) := HR60_22.out.kept hg HN60_22_23.out
            have HD61_27 : Hid (y61.ownsRow A.heap.size 2 1 (.slice (some ⟨A.heap.size, 0, none⟩) 0 0) 0 []) := HD60_27.out.kept hg (Or.inr (fun e => HG59_27.out (by injection e))); have HL61_27 : Hid (A.heap.size < y61.heap.size) := Nat.lt_of_lt_of_le HL60_27.out hg.size; have HN61_26_27 : Hid (NE (.slice a18 Dn.length k18) (A.heap.size)) := ne_two hl (Ne.symm HG59_27.out) (Nat.ne_of_gt HL60_27.out)
            clear ho hg hl
            have q61 := HC.out _ HE61.out
            refine hK.out _ _ ?_ (fun hHeld2 => ?_)
            · with_reducible exact q61
            clear hK K hHeld q61; have hHeld := hHeld2; clear hHeld2
            try simp only [Act.put, List.setIfInBounds_toArray, List.set_cons_zero, List.set_cons_succ, List.getElem_toArray, List.getElem_cons_zero, List.getElem_cons_succ]
            clear HR60_19 HR60_22 HD60_27 HL60_27 HD60_23 HL60_23 HE60
            refine wpAnyH_ready (rs := [30]) (by kernel_rfl) (by simp) (AllReadyH.cons rfl (fun K hK => ?_) AllReadyH.nil)
            · skip
              refine Nd.step_of (by rfl) (.tmp 30) (.tmp 32) 34 (by rfl) A.heap.size 2 i0 (.int .i64 0) 1 8 Tryz.underlying34 hi hz0 hz1 hz2 rfl (by decide) (.slice (some ⟨A.heap.size, 0, none⟩) 0 0) 0 [] (by rfl) HD61_27.out (c := fun z => [Value.int .i64 z]) (fun _ => rfl) HOneI.out Dp _ (by rfl) (Nd.sl_ss ((HI.out _ HE61.out).2.2.2)) (by unfold maxLen; omega) (by omega) HE61.out.size ?_; intro v0 y62 ho hg hl; rw [Nat.zero_add, List.nil_append] at ho; obtain ⟨a19, k19, rfl⟩ := row_slice2 ho
              have hg : y61.grownBy y62 (some (A.heap.size)) := hg
              have HE62 : Hid (Below A.heap.size A y62) := HE61.out.grown hg HE61.out.size (fun j hj => by injection hj with hj; rw [← hj]; exact own_ge HD61_27.out)
              have HR62_30 : Hid (y62.ownsRow A.heap.size 2 1 (.slice a19 Dp.length k19) Dp.length (Dp.flatMap fun z => [Value.int .i64 z])) := ho
              have HR62_19 : Hid (y62.ownsRow A.heap.size 260 2 (.slice a15 Rn.length k15) Rn.length (Rn.flatMap rc)) := HR61_19.out.kept hg HN54_19_27.out
              have HR62_22 : Hid (y62.ownsRow A.heap.size 260 2 (.slice a16 Rp.length k16) Rp.length (Rp.flatMap rc)) := HR61_22.out.kept hg HN60_22_27.out
              have HR62_26 : Hid (y62.ownsRow A.heap.size 2 1 (.slice a18 Dn.length k18) Dn.length (Dn.flatMap fun z => [Value.int .i64 z])) := HR61_26.out.kept hg HN61_26_27.out
              clear ho hg hl
              have q62 := HC.out _ HE62.out
              refine hK.out _ _ ?_ (fun hHeld2 => ?_)
              · with_reducible exact q62
              clear hK K hHeld q62; have hHeld := hHeld2; clear hHeld2
              try simp only [Act.put, List.setIfInBounds_toArray, List.set_cons_zero, List.set_cons_succ, List.getElem_toArray, List.getElem_cons_zero, List.getElem_cons_succ]
              clear HR61_19 HR61_22 HR61_26 HD61_27 HL61_27 HE61
              refine Calm.take (i := 33) (v := .slice none 0 0) rfl (by kernel_rfl) (by kernel_rfl) (by kernel_rfl) (fun _ _ _ h => h) ⟨by rfl, fun W hSw => ⟨94, #[.slice none 0 0], ?_, _root_.Go.Proofs.YtlolomodcbkblaaGreatDoor.Mt.marksFrom_nil _ _ W⟩⟩ hHeld ?_
              · go_simp; (try with_reducible rfl)
              try simp only [Act.put, List.setIfInBounds_toArray, List.set_cons_zero, List.set_cons_succ, List.getElem_toArray, List.getElem_cons_zero, List.getElem_cons_succ]
              refine wpAnyH_take (i := 34) (v := ?_) rfl (by kernel_rfl) (by kernel_rfl) (by kernel_rfl) (fun _ _ _ h => h) (Or.inl ⟨by rfl, ?_⟩) hHeld ?_
              rotate_left
              · intro w hSw; (try dsimp only at hSw); go_simp; (try with_reducible rfl)
              try simp only [Act.put, List.setIfInBounds_toArray, List.set_cons_zero, List.set_cons_succ, List.getElem_toArray, List.getElem_cons_zero, List.getElem_cons_succ]
              refine wpAnyH_ready (rs := [35]) (by kernel_rfl) (by simp) (AllReadyH.cons rfl (fun K hK => ?_) AllReadyH.nil)
              rw [if_pos (by rfl)]
              refine Big.wp_store_whole _ _ _ rfl (w.heap.size + 1) 52 #[.int .u64 0, .float .f64 0, .slice none 0 0, .int .i64 0, .bool false, .int .i32 0, .float .f64 0, .int .u64 0, .slice none 0 0, .slice none 0 0, .slice none 0 0, .slice none 0 0, .slice none 0 0] #[.int .u64 count, .float .f64 z, .slice none 0 0, .int .i64 0, .bool true, .int .i32 sch, .float .f64 zt, .int .u64 zc, .slice a15 Rn.length k15, .slice a16 Rp.length k16, .slice a18 Dn.length k18, .slice a19 Dp.length k19, .slice none 0 0] rfl rfl (HD.out _ HE62.out) rfl hsz (by simp [Value.oneCell']) ?_; intro yf hx hg hs
              have HF := Lib.hid (HOut.out _ _ _ _ _ _ _ _ _ HE62.out HR62_19.out HR62_22.out HR62_26.out HR62_30.out yf hg hs); have q9 := HF.out.2; have HXf := Lib.hid hx; clear hx hg hs
              refine hK.out _ _ ?_ (fun hHeld2 => ?_)
              · with_reducible exact q9
              clear hK K hHeld; have hHeld := hHeld2; clear hHeld2
              try simp only [Act.put, List.setIfInBounds_toArray, List.set_cons_zero, List.set_cons_succ, List.getElem_toArray, List.getElem_cons_zero, List.getElem_cons_succ]
              refine wpAnyH_done (by kernel_rfl) ?_ _
              refine NoPanic.normal ?_
              clear q9
              go_wp2_with fail
              exact bodyPost_ret (v := .agg #[.int .u64 count, .float .f64 z, .slice none 0 0, .int .i64 0, .bool true, .int .i32 sch, .float .f64 zt, .int .u64 zc, .slice a15 Rn.length k15, .slice a16 Rp.length k16, .slice a18 Dn.length k18, .slice a19 Dp.length k19, .slice none 0 0]) (Mt.res1 Tryz.results49 _ _ _ _ _ rfl (Big.loaded_whole 52 (w.heap.size + 1) 52 _ HXf.out _ Tryz.underlying52 rfl hsz)) rfl HF.out.1
    · skip
      go_simp
      obtain ⟨y63, hy⟩ : ∃ y, y = (y53.alloc (.cells #[] 2)) := ⟨_, rfl⟩; rw [← hy]
      have hb : Below y53.heap.size y53 y63 := by rw [hy]; exact (Below.refl _ _).alloc (Nat.le_refl _) _
      have HE63 : Hid (Below A.heap.size A y63) := HE53.out.trans (hb.mono HE53.out.size)
      have HD63 : Hid (y63.ownsRow A.heap.size 2 1 (.slice (some ⟨y53.heap.size, 0, none⟩) 0 0) 0 []) := by rw [hy]; exact dest_made y53 HE53.out.size _
      have HL63 : Hid (y53.heap.size < y63.heap.size) := by rw [hy]; show y53.heap.size < (y53.alloc _).heap.size; simp
      have HD63_27 : Hid (y63.ownsRow A.heap.size 2 1 (.slice (some ⟨A.heap.size, 0, none⟩) 0 0) 0 []) := Nd.own_below HD53.out hb; have HL63_27 : Hid (A.heap.size < y63.heap.size) := Nat.lt_of_lt_of_le HL53.out hb.size; have HG63_27 : Hid (A.heap.size ≠ y53.heap.size) := Nat.ne_of_lt HL53.out
      clear hb hy
      have q63 := HC.out _ HE63.out
      refine hK.out _ _ ?_ (fun hHeld2 => ?_)
      · with_reducible exact q63
      clear hK K hHeld q63; have hHeld := hHeld2; clear hHeld2
      try simp only [Act.put, List.setIfInBounds_toArray, List.set_cons_zero, List.set_cons_succ, List.getElem_toArray, List.getElem_cons_zero, List.getElem_cons_succ]
      clear HD53 HL53 HE53
      refine wpAnyH_ready (rs := [19]) (by kernel_rfl) (by simp) (AllReadyH.cons rfl (fun K hK => ?_) AllReadyH.nil)
      · skip
        go_simp
        go_at_call 93; refine (_root_.Go.Proofs.YtlolomodcbkblaaGreatDoor.Sp.runsTo_own Rn (.slice an nn cn) _ ((HI.out _ HE63.out).1) lRn).mono ?_; rintro e y64 ⟨v0, rfl, ho, hb⟩; obtain ⟨a15, k15, rfl⟩ := row_slice2 ho
        have HE64 : Hid (Below A.heap.size A y64) := HE63.out.trans (hb.mono HE63.out.size)
        have HR64_19 : Hid (y64.ownsRow A.heap.size 260 2 (.slice a15 Rn.length k15) Rn.length (Rn.flatMap rc)) := Nd.own_base ho HE63.out.size
        have HD64_27 : Hid (y64.ownsRow A.heap.size 2 1 (.slice (some ⟨A.heap.size, 0, none⟩) 0 0) 0 []) := Nd.own_below HD63_27.out hb; have HL64_27 : Hid (A.heap.size < y64.heap.size) := Nat.lt_of_lt_of_le HL63_27.out hb.size; have HN64_19_27 : Hid (NE (.slice a15 Rn.length k15) (A.heap.size)) := ne_of_base ho HL63_27.out
        have HD64_23 : Hid (y64.ownsRow A.heap.size 2 1 (.slice (some ⟨y53.heap.size, 0, none⟩) 0 0) 0 []) := Nd.own_below HD63.out hb; have HL64_23 : Hid (y53.heap.size < y64.heap.size) := Nat.lt_of_lt_of_le HL63.out hb.size; have HN64_19_23 : Hid (NE (.slice a15 Rn.length k15) (y53.heap.size)) := ne_of_base ho HL63.out
        clear hb ho
        have q64 := HC.out _ HE64.out
        refine hK.out _ _ ?_ (fun hHeld2 => ?_)
        · with_reducible exact q64
        clear hK K hHeld q64; have hHeld := hHeld2; clear hHeld2
        try simp only [Act.put, List.setIfInBounds_toArray, List.set_cons_zero, List.set_cons_succ, List.getElem_toArray, List.getElem_cons_zero, List.getElem_cons_succ]
        clear HD63_27 HL63_27 HD63 HL63 HE63
        refine wpAnyH_ready (rs := [22]) (by kernel_rfl) (by simp) (AllReadyH.cons rfl (fun K hK => ?_) AllReadyH.nil)
        · skip
          go_simp
          go_at_call 93; refine (_root_.Go.Proofs.YtlolomodcbkblaaGreatDoor.Sp.runsTo_own Rp (.slice ap np cp) _ ((HI.out _ HE64.out).2.1) lRp).mono ?_; rintro e y65 ⟨v0, rfl, ho, hb⟩; obtain ⟨a16, k16, rfl⟩ := row_slice2 ho
          have HE65 : Hid (Below A.heap.size A y65) := HE64.out.trans (hb.mono HE64.out.size)
          have HR65_22 : Hid (y65.ownsRow A.heap.size 260 2 (.slice a16 Rp.length k16) Rp.length (Rp.flatMap rc)) := Nd.own_base ho HE64.out.size
          have HR65_19 : Hid (y65.ownsRow A.heap.size 260 2 (.slice a15 Rn.length k15) Rn.length (Rn.flatMap rc)) := Nd.own_below HR64_19.out hb
          have HD65_27 : Hid (y65.ownsRow A.heap.size 2 1 (.slice (some ⟨A.heap.size, 0, none⟩) 0 0) 0 []) := Nd.own_below HD64_27.out hb; have HL65_27 : Hid (A.heap.size < y65.heap.size) := Nat.lt_of_lt_of_le HL64_27.out hb.size; have HN65_22_27 : Hid (NE (.slice a16 Rp.length k16) (A.heap.size)) := ne_of_base ho HL64_27.out
          have HD65_23 : Hid (y65.ownsRow A.heap.size 2 1 (.slice (some ⟨y53.heap.size, 0, none⟩) 0 0) 0 []) := Nd.own_below HD64_23.out hb; have HL65_23 : Hid (y53.heap.size < y65.heap.size) := Nat.lt_of_lt_of_le HL64_23.out hb.size; have HN65_22_23 : Hid (NE (.slice a16 Rp.length k16) (y53.heap.size)) := ne_of_base ho HL64_23.out
          clear hb ho
          have q65 := HC.out _ HE65.out
          refine hK.out _ _ ?_ (fun hHeld2 => ?_)
          · with_reducible exact q65
          clear hK K hHeld q65; have hHeld := hHeld2; clear hHeld2
          try simp only [Act.put, List.setIfInBounds_toArray, List.set_cons_zero, List.set_cons_succ, List.getElem_toArray, List.getElem_cons_zero, List.getElem_cons_succ]
          clear HR64_19 HD64_27 HL64_27 HD64_23 HL64_23 HE64
          refine wpAnyH_ready (rs := [26]) (by kernel_rfl) (by simp) (AllReadyH.cons rfl (fun K hK => ?_) AllReadyH.nil)
          · skip
            refine Nd.step_of (by rfl) (.tmp 26) (.tmp 28) 34 (by rfl) A.heap.size 2 i0 (.int .i64 0) 1 8 Tryz.underlying34 hi hz0 hz1 hz2 rfl (by decide) (.slice (some ⟨y53.heap.size, 0, none⟩) 0 0) 0 [] (by rfl) HD65_23.out (c := fun z => [Value.int .i64 z]) (fun _ => rfl) HOneI.out Dn _ (by rfl) (Nd.sl_ss ((HI.out _ HE65.out).2.2.1)) (by unfold maxLen; omega) (by omega) HE65.out.size ?_; intro v0 y66 ho hg hl; rw [Nat.zero_add, List.nil_append] at ho; obtain ⟨a18, k18, rfl⟩ := row_slice2 ho
            have hg : y65.grownBy y66 (some (y53.heap.size)) := hg
            have HE66 : Hid (Below A.heap.size A y66) := HE65.out.grown hg HE65.out.size (fun j hj => by injection hj with hj; rw [← hj]; exact own_ge HD65_23.out)
            have HR66_26 : Hid (y66.ownsRow A.heap.size 2 1 (.slice a18 Dn.length k18) Dn.length (Dn.flatMap fun z => [Value.int .i64 z])) := ho
            have HR66_19 : Hid (y66.ownsRow A.heap.size 260 2 (.slice a15 Rn.length k15) Rn.length (Rn.flatMap rc)) := HR65_19.out.kept hg HN64_19_23.out
            have HR66_22 : Hid (y66.ownsRow A.heap.size 260 2 (.slice a16 Rp.length k16) Rp.length (Rp.flatMap rc)) := HR65_22.out.kept hg HN65_22_23.out
            have HD66_27 : Hid (y66.ownsRow A.heap.size 2 1 (.slice (some ⟨A.heap.size, 0, none⟩) 0 0) 0 []) := HD65_27.out.kept hg (Or.inr (fun e => HG63_27.out (by injection e))); have HL66_27 : Hid (A.heap.size < y66.heap.size) := Nat.lt_of_lt_of_le HL65_27.out hg.size; have HN66_26_27 : Hid (NE (.slice a18 Dn.length k18) (A.heap.size)) := ne_two hl (Ne.symm HG63_27.out) (Nat.ne_of_gt HL65_27.out)
            clear ho hg hl
            have q66 := HC.out _ HE66.out
            refine hK.out _ _ ?_ (fun hHeld2 => ?_)
            · with_reducible exact q66
            clear hK K hHeld q66; have hHeld := hHeld2; clear hHeld2
            try simp only [Act.put, List.setIfInBounds_toArray, List.set_cons_zero, List.set_cons_succ, List.getElem_toArray, List.getElem_cons_zero, List.getElem_cons_succ]
            clear HR65_19 HR65_22 HD65_27 HL65_27 HD65_23 HL65_23 HE65
            refine wpAnyH_ready (rs := [30]) (by kernel_rfl) (by simp) (AllReadyH.cons rfl (fun K hK => ?_) AllReadyH.nil)
            · skip
              refine Nd.step_of (by rfl) (.tmp 30) (.tmp 32) 34 (by rfl) A.heap.size 2 i0 (.int .i64 0) 1 8 Tryz.underlying34 hi hz0 hz1 hz2 rfl (by decide) (.slice (some ⟨A.heap.size, 0, none⟩) 0 0) 0 [] (by rfl) HD66_27.out (c := fun z => [Value.int .i64 z]) (fun _ => rfl) HOneI.out Dp _ (by rfl) (Nd.sl_ss ((HI.out _ HE66.out).2.2.2)) (by unfold maxLen; omega) (by omega) HE66.out.size ?_; intro v0 y67 ho hg hl; rw [Nat.zero_add, List.nil_append] at ho; obtain ⟨a19, k19, rfl⟩ := row_slice2 ho
              have hg : y66.grownBy y67 (some (A.heap.size)) := hg
              have HE67 : Hid (Below A.heap.size A y67) := HE66.out.grown hg HE66.out.size (fun j hj => by injection hj with hj; rw [← hj]; exact own_ge HD66_27.out)
              have HR67_30 : Hid (y67.ownsRow A.heap.size 2 1 (.slice a19 Dp.length k19) Dp.length (Dp.flatMap fun z => [Value.int .i64 z])) := ho
              have HR67_19 : Hid (y67.ownsRow A.heap.size 260 2 (.slice a15 Rn.length k15) Rn.length (Rn.flatMap rc)) := HR66_19.out.kept hg HN64_19_27.out
              have HR67_22 : Hid (y67.ownsRow A.heap.size 260 2 (.slice a16 Rp.length k16) Rp.length (Rp.flatMap rc)) := HR66_22.out.kept hg HN65_22_27.out
              have HR67_26 : Hid (y67.ownsRow A.heap.size 2 1 (.slice a18 Dn.length k18) Dn.length (Dn.flatMap fun z => [Value.int .i64 z])) := HR66_26.out.kept hg HN66_26_27.out
              clear ho hg hl
              have q67 := HC.out _ HE67.out
              refine hK.out _ _ ?_ (fun hHeld2 => ?_)
              · with_reducible exact q67
              clear hK K hHeld q67; have hHeld := hHeld2; clear hHeld2
              try simp only [Act.put, List.setIfInBounds_toArray, List.set_cons_zero, List.set_cons_succ, List.getElem_toArray, List.getElem_cons_zero, List.getElem_cons_succ]
              clear HR66_19 HR66_22 HR66_26 HD66_27 HL66_27 HE66
              refine Calm.take (i := 33) (v := .slice none 0 0) rfl (by kernel_rfl) (by kernel_rfl) (by kernel_rfl) (fun _ _ _ h => h) ⟨by rfl, fun W hSw => ⟨94, #[.slice none 0 0], ?_, _root_.Go.Proofs.YtlolomodcbkblaaGreatDoor.Mt.marksFrom_nil _ _ W⟩⟩ hHeld ?_
              · go_simp; (try with_reducible rfl)
              try simp only [Act.put, List.setIfInBounds_toArray, List.set_cons_zero, List.set_cons_succ, List.getElem_toArray, List.getElem_cons_zero, List.getElem_cons_succ]
              refine wpAnyH_take (i := 34) (v := ?_) rfl (by kernel_rfl) (by kernel_rfl) (by kernel_rfl) (fun _ _ _ h => h) (Or.inl ⟨by rfl, ?_⟩) hHeld ?_
              rotate_left
              · intro w hSw; (try dsimp only at hSw); go_simp; (try with_reducible rfl)
              try simp only [Act.put, List.setIfInBounds_toArray, List.set_cons_zero, List.set_cons_succ, List.getElem_toArray, List.getElem_cons_zero, List.getElem_cons_succ]
              refine wpAnyH_ready (rs := [35]) (by kernel_rfl) (by simp) (AllReadyH.cons rfl (fun K hK => ?_) AllReadyH.nil)
              rw [if_pos (by rfl)]
              refine Big.wp_store_whole _ _ _ rfl (w.heap.size + 1) 52 #[.int .u64 0, .float .f64 0, .slice none 0 0, .int .i64 0, .bool false, .int .i32 0, .float .f64 0, .int .u64 0, .slice none 0 0, .slice none 0 0, .slice none 0 0, .slice none 0 0, .slice none 0 0] #[.int .u64 count, .float .f64 z, .slice none 0 0, .int .i64 0, .bool true, .int .i32 sch, .float .f64 zt, .int .u64 zc, .slice a15 Rn.length k15, .slice a16 Rp.length k16, .slice a18 Dn.length k18, .slice a19 Dp.length k19, .slice none 0 0] rfl rfl (HD.out _ HE67.out) rfl hsz (by simp [Value.oneCell']) ?_; intro yf hx hg hs
              have HF := Lib.hid (HOut.out _ _ _ _ _ _ _ _ _ HE67.out HR67_19.out HR67_22.out HR67_26.out HR67_30.out yf hg hs); have q9 := HF.out.2; have HXf := Lib.hid hx; clear hx hg hs
              refine hK.out _ _ ?_ (fun hHeld2 => ?_)
              · with_reducible exact q9
              clear hK K hHeld; have hHeld := hHeld2; clear hHeld2
              try simp only [Act.put, List.setIfInBounds_toArray, List.set_cons_zero, List.set_cons_succ, List.getElem_toArray, List.getElem_cons_zero, List.getElem_cons_succ]
              refine wpAnyH_done (by kernel_rfl) ?_ _
              refine NoPanic.normal ?_
              clear q9
              go_wp2_with fail
              exact bodyPost_ret (v := .agg #[.int .u64 count, .float .f64 z, .slice none 0 0, .int .i64 0, .bool true, .int .i32 sch, .float .f64 zt, .int .u64 zc, .slice a15 Rn.length k15, .slice a16 Rp.length k16, .slice a18 Dn.length k18, .slice a19 Dp.length k19, .slice none 0 0]) (Mt.res1 Tryz.results49 _ _ _ _ _ rfl (Big.loaded_whole 52 (w.heap.size + 1) 52 _ HXf.out _ Tryz.underlying52 rfl hsz)) rfl HF.out.1

end Go.Proofs.YtlolomodcbkblaaGreatDoor.Cn
