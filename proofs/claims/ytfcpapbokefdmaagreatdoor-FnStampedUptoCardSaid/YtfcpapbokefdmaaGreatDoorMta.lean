/- Metrics: a single value laid into a metric (dto.Of, populateMetric). -/
import Derived.Test.YtfcpapbokefdmaaGreatDoorNla
import Derived.Test.YtfcpapbokefdmaaGreatDoorMtk
set_option linter.unusedVariables false
set_option linter.unusedSimpArgs false
namespace Go.Proofs.YtfcpapbokefdmaaGreatDoor.Mt
open Go.RowKit Go.Maps Go.WideMaps Go.ChangeShapes Go.WideShapes Go.Deep Fp Obs _root_.Go.Proofs.YtfcpapbokefdmaaGreatDoor.Nd

abbrev ptr (b : Nat) : Value := .pointer (some ⟨b, 0, none⟩)
abbrev nilp : Value := .pointer none
/-- the cells of a metric with a single value -/
def mcs (lv : Value) (kind : Int) (vb : Nat) (ts : Value) : Array Value :=
  #[lv, if kind = 1 then ptr vb else nilp, if kind = 0 then ptr vb else nilp, nilp, if kind = 3 then ptr vb else nilp, nilp, ts]
theorem mcs0 (lv : Value) (vb : Nat) (ts : Value) : mcs lv 0 vb ts = #[lv, nilp, ptr vb, nilp, nilp, nilp, ts] := rfl
theorem mcs1 (lv : Value) (vb : Nat) (ts : Value) : mcs lv 1 vb ts = #[lv, ptr vb, nilp, nilp, nilp, nilp, ts] := rfl
theorem mcs3 (lv : Value) (vb : Nat) (ts : Value) : mcs lv 3 vb ts = #[lv, nilp, nilp, nilp, ptr vb, nilp, ts] := rfl
/-- the value's block, with what belongs to it -/
structure ValAt (W : World) (kind : Int) (vb f : Nat) (val : Nat) (ct : Value) : Prop where
  v0 : W.cell? ⟨vb, 0, none⟩ = some (ptr f)
  v1 : kind = 0 → W.cell? ⟨vb, 1, none⟩ = some nilp
  v2 : kind = 0 → W.cell? ⟨vb, 2, none⟩ = some ct
  fv : W.cell? ⟨f, 0, none⟩ = some (.float .f64 val)
  lt : vb < W.heap.size ∧ f < W.heap.size
theorem ValAt.below {W W' : World} {kind : Int} {vb f val : Nat} {ct : Value} (h : ValAt W kind vb f val ct) (k : Below W.heap.size W W') : ValAt W' kind vb f val ct :=
  ⟨(k.cell (p := ⟨vb, 0, none⟩) h.lt.1).trans h.v0, fun e => (k.cell (p := ⟨vb, 1, none⟩) h.lt.1).trans (h.v1 e), fun e => (k.cell (p := ⟨vb, 2, none⟩) h.lt.1).trans (h.v2 e), (k.cell (p := ⟨f, 0, none⟩) h.lt.2).trans h.fv, Nat.lt_of_lt_of_le h.lt.1 k.size, Nat.lt_of_lt_of_le h.lt.2 k.size⟩
theorem ofFloat_any (val : Nat) (w : World) : Calls Tryz.prog 94 #[.float .f64 val] w fun e w' => e = .returned (ptr w.heap.size) ∧ w' = w.alloc (.cells #[.float .f64 val] 50) := by
  go_enter Tryz.func94, Tryz.ntmps94
  go_wp2
  go_ret
  exact ⟨rfl, rfl⟩
/-- the metric in block b filled; nothing else that was there has changed -/
def PopOut (lv : Value) (kind : Int) (val b : Nat) (ct : Value) (w : World) (e : Ending) (w' : World) : Prop :=
  e = .returned .nilIface ∧ Whole w' b 155 (mcs lv kind (w.heap.size + 1) nilp) ∧ ValAt w' kind (w.heap.size + 1) w.heap.size val ct ∧ w.grownBy w' (some b)
theorem pop_fin {lv : Value} {kind : Int} {val b : Nat} {ct : Value} {w : World} (T2 : TypeId) (cs : Array Value) (i j : Nat) (u0 u : Value) (hb : Whole w b 155 #[.slice none 0 0, nilp, nilp, nilp, nilp, nilp, nilp])
    (hc : ((#[.slice none 0 0, nilp, nilp, nilp, nilp, nilp, nilp] : Array Value).setIfInBounds i u0).setIfInBounds j u = mcs lv kind (w.heap.size + 1) nilp) (h0 : cs[0]? = some (ptr w.heap.size)) (h1 : kind = 0 → cs[1]? = some nilp) (h2 : kind = 0 → cs[2]? = some ct) :
    PopOut lv kind val b ct w (.returned .nilIface) ((((w.setCell ⟨b, i, none⟩ u0).setCell ⟨b, j, none⟩ u).alloc (.cells #[.float .f64 val] 50)).alloc (.cells cs T2)) := by
  obtain ⟨W0, hW0⟩ : ∃ W0, W0 = (w.setCell ⟨b, i, none⟩ u0).setCell ⟨b, j, none⟩ u := ⟨_, rfl⟩
  have hs : W0.heap.size = w.heap.size := by rw [hW0]; simp [World.setCell]
  have hg : w.grownBy W0 (some b) := by
    rw [hW0]
    refine ⟨rfl, rfl, rfl, by simp [World.setCell], fun k hk hne => ?_⟩
    have hkb : k ≠ b := by rintro rfl; exact hne rfl
    rw [Below.heap_setCell _ ⟨b, j, none⟩ _ k hkb, Below.heap_setCell _ ⟨b, i, none⟩ _ k hkb]
  have hW : Whole W0 b 155 (mcs lv kind (w.heap.size + 1) nilp) := by rw [hW0, ← hc]; exact (hb.put i u0).put j u
  rw [← hW0]
  clear hW0 hc
  have s1 : (W0.alloc (.cells #[.float .f64 val] 50)).heap.size = w.heap.size + 1 := by simp [hs]
  have hq : Below w.heap.size W0 ((W0.alloc (.cells #[.float .f64 val] 50)).alloc (.cells cs T2)) := ((Below.refl _ _).alloc (by omega) _).alloc (by rw [s1]; omega) _
  have e1 : ∀ k, ((W0.alloc (.cells #[.float .f64 val] 50)).alloc (.cells cs T2)).cell? ⟨w.heap.size + 1, k, none⟩ = cs[k]? := fun k => by rw [← s1]; exact Sl.cell_new _ _ _ k
  have e2 : ((W0.alloc (.cells #[.float .f64 val] 50)).alloc (.cells cs T2)).cell? ⟨w.heap.size, 0, none⟩ = some (.float .f64 val) := by
    rw [Sl.cell_old _ _ _ _ (by rw [s1]; omega), ← hs]; exact Sl.cell_new W0 _ _ 0
  have hlt : b < w.heap.size := hb.lt
  refine ⟨rfl, (hq.block b hlt).trans hW, ⟨by rw [e1, h0], fun h => by rw [e1, h1 h], fun h => by rw [e1, h2 h], e2, by simp [hs]; omega⟩, ⟨hg.os, hg.tape, hg.output, by simp [hs]; omega, fun k hk hne => ?_⟩⟩
  rw [hq.block k hk]
  exact hg.block k hk hne
set_option maxHeartbeats 4000000 in
set_option maxRecDepth 100000 in
theorem populate_any (al : Option Addr) (nl cl : Nat) (kind : Int) (hk : kind = 0 ∨ kind = 1 ∨ kind = 3) (val b : Nat) (ct : Option Addr) (w : World) (hb : Whole w b 155 #[.slice none 0 0, nilp, nilp, nilp, nilp, nilp, nilp]) :
    Calls Tryz.prog 82 #[.int .i64 (typeOf kind), .float .f64 val, .slice al nl cl, nilp, ptr b, .pointer ct] w (PopOut (.slice al nl cl) kind val b (.pointer ct) w) := by
  have hlt := hb.lt
  have c0 : w.cell? ⟨b, 0, none⟩ = some (.slice none 0 0) := hb.cell 0
  have f0 := hb.free 0
  have c1 : w.cell? ⟨b, 1, none⟩ = some nilp := hb.cell 1
  have f1 := hb.free 1
  have c2 : w.cell? ⟨b, 2, none⟩ = some nilp := hb.cell 2
  have f2 := hb.free 2
  have c4 : w.cell? ⟨b, 4, none⟩ = some nilp := hb.cell 4
  have f4 := hb.free 4
  have HB := Lib.hid hb
  clear hb
  rcases hk with rfl | rfl | rfl
  · show Calls _ _ #[.int .i64 1, _, _, _, _, _] _ _
    go_enter Tryz.func82, Tryz.ntmps82
    go_wp2_with (go_at_call 94; refine (ofFloat_any _ _).mono ?_; rintro e w' ⟨rfl, rfl⟩)
    go_ret
    exact pop_fin 187 #[ptr w.heap.size, nilp, .pointer ct] 0 2 _ _ HB.out rfl rfl (fun _ => rfl) (fun _ => rfl)
  · show Calls _ _ #[.int .i64 2, _, _, _, _, _] _ _
    go_enter Tryz.func82, Tryz.ntmps82
    go_wp2_with (go_at_call 94; refine (ofFloat_any _ _).mono ?_; rintro e w' ⟨rfl, rfl⟩)
    go_ret
    exact pop_fin 190 #[ptr w.heap.size] 0 1 _ _ HB.out rfl rfl (fun h => by cases h) (fun h => by cases h)
  · show Calls _ _ #[.int .i64 3, _, _, _, _, _] _ _
    go_enter Tryz.func82, Tryz.ntmps82
    go_wp2_with (go_at_call 94; refine (ofFloat_any _ _).mono ?_; rintro e w' ⟨rfl, rfl⟩)
    go_ret
    exact pop_fin 191 #[ptr w.heap.size] 0 4 _ _ HB.out rfl rfl (fun h => by cases h) (fun h => by cases h)

end Go.Proofs.YtfcpapbokefdmaaGreatDoor.Mt
