/- Gauges: their methods (Add, Inc, Dec, Sub, Set): the cell that holds the value's bits is written, nothing else. -/
import Derived.Test.YtlolomodcbkblaaGreatDoorMg1
import Derived.Test.YtlolomodcbkblaaGreatDoorMtd
import Derived.Laws.LoneSync
set_option linter.unusedVariables false
set_option linter.unusedSimpArgs false
namespace Go.Proofs.YtlolomodcbkblaaGreatDoor.Gg
open Go.RowKit Go.Maps Go.WideMaps Go.ChangeShapes Go.WideShapes Go.Deep Fp Obs Plf Flo _root_.Go.Proofs.YtlolomodcbkblaaGreatDoor.Nd _root_.Go.Proofs.YtlolomodcbkblaaGreatDoor.Mt

/-- a gauge's cells -/
def gcs (z : Nat) (self lv : Value) (d : Nat) : Array Value := #[.int .u64 (z : Int), self, ptr d, lv]
def Gauge (W : World) (g z : Nat) (self lv : Value) (d : Nat) : Prop := Whole W g 192 (gcs z self lv d)

theorem load_u64 (a : Addr) (z : Nat) (W : World) (h : W.cell? a = some (.int .u64 (z : Int))) : (callFunc 257 #[.pointer (some a)]).run Tryz.prog W = .ok (.value (.int .u64 (z : Int))) W :=
  run_call_load Tryz.func257 (by kernel_rfl) (by kernel_rfl) (by kernel_rfl) .u64 (by kernel_rfl) h
theorem cas_u64 (a : Addr) (z y : Nat) (W : World) (h : W.cell? a = some (.int .u64 (z : Int))) (hf : W.frozen? a = false) : (callFunc 260 #[.pointer (some a), .int .u64 (z : Int), .int .u64 (y : Int)]).run Tryz.prog W = .ok (.value (.bool true)) (W.setCell a (.int .u64 (y : Int))) :=
  run_call_cas_hit Tryz.func260 (by kernel_rfl) (by kernel_rfl) (by kernel_rfl) .u64 (by kernel_rfl) h hf
theorem store_u64 (a : Addr) (u : Value) (y : Nat) (W : World) (h : W.cell? a = some u) (hf : W.frozen? a = false) : (callFunc 261 #[.pointer (some a), .int .u64 (y : Int)]).run Tryz.prog W = .ok (.value (.tuple #[])) (W.setCell a (.int .u64 (y : Int))) :=
  run_call_store Tryz.func261 (by kernel_rfl) (by kernel_rfl) (by kernel_rfl) (by kernel_rfl) h hf

theorem grown1 (w : World) (b i : Nat) (u : Value) : w.grownBy (w.setCell ⟨b, i, none⟩ u) (some b) :=
  ⟨rfl, rfl, rfl, by simp [World.setCell], fun k hk hne => Below.heap_setCell _ ⟨b, i, none⟩ _ k (by rintro rfl; exact hne rfl)⟩
theorem Gauge.drew {W : World} {g z : Nat} {self lv : Value} {d : Nat} (h : Gauge W g z self lv d) : Gauge W.drew g z self lv d := h
/-- what a method that sets the value does -/
def SetOut (o : Option Nat) (g : Nat) (self lv : Value) (d : Nat) (W : World) (e : Ending) (w' : World) : Prop :=
  e = .returned (.tuple #[]) ∧ ∃ r, Rep o r ∧ Gauge w' g r self lv d ∧ W.grownBy w' (some g)
theorem set_out {W W' : World} {g z r : Nat} {self lv : Value} {d : Nat} (h : Gauge W g z self lv d) (hw : W' = W ∨ W' = W.drew) :
    Gauge (W'.setCell ⟨g, 0, none⟩ (.int .u64 (r : Int))) g r self lv d ∧ W.grownBy (W'.setCell ⟨g, 0, none⟩ (.int .u64 (r : Int))) (some g) := by
  have h' : Gauge W' g z self lv d := by
    rcases hw with rfl | rfl
    · exact h
    · exact h.drew
  refine ⟨Whole.put h' 0 _, ?_⟩
  rcases hw with rfl | rfl
  · exact grown1 _ _ _ _
  · have := grown1 W.drew g 0 (.int .u64 (r : Int))
    exact ⟨this.os, this.tape, this.output, this.size, this.block⟩

set_option maxHeartbeats 4000000 in
set_option maxRecDepth 100000 in
theorem add_any (g z x d : Nat) (self lv : Value) (W : World) (h : Gauge W g z self lv d) :
    Calls Tryz.prog 248 #[ptr g, .float .f64 x] W (SetOut (D.add z x) g self lv d W) := by
  have k1 : W.cell? ⟨g, 0, none⟩ = some (.int .u64 (z : Int)) := h.cell 0
  have c1 := load_u64 ⟨g, 0, none⟩ z W k1
  have c2 := call_from (z : Int) W
  rw [Int.toNat_natCast] at c2
  obtain ⟨r, W', hr, hrep, hw, hlt⟩ := run_any (P := Tryz.prog) .add (Or.inl rfl) 24 z x W
  have hG' : Gauge W' g z self lv d := by
    rcases hw with rfl | rfl
    · exact h
    · exact h.drew
  have k2 : W'.cell? ⟨g, 0, none⟩ = some (.int .u64 (z : Int)) := hG'.cell 0
  have f2 : W'.frozen? ⟨g, 0, none⟩ = false := hG'.free 0
  have c3 := call_bits r W'
  have c4 := cas_u64 ⟨g, 0, none⟩ z r W' k2 f2
  have HO : Hid (SetOut (D.add z x) g self lv d W (.returned (.tuple #[])) (W'.setCell ⟨g, 0, none⟩ (.int .u64 (r : Int)))) := ⟨rfl, r, hrep, set_out h hw⟩
  clear h hrep hw hlt hG'
  go_enter Tryz.func248, Tryz.ntmps248
  go_wp2_with fail
  go_loopw [] (fun wr => wr = W) (fun _ => 0)
  case atStart => rfl
  case round =>
    subst hrel
    go_wp2_with fail
    exact bodyPost_ret (v := .tuple #[]) (by simp [results, Tryz.results248, go_sem]) rfl HO.out

set_option maxHeartbeats 4000000 in
set_option maxRecDepth 100000 in
theorem inc_any (g z d : Nat) (self lv : Value) (W : World) (h : Gauge W g z self lv d) :
    Calls Tryz.prog 253 #[ptr g] W (SetOut (D.add z ONE) g self lv d W) := by
  have C := Lib.hid (add_any g z ONE d self lv W h)
  clear h
  go_enter Tryz.func253, Tryz.ntmps253
  go_wp2_with fail
  refine C.out.mono ?_
  rintro e w1 ⟨rfl, h1⟩
  have H := Lib.hid h1
  clear h1
  go_wp2_with fail
  exact bodyPost_ret (v := .tuple #[]) (by simp [results, Tryz.results253, go_sem]) rfl ⟨rfl, H.out⟩
set_option maxHeartbeats 4000000 in
set_option maxRecDepth 100000 in
theorem dec_any (g z d : Nat) (self lv : Value) (W : World) (h : Gauge W g z self lv d) :
    Calls Tryz.prog 250 #[ptr g] W (SetOut (D.add z NEG1) g self lv d W) := by
  have C := Lib.hid (add_any g z NEG1 d self lv W h)
  clear h
  go_enter Tryz.func250, Tryz.ntmps250
  go_wp2_with fail
  refine C.out.mono ?_
  rintro e w1 ⟨rfl, h1⟩
  have H := Lib.hid h1
  clear h1
  go_wp2_with fail
  exact bodyPost_ret (v := .tuple #[]) (by simp [results, Tryz.results250, go_sem]) rfl ⟨rfl, H.out⟩
set_option maxHeartbeats 4000000 in
set_option maxRecDepth 100000 in
theorem sub_any (g z x d : Nat) (self lv : Value) (W : World) (h : Gauge W g z self lv d) :
    Calls Tryz.prog 255 #[ptr g, .float .f64 x] W (SetOut (addO (some z) (negO x)) g self lv d W) := by
  obtain ⟨m, W', hr, hrep, hw, hlt⟩ := run_any (P := Tryz.prog) .mul (Or.inr (Or.inr (Or.inl rfl))) 24 x NEG1 W
  have hG' : Gauge W' g z self lv d := by
    rcases hw with rfl | rfl
    · exact h
    · exact h.drew
  have C := Lib.hid (add_any g z m d self lv W' hG')
  have HO : Hid (∀ e w', SetOut (D.add z m) g self lv d W' e w' → SetOut (addO (some z) (negO x)) g self lv d W e w') := fun e w' ⟨he, r, h1, h3, h4⟩ => by
    have hR : Rep (negO x) m := hrep
    refine ⟨he, r, (Rep.of z).add hR h1, h3, ?_⟩
    rcases hw with rfl | rfl
    · exact h4
    · exact ⟨h4.os, h4.tape, h4.output, h4.size, h4.block⟩
  clear h hrep hw hlt hG'
  go_enter Tryz.func255, Tryz.ntmps255
  go_wp2_with fail
  refine C.out.mono ?_
  rintro e w1 h1
  have H := Lib.hid (HO.out _ _ h1)
  obtain ⟨rfl, h2⟩ := h1
  clear h2
  go_wp2_with fail
  exact bodyPost_ret (v := .tuple #[]) (by simp [results, Tryz.results255, go_sem]) rfl H.out
set_option maxHeartbeats 4000000 in
set_option maxRecDepth 100000 in
theorem set_any (g z x d : Nat) (self lv : Value) (W : World) (h : Gauge W g z self lv d) :
    Calls Tryz.prog 254 #[ptr g, .float .f64 x] W (SetOut (some x) g self lv d W) := by
  have c1 := call_bits x
  have hd : Gauge W.drew g z self lv d := h
  have HS : Hid (∀ W1, (W1 = W ∨ W1 = W.drew) → (callFunc 261 #[.pointer (some ⟨g, 0, none⟩), .int .u64 (x : Int)]).run Tryz.prog W1 = .ok (.value (.tuple #[])) (W1.setCell ⟨g, 0, none⟩ (.int .u64 (x : Int)))) := fun W1 hw => by
    rcases hw with rfl | rfl
    · exact store_u64 _ _ x _ (h.cell 0) (h.free 0)
    · exact store_u64 _ _ x _ (hd.cell 0) (hd.free 0)
  have c2 := HS.out W.drew (Or.inr rfl)
  have c3 := HS.out W (Or.inl rfl)
  have HO : Hid (SetOut (some x) g self lv d W (.returned (.tuple #[])) (W.drew.setCell ⟨g, 0, none⟩ (.int .u64 (x : Int)))) := ⟨rfl, x, Or.inl rfl, set_out h (Or.inr rfl)⟩
  clear h hd HS
  go_enter Tryz.func254, Tryz.ntmps254
  go_region_with fail
  go_wp2_with fail
  exact bodyPost_ret (v := .tuple #[]) (by simp [results, Tryz.results254, go_sem]) rfl HO.out

end Go.Proofs.YtlolomodcbkblaaGreatDoor.Gg
