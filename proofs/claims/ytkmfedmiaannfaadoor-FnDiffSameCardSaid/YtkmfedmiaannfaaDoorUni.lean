/- Differences of a list and itself: impl.Ratios, and the empty unified difference. -/
import Derived.Test.YtkmfedmiaannfaaDoorRat
import Derived.Test.YtkmfedmiaannfaaDoorGi
import Derived.Test.YtkmfedmiaannfaaDoorBldS
set_option linter.unusedVariables false
set_option linter.unusedSimpArgs false
namespace Go.Proofs.YtkmfedmiaannfaaDoor.Df
open Go.RowKit Go.Maps Go.WideMaps Go.ChangeShapes

def Three (w : World) (e : Ending) (w' : World) : Prop := e = .returned (.tuple #[.float .f64 4607182418800017408, .float .f64 4607182418800017408, .float .f64 4607182418800017408]) ∧ Below w.heap.size w w'
set_option maxHeartbeats 4000000 in
set_option maxRecDepth 100000 in
theorem ratios_any (xs : List ByteArray) (va vb : Value) (w : World) (hv : Sl.Of Value.string w va xs) (hv1 : Sl.Of Value.string w vb xs) (hx : xs.length ≤ 2147483647) (hsx : ∀ s ∈ xs, s.size ≤ 2147483647) :
    Calls Tryd.prog 5 #[va, vb] w (Three w) := by
  have HCN := Lib.hid (new_any xs xs va vb w hv hv1 hx hsx)
  have HCR := Lib.hid (fun (w1 : World) (hm : Mat w1 w.heap.size xs xs (.slice none 0 0) (.map none) (.slice none 0 0)) => Ratio_any xs w.heap.size _ _ w1 hm hx hsx)
  have HCQ := Lib.hid (fun (w1 : World) (mv : Value) (hm : Mat w1 w.heap.size xs xs mv (.map none) (.slice none 0 0)) => Quick_any xs w.heap.size mv _ w1 hm hx hsx)
  have HCL := Lib.hid (fun (w1 : World) (hm : MatS w1 w.heap.size xs) => Real_any xs w.heap.size w1 hm hx)
  clear hv hv1 hsx
  go_enter Tryd.func5, Tryd.ntmps5
  go_wp2_with fail
  refine HCN.out.mono ?_
  rintro e W1 ⟨rfl, hm1, hb1⟩
  have C1 := Lib.hid (HCR.out W1 hm1)
  have B1 := Lib.hid hb1
  clear hm1 hb1 HCN HCR
  go_wp2_with fail
  refine C1.out.mono ?_
  rintro e W2 ⟨rfl, mv, hm2, hg2⟩
  have C2 := Lib.hid (HCQ.out W2 mv hm2)
  have B2 := Lib.hid (B1.out.grown hg2 B1.out.size (fun j hj => by cases hj; exact Nat.le_refl _))
  clear hm2 hg2 HCQ C1
  go_wp2_with fail
  refine C2.out.mono ?_
  rintro e W3 ⟨rfl, hm3, hg3⟩
  have C3 := Lib.hid (HCL.out W3 hm3)
  have B3 := Lib.hid (B2.out.grown hg3 B2.out.size (fun j hj => by cases hj; exact Nat.le_refl _))
  clear hm3 hg3 HCL C2
  go_wp2_with fail
  refine C3.out.mono ?_
  rintro e W4 ⟨rfl, m, rfl⟩
  have hfin := below_drewN B3.out m
  go_wp2_with fail
  go_ret3
  exact ⟨rfl, hfin⟩

set_option maxHeartbeats 8000000 in
set_option maxRecDepth 100000 in
theorem write_any (xs : List ByteArray) (va vb : Value) (s1 s2 : ByteArray) (n gb : Nat) (w : World) (hv : Sl.Of Value.string w va xs) (hv1 : Sl.Of Value.string w vb xs) (hx : xs.length ≤ 2147483647) (hsx : ∀ s ∈ xs, s.size ≤ 2147483647) (hn : n ≤ 255) :
    Calls Tryd.prog 23 #[.pointer (some ⟨gb, 0, none⟩), .agg #[va, .string s1, .string ⟨#[]⟩, vb, .string s2, .string ⟨#[]⟩, .string ⟨#[]⟩, .int .i64 (n : Int)]] w fun e w' => e = .returned .nilIface ∧ Below w.heap.size w w' := by
  have hmf : ∀ (fn : Fn) (first cap : Array Value) (w : World), (Instr.makeFunc fn first cap).run Tryd.prog w = .ok (.func fn first cap) w := fun _ _ _ _ => rfl
  obtain ⟨aa, ca, rfl, _, _⟩ := Of_slice hv
  obtain ⟨ab, cb, rfl, _, _⟩ := Of_slice hv1
  have HCN := Lib.hid (fun (w1 : World) (hb : Below w.heap.size w w1) => new_any xs xs _ _ w1 (hv.below hb) (hv1.below hb) hx hsx)
  have HCG := Lib.hid (fun (w1 : World) (g : Nat) (hm : Mat w1 g xs xs (.slice none 0 0) (.map none) (.slice none 0 0)) => grouped_any xs xs g n _ w1 hm hx hx hsx hsx hn)
  rw [grps_self] at HCG
  clear hv hv1 hsx
  go_enter Tryd.func23, Tryd.ntmps23
  go_wp2_with fail
  obtain ⟨Wc, hWc⟩ : ∃ Wc, (w.alloc (.cells #[.pointer (some ⟨gb, 0, none⟩)] 65)).alloc (.cells #[.slice aa xs.length ca, .string s1, .string ⟨#[]⟩, .slice ab xs.length cb, .string s2, .string ⟨#[]⟩, .string ⟨#[10]⟩, .int .i64 (n : Int)] 45) = Wc := ⟨_, rfl⟩
  have hb0 : Below w.heap.size w Wc := by rw [← hWc]; exact ((Below.refl _ _).alloc (Nat.le_refl _) _).alloc (by simp) _
  have hsz : w.heap.size + 1 < Wc.heap.size := by rw [← hWc]; simp
  have d7 : Wc.cell? ⟨w.heap.size + 1, 7, none⟩ = some (.int .i64 (n : Int)) := by
    rw [← hWc]
    have := Sl.cell_new (w.alloc (.cells #[.pointer (some ⟨gb, 0, none⟩)] 65)) #[.slice aa xs.length ca, .string s1, .string ⟨#[]⟩, .slice ab xs.length cb, .string s2, .string ⟨#[]⟩, .string ⟨#[10]⟩, .int .i64 (n : Int)] 45 7
    rw [World.size_alloc] at this
    exact this
  rw [hWc]
  clear hWc
  refine (HCN.out Wc hb0).mono ?_
  rintro e W1 ⟨rfl, hm1, hb1⟩
  have e7 : W1.cell? ⟨w.heap.size + 1, 7, none⟩ = some (.int .i64 (n : Int)) := by rw [hb1.cell (p := ⟨w.heap.size + 1, 7, none⟩) hsz]; exact d7
  have B1 := Lib.hid (hb0.trans (hb1.mono hb0.size))
  have CG := Lib.hid (HCG.out W1 _ hm1)
  have hsw : w.heap.size ≤ Wc.heap.size := hb0.size
  clear d7 hb0 hb1 hm1 HCN HCG
  go_wp2_with fail
  refine CG.out.mono ?_
  rintro e W2 ⟨v, rfl, hof, hg2⟩
  obtain ⟨a2, c2, rfl, _, _⟩ := hof.slice
  have B2 := Lib.hid (B1.out.grown hg2 B1.out.size (fun j hj => by cases hj; omega))
  clear hof hg2 CG e7
  rw [List.length_nil] at *
  go_wp2_with fail
  go_loopw [49] (fun vi wr => vi = .int .i64 0 ∧ Hid (Below w.heap.size w wr)) (fun _ _ => 0)
  case atStart => exact ⟨rfl, B2.out⟩
  case round =>
    obtain ⟨rfl, hb⟩ := hrel
    go_wp2_with fail
    go_ret
    exact ⟨rfl, hb.out⟩

def EmptyOut (w : World) (e : Ending) (w' : World) : Prop := e = .returned (.string ⟨#[]⟩) ∧ Below w.heap.size w w'
set_option maxHeartbeats 4000000 in
set_option maxRecDepth 100000 in
theorem unified_any (xs : List ByteArray) (va vb : Value) (s1 s2 : ByteArray) (n : Nat) (w : World) (hv : Sl.Of Value.string w va xs) (hv1 : Sl.Of Value.string w vb xs) (hx : xs.length ≤ 2147483647) (hsx : ∀ s ∈ xs, s.size ≤ 2147483647) (hn : n ≤ 255) :
    Calls Tryd.prog 7 #[va, vb, .string s1, .string s2, .int .i64 (n : Int)] w (EmptyOut w) := by
  have HCW := Lib.hid (fun (w1 : World) (gb : Nat) (hb : Below w.heap.size w w1) => write_any xs va vb s1 s2 n gb w1 (hv.below hb) (hv1.below hb) hx hsx hn)
  obtain ⟨aa, ca, rfl, _, _⟩ := Of_slice hv
  obtain ⟨ab, cb, rfl, _, _⟩ := Of_slice hv1
  clear hv hv1 hsx
  go_enter Tryd.func7, Tryd.ntmps7
  go_wp2_with (first | (go_at_call 15; go_in))
  obtain ⟨Wc, hWc⟩ : ∃ Wc, (w.alloc (.cells #[.slice aa xs.length ca, .string s1, .string ⟨#[]⟩, .slice ab xs.length cb, .string s2, .string ⟨#[]⟩, .string ⟨#[]⟩, .int .i64 (n : Int)] 45)).alloc (.cells #[.pointer none, .slice none 0 0] 68) = Wc := ⟨_, rfl⟩
  have hb0 : Below w.heap.size w Wc := by rw [← hWc]; exact ((Below.refl _ _).alloc (Nat.le_refl _) _).alloc (by simp) _
  have hsz : w.heap.size + 1 < Wc.heap.size := by rw [← hWc]; simp
  have hblk : Wc.heap[w.heap.size + 1]? = some (.cells #[.pointer none, .slice none 0 0] 68 (0, 0)) := by
    rw [← hWc]
    have := heap_alloc_new (w.alloc (.cells #[.slice aa xs.length ca, .string s1, .string ⟨#[]⟩, .slice ab xs.length cb, .string s2, .string ⟨#[]⟩, .string ⟨#[]⟩, .int .i64 (n : Int)] 45)) (.cells #[.pointer none, .slice none 0 0] 68)
    rw [World.size_alloc] at this
    exact this
  rw [hWc]
  clear hWc
  refine (HCW.out Wc _ hb0).mono ?_
  rintro e W1 ⟨rfl, hb1⟩
  have hs1 : w.heap.size + 1 ≤ W1.heap.size := by have := hb1.size; omega
  have CS := Lib.hid (Bld.string_any (w.heap.size + 1) (w.heap.size + 1) [] W1 (Bld.isB_zero (Nat.le_refl _) ((hb1.block _ hsz).trans hblk)) hs1)
  have B1 := Lib.hid (hb0.trans (hb1.mono hb0.size))
  clear hblk hb0 hb1 HCW
  go_wp2_with fail
  refine CS.out.mono ?_
  rintro e W2 ⟨rfl, hb2⟩
  have hfin := Lib.hid (B1.out.trans (hb2.mono (Nat.le_succ _)))
  clear hb2
  go_wp2_with fail
  go_ret
  exact ⟨rfl, hfin.out⟩

end Go.Proofs.YtkmfedmiaannfaaDoor.Df
