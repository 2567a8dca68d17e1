/- Metrics: metrics compared as whole blocks; the known answer (laws.valueAwake). The known answer of the constant histograms (laws.bucketsLive). The buckets that a native histogram denotes (laws.nativeCells). The size guard over strings, where they are small. Descriptors: the size guards over small data; equality of descriptors as the reference says it. -/
import Derived.Test.YtlolomodcbkblaaGreatDoorMtd
import Derived.Test.YtlolomodcbkblaaGreatDoorMtw
import Derived.Test.YtlolomodcbkblaaGreatDoorMty
import Derived.Test.YtlolomodcbkblaaGreatDoorMg21
import Derived.Test.YtlolomodcbkblaaGreatDoorCnj
import Derived.Test.YtlolomodcbkblaaGreatDoorMg19
import Derived.Test.YtlolomodcbkblaaGreatDoorSpr
import Derived.Test.YtlolomodcbkblaaGreatDoorMg1
import Derived.WalkSpells
import Derived.Lib.Hide
import Derived.Test.YtlolomodcbkblaaGreatDoorMg13
import Derived.Deep.QuietTactic
import Derived.BigQuiet
set_option linter.unusedVariables false
set_option linter.unusedSimpArgs false
namespace Go.Proofs.YtlolomodcbkblaaGreatDoor.Mt
open Go.RowKit Go.Maps Go.WideMaps Go.ChangeShapes Go.WideShapes Go.Deep Fp Obs _root_.Go.Proofs.YtlolomodcbkblaaGreatDoor.Nd
attribute [local go_sem] run_store_float

/-- the cells of a metric that was converted back -/
def FromOk (W : World) (fv : Array Value) (L : List P2) (kind : Int) (val : Nat) (b6 : Bool) (t5 : Int) (b11 : Bool) (t12 : Int) : Prop :=
  ∃ lab d1 d1c u1 u1c, fv = #[lab, .int .i64 kind, .float .f64 val, .bool false, .float .f64 0, .slice none 0 0, .int .i64 0, .int .i64 t5, .bool b6, .int .u64 0, .float .f64 0, .slice none 0 0, .int .i64 0, .bool false, .int .i32 0, .float .f64 0, .int .u64 0, .slice none 0 0, .slice none 0 0, .slice d1 0 d1c, .slice u1 0 u1c, .slice none 0 0, .int .u64 0, .float .f64 0, .slice none 0 0, .bool b11, .int .i64 t12] ∧ Ss.Of 2 pc W lab L
theorem FromOk.below {W W' : World} {fv : Array Value} {L : List P2} {kind : Int} {val : Nat} {b6 : Bool} {t5 : Int} {b11 : Bool} {t12 : Int} (h : FromOk W fv L kind val b6 t5 b11 t12) (k : Below W.heap.size W W') : FromOk W' fv L kind val b6 t5 b11 t12 := by
  obtain ⟨lab, d1, d1c, u1, u1c, h1, h2⟩ := h
  exact ⟨lab, d1, d1c, u1, u1c, h1, h2.below k⟩
def FromX (L : List P2) (kind : Int) (val : Nat) (b6 : Bool) (t5 : Int) (b11 : Bool) (t12 : Int) (w : World) (e : Ending) (w' : World) : Prop :=
  ∃ fv, e = .returned (.agg fv) ∧ FromOk w' fv L kind val b6 t5 b11 t12 ∧ Below w.heap.size w w'
theorem from_x (L : List P2) (lab : Value) (kind : Int) (val : Nat) (b6 : Bool) (t5 : Int) (b11 : Bool) (t12 : Int) (w : World) (hof : Ss.Of 2 pc w lab L) (hL : L.length ≤ 2147483647) :
    Calls Tryz.prog 13 #[.agg (xcs lab kind val b6 t5 b11 t12)] w (FromX L kind val b6 t5 b11 t12 w) := by
  refine (metricFrom_any L lab kind val false b6 b11 t5 t12 w hof hL).mono ?_
  rintro e w' ⟨a1, c1, d1, d1c, u1, u1c, rfl, ho, hb⟩
  exact ⟨_, rfl, ⟨_, d1, d1c, u1, u1c, rfl, Ss.Of.own pc_len ho⟩, hb⟩
theorem same_x (L : List P2) (fv : Array Value) (lab : Value) (kind : Int) (val : Nat) (b6 : Bool) (t5 : Int) (b11 : Bool) (t12 : Int) (w : World) (hf : FromOk w fv L kind val b6 t5 b11 t12) (hof : Ss.Of 2 pc w lab L) (hL : L.length ≤ 2147483647) :
    Calls Tryz.prog 12 #[.agg fv, .agg (xcs lab kind val b6 t5 b11 t12)] w fun e w' => e = .returned (.bool true) ∧ Below w.heap.size w w' := by
  obtain ⟨lab2, d1, d1c, u1, u1c, rfl, h2⟩ := hf
  exact sameMetric_any L lab2 lab kind val t5 t12 b6 b11 _ _ _ _ _ _ _ _ _ _ _ _ _ _ _ _ _ _ _ _ _ _ _ _ _ _ _ _ _ _ _ _ w h2 hof hL
/-- a load of a whole block, in a region that draws its order -/
theorem yields_whole {P : Program} {ops : Array Oper} {S : World → Prop} {op : Oper} {a : Act} (hw : Region.wanted op (yielded ops a.tmps) = true) (ty : TypeId) (x : Operand) (ho : op.op = .load ty x)
    (b : Nat) (T : TypeId) (cs : Array Value) (hx : a.eval x = .pointer (some ⟨b, 0, none⟩)) (hS : ∀ w, S w → Whole w b T cs) (d : TypeDesc)
    (hu : P.underlying ty = some d) (hd : d.isRow = true) (hi : (P.info? ty).map (·.size) = some cs.size) : YieldsIf P ops S op (.agg cs) a :=
  yieldsIf_load_mid hw ty x ho b 0 hx cs.toList d (fun w h => Big.whole_range (hS w h)) hu hd (by rw [Array.length_toList]; exact hi)
/-- pairs lie in no block without strings -/
theorem ss_far {w w' : World} {v : Value} {L : List P2} {b : Nat} {T : TypeId} {cs : Array Value} (h : Ss.Of 2 pc w v L) (hn : ∀ (j : Nat) s, cs[j]? ≠ some (.string s)) (hw : Whole w b T cs) (hg : w.grownBy w' (some b)) : Ss.Of 2 pc w' v L := by
  have key : ∀ (g o : Nat) (s : ByteArray), w.cell? ⟨g, o, none⟩ = some (.string s) → w'.cell? ⟨g, o, none⟩ = some (.string s) := by
    intro g o s hu
    have hne : g ≠ b := by
      rintro rfl
      rw [hw.cell o] at hu
      exact hn o s hu
    rw [hg.cell_far ⟨g, o, none⟩ (World.block_lt_of_cell? w (a := ⟨g, o, none⟩) hu) (fun e => by injection e with e; exact hne e)]
    exact hu
  rcases h with h | ⟨g, off, cap, e1, e2, e3, e4, e5, e6⟩
  · exact Or.inl h
  · refine Or.inr ⟨g, off, cap, e1, e2, e3, e4, Nat.lt_of_lt_of_le e5 hg.size, fun i hi j u hu => ?_⟩
    have h1 := e6 i hi j u hu
    rcases j with _ | _ | j
    · obtain rfl : u = .string (L[i]).1 := by simpa [pc] using hu.symm
      exact key _ _ _ h1
    · obtain rfl : u = .string (L[i]).2 := by simpa [pc] using hu.symm
      exact key _ _ _ h1
    · simp [pc] at hu
theorem xcs_far (a : Option Addr) (n c : Nat) (kind : Int) (val : Nat) (b6 : Bool) (t5 : Int) (b11 : Bool) (t12 : Int) (j : Nat) (s : ByteArray) : (xcs (.slice a n c) kind val b6 t5 b11 t12)[j]? ≠ some (.string s) := by
  have h : ∀ u ∈ (xcs (.slice a n c) kind val b6 t5 b11 t12).toList, ∀ s, u ≠ .string s := by simp [xcs]
  intro e
  exact h _ (by rw [← Array.getElem?_toList] at e; exact List.mem_of_getElem? e) s rfl

/-! the known answer -/
theorem known_ok : NewOk ⟨#[97]⟩ ⟨#[104]⟩ ⟨#[]⟩ [] [] := by
  refine ⟨by decide, fun b hb => ?_, by decide, (fun p hp => by cases hp), (fun v hv => by cases hv), by decide, by decide, by decide, ?_, ?_⟩
  · have : b ∈ ([97] : List UInt8) := hb
    simp at this
    subst this
    decide
  · decide +kernel
  · decide +kernel
set_option maxHeartbeats 8000000 in
set_option maxRecDepth 100000 in
theorem awake_any (w : World) (hG : Glob w) : Calls Tryz.prog 9 #[] w fun e w' => e = .returned (.bool true) ∧ Below w.heap.size w w' := by
  have CC := Lib.hid (const_any ⟨#[97]⟩ ⟨#[104]⟩ ⟨#[]⟩ [] [] [] (.slice none 0 0) (.slice none 0 0) (.slice none 0 0) 1 (Or.inr (Or.inl rfl)) 4613937818241073152 w hG known_ok (Or.inl ⟨rfl, none, 0, rfl, by decide⟩) Ss.Of.nil (fun p hp => by cases hp) (Or.inl ⟨rfl, none, 0, rfl, by decide⟩) rfl (fun s hs => by cases hs))
  have hsz27 : (Tryz.prog.info? 40).map (·.size) = some 27 := by kernel_rfl
  have hord : (FloatKind.f64.format.order 4613937818241073152 4613937818241073152 == some Ordering.eq) = true := by decide +kernel
  go_enter Tryz.func9, Tryz.ntmps9
  go_wp2_with fail
  refine CC.out.mono ?_
  rintro e w1 ⟨a1, c1, rfl, ho, hb1⟩
  have HB1 := Lib.hid hb1
  clear ho hb1
  rename_i K1 hK1 K2 hK2
  dsimp only
  refine hK2 _ _ ?_
  refine wpList_plain rfl fun K3 hK3 => ?_
  go_simp
  refine hK3 _ _ ?_
  refine wpList_plain rfl fun K4 hK4 => ?_
  go_simp
  refine hK4 _ _ ?_
  refine wpList_plain rfl fun K5 hK5 => ?_
  go_simp
  refine hK5 _ _ ?_
  refine wpList_plain rfl fun K6 hK6 => ?_
  go_simp
  refine hK6 _ _ ?_
  refine Big.wpList_store_whole rfl _ _ _ rfl w1.heap.size 40 (xcs (.slice none 0 0) 0 0 false 0 false 0) (xcs (.slice a1 (labs [] [] (fit [])).length c1) 1 4613937818241073152 (isD 1 none) (toD 1 none) false 0) rfl rfl (Whole.made w1 _ _) rfl hsz27 (xcs_ones _ _ _ _ _ _ _ _ _) ?_
  intro W7 hx7 hg7 hs7
  simp only [Act.put]
  have HF : Hid (Below w.heap.size w W7) := (HB1.out.alloc HB1.out.size _).grown hg7 (by have := HB1.out.size; simp; omega) (fun j hj => by injection hj with hj; have := HB1.out.size; omega)
  have x1 : W7.cell? ⟨w1.heap.size, 1, none⟩ = some (.int .i64 1) := hx7.cell 1
  have x2 : W7.cell? ⟨w1.heap.size, 2, none⟩ = some (.float .f64 4613937818241073152) := hx7.cell 2
  clear hx7 hg7 hs7 CC
  go_wp2_with fail
  go_ret
  exact ⟨rfl, HF.out⟩

end Go.Proofs.YtlolomodcbkblaaGreatDoor.Mt

set_option linter.unusedVariables false
set_option linter.unusedSimpArgs false
namespace Go.Proofs.YtlolomodcbkblaaGreatDoor.Ch
open Go.RowKit Go.Maps Go.WideMaps Go.ChangeShapes Go.WideShapes Go.Deep Fp Obs _root_.Go.Proofs.YtlolomodcbkblaaGreatDoor.Fm _root_.Go.Proofs.YtlolomodcbkblaaGreatDoor
open _root_.Go.Proofs.YtlolomodcbkblaaGreatDoor.Nd (Glob)
open _root_.Go.Proofs.YtlolomodcbkblaaGreatDoor.Mt (ptr nilp zeroM known_ok)
open _root_.Go.Proofs.YtlolomodcbkblaaGreatDoor.Cn (Gg1)

abbrev G1 : List GB := [((4607182418800017408, 2), .bool false, .float .f64 0, .slice none 0 0, .int .i64 0)]
theorem g1_of (w : World) : Ss.Of 6 gb (w.alloc (.cells #[.int .u64 2, .float .f64 4607182418800017408, .bool false, .float .f64 0, .slice none 0 0, .int .i64 0] 141)) (.slice (some ⟨w.heap.size, 0, none⟩) 1 1) G1 := by
  have h : (w.alloc (.cells #[.int .u64 2, .float .f64 4607182418800017408, .bool false, .float .f64 0, .slice none 0 0, .int .i64 0] 141)).ownsRow w.heap.size 141 6 (.slice (some ⟨w.heap.size, 0, none⟩) 1 1) G1.length (G1.flatMap gb) :=
    ⟨rfl, Or.inr ⟨w.heap.size, 1, #[.int .u64 2, .float .f64 4607182418800017408, .bool false, .float .f64 0, .slice none 0 0, .int .i64 0], rfl, Nat.le_refl _, heap_alloc_new w _, Nat.le_refl _, by decide, rfl, rfl⟩⟩
  exact Ss.Of.own gb_len h
set_option maxHeartbeats 4000000 in
set_option maxRecDepth 100000 in
theorem live_any (w : World) (hG : Glob w) : Calls Tryz.prog 19 #[] w fun e w' => e = .returned (.bool true) ∧ Below w.heap.size w w' := by
  obtain ⟨A, hA⟩ : ∃ A, A = w.alloc (.cells #[.int .u64 2, .float .f64 4607182418800017408, .bool false, .float .f64 0, .slice none 0 0, .int .i64 0] 141) := ⟨_, rfl⟩
  have hb0 : Below w.heap.size w A := by rw [hA]; exact (Below.refl _ _).alloc (Nat.le_refl _) _
  have CC := Lib.hid (constHist_any (fun _ => True) ⟨#[97]⟩ ⟨#[104]⟩ ⟨#[]⟩ [] [] [] (.slice none 0 0) (.slice none 0 0) (.slice none 0 0) (.slice (some ⟨w.heap.size, 0, none⟩) 1 1) 3 4616189618054758400 G1 A (hG.below hb0) known_ok (Or.inl ⟨rfl, none, 0, rfl, by decide⟩) Ss.Of.nil (fun p hp => by cases hp)
    (Or.inl ⟨rfl, none, 0, rfl, by decide⟩) rfl (fun s hs => by cases hs) (by rw [hA]; exact g1_of w) (by decide) (fun x hx u hu => by
      rw [List.mem_singleton.1 hx] at hu
      simp [gb] at hu
      rcases hu with rfl | rfl | rfl | rfl | rfl | rfl <;> rfl) (fun k h => by
      have : k = 0 := by simp at h; omega
      subst this
      exact fun p hp => by cases hp) (fun B => sorts_tiny (by decide) B) (fun h => by cases h))
  have hsz27 : (Tryz.prog.info? 40).map (·.size) = some 27 := by kernel_rfl
  have HB0 := Lib.hid hb0
  have hAA : A = w.alloc (.cells #[.int .u64 2, .float .f64 4607182418800017408, .bool false, .float .f64 0, .slice none 0 0, .int .i64 0] 141) := hA
  clear hA hb0
  go_enter Tryz.func19, Tryz.ntmps19
  go_wp2_with fail
  rw [← hAA]
  clear hAA
  refine CC.out.mono ?_
  rintro e w1 ⟨ps, a1, c1, a15, k15, hT, hpe, rfl, hrw, hb1⟩
  clear hT
  have hps : ps = [(4607182418800017408, 2)] := List.perm_singleton.1 hpe
  subst hps
  have hbk := hrw.bks
  have HB1 : Hid (Below w.heap.size w w1) := HB0.out.trans (hb1.mono HB0.out.size)
  have hss : Ss.Of 6 bkc w1 (.slice a15 1 k15) [(4607182418800017408, 2)] := Ss.Of.own bkc_len hbk
  obtain ⟨g, off, hga, hgl, hcell⟩ : ∃ g off, a15 = some ⟨g, off, none⟩ ∧ g < w1.heap.size ∧ w1.cell? ⟨g, off, none⟩ = some (.int .u64 2) := by
    rcases hss with ⟨h, _⟩ | ⟨b, off, cap, h, h0, hcap, hm, hbb, hc⟩
    · cases h
    · injection h with h1 h2 h3
      exact ⟨b, off, h1, hbb, hc 0 (by decide) 0 _ rfl⟩
  subst hga
  have hl0 : (Nd.labs [] [] (fit [])).length = 0 := rfl
  rw [hl0]
  have HCell := Lib.hid hcell
  clear hrw hb1 hbk hss hpe CC
  rename_i K1 hK1 K2 hK2
  dsimp only
  refine hK2 _ _ ?_
  refine wpList_plain rfl fun K3 hK3 => ?_
  go_simp
  refine hK3 _ _ ?_
  refine wpList_plain rfl fun K4 hK4 => ?_
  go_simp
  refine hK4 _ _ ?_
  refine wpList_plain rfl fun K5 hK5 => ?_
  go_simp
  refine hK5 _ _ ?_
  refine wpList_plain rfl fun K6 hK6 => ?_
  go_simp
  refine hK6 _ _ ?_
  refine Big.wpList_store_whole rfl _ _ _ rfl w1.heap.size 40 #[.slice none 0 0, .int .i64 0, .float .f64 0, .bool false, .float .f64 0, .slice none 0 0, .int .i64 0, .int .i64 0, .bool false, .int .u64 0, .float .f64 0, .slice none 0 0, .int .i64 0, .bool false, .int .i32 0, .float .f64 0, .int .u64 0, .slice none 0 0, .slice none 0 0, .slice none 0 0, .slice none 0 0, .slice none 0 0, .int .u64 0, .float .f64 0, .slice none 0 0, .bool false, .int .i64 0] #[.slice a1 0 c1, .int .i64 4, .float .f64 0, .bool false, .float .f64 0, .slice none 0 0, .int .i64 0, .int .i64 0, .bool false, .int .u64 3, .float .f64 4616189618054758400, .slice (some ⟨g, off, none⟩) 1 k15, .int .i64 0, .bool false, .int .i32 0, .float .f64 0, .int .u64 0, .slice none 0 0, .slice none 0 0, .slice none 0 0, .slice none 0 0, .slice none 0 0, .int .u64 0, .float .f64 0, .slice none 0 0, .bool false, .int .i64 0] rfl rfl (Whole.made w1 _ _) rfl hsz27 (by simp [Value.oneCell']) ?_
  intro W7 hx7 hg7 hs7
  simp only [Act.put]
  have HF : Hid (Below w.heap.size w W7) := (HB1.out.alloc HB1.out.size _).grown hg7 (by have := HB1.out.size; simp; omega) (fun j hj => by injection hj with hj; have := HB1.out.size; omega)
  have x1 : W7.cell? ⟨w1.heap.size, 1, none⟩ = some (.int .i64 4) := hx7.cell 1
  have x9 : W7.cell? ⟨w1.heap.size, 9, none⟩ = some (.int .u64 3) := hx7.cell 9
  have x11 : W7.cell? ⟨w1.heap.size, 11, none⟩ = some (.slice (some ⟨g, off, none⟩) 1 k15) := hx7.cell 11
  have a7 : Below w1.heap.size w1 W7 := ((Below.refl _ _).alloc (Nat.le_refl _) _).grown hg7 (by simp) (fun j hj => by injection hj with hj; omega)
  have xg : W7.cell? ⟨g, off, none⟩ = some (.int .u64 2) := (a7.cell (p := ⟨g, off, none⟩) hgl).trans HCell.out
  clear hx7 hg7 hs7 a7
  go_wp2_with fail
  go_ret
  exact ⟨rfl, HF.out⟩

end Go.Proofs.YtlolomodcbkblaaGreatDoor.Ch

set_option linter.unusedVariables false
set_option linter.unusedSimpArgs false
namespace Go.Proofs.YtlolomodcbkblaaGreatDoor.Cn
open Go.RowKit Go.Maps Go.WideMaps Go.ChangeShapes Go.WideShapes Go.Deep Fp Obs _root_.Go.Proofs.YtlolomodcbkblaaGreatDoor.Sp

def CellsOut (P Q : List N2) (w : World) (e : Ending) (w' : World) : Prop := ∃ v1 v2, e = .returned (.tuple #[v1, v2, .bool true]) ∧ Ss.Of 2 cc w' v1 P ∧ Ss.Of 2 cc w' v2 Q ∧ Below w.heap.size w w'
set_option maxHeartbeats 4000000 in
set_option maxRecDepth 100000 in
theorem nativeCells_any (P Q : List N2) (Xn Xp : List Seg) (hP : Reads P Xp) (hQ : Reads Q Xn) (count zc sch : Int) (z zt : Nat) (vn vp vd vu : Value) (w : World) (hn : Ss.Of 2 rc w vn (runsOf 0 Xn)) (hp : Ss.Of 2 rc w vp (runsOf 0 Xp)) (hd : Sl.Of (Value.int .i64) w vd (deltasOf 0 (Sp.counts Xn))) (hu : Sl.Of (Value.int .i64) w vu (deltasOf 0 (Sp.counts Xp))) :
    Calls Tryz.prog 25 #[.agg #[.int .u64 count, .float .f64 z, .slice none 0 0, .int .i64 0, .bool true, .int .i32 sch, .float .f64 zt, .int .u64 zc, vn, vp, vd, vu, .slice none 0 0]] w (CellsOut P Q w) := by
  obtain ⟨an, cn, rfl, _, _⟩ := hn.slice
  obtain ⟨ap, cp, rfl, _, _⟩ := hp.slice
  obtain ⟨ad, cd, rfl⟩ := int_slice hd
  obtain ⟨au, cu, rfl⟩ := int_slice hu
  obtain ⟨A, hA⟩ : ∃ A, A = w.alloc (.cells #[.int .u64 count, .float .f64 z, .slice none 0 0, .int .i64 0, .bool true, .int .i32 sch, .float .f64 zt, .int .u64 zc, .slice an (runsOf 0 Xn).length cn, .slice ap (runsOf 0 Xp).length cp, .slice ad (deltasOf 0 (Sp.counts Xn)).length cd, .slice au (deltasOf 0 (Sp.counts Xp)).length cu, .slice none 0 0] 52) := ⟨_, rfl⟩
  have s1 : A.heap.size = w.heap.size + 1 := by rw [hA]; simp
  have hb0 : Below w.heap.size w A := by rw [hA]; exact (Below.refl _ _).alloc (Nat.le_refl _) _
  have hw0 : Whole A w.heap.size 52 #[.int .u64 count, .float .f64 z, .slice none 0 0, .int .i64 0, .bool true, .int .i32 sch, .float .f64 zt, .int .u64 zc, .slice an (runsOf 0 Xn).length cn, .slice ap (runsOf 0 Xp).length cp, .slice ad (deltasOf 0 (Sp.counts Xn)).length cd, .slice au (deltasOf 0 (Sp.counts Xp)).length cu, .slice none 0 0] := by rw [hA]; exact Whole.made w _ _
  have HC : Hid (∀ W, Below A.heap.size A W → W.cell? ⟨w.heap.size, 8, none⟩ = some (.slice an (runsOf 0 Xn).length cn) ∧ W.cell? ⟨w.heap.size, 9, none⟩ = some (.slice ap (runsOf 0 Xp).length cp) ∧ W.cell? ⟨w.heap.size, 10, none⟩ = some (.slice ad (deltasOf 0 (Sp.counts Xn)).length cd) ∧ W.cell? ⟨w.heap.size, 11, none⟩ = some (.slice au (deltasOf 0 (Sp.counts Xp)).length cu)) := fun W k => by
    have g : Whole W w.heap.size 52 #[.int .u64 count, .float .f64 z, .slice none 0 0, .int .i64 0, .bool true, .int .i32 sch, .float .f64 zt, .int .u64 zc, .slice an (runsOf 0 Xn).length cn, .slice ap (runsOf 0 Xp).length cp, .slice ad (deltasOf 0 (Sp.counts Xn)).length cd, .slice au (deltasOf 0 (Sp.counts Xp)).length cu, .slice none 0 0] := (k.block _ hw0.lt).trans hw0
    exact ⟨g.cell 8, g.cell 9, g.cell 10, g.cell 11⟩
  have CP := Lib.hid (read_any Xp _ _ A (hp.below hb0) (hu.below hb0) hP.wf hP.vals (by have := hP.len; omega) (by have := hP.sum; omega))
  have CQ : Hid (∀ W, Below A.heap.size A W → Calls Tryz.prog 70 #[.slice an (runsOf 0 Xn).length cn, .slice ad (deltasOf 0 (Sp.counts Xn)).length cd] W (ReadOut Xn W)) := fun W k => by
    have kk : Below w.heap.size w W := hb0.trans (k.mono (by omega))
    exact read_any Xn _ _ W (hn.below kk) (hd.below kk) hQ.wf hQ.vals (by have := hQ.len; omega) (by have := hQ.sum; omega)
  have HU : Hid (∀ W, Below A.heap.size A W → Below w.heap.size w W) := fun W k => hb0.trans (k.mono (by omega))
  have hcp := hP.cells
  have hcq := hQ.cells
  have k0 := HC.out A (Below.refl _ _)
  have HCp := Lib.hid hcp
  have HCq := Lib.hid hcq
  clear hn hp hd hu hP hQ hw0 s1 hcp hcq hb0
  obtain ⟨rn, hrn⟩ : ∃ rn, (runsOf 0 Xn).length = rn := ⟨_, rfl⟩
  obtain ⟨rp, hrp⟩ : ∃ rp, (runsOf 0 Xp).length = rp := ⟨_, rfl⟩
  obtain ⟨dn, hdn⟩ : ∃ dn, (deltasOf 0 (Sp.counts Xn)).length = dn := ⟨_, rfl⟩
  obtain ⟨dp, hdp⟩ : ∃ dp, (deltasOf 0 (Sp.counts Xp)).length = dp := ⟨_, rfl⟩
  rw [hrn, hrp, hdn, hdp] at HC k0 hA
  rw [hrp, hdp] at CP
  rw [hrn, hdn] at CQ
  rw [hrn, hrp, hdn, hdp]
  clear hrn hrp hdn hdp
  go_enter Tryz.func25, Tryz.ntmps25
  go_wp2_with fail
  rw [← hA]
  clear hA
  refine CP.out.mono ?_
  rintro e w1 ⟨v1, rfl, ho1, hb1⟩
  have HB1 := Lib.hid hb1
  have HO1 := Lib.hid ho1
  have k1 := HC.out w1 HB1.out
  have CQ1 := Lib.hid (CQ.out w1 HB1.out)
  clear hb1 ho1 k0 CP CQ
  go_wp2_with fail
  refine CQ1.out.mono ?_
  rintro e w2 ⟨v2, rfl, ho2, hb2⟩
  have HF : Hid (CellsOut P Q w (.returned (.tuple #[v1, v2, .bool true])) w2) := by
    have h1 : Ss.Of 2 cc w1 v1 (Sp.nz (cellsOf Xp)) := Ss.Of.own cc_len HO1.out
    have h2 : Ss.Of 2 cc w2 v2 (Sp.nz (cellsOf Xn)) := Ss.Of.own cc_len ho2
    rw [HCp.out] at h1
    rw [HCq.out] at h2
    exact ⟨v1, v2, rfl, h1.below hb2, h2, HU.out _ (HB1.out.trans (hb2.mono HB1.out.size))⟩
  clear ho2 hb2 k1
  go_wp2_with fail
  exact bodyPost_ret (v := .tuple #[v1, v2, .bool true]) (by simp [results, Tryz.results25, go_sem]) rfl HF.out

end Go.Proofs.YtlolomodcbkblaaGreatDoor.Cn

set_option linter.unusedVariables false
set_option linter.unusedSimpArgs false
namespace Go.Proofs.YtlolomodcbkblaaGreatDoor.Fits
open Go.RowKit

set_option maxHeartbeats 1000000 in
set_option maxRecDepth 100000 in
theorem fits3_any (v : Value) (zs : List ByteArray) (w : World) (hv : Sl.Of Value.string w v zs) (hl : zs.length ≤ 2147483647) (hs : ∀ z ∈ zs, z.size ≤ 2147483647) :
    Calls Tryz.prog 29 #[v] w fun e w' => e = .returned (.bool true) ∧ w = w' := by
  have hl1 : (zs.length : Int) ≤ 2147483647 := by omega
  rcases hv with ⟨rfl, a, cap, rfl, hcap⟩ | ⟨b, off, cap, rfl, h0, hcap, hm, hb, hcell⟩
  · clear hs
    go_enter Tryz.func29, Tryz.ntmps29
    go_wp2
    go_loopw [10] (fun i wr => i = .int .i64 0 ∧ w = wr) (fun _ _ => 0)
    case atStart => exact ⟨rfl, rfl⟩
    case round =>
      obtain ⟨rfl, rfl⟩ := hrel
      go_wp2
      go_ret
      exact ⟨rfl, rfl⟩
  · have Hcell := Lib.hid hcell
    have HS := Lib.hid hs
    clear hcell hs
    go_enter Tryz.func29, Tryz.ntmps29
    go_wp2
    go_loopw [10] (fun i wr => ∃ k : Nat, k ≤ zs.length ∧ i = .int .i64 k ∧ w = wr) (fun i _ => zs.length - (intOf i).toNat)
    case atStart => exact ⟨0, Nat.zero_le _, rfl, rfl⟩
    case round =>
      obtain ⟨k, hk, rfl, rfl⟩ := hrel
      by_cases hlt : k < zs.length
      · have c0 : w.cell? ⟨b, off + k, none⟩ = some (.string zs[k]) := Hcell.out k hlt
        have hsz : ((zs[k]).size : Int) ≤ 2147483647 := by have := HS.out _ (List.getElem_mem hlt); omega
        go_wp2
        go_roundw
        case rel => exact ⟨k + 1, by omega, by go_num, by first | rfl | trivial⟩
        case measure => simp [intOf]; omega
      · go_wp2
        go_ret
        exact ⟨rfl, rfl⟩

end Go.Proofs.YtlolomodcbkblaaGreatDoor.Fits

set_option linter.unusedVariables false
set_option linter.unusedSimpArgs false
namespace Go.Proofs.YtlolomodcbkblaaGreatDoor.Nd
open Go.RowKit Go.ChangeShapes Go.WideShapes Go.Deep Fp

set_option maxHeartbeats 1000000 in
set_option maxRecDepth 100000 in
theorem fits6_any (x y : ByteArray) (w : World) (hx : x.size ≤ 2147483647) (hy : y.size ≤ 2147483647) :
    Calls Tryz.prog 99 #[.agg #[.string x, .string y]] w fun e w' => e = .returned (.bool true) ∧ Below w.heap.size w w' := by
  have h1 : (x.size : Int) ≤ 2147483647 := by omega
  have h2 : (y.size : Int) ≤ 2147483647 := by omega
  go_enter Tryz.func99, Tryz.ntmps99
  go_wp2
  go_ret
  exact ⟨rfl, (Below.refl _ _).alloc (Nat.le_refl _) _⟩

set_option maxHeartbeats 4000000 in
set_option maxRecDepth 100000 in
theorem fits5_any (L : List P2) (v : Value) (w : World) (hof : Ss.Of 2 pc w v L) (hL : L.length ≤ 2147483647) (hs : ∀ p ∈ L, p.1.size ≤ 2147483647 ∧ p.2.size ≤ 2147483647) :
    Calls Tryz.prog 60 #[v] w fun e w' => e = .returned (.bool true) ∧ Below w.heap.size w w' := by
  obtain ⟨av, cv, rfl, _, _⟩ := hof.slice
  have HOf := Lib.hid hof
  have HS := Lib.hid hs
  have hl : (L.length : Int) ≤ 2147483647 := by omega
  clear hof hs
  go_enter Tryz.func60, Tryz.ntmps60
  go_wp2_with fail
  go_loopw [10] (fun vk wr => ∃ k : Nat, k ≤ L.length ∧ vk = .int .i64 (k : Int) ∧ Hid (Below w.heap.size w wr)) (fun k _ => L.length - (intOf k).toNat)
  case atStart => exact ⟨0, Nat.zero_le _, rfl, Below.refl _ _⟩
  case round =>
    obtain ⟨k, hk, rfl, hbw⟩ := hrel
    by_cases hlt : k < L.length
    · obtain ⟨b, off, hav, hb, d0, d1⟩ := pair_of HOf.out hlt
      obtain ⟨s1, s2⟩ := HS.out _ (List.getElem_mem hlt)
      subst hav
      obtain ⟨x, y, hxy⟩ : ∃ x y, L[k] = (x, y) := ⟨_, _, rfl⟩
      rw [hxy] at d0 d1 s1 s2
      have c0 : wr.cell? ⟨b, off + k * 2, none⟩ = some (.string x) := by rw [hbw.out.cell (p := ⟨b, off + k * 2, none⟩) hb]; exact d0
      have c1 : wr.cell? ⟨b, off + k * 2 + 1, none⟩ = some (.string y) := by rw [hbw.out.cell (p := ⟨b, off + k * 2 + 1, none⟩) hb]; exact d1
      have z1 : (0 : Int) ≤ (k : Int) := by omega
      have z2 : (k : Int) < (L.length : Int) := by omega
      have hb1 : Hid (Below w.heap.size w (wr.alloc (.cells #[.string x, .string y] 138))) := hbw.out.alloc hbw.out.size _
      clear d0 d1 hxy hbw
      go_wp2_with fail
      refine (fits6_any x y _ s1 s2).mono ?_
      rintro e w1 ⟨rfl, hb2⟩
      have hb3 : Hid (Below w.heap.size w w1) := hb1.out.trans (hb2.mono hb1.out.size)
      clear hb2
      go_wp2_with fail
      go_roundw
      case rel => exact ⟨k + 1, by omega, by go_num, hb3.out⟩
      case measure => simp [intOf]; omega
    · obtain rfl : k = L.length := by omega
      go_wp2_with fail
      go_ret
      exact ⟨rfl, hbw.out⟩

/-- the guard over a descriptor's data, where they are small -/
theorem small_str {l : List ByteArray} {n : Nat} (h : wt l ≤ n) : ∀ z ∈ l, z.size ≤ n := fun z hz => Nat.le_trans (mem_wt hz) h
set_option maxHeartbeats 4000000 in
set_option maxRecDepth 100000 in
theorem fits4_any (mv : Value) (nm hp un : ByteArray) (V : List ByteArray) (L : List P2) (w : World) (hm : MetaAt w mv nm hp un V L) (hs : Small nm hp un V L) :
    Calls Tryz.prog 17 #[mv] w fun e w' => e = .returned (.bool true) ∧ Below w.heap.size w w' := by
  obtain ⟨vv, cv, rfl, hvv, hcv⟩ := hm.val
  have hall := hs.all
  have h1 : (nm.size : Int) ≤ 2147483647 := by omega
  have h2 : (hp.size : Int) ≤ 2147483647 := by omega
  have h3 : (un.size : Int) ≤ 2147483647 := by omega
  have hb0 : Below w.heap.size w (w.alloc (.cells #[.string nm, .string hp, .string un, vv, cv] 66)) := (Below.refl _ _).alloc (Nat.le_refl _) _
  have C3 := Lib.hid (Fits.fits3_any vv V (w.alloc (.cells #[.string nm, .string hp, .string un, vv, cv] 66)) (hvv.below hb0) (by have := hs.lenV; omega) (fun z hz => by have := mem_wt hz; omega))
  have C5 := Lib.hid (fits5_any L cv (w.alloc (.cells #[.string nm, .string hp, .string un, vv, cv] 66)) (hcv.below hb0) (by have := hs.lenL; omega) (fun p hp => by have := mem_wp hp; omega))
  have HB := Lib.hid hb0
  clear hb0 hvv hcv hm hs hall
  have hb1 : Hid (∀ j, (w.alloc (.cells #[.string nm, .string hp, .string un, vv, cv] 66)).cell? ⟨w.heap.size, j, none⟩ = (#[.string nm, .string hp, .string un, vv, cv] : Array Value)[j]?) := fun j => Sl.cell_new w _ _ j
  go_enter Tryz.func17, Tryz.ntmps17
  go_wp2_with fail
  refine C3.out.mono ?_
  rintro e w1 ⟨rfl, rfl⟩
  go_wp2_with fail
  refine C5.out.mono ?_
  rintro e w2 ⟨rfl, hb2⟩
  have hb3 := HB.out.trans (hb2.mono HB.out.size)
  clear hb2
  go_wp2_with fail
  go_ret
  exact ⟨rfl, hb3⟩

end Go.Proofs.YtlolomodcbkblaaGreatDoor.Nd
