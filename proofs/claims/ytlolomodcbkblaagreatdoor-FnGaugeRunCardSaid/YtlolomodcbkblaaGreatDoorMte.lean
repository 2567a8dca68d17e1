/- Metrics: metrics compared as whole blocks; the known answer (laws.valueAwake). -/
import Derived.Test.YtlolomodcbkblaaGreatDoorMtd
import Derived.Test.YtlolomodcbkblaaGreatDoorMtw
import Derived.Test.YtlolomodcbkblaaGreatDoorMty
set_option linter.unusedVariables false
set_option linter.unusedSimpArgs false
namespace Go.Proofs.YtlolomodcbkblaaGreatDoor.Mt
open Go.RowKit Go.Maps Go.WideMaps Go.ChangeShapes Go.WideShapes Go.Deep Fp Obs _root_.Go.Proofs.YtlolomodcbkblaaGreatDoor.Nd
attribute [local go_sem] run_store_float

/-- the cells of a metric that was converted back -/
def FromOk (W : World) (fv : Array Value) (L : List P2) (kind : Int) (val : Nat) (b6 : Bool) (t5 : Int) (b11 : Bool) (t12 : Int) : Prop :=
  ∃ lab d1 d1c u1 u1c, fv = #[lab, .int .i64 kind, .float .f64 val, .bool false, .float .f64 0, .slice none 0 0, .int .i64 0, .int .i64 t5, .bool b6, .int .u64 0, .float .f64 0, .slice none 0 0, .int .i64 0, .bool false, .int .i32 0, .float .f64 0, .int .u64 0, .slice none 0 0, .slice none 0 0, .slice d1 0 d1c, .slice u1 0 u1c, .slice none 0 0, .int .u64 0, .float .f64 0, .slice none 0 0, .bool b11, .int .i64 t12] ∧ Ss.Of 2 pc W lab L
theorem FromOk.below {W W' : World} {fv : Array Value} {L : List P2} {kind : Int} {val : Nat} {b6 : Bool} {t5 : Int} {b11 : Bool} {t12 : Int} (h : FromOk W fv L kind val b6 t5 b11 t12) (k : Below W.heap.size W W') : FromOk W' fv L kind val b6 t5 b11 t12 := by
  obtain ⟨lab, d1, d1c, u1, u1c, h1, h2⟩ := h
  exact ⟨lab, d1, d1c, u1, u1c, h1, h2.below k⟩
def FromX (L : List P2) (kind : Int) (val : Nat) (b6 : Bool) (t5 : Int) (b11 : Bool) (t12 : Int) (w : World) (e : Ending) (w' : World) : Prop :=
  ∃ fv, e = .returned (.agg fv) ∧ FromOk w' fv L kind val b6 t5 b11 t12 ∧ Below w.heap.size w w'
theorem from_x (L : List P2) (lab : Value) (kind : Int) (val : Nat) (b6 : Bool) (t5 : Int) (b11 : Bool) (t12 : Int) (w : World) (hof : Ss.Of 2 pc w lab L) (hL : L.length ≤ 2147483647) :
    Calls Tryz.prog 13 #[.agg (xcs lab kind val b6 t5 b11 t12)] w (FromX L kind val b6 t5 b11 t12 w) := by
  refine (metricFrom_any L lab kind val false b6 b11 t5 t12 w hof hL).mono ?_
  rintro e w' ⟨a1, c1, d1, d1c, u1, u1c, rfl, ho, hb⟩
  exact ⟨_, rfl, ⟨_, d1, d1c, u1, u1c, rfl, Ss.Of.own pc_len ho⟩, hb⟩
theorem same_x (L : List P2) (fv : Array Value) (lab : Value) (kind : Int) (val : Nat) (b6 : Bool) (t5 : Int) (b11 : Bool) (t12 : Int) (w : World) (hf : FromOk w fv L kind val b6 t5 b11 t12) (hof : Ss.Of 2 pc w lab L) (hL : L.length ≤ 2147483647) :
    Calls Tryz.prog 12 #[.agg fv, .agg (xcs lab kind val b6 t5 b11 t12)] w fun e w' => e = .returned (.bool true) ∧ Below w.heap.size w w' := by
  obtain ⟨lab2, d1, d1c, u1, u1c, rfl, h2⟩ := hf
  exact sameMetric_any L lab2 lab kind val t5 t12 b6 b11 _ _ _ _ _ _ _ _ _ _ _ _ _ _ _ _ _ _ _ _ _ _ _ _ _ _ _ _ _ _ _ _ w h2 hof hL
/-- a load of a whole block, in a region that draws its order -/
theorem yields_whole {P : Program} {ops : Array Oper} {S : World → Prop} {op : Oper} {a : Act} (hw : Region.wanted op (yielded ops a.tmps) = true) (ty : TypeId) (x : Operand) (ho : op.op = .load ty x)
    (b : Nat) (T : TypeId) (cs : Array Value) (hx : a.eval x = .pointer (some ⟨b, 0, none⟩)) (hS : ∀ w, S w → Whole w b T cs) (d : TypeDesc)
    (hu : P.underlying ty = some d) (hd : d.isRow = true) (hi : (P.info? ty).map (·.size) = some cs.size) : YieldsIf P ops S op (.agg cs) a :=
  yieldsIf_load_mid hw ty x ho b 0 hx cs.toList d (fun w h => Big.whole_range (hS w h)) hu hd (by rw [Array.length_toList]; exact hi)
/-- pairs lie in no block without strings -/
theorem ss_far {w w' : World} {v : Value} {L : List P2} {b : Nat} {T : TypeId} {cs : Array Value} (h : Ss.Of 2 pc w v L) (hn : ∀ (j : Nat) s, cs[j]? ≠ some (.string s)) (hw : Whole w b T cs) (hg : w.grownBy w' (some b)) : Ss.Of 2 pc w' v L := by
  have key : ∀ (g o : Nat) (s : ByteArray), w.cell? ⟨g, o, none⟩ = some (.string s) → w'.cell? ⟨g, o, none⟩ = some (.string s) := by
    intro g o s hu
    have hne : g ≠ b := by
      rintro rfl
      rw [hw.cell o] at hu
      exact hn o s hu
    rw [hg.cell_far ⟨g, o, none⟩ (World.block_lt_of_cell? w (a := ⟨g, o, none⟩) hu) (fun e => by injection e with e; exact hne e)]
    exact hu
  rcases h with h | ⟨g, off, cap, e1, e2, e3, e4, e5, e6⟩
  · exact Or.inl h
  · refine Or.inr ⟨g, off, cap, e1, e2, e3, e4, Nat.lt_of_lt_of_le e5 hg.size, fun i hi j u hu => ?_⟩
    have h1 := e6 i hi j u hu
    rcases j with _ | _ | j
    · obtain rfl : u = .string (L[i]).1 := by simpa [pc] using hu.symm
      exact key _ _ _ h1
    · obtain rfl : u = .string (L[i]).2 := by simpa [pc] using hu.symm
      exact key _ _ _ h1
    · simp [pc] at hu
theorem xcs_far (a : Option Addr) (n c : Nat) (kind : Int) (val : Nat) (b6 : Bool) (t5 : Int) (b11 : Bool) (t12 : Int) (j : Nat) (s : ByteArray) : (xcs (.slice a n c) kind val b6 t5 b11 t12)[j]? ≠ some (.string s) := by
  have h : ∀ u ∈ (xcs (.slice a n c) kind val b6 t5 b11 t12).toList, ∀ s, u ≠ .string s := by simp [xcs]
  intro e
  exact h _ (by rw [← Array.getElem?_toList] at e; exact List.mem_of_getElem? e) s rfl

/-! the known answer -/
theorem known_ok : NewOk ⟨#[97]⟩ ⟨#[104]⟩ ⟨#[]⟩ [] [] := by
  refine ⟨by decide, fun b hb => ?_, by decide, (fun p hp => by cases hp), (fun v hv => by cases hv), by decide, by decide, by decide, ?_, ?_⟩
  · have : b ∈ ([97] : List UInt8) := hb
    simp at this
    subst this
    decide
  · decide +kernel
  · decide +kernel
set_option maxHeartbeats 8000000 in
set_option maxRecDepth 100000 in
theorem awake_any (w : World) (hG : Glob w) : Calls Tryz.prog 9 #[] w fun e w' => e = .returned (.bool true) ∧ Below w.heap.size w w' := by
  have CC := Lib.hid (const_any ⟨#[97]⟩ ⟨#[104]⟩ ⟨#[]⟩ [] [] [] (.slice none 0 0) (.slice none 0 0) (.slice none 0 0) 1 (Or.inr (Or.inl rfl)) 4613937818241073152 w hG known_ok (Or.inl ⟨rfl, none, 0, rfl, by decide⟩) Ss.Of.nil (fun p hp => by cases hp) (Or.inl ⟨rfl, none, 0, rfl, by decide⟩) rfl (fun s hs => by cases hs))
  have hsz27 : (Tryz.prog.info? 40).map (·.size) = some 27 := by kernel_rfl
  have hord : (FloatKind.f64.format.order 4613937818241073152 4613937818241073152 == some Ordering.eq) = true := by decide +kernel
  go_enter Tryz.func9, Tryz.ntmps9
  go_wp2_with fail
  refine CC.out.mono ?_
  rintro e w1 ⟨a1, c1, rfl, ho, hb1⟩
  have HB1 := Lib.hid hb1
  clear ho hb1
  rename_i K1 hK1 K2 hK2
  dsimp only
  refine hK2 _ _ ?_
  refine wpList_plain rfl fun K3 hK3 => ?_
  go_simp
  refine hK3 _ _ ?_
  refine wpList_plain rfl fun K4 hK4 => ?_
  go_simp
  refine hK4 _ _ ?_
  refine wpList_plain rfl fun K5 hK5 => ?_
  go_simp
  refine hK5 _ _ ?_
  refine wpList_plain rfl fun K6 hK6 => ?_
  go_simp
  refine hK6 _ _ ?_
  refine Big.wpList_store_whole rfl _ _ _ rfl w1.heap.size 40 (xcs (.slice none 0 0) 0 0 false 0 false 0) (xcs (.slice a1 (labs [] [] (fit [])).length c1) 1 4613937818241073152 (isD 1 none) (toD 1 none) false 0) rfl rfl (Whole.made w1 _ _) rfl hsz27 (xcs_ones _ _ _ _ _ _ _ _ _) ?_
  intro W7 hx7 hg7 hs7
  simp only [Act.put]
  have HF : Hid (Below w.heap.size w W7) := (HB1.out.alloc HB1.out.size _).grown hg7 (by have := HB1.out.size; simp; omega) (fun j hj => by injection hj with hj; have := HB1.out.size; omega)
  have x1 : W7.cell? ⟨w1.heap.size, 1, none⟩ = some (.int .i64 1) := hx7.cell 1
  have x2 : W7.cell? ⟨w1.heap.size, 2, none⟩ = some (.float .f64 4613937818241073152) := hx7.cell 2
  clear hx7 hg7 hs7 CC
  go_wp2_with fail
  go_ret
  exact ⟨rfl, HF.out⟩

end Go.Proofs.YtlolomodcbkblaaGreatDoor.Mt
