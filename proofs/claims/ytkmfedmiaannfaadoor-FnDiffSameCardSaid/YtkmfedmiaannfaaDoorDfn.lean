/- Differences of two lists: the walks of NewMatcher and of isBJunk. -/
import Derived.Test.YtkmfedmiaannfaaDoorDfc
import Derived.Laws.EntriesVeiled
import Derived.LaidEqlPtr
set_option linter.unusedVariables false
set_option linter.unusedSimpArgs false
namespace Go.Proofs.YtkmfedmiaannfaaDoor.Df
open Go.RowKit Go.Maps Go.WideMaps Go.ChangeShapes

/-- a slice of one-cell elements, in a block ahead of g -/
def Ahead {α : Type} (g : Nat) (c : α → Value) (w : World) (v : Value) (zs : List α) : Prop := Sl.Of c w v zs ∧ ∀ b off n cap, v = .slice (some ⟨b, off, none⟩) n cap → 0 < n → b < g
theorem Ahead.only {α : Type} {g : Nat} {c : α → Value} {w w' : World} {v : Value} {zs : List α} (h : Ahead g c w v zs) (k : w.grownBy w' (some g)) : Ahead g c w' v zs :=
  ⟨Of_only h.1 (fun b off n cap hv hn e => by have := h.2 b off n cap hv hn; omega) k, h.2⟩
theorem Ahead.of {α : Type} {c : α → Value} {w : World} {v : Value} {zs : List α} (h : Sl.Of c w v zs) : Ahead w.heap.size c w v zs := by
  refine ⟨h, fun b off n cap hv hn => ?_⟩
  rcases h with ⟨_, a, cap', h1, _⟩ | ⟨b', off', cap', h1, _, _, _, h5, _⟩
  · rw [h1] at hv; injection hv with _ h2 _; omega
  · rw [h1] at hv
    injection hv with h2 _ _
    injection h2 with h2
    injection h2 with h2 _ _
    omega
theorem Ahead.slice {α : Type} {g : Nat} {c : α → Value} {w : World} {v : Value} {zs : List α} (h : Ahead g c w v zs) : ∃ a cap, v = .slice a zs.length cap := by
  rcases h.1 with ⟨rfl, a, cap, rfl, _⟩ | ⟨b, off, cap, rfl, _⟩
  · exact ⟨_, _, rfl⟩
  · exact ⟨_, _, rfl⟩

/-- a matcher of xs and ys in block g, whose blocks and edits are the values mv and ov -/
def Mat (w : World) (g : Nat) (xs ys : List ByteArray) (mv fv ov : Value) : Prop :=
  ∃ va vb bj jk pp, Whole w g 55 #[va, vb, .map (some bj), .nilFunc, .bool true, .map (some jk), mv, fv, .map (some pp), ov] ∧
    LookB w g bj ys ∧ (g < jk ∧ w.heap[jk]? = some (.map #[] 0)) ∧ Ahead g Value.string w va xs ∧ Ahead g Value.string w vb ys

theorem infoStrs : (Tryd.prog.info? 22).map (fun i => (i.zero, i.size, i.bytes)) = some (some (.slice none 0 0), 1, 24) := by kernel_rfl
/-- a fresh box and the matcher's fields are different places -/
theorem box_ne (v : Value) (g i : Nat) (cells : Array Value) (w : World) (hw : Whole w g 55 cells) :
    (binOp .eql 79 (.pointer (some ⟨w.heap.size, 0, none⟩)) (.pointer (some ⟨g, i, none⟩))).run Tryd.prog (w.alloc (.cells #[v] 22)) = .ok (.bool false) (w.alloc (.cells #[v] 22)) := by
  obtain ⟨i0, hi, hz0, hz1, hz2⟩ := info_parts infoStrs
  refine run_eql_ptr_other _ Tryd.underlying79 hi (by rw [hz1]; decide) ?_ (heap_alloc_new w _) (hw.alloc _)
  intro e
  injection e with e _ _
  have := hw.lt
  omega

def SeqOut (g : Nat) (cells : Array Value) (w : World) (e : Ending) (w' : World) : Prop :=
  e = .returned (.tuple #[]) ∧ Whole w' g 55 cells ∧ w.grownBy w' (some g)

set_option maxHeartbeats 8000000 in
set_option maxRecDepth 100000 in
theorem seq1_any (g : Nat) (v c0 c1 c2 c3 c4 c5 c6 c7 c8 c9 : Value) (a : Option Addr) (n c : Nat) (hv : v = .slice a n c) (w : World) (hw : Whole w g 55 #[c0, c1, c2, c3, c4, c5, c6, c7, c8, c9]) :
    Calls Tryd.prog 25 #[.pointer (some ⟨g, 0, none⟩), v] w (SeqOut g #[v, c1, c2, c3, c4, c5, .slice none 0 0, c7, c8, .slice none 0 0] w) := by
  subst hv
  have hne := box_ne (.slice a n c) g 0 _ w hw
  have d0 : w.cell? ⟨g, 0, none⟩ = some c0 := hw.cell 0
  have d6 : w.cell? ⟨g, 6, none⟩ = some c6 := hw.cell 6
  have d9 : w.cell? ⟨g, 9, none⟩ = some c9 := hw.cell 9
  have f0 := hw.free 0
  have f6 := hw.free 6
  have f9 := hw.free 9
  have hg := hw.lt
  have HW := Lib.hid hw
  clear hw
  go_enter Tryd.func25, Tryd.ntmps25
  go_wp2
  refine bodyPost_end (by simp [results, Tryd.results25, go_sem]) rfl ⟨rfl, ?_, ?_⟩
  · exact (((HW.out.put 0 _).put 6 _).put 9 _).alloc _
  · exact only_alloc (only_put (only_put (only_put (only_refl _ _) 0 _) 6 _) 9 _) _

theorem chain_of (ys : List ByteArray) (g : Nat) (va vb x2 x5 x6 x7 x8 x9 : Value) (w : World) (hw : Whole w g 55 #[va, vb, x2, .nilFunc, .bool true, x5, x6, x7, x8, x9])
    (hv : Sl.Of Value.string w vb ys) (hl : ys.length ≤ 2147483647) (hs : ∀ s ∈ ys, s.size ≤ 2147483647) :
    Calls Tryd.prog 32 #[.pointer (some ⟨g, 0, none⟩)] w (ChainOut ys g va vb x6 x7 x9 w) := chain_any ys g va vb x2 x5 x6 x7 x8 x9 w hw hv hl hs

def Seq2Out (ys : List ByteArray) (g : Nat) (va vb : Value) (w : World) (e : Ending) (w' : World) : Prop :=
  e = .returned (.tuple #[]) ∧ ∃ bj jk pp, Whole w' g 55 #[va, vb, .map (some bj), .nilFunc, .bool true, .map (some jk), .slice none 0 0, .map none, .map (some pp), .slice none 0 0] ∧
    LookB w' g bj ys ∧ (g < jk ∧ w'.heap[jk]? = some (.map #[] 0)) ∧ w.grownBy w' (some g)

set_option maxHeartbeats 8000000 in
set_option maxRecDepth 100000 in
theorem seq2_any (ys : List ByteArray) (g : Nat) (va vb c1 c2 c5 c6 c7 c8 c9 : Value) (w : World) (hw : Whole w g 55 #[va, c1, c2, .nilFunc, .bool true, c5, c6, c7, c8, c9])
    (hv : Ahead g Value.string w vb ys) (hl : ys.length ≤ 2147483647) (hs : ∀ s ∈ ys, s.size ≤ 2147483647) :
    Calls Tryd.prog 26 #[.pointer (some ⟨g, 0, none⟩), vb] w (Seq2Out ys g va vb w) := by
  obtain ⟨a, c, rfl⟩ := hv.slice
  have hne := box_ne (.slice a ys.length c) g 1 _ w hw
  have d1 : w.cell? ⟨g, 1, none⟩ = some c1 := hw.cell 1
  have d6 : w.cell? ⟨g, 6, none⟩ = some c6 := hw.cell 6
  have d7 : w.cell? ⟨g, 7, none⟩ = some c7 := hw.cell 7
  have d9 : w.cell? ⟨g, 9, none⟩ = some c9 := hw.cell 9
  have f1 := hw.free 1
  have f6 := hw.free 6
  have f7 := hw.free 7
  have f9 := hw.free 9
  have hg := hw.lt
  have hW2 := (((((hw.put 1 (.slice a ys.length c)).put 6 (.slice none 0 0)).put 9 (.slice none 0 0)).put 7 (.map none)).alloc (.cells #[.slice a ys.length c] 22))
  have hG2 := only_alloc (only_put (only_put (only_put (only_put (only_refl w (some g)) 1 (.slice a ys.length c)) 6 (.slice none 0 0)) 9 (.slice none 0 0)) 7 (.map none)) (.cells #[.slice a ys.length c] 22)
  have CC := chain_of ys g va (.slice a ys.length c) c2 c5 (.slice none 0 0) (.map none) c8 (.slice none 0 0) _ hW2 (hv.only hG2).1 hl hs
  have HCC := Lib.hid CC
  have HG2 := Lib.hid hG2
  clear CC hG2 hW2 hw hv hs
  go_enter Tryd.func26, Tryd.ntmps26
  go_wp2_with fail
  refine HCC.out.mono ?_
  rintro e w1 ⟨rfl, bj, jk, pp, hw1, hlk, hjk, hj, hgr⟩
  have hfin : Hid (Seq2Out ys g va (.slice a ys.length c) w (.returned (.tuple #[])) w1) := ⟨rfl, bj, jk, pp, hw1, hlk, ⟨hjk, hj⟩, HG2.out.andThen hgr (fun j hj => Or.inr hj)⟩
  clear hw1 hlk hjk hj hgr
  go_wp2
  exact bodyPost_end (by simp [results, Tryd.results26, go_sem]) rfl hfin.out

def NewOut (xs ys : List ByteArray) (w : World) (e : Ending) (w' : World) : Prop :=
  e = .returned (.pointer (some ⟨w.heap.size, 0, none⟩)) ∧ Mat w' w.heap.size xs ys (.slice none 0 0) (.map none) (.slice none 0 0) ∧ Below w.heap.size w w'

set_option maxHeartbeats 8000000 in
set_option maxRecDepth 100000 in
theorem new_any (xs ys : List ByteArray) (va vb : Value) (w : World) (hv : Sl.Of Value.string w va xs) (hv1 : Sl.Of Value.string w vb ys) (hl : ys.length ≤ 2147483647) (hs : ∀ s ∈ ys, s.size ≤ 2147483647) :
    Calls Tryd.prog 9 #[va, vb] w (NewOut xs ys w) := by
  have ha := Ahead.of hv
  have hb := Ahead.of hv1
  obtain ⟨a, c, hva⟩ := ha.slice
  have hw0 := Whole.made w 55 #[.slice none 0 0, .slice none 0 0, .map none, .nilFunc, .bool true, .map none, .slice none 0 0, .map none, .map none, .slice none 0 0]
  have hg0 := only_alloc (only_refl w (some w.heap.size)) (.cells #[.slice none 0 0, .slice none 0 0, .map none, .nilFunc, .bool true, .map none, .slice none 0 0, .map none, .map none, .slice none 0 0] 55)
  have C1 := seq1_any w.heap.size va _ _ _ _ _ _ _ _ _ _ a xs.length c hva _ hw0
  have HC1 := Lib.hid C1
  have HG0 := Lib.hid hg0
  have HA := Lib.hid ha
  have HB := Lib.hid hb
  have HS := Lib.hid hs
  clear hv hv1 hs ha hb hva hw0 hg0 C1
  go_enter Tryd.func9, Tryd.ntmps9
  go_wp2_with (first
    | (go_at_call 17; go_in))
  go_wp2_with fail
  refine HC1.out.mono ?_
  rintro e w1 ⟨rfl, hw1, hg1⟩
  have hg1' := HG0.out.andThen hg1 (fun j hj => Or.inr hj)
  have ha1 := HA.out.only hg1'
  have C2 := seq2_any ys w.heap.size va vb _ _ _ _ _ _ _ w1 hw1 (HB.out.only hg1') hl HS.out
  have HC2 := Lib.hid C2
  have HG1 := Lib.hid hg1'
  have HA1 := Lib.hid ha1
  clear hw1 hg1 hg1' ha1 C2
  go_wp2_with fail
  refine HC2.out.mono ?_
  rintro e w2 ⟨rfl, bj, jk, pp, hw2, hlk, hj, hg2⟩
  have hg2' := HG1.out.andThen hg2 (fun j hj => Or.inr hj)
  have hfin : Hid (NewOut xs ys w (.returned (.pointer (some ⟨w.heap.size, 0, none⟩))) w2) := by
    refine ⟨rfl, ⟨va, vb, bj, jk, pp, hw2, hlk, hj, HA1.out.only hg2, HB.out.only hg2'⟩, ?_⟩
    exact ⟨hg2'.os, hg2'.tape, hg2'.output, hg2'.size, fun i hi => hg2'.block i hi (by intro e; injection e with e; omega)⟩
  clear hw2 hlk hj hg2 hg2'
  go_wp2_with fail
  go_end0
  go_wp2
  go_ret
  exact hfin.out

theorem zeroUnit (w : World) : (zeroValue 83).run Tryd.prog w = .ok (.agg #[]) w := by kernel_rfl
/-- an empty set holds nothing -/
theorem look_none (jk : Nat) (s : ByteArray) (hs : s.size ≤ 2147483647) (w : World) (h : w.heap[jk]? = some (.map #[] 0)) :
    (Instr.lookup 51 (.map (some jk)) (.string s) true).run Tryd.prog w = .ok (.tuple #[.agg #[], .bool false]) w := by
  have F : Go.WideElems.Fit Tryd.prog 9 (unitElem (H := Unit)) #[] 0 := ⟨by simp, MapKept.stamped_empty 0, by simp⟩
  rcases Maps.fit_look true lawS Tryd.underlying51 (zeroUnit w) h F (keyOf_string_mk Tryd.underlying9 (s := s) (by unfold maxLen; omega)) with ⟨hrun, _⟩ | ⟨e0, y, hm, _⟩
  · exact hrun
  · simp at hm

set_option maxHeartbeats 1000000 in
set_option maxRecDepth 100000 in
/-- nothing is junk -/
theorem junk_any (g jk : Nat) (s : ByteArray) (hs : s.size ≤ 2147483647) (w : World) (d5 : w.cell? ⟨g, 5, none⟩ = some (.map (some jk))) (hj : w.heap[jk]? = some (.map #[] 0)) :
    Calls Tryd.prog 33 #[.pointer (some ⟨g, 0, none⟩), .string s] w fun e w' => e = .returned (.bool false) ∧ w' = w.alloc (.cells #[] 83) := by
  have hl := look_none jk s hs w hj
  clear hj
  go_enter Tryd.func33, Tryd.ntmps33
  go_wp2
  go_ret
  exact ⟨rfl, rfl⟩

end Go.Proofs.YtkmfedmiaannfaaDoor.Df
