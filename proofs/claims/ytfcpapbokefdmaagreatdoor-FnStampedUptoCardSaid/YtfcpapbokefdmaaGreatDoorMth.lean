/- Metrics: a metric with a single value handed to the package (impl.metricTo). -/
import Derived.Test.YtfcpapbokefdmaaGreatDoorMtg
import Derived.Test.YtfcpapbokefdmaaGreatDoorMte
set_option linter.unusedVariables false
set_option linter.unusedSimpArgs false
namespace Go.Proofs.YtfcpapbokefdmaaGreatDoor.Mt
open Go.RowKit Go.Maps Go.WideMaps Go.ChangeShapes Go.WideShapes Go.Deep Fp Obs _root_.Go.Proofs.YtfcpapbokefdmaaGreatDoor.Nd
attribute [local go_sem] run_store_float

def stamped (b : Bool) (t : Int) : Option Int := if b then some t else none
def ToOut (L : List P2) (kind : Int) (val : Nat) (st : Option Int) (w : World) (e : Ending) (w' : World) : Prop :=
  ∃ b, e = .returned (ptr b) ∧ MetAt w' b L kind val none st ∧ w.heap.size ≤ b ∧ Below w.heap.size w w'
theorem to_three {lv : Value} {L : List P2} {kind : Int} {val : Nat} {w w1 : World} (T2 : TypeId) (cs : Array Value) (ts : Value) (hb : Below w.heap.size w w1) (hp : Pairs w1 lv L) (h0 : cs[0]? = some (ptr (w1.heap.size + 1))) (h1 : kind = 0 → cs[1]? = some nilp) (h2 : kind = 0 → cs[2]? = some nilp) :
    ∀ W, W = ((w1.alloc (.cells (mcs lv kind (w1.heap.size + 1 + 1) ts) 155)).alloc (.cells #[.float .f64 val] 50)).alloc (.cells cs T2) →
      (∀ j, W.cell? ⟨w1.heap.size, j, none⟩ = (mcs lv kind (w1.heap.size + 1 + 1) ts)[j]?) ∧ Pairs W lv L ∧ ValAt W kind (w1.heap.size + 1 + 1) (w1.heap.size + 1) val nilp ∧ W.heap.size = w1.heap.size + 1 + 1 + 1 ∧ Below w.heap.size w W := by
  rintro W rfl
  have s1 : (w1.alloc (.cells (mcs lv kind (w1.heap.size + 1 + 1) ts) 155)).heap.size = w1.heap.size + 1 := by simp
  have s2 : ((w1.alloc (.cells (mcs lv kind (w1.heap.size + 1 + 1) ts) 155)).alloc (.cells #[.float .f64 val] 50)).heap.size = w1.heap.size + 1 + 1 := by simp
  have q1 : Below w1.heap.size w1 (((w1.alloc (.cells (mcs lv kind (w1.heap.size + 1 + 1) ts) 155)).alloc (.cells #[.float .f64 val] 50)).alloc (.cells cs T2)) := (((Below.refl _ _).alloc (Nat.le_refl _) _).alloc (by rw [s1]; omega) _).alloc (by rw [s2]; omega) _
  have c3 := fun j => Sl.cell_new ((w1.alloc (.cells (mcs lv kind (w1.heap.size + 1 + 1) ts) 155)).alloc (.cells #[.float .f64 val] 50)) cs T2 j
  have c2 := Sl.cell_new (w1.alloc (.cells (mcs lv kind (w1.heap.size + 1 + 1) ts) 155)) #[.float .f64 val] 50 0
  simp only [s2] at c3
  rw [s1] at c2
  refine ⟨fun j => ?_, hp.below q1, ⟨(c3 0).trans h0, fun h => (c3 1).trans (h1 h), fun h => (c3 2).trans (h2 h), ?_, by simp⟩, by simp, hb.trans (q1.mono hb.size)⟩
  · rw [Sl.cell_old _ _ _ _ (by rw [s2]; omega), Sl.cell_old _ _ _ _ (by rw [s1]; omega)]; exact Sl.cell_new w1 _ _ j
  · rw [Sl.cell_old _ _ _ _ (by rw [s2]; omega)]; exact c2
theorem to_plain {lv : Value} {L : List P2} {kind : Int} {val : Nat} {w w1 : World} (T2 : TypeId) (cs : Array Value) (hb : Below w.heap.size w w1) (hp : Pairs w1 lv L) (h0 : cs[0]? = some (ptr (w1.heap.size + 1))) (h1 : kind = 0 → cs[1]? = some nilp) (h2 : kind = 0 → cs[2]? = some nilp) :
    ToOut L kind val none w (.returned (ptr w1.heap.size)) (((w1.alloc (.cells (mcs lv kind (w1.heap.size + 1 + 1) nilp) 155)).alloc (.cells #[.float .f64 val] 50)).alloc (.cells cs T2)) := by
  obtain ⟨g1, g2, g3, g4, g5⟩ := to_three T2 cs nilp hb hp h0 h1 h2 _ rfl
  exact ⟨_, rfl, ⟨⟨_, _, _, nilp, nilp, g1, g2, g3, fun _ => rfl, rfl⟩, by rw [g4]; omega⟩, hb.size, g5⟩
theorem to_stamped {lv : Value} {L : List P2} {kind : Int} {val : Nat} {t : Int} {w w1 : World} (T2 : TypeId) (cs : Array Value) (hb : Below w.heap.size w w1) (hp : Pairs w1 lv L) (h0 : cs[0]? = some (ptr (w1.heap.size + 1))) (h1 : kind = 0 → cs[1]? = some nilp) (h2 : kind = 0 → cs[2]? = some nilp) :
    ToOut L kind val (some t) w (.returned (ptr w1.heap.size)) ((((w1.alloc (.cells (mcs lv kind (w1.heap.size + 1 + 1) (ptr (w1.heap.size + 1 + 1 + 1))) 155)).alloc (.cells #[.float .f64 val] 50)).alloc (.cells cs T2)).alloc (.cells #[.int .i64 t] 2)) := by
  obtain ⟨g1, g2, g3, g4, g5⟩ := to_three T2 cs (ptr (w1.heap.size + 1 + 1 + 1)) hb hp h0 h1 h2 _ rfl
  obtain ⟨W, hW⟩ : ∃ W, W = ((w1.alloc (.cells (mcs lv kind (w1.heap.size + 1 + 1) (ptr (w1.heap.size + 1 + 1 + 1))) 155)).alloc (.cells #[.float .f64 val] 50)).alloc (.cells cs T2) := ⟨_, rfl⟩
  rw [← hW] at g1 g2 g3 g4 g5 ⊢
  have q : Below W.heap.size W (W.alloc (.cells #[.int .i64 t] 2)) := (Below.refl _ _).alloc (Nat.le_refl _) _
  refine ⟨_, rfl, ⟨⟨_, _, _, nilp, _, fun j => (Sl.cell_old W _ _ _ (by rw [g4]; omega)).trans (g1 j), g2.below q, g3.below q, fun _ => rfl, ⟨w1.heap.size + 1 + 1 + 1, rfl, by simp [g4], ?_⟩⟩, by simp [g4]; omega⟩, hb.size, g5.trans (q.mono g5.size)⟩
  rw [← g4]
  exact Sl.cell_new W _ _ 0

set_option maxHeartbeats 8000000 in
set_option maxRecDepth 100000 in
theorem metricTo_0 (L : List P2) (a : Option Addr) (c : Nat) (val : Nat) (t12 : Int) (w : World) (hof : Ss.Of 2 pc w (.slice a L.length c) L) (hL : L.length ≤ 2147483647) :
    Calls Tryz.prog 72 #[.agg (xcs (.slice a L.length c) 0 val false 0 false t12)] w (ToOut L 0 val (none) w) := by
  obtain ⟨A, hA⟩ : ∃ A, A = w.alloc (.cells (xcs (.slice a L.length c) 0 val false 0 false t12) 75) := ⟨_, rfl⟩
  have s1 : A.heap.size = w.heap.size + 1 := by rw [hA]; simp
  have hqb : Below w.heap.size w A := by rw [hA]; exact (Below.refl _ _).alloc (Nat.le_refl _) _
  have hWp : Whole A w.heap.size 75 (xcs (.slice a L.length c) 0 val false 0 false t12) := by rw [hA]; exact Whole.made w _ _
  have CP := Lib.hid (labelPairsTo_any L (.slice a L.length c) A (hof.below hqb) hL)
  clear hof
  unfold xcs at hA
  go_enter Tryz.func72, Tryz.ntmps72
  unfold xcs
  go_wp2_with fail
  rw [← hA]
  clear hA
  refine CP.out.mono ?_
  rintro e w1 ⟨v1, rfl, hp, hb1⟩
  have hw1 : Whole w1 w.heap.size 75 (xcs (.slice a L.length c) 0 val false 0 false t12) := (hb1.block _ (by omega)).trans hWp
  have k1 : w1.cell? ⟨w.heap.size, 1, none⟩ = some (.int .i64 0) := hw1.cell 1
  have k2 : w1.cell? ⟨w.heap.size, 2, none⟩ = some (.float .f64 val) := hw1.cell 2
  have hlp : w.heap.size < w1.heap.size := hw1.lt
  obtain ⟨lv, hlv⟩ : ∃ lv, lv = v1 := ⟨_, rfl⟩
  rw [← hlv]
  rw [← hlv] at hp
  clear hlv
  obtain ⟨qs, hql, hlvs, _⟩ := id hp
  obtain ⟨al, cl, hal, _, _⟩ := sl_slice hlvs
  have hz1 := hb1.size
  have hbw : Below w.heap.size w w1 := hqb.trans (hb1.mono (by omega))
  have m25 : (((w1.alloc (.cells #[lv, nilp, ptr (w1.heap.size + 1 + 1), nilp, nilp, nilp, nilp] 155)).alloc (.cells #[.float .f64 val] 50)).alloc (.cells #[ptr (w1.heap.size + 1), nilp, nilp] 187)).cell? ⟨w.heap.size, 25, none⟩ = some (.bool false) := al_cell _ (al_cell _ (al_cell _ (hw1.cell 25)))
  have m3 : (((w1.alloc (.cells #[lv, nilp, ptr (w1.heap.size + 1 + 1), nilp, nilp, nilp, nilp] 155)).alloc (.cells #[.float .f64 val] 50)).alloc (.cells #[ptr (w1.heap.size + 1), nilp, nilp] 187)).cell? ⟨w.heap.size, 3, none⟩ = some (.bool false) := al_cell _ (al_cell _ (al_cell _ (hw1.cell 3)))
  have m8 : (((w1.alloc (.cells #[lv, nilp, ptr (w1.heap.size + 1 + 1), nilp, nilp, nilp, nilp] 155)).alloc (.cells #[.float .f64 val] 50)).alloc (.cells #[ptr (w1.heap.size + 1), nilp, nilp] 187)).cell? ⟨w.heap.size, 8, none⟩ = some (.bool false) := al_cell _ (al_cell _ (al_cell _ (hw1.cell 8)))
  have HF := Lib.hid (to_plain 187 #[ptr (w1.heap.size + 1), nilp, nilp] hbw hp rfl (fun h => rfl) (fun h => rfl) : ToOut L 0 val (none) w _ _)
  subst hal
  clear hlvs hql hp hw1 hWp hqb hb1 hbw CP
  go_wp2_with (first
    | (go_at_call 94; refine (ofFloat_any _ _).mono ?_; rintro e w' ⟨rfl, rfl⟩)
    | (go_at_call 98; refine (ofInt_any _ _).mono ?_; rintro e w' ⟨rfl, rfl⟩))
  go_ret
  exact HF.out

set_option maxHeartbeats 8000000 in
set_option maxRecDepth 100000 in
theorem metricTo_1 (L : List P2) (a : Option Addr) (c : Nat) (val : Nat) (t12 : Int) (w : World) (hof : Ss.Of 2 pc w (.slice a L.length c) L) (hL : L.length ≤ 2147483647) :
    Calls Tryz.prog 72 #[.agg (xcs (.slice a L.length c) 1 val false 0 false t12)] w (ToOut L 1 val (none) w) := by
  obtain ⟨A, hA⟩ : ∃ A, A = w.alloc (.cells (xcs (.slice a L.length c) 1 val false 0 false t12) 75) := ⟨_, rfl⟩
  have s1 : A.heap.size = w.heap.size + 1 := by rw [hA]; simp
  have hqb : Below w.heap.size w A := by rw [hA]; exact (Below.refl _ _).alloc (Nat.le_refl _) _
  have hWp : Whole A w.heap.size 75 (xcs (.slice a L.length c) 1 val false 0 false t12) := by rw [hA]; exact Whole.made w _ _
  have CP := Lib.hid (labelPairsTo_any L (.slice a L.length c) A (hof.below hqb) hL)
  clear hof
  unfold xcs at hA
  go_enter Tryz.func72, Tryz.ntmps72
  unfold xcs
  go_wp2_with fail
  rw [← hA]
  clear hA
  refine CP.out.mono ?_
  rintro e w1 ⟨v1, rfl, hp, hb1⟩
  have hw1 : Whole w1 w.heap.size 75 (xcs (.slice a L.length c) 1 val false 0 false t12) := (hb1.block _ (by omega)).trans hWp
  have k1 : w1.cell? ⟨w.heap.size, 1, none⟩ = some (.int .i64 1) := hw1.cell 1
  have k2 : w1.cell? ⟨w.heap.size, 2, none⟩ = some (.float .f64 val) := hw1.cell 2
  have hlp : w.heap.size < w1.heap.size := hw1.lt
  obtain ⟨lv, hlv⟩ : ∃ lv, lv = v1 := ⟨_, rfl⟩
  rw [← hlv]
  rw [← hlv] at hp
  clear hlv
  obtain ⟨qs, hql, hlvs, _⟩ := id hp
  obtain ⟨al, cl, hal, _, _⟩ := sl_slice hlvs
  have hz1 := hb1.size
  have hbw : Below w.heap.size w w1 := hqb.trans (hb1.mono (by omega))
  have m25 : (((w1.alloc (.cells #[lv, ptr (w1.heap.size + 1 + 1), nilp, nilp, nilp, nilp, nilp] 155)).alloc (.cells #[.float .f64 val] 50)).alloc (.cells #[ptr (w1.heap.size + 1)] 190)).cell? ⟨w.heap.size, 25, none⟩ = some (.bool false) := al_cell _ (al_cell _ (al_cell _ (hw1.cell 25)))
  have HF := Lib.hid (to_plain 190 #[ptr (w1.heap.size + 1)] hbw hp rfl (fun h => by cases h) (fun h => by cases h) : ToOut L 1 val (none) w _ _)
  subst hal
  clear hlvs hql hp hw1 hWp hqb hb1 hbw CP
  go_wp2_with (first
    | (go_at_call 94; refine (ofFloat_any _ _).mono ?_; rintro e w' ⟨rfl, rfl⟩)
    | (go_at_call 98; refine (ofInt_any _ _).mono ?_; rintro e w' ⟨rfl, rfl⟩))
  go_ret
  exact HF.out

set_option maxHeartbeats 8000000 in
set_option maxRecDepth 100000 in
theorem metricTo_3 (L : List P2) (a : Option Addr) (c : Nat) (val : Nat) (t12 : Int) (w : World) (hof : Ss.Of 2 pc w (.slice a L.length c) L) (hL : L.length ≤ 2147483647) :
    Calls Tryz.prog 72 #[.agg (xcs (.slice a L.length c) 3 val false 0 false t12)] w (ToOut L 3 val (none) w) := by
  obtain ⟨A, hA⟩ : ∃ A, A = w.alloc (.cells (xcs (.slice a L.length c) 3 val false 0 false t12) 75) := ⟨_, rfl⟩
  have s1 : A.heap.size = w.heap.size + 1 := by rw [hA]; simp
  have hqb : Below w.heap.size w A := by rw [hA]; exact (Below.refl _ _).alloc (Nat.le_refl _) _
  have hWp : Whole A w.heap.size 75 (xcs (.slice a L.length c) 3 val false 0 false t12) := by rw [hA]; exact Whole.made w _ _
  have CP := Lib.hid (labelPairsTo_any L (.slice a L.length c) A (hof.below hqb) hL)
  clear hof
  unfold xcs at hA
  go_enter Tryz.func72, Tryz.ntmps72
  unfold xcs
  go_wp2_with fail
  rw [← hA]
  clear hA
  refine CP.out.mono ?_
  rintro e w1 ⟨v1, rfl, hp, hb1⟩
  have hw1 : Whole w1 w.heap.size 75 (xcs (.slice a L.length c) 3 val false 0 false t12) := (hb1.block _ (by omega)).trans hWp
  have k1 : w1.cell? ⟨w.heap.size, 1, none⟩ = some (.int .i64 3) := hw1.cell 1
  have k2 : w1.cell? ⟨w.heap.size, 2, none⟩ = some (.float .f64 val) := hw1.cell 2
  have hlp : w.heap.size < w1.heap.size := hw1.lt
  obtain ⟨lv, hlv⟩ : ∃ lv, lv = v1 := ⟨_, rfl⟩
  rw [← hlv]
  rw [← hlv] at hp
  clear hlv
  obtain ⟨qs, hql, hlvs, _⟩ := id hp
  obtain ⟨al, cl, hal, _, _⟩ := sl_slice hlvs
  have hz1 := hb1.size
  have hbw : Below w.heap.size w w1 := hqb.trans (hb1.mono (by omega))
  have m25 : (((w1.alloc (.cells #[lv, nilp, nilp, nilp, ptr (w1.heap.size + 1 + 1), nilp, nilp] 155)).alloc (.cells #[.float .f64 val] 50)).alloc (.cells #[ptr (w1.heap.size + 1)] 191)).cell? ⟨w.heap.size, 25, none⟩ = some (.bool false) := al_cell _ (al_cell _ (al_cell _ (hw1.cell 25)))
  have HF := Lib.hid (to_plain 191 #[ptr (w1.heap.size + 1)] hbw hp rfl (fun h => by cases h) (fun h => by cases h) : ToOut L 3 val (none) w _ _)
  subst hal
  clear hlvs hql hp hw1 hWp hqb hb1 hbw CP
  go_wp2_with (first
    | (go_at_call 94; refine (ofFloat_any _ _).mono ?_; rintro e w' ⟨rfl, rfl⟩)
    | (go_at_call 98; refine (ofInt_any _ _).mono ?_; rintro e w' ⟨rfl, rfl⟩))
  go_ret
  exact HF.out

set_option maxHeartbeats 8000000 in
set_option maxRecDepth 100000 in
theorem metricTo_0s (L : List P2) (a : Option Addr) (c : Nat) (val : Nat) (t12 : Int) (w : World) (hof : Ss.Of 2 pc w (.slice a L.length c) L) (hL : L.length ≤ 2147483647) :
    Calls Tryz.prog 72 #[.agg (xcs (.slice a L.length c) 0 val false 0 true t12)] w (ToOut L 0 val (some t12) w) := by
  obtain ⟨A, hA⟩ : ∃ A, A = w.alloc (.cells (xcs (.slice a L.length c) 0 val false 0 true t12) 75) := ⟨_, rfl⟩
  have s1 : A.heap.size = w.heap.size + 1 := by rw [hA]; simp
  have hqb : Below w.heap.size w A := by rw [hA]; exact (Below.refl _ _).alloc (Nat.le_refl _) _
  have hWp : Whole A w.heap.size 75 (xcs (.slice a L.length c) 0 val false 0 true t12) := by rw [hA]; exact Whole.made w _ _
  have CP := Lib.hid (labelPairsTo_any L (.slice a L.length c) A (hof.below hqb) hL)
  clear hof
  unfold xcs at hA
  go_enter Tryz.func72, Tryz.ntmps72
  unfold xcs
  go_wp2_with fail
  rw [← hA]
  clear hA
  refine CP.out.mono ?_
  rintro e w1 ⟨v1, rfl, hp, hb1⟩
  have hw1 : Whole w1 w.heap.size 75 (xcs (.slice a L.length c) 0 val false 0 true t12) := (hb1.block _ (by omega)).trans hWp
  have k1 : w1.cell? ⟨w.heap.size, 1, none⟩ = some (.int .i64 0) := hw1.cell 1
  have k2 : w1.cell? ⟨w.heap.size, 2, none⟩ = some (.float .f64 val) := hw1.cell 2
  have hlp : w.heap.size < w1.heap.size := hw1.lt
  obtain ⟨lv, hlv⟩ : ∃ lv, lv = v1 := ⟨_, rfl⟩
  rw [← hlv]
  rw [← hlv] at hp
  clear hlv
  obtain ⟨qs, hql, hlvs, _⟩ := id hp
  obtain ⟨al, cl, hal, _, _⟩ := sl_slice hlvs
  have hz1 := hb1.size
  have hbw : Below w.heap.size w w1 := hqb.trans (hb1.mono (by omega))
  have m25 : (((w1.alloc (.cells #[lv, nilp, ptr (w1.heap.size + 1 + 1), nilp, nilp, nilp, nilp] 155)).alloc (.cells #[.float .f64 val] 50)).alloc (.cells #[ptr (w1.heap.size + 1), nilp, nilp] 187)).cell? ⟨w.heap.size, 25, none⟩ = some (.bool true) := al_cell _ (al_cell _ (al_cell _ (hw1.cell 25)))
  have m26 : (((w1.alloc (.cells #[lv, nilp, ptr (w1.heap.size + 1 + 1), nilp, nilp, nilp, nilp] 155)).alloc (.cells #[.float .f64 val] 50)).alloc (.cells #[ptr (w1.heap.size + 1), nilp, nilp] 187)).cell? ⟨w.heap.size, 26, none⟩ = some (.int .i64 t12) := al_cell _ (al_cell _ (al_cell _ (hw1.cell 26)))
  have m3 : (((w1.alloc (.cells #[lv, nilp, ptr (w1.heap.size + 1 + 1), nilp, nilp, nilp, nilp] 155)).alloc (.cells #[.float .f64 val] 50)).alloc (.cells #[ptr (w1.heap.size + 1), nilp, nilp] 187)).cell? ⟨w.heap.size, 3, none⟩ = some (.bool false) := al_cell _ (al_cell _ (al_cell _ (hw1.cell 3)))
  have m8 : (((w1.alloc (.cells #[lv, nilp, ptr (w1.heap.size + 1 + 1), nilp, nilp, nilp, nilp] 155)).alloc (.cells #[.float .f64 val] 50)).alloc (.cells #[ptr (w1.heap.size + 1), nilp, nilp] 187)).cell? ⟨w.heap.size, 8, none⟩ = some (.bool false) := al_cell _ (al_cell _ (al_cell _ (hw1.cell 8)))
  have HF := Lib.hid (to_stamped 187 #[ptr (w1.heap.size + 1), nilp, nilp] hbw hp rfl (fun h => rfl) (fun h => rfl) : ToOut L 0 val (some t12) w _ _)
  subst hal
  clear hlvs hql hp hw1 hWp hqb hb1 hbw CP
  go_wp2_with (first
    | (go_at_call 94; refine (ofFloat_any _ _).mono ?_; rintro e w' ⟨rfl, rfl⟩)
    | (go_at_call 98; refine (ofInt_any _ _).mono ?_; rintro e w' ⟨rfl, rfl⟩))
  go_ret
  exact HF.out

set_option maxHeartbeats 8000000 in
set_option maxRecDepth 100000 in
theorem metricTo_1s (L : List P2) (a : Option Addr) (c : Nat) (val : Nat) (t12 : Int) (w : World) (hof : Ss.Of 2 pc w (.slice a L.length c) L) (hL : L.length ≤ 2147483647) :
    Calls Tryz.prog 72 #[.agg (xcs (.slice a L.length c) 1 val false 0 true t12)] w (ToOut L 1 val (some t12) w) := by
  obtain ⟨A, hA⟩ : ∃ A, A = w.alloc (.cells (xcs (.slice a L.length c) 1 val false 0 true t12) 75) := ⟨_, rfl⟩
  have s1 : A.heap.size = w.heap.size + 1 := by rw [hA]; simp
  have hqb : Below w.heap.size w A := by rw [hA]; exact (Below.refl _ _).alloc (Nat.le_refl _) _
  have hWp : Whole A w.heap.size 75 (xcs (.slice a L.length c) 1 val false 0 true t12) := by rw [hA]; exact Whole.made w _ _
  have CP := Lib.hid (labelPairsTo_any L (.slice a L.length c) A (hof.below hqb) hL)
  clear hof
  unfold xcs at hA
  go_enter Tryz.func72, Tryz.ntmps72
  unfold xcs
  go_wp2_with fail
  rw [← hA]
  clear hA
  refine CP.out.mono ?_
  rintro e w1 ⟨v1, rfl, hp, hb1⟩
  have hw1 : Whole w1 w.heap.size 75 (xcs (.slice a L.length c) 1 val false 0 true t12) := (hb1.block _ (by omega)).trans hWp
  have k1 : w1.cell? ⟨w.heap.size, 1, none⟩ = some (.int .i64 1) := hw1.cell 1
  have k2 : w1.cell? ⟨w.heap.size, 2, none⟩ = some (.float .f64 val) := hw1.cell 2
  have hlp : w.heap.size < w1.heap.size := hw1.lt
  obtain ⟨lv, hlv⟩ : ∃ lv, lv = v1 := ⟨_, rfl⟩
  rw [← hlv]
  rw [← hlv] at hp
  clear hlv
  obtain ⟨qs, hql, hlvs, _⟩ := id hp
  obtain ⟨al, cl, hal, _, _⟩ := sl_slice hlvs
  have hz1 := hb1.size
  have hbw : Below w.heap.size w w1 := hqb.trans (hb1.mono (by omega))
  have m25 : (((w1.alloc (.cells #[lv, ptr (w1.heap.size + 1 + 1), nilp, nilp, nilp, nilp, nilp] 155)).alloc (.cells #[.float .f64 val] 50)).alloc (.cells #[ptr (w1.heap.size + 1)] 190)).cell? ⟨w.heap.size, 25, none⟩ = some (.bool true) := al_cell _ (al_cell _ (al_cell _ (hw1.cell 25)))
  have m26 : (((w1.alloc (.cells #[lv, ptr (w1.heap.size + 1 + 1), nilp, nilp, nilp, nilp, nilp] 155)).alloc (.cells #[.float .f64 val] 50)).alloc (.cells #[ptr (w1.heap.size + 1)] 190)).cell? ⟨w.heap.size, 26, none⟩ = some (.int .i64 t12) := al_cell _ (al_cell _ (al_cell _ (hw1.cell 26)))
  have HF := Lib.hid (to_stamped 190 #[ptr (w1.heap.size + 1)] hbw hp rfl (fun h => by cases h) (fun h => by cases h) : ToOut L 1 val (some t12) w _ _)
  subst hal
  clear hlvs hql hp hw1 hWp hqb hb1 hbw CP
  go_wp2_with (first
    | (go_at_call 94; refine (ofFloat_any _ _).mono ?_; rintro e w' ⟨rfl, rfl⟩)
    | (go_at_call 98; refine (ofInt_any _ _).mono ?_; rintro e w' ⟨rfl, rfl⟩))
  go_ret
  exact HF.out

set_option maxHeartbeats 8000000 in
set_option maxRecDepth 100000 in
theorem metricTo_3s (L : List P2) (a : Option Addr) (c : Nat) (val : Nat) (t12 : Int) (w : World) (hof : Ss.Of 2 pc w (.slice a L.length c) L) (hL : L.length ≤ 2147483647) :
    Calls Tryz.prog 72 #[.agg (xcs (.slice a L.length c) 3 val false 0 true t12)] w (ToOut L 3 val (some t12) w) := by
  obtain ⟨A, hA⟩ : ∃ A, A = w.alloc (.cells (xcs (.slice a L.length c) 3 val false 0 true t12) 75) := ⟨_, rfl⟩
  have s1 : A.heap.size = w.heap.size + 1 := by rw [hA]; simp
  have hqb : Below w.heap.size w A := by rw [hA]; exact (Below.refl _ _).alloc (Nat.le_refl _) _
  have hWp : Whole A w.heap.size 75 (xcs (.slice a L.length c) 3 val false 0 true t12) := by rw [hA]; exact Whole.made w _ _
  have CP := Lib.hid (labelPairsTo_any L (.slice a L.length c) A (hof.below hqb) hL)
  clear hof
  unfold xcs at hA
  go_enter Tryz.func72, Tryz.ntmps72
  unfold xcs
  go_wp2_with fail
  rw [← hA]
  clear hA
  refine CP.out.mono ?_
  rintro e w1 ⟨v1, rfl, hp, hb1⟩
  have hw1 : Whole w1 w.heap.size 75 (xcs (.slice a L.length c) 3 val false 0 true t12) := (hb1.block _ (by omega)).trans hWp
  have k1 : w1.cell? ⟨w.heap.size, 1, none⟩ = some (.int .i64 3) := hw1.cell 1
  have k2 : w1.cell? ⟨w.heap.size, 2, none⟩ = some (.float .f64 val) := hw1.cell 2
  have hlp : w.heap.size < w1.heap.size := hw1.lt
  obtain ⟨lv, hlv⟩ : ∃ lv, lv = v1 := ⟨_, rfl⟩
  rw [← hlv]
  rw [← hlv] at hp
  clear hlv
  obtain ⟨qs, hql, hlvs, _⟩ := id hp
  obtain ⟨al, cl, hal, _, _⟩ := sl_slice hlvs
  have hz1 := hb1.size
  have hbw : Below w.heap.size w w1 := hqb.trans (hb1.mono (by omega))
  have m25 : (((w1.alloc (.cells #[lv, nilp, nilp, nilp, ptr (w1.heap.size + 1 + 1), nilp, nilp] 155)).alloc (.cells #[.float .f64 val] 50)).alloc (.cells #[ptr (w1.heap.size + 1)] 191)).cell? ⟨w.heap.size, 25, none⟩ = some (.bool true) := al_cell _ (al_cell _ (al_cell _ (hw1.cell 25)))
  have m26 : (((w1.alloc (.cells #[lv, nilp, nilp, nilp, ptr (w1.heap.size + 1 + 1), nilp, nilp] 155)).alloc (.cells #[.float .f64 val] 50)).alloc (.cells #[ptr (w1.heap.size + 1)] 191)).cell? ⟨w.heap.size, 26, none⟩ = some (.int .i64 t12) := al_cell _ (al_cell _ (al_cell _ (hw1.cell 26)))
  have HF := Lib.hid (to_stamped 191 #[ptr (w1.heap.size + 1)] hbw hp rfl (fun h => by cases h) (fun h => by cases h) : ToOut L 3 val (some t12) w _ _)
  subst hal
  clear hlvs hql hp hw1 hWp hqb hb1 hbw CP
  go_wp2_with (first
    | (go_at_call 94; refine (ofFloat_any _ _).mono ?_; rintro e w' ⟨rfl, rfl⟩)
    | (go_at_call 98; refine (ofInt_any _ _).mono ?_; rintro e w' ⟨rfl, rfl⟩))
  go_ret
  exact HF.out

theorem metricTo_any (L : List P2) (a : Option Addr) (c : Nat) (kind : Int) (hk : kind = 0 ∨ kind = 1 ∨ kind = 3) (val : Nat) (b11 : Bool) (t12 : Int) (w : World) (hof : Ss.Of 2 pc w (.slice a L.length c) L) (hL : L.length ≤ 2147483647) :
    Calls Tryz.prog 72 #[.agg (xcs (.slice a L.length c) kind val false 0 b11 t12)] w (ToOut L kind val (stamped b11 t12) w) := by
  cases b11 with
  | false =>
    rcases hk with rfl | rfl | rfl
    · exact metricTo_0 L a c val t12 w hof hL
    · exact metricTo_1 L a c val t12 w hof hL
    · exact metricTo_3 L a c val t12 w hof hL
  | true =>
    rcases hk with rfl | rfl | rfl
    · exact metricTo_0s L a c val t12 w hof hL
    · exact metricTo_1s L a c val t12 w hof hL
    · exact metricTo_3s L a c val t12 w hof hL

end Go.Proofs.YtfcpapbokefdmaaGreatDoor.Mt
