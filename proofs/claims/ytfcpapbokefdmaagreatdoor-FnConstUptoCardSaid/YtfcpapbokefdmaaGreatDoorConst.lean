/- FnConst: a constant metric has its kind, its value, and its variable and constant labels, sorted by name: how the arguments are read, and the walk of the law. -/
import Derived.Test.YtfcpapbokefdmaaGreatDoorMte
import Derived.Test.YtfcpapbokefdmaaGreatDoorNsh
import Derived.Test.YtfcpapbokefdmaaGreatDoorNsf
import Derived.Test.YtfcpapbokefdmaaGreatDoorNgl
import Derived.Deep.DeepCutAuto
set_option linter.unusedVariables false
set_option linter.unusedSimpArgs false
namespace Go.Proofs.YtfcpapbokefdmaaGreatDoor.Const
open Go.RowKit Go.Maps Go.WideMaps Go.ChangeShapes Go.WideShapes Go.Deep Fp Obs _root_.Go.Proofs.YtfcpapbokefdmaaGreatDoor.Nd _root_.Go.Proofs.YtfcpapbokefdmaaGreatDoor.Mt

def Good (w : World) (v : Value) : Prop := ∃ nm hp un V L, MetaAt w v nm hp un V L ∧ Small nm hp un V L
def GoodS (w : World) (v : Value) : Prop := ∃ X : List ByteArray, Sl.Of Value.string w v X ∧ wt X ≤ 1048576
set_option maxRecDepth 100000 in
theorem read0 {H : Type} {enc : TypeId × Value → H} {W : World} {base b0 : Nat} {held : Bool} {r : Reach} {v : Value} {d : DataW H} {p : List MemPlace}
    (hv : Value.okWide Tryz.prog W r b0 25 v) (h : DataW.Trod enc Tryz.prog W base (fun _ => true) held 25 v d p) (hb : Rows.uptoBulk d ≤ 1048576) : Good W v := by
  obtain ⟨nm, hp, un, V, L, h1, h2, _⟩ := meta_read hv h hb
  exact ⟨nm, hp, un, V, L, h1, h2⟩
set_option maxRecDepth 100000 in
theorem read3 {H : Type} {enc : TypeId × Value → H} {W : World} {base b0 : Nat} {held : Bool} {r : Reach} {v : Value} {d : DataW H} {p : List MemPlace}
    (hv : Value.okWide Tryz.prog W r b0 22 v) (h : DataW.Trod enc Tryz.prog W base (fun _ => true) held 22 v d p) (hb : Rows.uptoBulk d ≤ 1048576) : GoodS W v := by
  obtain ⟨zs, h1, _, h2⟩ := Sl.open_strings_bulk Tryz.underlying22 Tryz.underlying9 (by kernel_rfl) hv h
  exact ⟨zs, h1, Nat.le_trans h2 hb⟩

/-- the reference's metric lies in block x -/
structure Want (LB : List P2) (kind : Int) (z x : Nat) (B : Nat) (A wx : World) : Prop where
  blk : ∃ a c, Whole wx x 62 (xcs (.slice a LB.length c) kind z false 0 false 0) ∧ Ss.Of 2 pc wx (.slice a LB.length c) LB
  b : Below B A wx
  lo : B ≤ x

set_option maxHeartbeats 16000000 in
set_option maxRecDepth 100000 in
theorem law_any (v : Value) (k : Int) (z : Nat) (v3 : Value) (w : World) (g1 : Good w v) (hk : (Lit.int .u8 k).wf = true) (hz : z < 18446744073709551616) (g2 : GoodS w v3) (hG : Glob w) :
    Calls Tryz.prog 7 #[v, .int .u8 k, .float .f64 z, v3] w fun e w' => e = .returned (.bool true) ∧ Below w.heap.size w w' := by
  obtain ⟨nm, hp, un, V, L, hm, hs⟩ := g1
  obtain ⟨X, hx, hxw⟩ := g2
  simp [Lit.wf, IntKind.min, IntKind.max, IntKind.signed, IntKind.bits] at hk
  obtain ⟨k, rfl⟩ := Int.eq_ofNat_of_zero_le hk.1
  have hk2 : k < 256 := by omega
  clear hk
  have hall := hs.all
  have hxl := wt_len X
  have hxs : ∀ s ∈ X, s.size ≤ 1048576 := fun s h => Nat.le_trans (mem_wt h) hxw
  have hkc := kind_cases k
  obtain ⟨vv, cv, rfl, hvv, hcv⟩ := id hm.val
  obtain ⟨A, hA⟩ : ∃ A, A = w.alloc (.cells #[.string nm, .string hp, .string un, vv, cv] 25) := ⟨_, rfl⟩
  have s2 : A.heap.size = w.heap.size + 1 := by rw [hA]; simp
  have hqb : Below w.heap.size w A := by rw [hA]; exact (Below.refl _ _).alloc (Nat.le_refl _) _
  have HUp : Hid (∀ W : World, Below (w.heap.size + 1) A W → Below w.heap.size w W) := fun W h => hqb.trans (h.mono (by omega))
  have HTr : Hid (∀ W W' : World, Below (w.heap.size + 1) A W → Below W.heap.size W W' → Below (w.heap.size + 1) A W') := fun W W' h h' => h.trans (h'.mono (by have := h.size; omega))
  have HC : Hid (∀ W : World, Below (w.heap.size + 1) A W → W.cell? ⟨w.heap.size, 0, none⟩ = some (.string nm) ∧ W.cell? ⟨w.heap.size, 1, none⟩ = some (.string hp) ∧ W.cell? ⟨w.heap.size, 2, none⟩ = some (.string un) ∧ W.cell? ⟨w.heap.size, 3, none⟩ = some vv ∧ W.cell? ⟨w.heap.size, 4, none⟩ = some cv) := fun W h => by
    rw [hA] at h
    have e : ∀ j, W.cell? ⟨w.heap.size, j, none⟩ = (#[.string nm, .string hp, .string un, vv, cv] : Array Value)[j]? := fun j => (h.cell (p := ⟨w.heap.size, j, none⟩) (by show w.heap.size < w.heap.size + 1; omega)).trans (Sl.cell_new w _ _ j)
    exact ⟨e 0, e 1, e 2, e 3, e 4⟩
  obtain ⟨LB, hLB⟩ : ∃ LB, labs V X (fit L) = LB := ⟨_, rfl⟩
  obtain ⟨kd, hkd⟩ : ∃ kd, kindOf k = kd := ⟨_, rfl⟩
  have hll : LB.length ≤ 2147483647 := by
    have := labs_len (V := V) (X := X) (F := fit L)
    have := fit_le L
    have := hm.lenL
    have := hm.lenV
    rw [← hLB]; omega
  have HF4 : Hid (∀ W : World, Below (w.heap.size + 1) A W → Calls Tryz.prog 10 #[.agg #[.string nm, .string hp, .string un, vv, cv]] W (fun e w' => e = .returned (.bool true) ∧ Below (w.heap.size + 1) A w')) := fun W h => (fits4_any _ nm hp un V L W (hm.below (HUp.out W h)) hs).mono fun e w' ⟨he, hb⟩ => ⟨he, HTr.out _ _ h hb⟩
  have HF3 : Hid (∀ W : World, Below (w.heap.size + 1) A W → Calls Tryz.prog 16 #[v3] W (fun e w' => e = .returned (.bool true) ∧ W = w')) := fun W h => Fits.fits3_any v3 X W (hx.below (HUp.out W h)) (by omega) (fun z hz => by have := hxs z hz; omega)
  have CK : Hid (∀ W : World, Below (w.heap.size + 1) A W → Calls Tryz.prog 31 #[.int .u8 (k : Int)] W (fun e w' => e = .returned (.int .i64 kd) ∧ Below (w.heap.size + 1) A w' ∧ Below W.heap.size W w')) := fun W h => (valueKind_any k hk2 W).mono fun e w' ⟨he, hb⟩ => ⟨by rw [he, hkd], HTr.out _ _ h hb, hb⟩
  have CC : Hid (∀ W : World, Below (w.heap.size + 1) A W → Calls Tryz.prog 30 #[.agg #[.string nm, .string hp, .string un, vv, cv], .int .i64 kd, .float .f64 z, v3] W (fun e w' => ∃ a c, e = .returned (.tuple #[.agg (xcs (.slice a LB.length c) kd z false 0 false 0), .bool (sayB nm hp un V L && sayVB V X)]) ∧ Ss.Of 2 pc w' (.slice a LB.length c) LB ∧ Below (w.heap.size + 1) A w' ∧ Below W.heap.size W w')) := fun W h => by
    refine (constMetric_any _ nm hp un V X L v3 kd z W (hm.below (HUp.out W h)) (hx.below (HUp.out W h)) (by omega) (fun s h => by have := hxs s h; omega) (by rw [← hkd]; exact hkc)).mono ?_
    rintro e w' ⟨lab, rfl, ho, hb⟩
    rw [hLB] at ho
    obtain ⟨a, c, rfl, _, _⟩ := ho.slice
    exact ⟨a, c, rfl, ho, HTr.out _ _ h hb, hb⟩
  have HLv : Hid (∀ W : World, Below (w.heap.size + 1) A W → Calls Tryz.prog 32 #[] W (fun e w' => e = .returned (.bool true) ∧ Below (w.heap.size + 1) A w')) := fun W h => (awake_any W (hG.below (HUp.out W h))).mono fun e w' ⟨he, hb⟩ => ⟨he, HTr.out _ _ h hb⟩
  have hsz62 : (Tryz.prog.info? 62).map (·.size) = some 27 := by kernel_rfl
  have hsz75 : (Tryz.prog.info? 75).map (·.size) = some 27 := by kernel_rfl
  have k0 := HC.out A (Below.refl _ _)
  have HB0 : Hid (Below (w.heap.size + 1) A A) := Below.refl _ _
  go_enter Tryz.func7, Tryz.ntmps7
  go_wp2_with fail
  rw [← hA]
  clear hA
  refine (HF4.out A HB0.out).mono ?_
  rintro e w1 ⟨rfl, hb1⟩
  have HE0 : Hid (Below (w.heap.size + 1) A w1.drew) := bdr hb1 1
  have k1 := HC.out _ HE0.out
  have HB1 := Lib.hid hb1
  clear hb1 k0
  go_wp2_with fail
  refine (HF3.out w1 HB1.out).mono ?_
  rintro e w2 ⟨rfl, rfl⟩
  go_upto_region 3 with fail
  go_cut [9, 10] (fun s9 s10 wx => ∃ x, s9 = ptr x ∧ s10 = .bool (sayB nm hp un V L && sayVB V X) ∧ Hid (Want LB kd z x (w.heap.size + 1) A wx))
  case first => as_aux_lemma =>
    refine wp_region_noPanic ?_
    refine wp_region_held_drew (S := fun W => W.cell? ⟨w.heap.size, 0, none⟩ = some (.string nm) ∧ W.cell? ⟨w.heap.size, 1, none⟩ = some (.string hp) ∧ W.cell? ⟨w.heap.size, 2, none⟩ = some (.string un) ∧ W.cell? ⟨w.heap.size, 3, none⟩ = some vv ∧ W.cell? ⟨w.heap.size, 4, none⟩ = some cv) (by kernel_rfl) (by (with_reducible exact k1)) (fun hHeld => ?_)
    refine wpAnyH_take (i := 0) (v := ?_) rfl (by kernel_rfl) (by kernel_rfl) (by kernel_rfl) (fun _ _ _ h => h) (Or.inl ⟨by rfl, ?_⟩) hHeld ?_
    rotate_left
    · intro w hSw; (try dsimp only at hSw); go_simp; (try with_reducible rfl)
    try simp only [Act.put, List.setIfInBounds_toArray, List.set_cons_zero, List.set_cons_succ, List.getElem_toArray, List.getElem_cons_zero, List.getElem_cons_succ]
    refine wpAnyH_take (i := 1) (v := ?_) rfl (by kernel_rfl) (by kernel_rfl) (by kernel_rfl) (fun _ _ _ h => h) (Or.inl ⟨by rfl, ?_⟩) hHeld ?_
    rotate_left
    · intro w hSw; (try dsimp only at hSw); go_simp; (try with_reducible rfl)
    try simp only [Act.put, List.setIfInBounds_toArray, List.set_cons_zero, List.set_cons_succ, List.getElem_toArray, List.getElem_cons_zero, List.getElem_cons_succ]
    refine wpAnyH_take (i := 3) (v := ?_) rfl (by kernel_rfl) (by kernel_rfl) (by kernel_rfl) (fun _ _ _ h => h) (Or.inl ⟨by rfl, ?_⟩) hHeld ?_
    rotate_left
    · intro w hSw; (try dsimp only at hSw); go_simp; (try with_reducible rfl)
    try simp only [Act.put, List.setIfInBounds_toArray, List.set_cons_zero, List.set_cons_succ, List.getElem_toArray, List.getElem_cons_zero, List.getElem_cons_succ]
    refine wpAnyH_take (i := 4) (v := ?_) rfl (by kernel_rfl) (by kernel_rfl) (by kernel_rfl) (fun _ _ _ h => h) (Or.inl ⟨by rfl, ?_⟩) hHeld ?_
    rotate_left
    · intro w hSw; (try dsimp only at hSw); go_simp; (try with_reducible rfl)
    try simp only [Act.put, List.setIfInBounds_toArray, List.set_cons_zero, List.set_cons_succ, List.getElem_toArray, List.getElem_cons_zero, List.getElem_cons_succ]
    refine wpAnyH_ready (rs := [2, 9]) (by kernel_rfl) (by simp) (AllReadyH.cons rfl (fun K hK => ?_) (AllReadyH.cons rfl (fun K hK => ?_) AllReadyH.nil))
    · skip
      go_simp
      go_at_call 31; refine (CK.out _ HE0.out).mono ?_; rintro e y1 ⟨rfl, hb, hb'⟩; have HE1 := Lib.hid hb; have q1 := HC.out _ hb; clear hb hb'
      refine hK.out _ _ ?_ (fun hHeld2 => ?_)
      · first | (with_reducible exact q1) | (with_reducible exact q2) | (with_reducible exact q3) | (with_reducible exact q4) | (with_reducible exact q5) | (with_reducible exact q9)
      clear hK K hHeld; have hHeld := hHeld2; clear hHeld2
      try simp only [Act.put, List.setIfInBounds_toArray, List.set_cons_zero, List.set_cons_succ, List.getElem_toArray, List.getElem_cons_zero, List.getElem_cons_succ]
      refine wpAnyH_ready (rs := [5, 9]) (by kernel_rfl) (by simp) (AllReadyH.cons rfl (fun K hK => ?_) (AllReadyH.cons rfl (fun K hK => ?_) AllReadyH.nil))
      · skip
        go_simp
        go_at_call 30; refine (CC.out _ HE1.out).mono ?_; rintro e y2 ⟨a2, c2, rfl, ho, hb, hb'⟩; have HE2 := Lib.hid hb; have HO2 := Lib.hid ho; have q2 := HC.out _ hb; clear hb hb' ho
        refine hK.out _ _ ?_ (fun hHeld2 => ?_)
        · first | (with_reducible exact q1) | (with_reducible exact q2) | (with_reducible exact q3) | (with_reducible exact q4) | (with_reducible exact q5) | (with_reducible exact q9)
        clear hK K hHeld; have hHeld := hHeld2; clear hHeld2
        try simp only [Act.put, List.setIfInBounds_toArray, List.set_cons_zero, List.set_cons_succ, List.getElem_toArray, List.getElem_cons_zero, List.getElem_cons_succ]
        refine wpAnyH_take (i := 6) (v := ?_) rfl (by kernel_rfl) (by kernel_rfl) (by kernel_rfl) (fun _ _ _ h => h) (Or.inl ⟨by rfl, ?_⟩) hHeld ?_
        rotate_left
        · intro w hSw; (try dsimp only at hSw); go_simp; (try with_reducible rfl)
        try simp only [Act.put, List.setIfInBounds_toArray, List.set_cons_zero, List.set_cons_succ, List.getElem_toArray, List.getElem_cons_zero, List.getElem_cons_succ]
        refine wpAnyH_take (i := 7) (v := ?_) rfl (by kernel_rfl) (by kernel_rfl) (by kernel_rfl) (fun _ _ _ h => h) (Or.inl ⟨by rfl, ?_⟩) hHeld ?_
        rotate_left
        · intro w hSw; (try dsimp only at hSw); go_simp; (try with_reducible rfl)
        try simp only [Act.put, List.setIfInBounds_toArray, List.set_cons_zero, List.set_cons_succ, List.getElem_toArray, List.getElem_cons_zero, List.getElem_cons_succ]
        refine wpAnyH_take (i := 8) (v := ?_) rfl (by kernel_rfl) (by kernel_rfl) (by kernel_rfl) (fun _ _ _ h => h) (Or.inl ⟨by rfl, ?_⟩) hHeld ?_
        rotate_left
        · intro w hSw; (try dsimp only at hSw); go_simp; (try with_reducible rfl)
        try simp only [Act.put, List.setIfInBounds_toArray, List.set_cons_zero, List.set_cons_succ, List.getElem_toArray, List.getElem_cons_zero, List.getElem_cons_succ]
        refine wpAnyH_ready (rs := [9]) (by kernel_rfl) (by simp) (AllReadyH.cons rfl (fun K hK => ?_) AllReadyH.nil)
        go_simp
        obtain ⟨y3, hy⟩ : ∃ y, y = y2.alloc (.cells #[.slice none 0 0, .int .i64 0, .float .f64 0, .bool false, .float .f64 0, .slice none 0 0, .int .i64 0, .int .i64 0, .bool false, .int .u64 0, .float .f64 0, .slice none 0 0, .int .i64 0, .bool false, .int .i32 0, .float .f64 0, .int .u64 0, .slice none 0 0, .slice none 0 0, .slice none 0 0, .slice none 0 0, .slice none 0 0, .int .u64 0, .float .f64 0, .slice none 0 0, .bool false, .int .i64 0] 62) := ⟨_, rfl⟩; rw [← hy]; have HX3 : Hid (Whole y3 y2.heap.size 62 (xcs (.slice none 0 0) 0 0 false 0 false 0)) := (by rw [hy]; first | done | exact Whole.made y2 _ _); have HE3 : Hid (Below (w.heap.size + 1) A y3) := (by rw [hy]; exact HE2.out.alloc (by have := HE2.out.size; omega) _); have HO3 : Hid (Ss.Of 2 pc y3 (.slice a2 LB.length c2) LB) := (by rw [hy]; exact HO2.out.below ((Below.refl _ _).alloc (Nat.le_refl _) _)); have q3 := HC.out _ HE3.out; have hlo : w.heap.size + 1 ≤ y2.heap.size := (by have := HE2.out.size; omega); clear hy
        refine hK.out _ _ ?_ (fun hHeld2 => ?_)
        · first | (with_reducible exact q1) | (with_reducible exact q2) | (with_reducible exact q3) | (with_reducible exact q4) | (with_reducible exact q5) | (with_reducible exact q9)
        clear hK K hHeld; have hHeld := hHeld2; clear hHeld2
        try simp only [Act.put, List.setIfInBounds_toArray, List.set_cons_zero, List.set_cons_succ, List.getElem_toArray, List.getElem_cons_zero, List.getElem_cons_succ]
        refine wpAnyH_ready (rs := [10]) (by kernel_rfl) (by simp) (AllReadyH.cons rfl (fun K hK => ?_) AllReadyH.nil)
        rw [if_pos (by rfl)]
        refine Big.wp_store_whole _ _ _ rfl y2.heap.size 62 _ (xcs (.slice a2 LB.length c2) kd z false 0 false 0) rfl rfl HX3.out rfl hsz62 (xcs_ones _ _ _ _ _ _ _ _ _) ?_; intro y9 hx9 hg9 hs9; have HE9 : Hid (Below (w.heap.size + 1) A y9) := HE3.out.grown hg9 (by have := HE3.out.size; omega) (fun j hj => by injection hj with hj; omega); have q9 := HC.out _ HE9.out; have HW : Hid (Want LB kd z y2.heap.size (w.heap.size + 1) A y9) := ⟨⟨a2, c2, hx9, ss_far HO3.out (xcs_far _ _ _ _ _ _ _ _ _) HX3.out hg9⟩, HE9.out, hlo⟩; clear hx9 hg9 hs9
        refine hK.out _ _ ?_ (fun hHeld2 => ?_)
        · first | (with_reducible exact q1) | (with_reducible exact q2) | (with_reducible exact q3) | (with_reducible exact q4) | (with_reducible exact q5) | (with_reducible exact q9)
        clear hK K hHeld; have hHeld := hHeld2; clear hHeld2
        try simp only [Act.put, List.setIfInBounds_toArray, List.set_cons_zero, List.set_cons_succ, List.getElem_toArray, List.getElem_cons_zero, List.getElem_cons_succ]
        refine wpAnyH_take (i := 11) (v := ?_) rfl (by kernel_rfl) (by kernel_rfl) (by kernel_rfl) (fun _ _ _ h => h) (Or.inl ⟨by rfl, ?_⟩) hHeld ?_
        rotate_left
        · intro w hSw; (try dsimp only at hSw); go_simp; (try with_reducible rfl)
        try simp only [Act.put, List.setIfInBounds_toArray, List.set_cons_zero, List.set_cons_succ, List.getElem_toArray, List.getElem_cons_zero, List.getElem_cons_succ]
        refine wpAnyH_done (by kernel_rfl) ?_ _
        refine NoPanic.normal ?_
        go_wp2_with fail
        go_meet
        exact ⟨_, rfl, rfl, HW.out⟩
      · skip
        go_simp
        obtain ⟨y3, hy⟩ : ∃ y, y = y1.alloc (.cells #[.slice none 0 0, .int .i64 0, .float .f64 0, .bool false, .float .f64 0, .slice none 0 0, .int .i64 0, .int .i64 0, .bool false, .int .u64 0, .float .f64 0, .slice none 0 0, .int .i64 0, .bool false, .int .i32 0, .float .f64 0, .int .u64 0, .slice none 0 0, .slice none 0 0, .slice none 0 0, .slice none 0 0, .slice none 0 0, .int .u64 0, .float .f64 0, .slice none 0 0, .bool false, .int .i64 0] 62) := ⟨_, rfl⟩; rw [← hy]; have HX3 : Hid (Whole y3 y1.heap.size 62 (xcs (.slice none 0 0) 0 0 false 0 false 0)) := (by rw [hy]; first | done | exact Whole.made y1 _ _); have HE3 : Hid (Below (w.heap.size + 1) A y3) := (by rw [hy]; exact HE1.out.alloc (by have := HE1.out.size; omega) _); have q3 := HC.out _ HE3.out; have hlo : w.heap.size + 1 ≤ y1.heap.size := (by have := HE1.out.size; omega); clear hy
        refine hK.out _ _ ?_ (fun hHeld2 => ?_)
        · first | (with_reducible exact q1) | (with_reducible exact q2) | (with_reducible exact q3) | (with_reducible exact q4) | (with_reducible exact q5) | (with_reducible exact q9)
        clear hK K hHeld; have hHeld := hHeld2; clear hHeld2
        try simp only [Act.put, List.setIfInBounds_toArray, List.set_cons_zero, List.set_cons_succ, List.getElem_toArray, List.getElem_cons_zero, List.getElem_cons_succ]
        refine wpAnyH_ready (rs := [5]) (by kernel_rfl) (by simp) (AllReadyH.cons rfl (fun K hK => ?_) AllReadyH.nil)
        go_simp
        go_at_call 30; refine (CC.out _ HE3.out).mono ?_; rintro e y4 ⟨a2, c2, rfl, ho, hb, hb'⟩; have HE4 := Lib.hid hb; have HO4 := Lib.hid ho; have HX4 : Hid (Whole y4 y1.heap.size 62 (xcs (.slice none 0 0) 0 0 false 0 false 0)) := (hb'.block _ HX3.out.lt).trans HX3.out; have q4 := HC.out _ hb; clear hb hb' ho
        refine hK.out _ _ ?_ (fun hHeld2 => ?_)
        · first | (with_reducible exact q1) | (with_reducible exact q2) | (with_reducible exact q3) | (with_reducible exact q4) | (with_reducible exact q5) | (with_reducible exact q9)
        clear hK K hHeld; have hHeld := hHeld2; clear hHeld2
        try simp only [Act.put, List.setIfInBounds_toArray, List.set_cons_zero, List.set_cons_succ, List.getElem_toArray, List.getElem_cons_zero, List.getElem_cons_succ]
        refine wpAnyH_take (i := 6) (v := ?_) rfl (by kernel_rfl) (by kernel_rfl) (by kernel_rfl) (fun _ _ _ h => h) (Or.inl ⟨by rfl, ?_⟩) hHeld ?_
        rotate_left
        · intro w hSw; (try dsimp only at hSw); go_simp; (try with_reducible rfl)
        try simp only [Act.put, List.setIfInBounds_toArray, List.set_cons_zero, List.set_cons_succ, List.getElem_toArray, List.getElem_cons_zero, List.getElem_cons_succ]
        refine wpAnyH_take (i := 7) (v := ?_) rfl (by kernel_rfl) (by kernel_rfl) (by kernel_rfl) (fun _ _ _ h => h) (Or.inl ⟨by rfl, ?_⟩) hHeld ?_
        rotate_left
        · intro w hSw; (try dsimp only at hSw); go_simp; (try with_reducible rfl)
        try simp only [Act.put, List.setIfInBounds_toArray, List.set_cons_zero, List.set_cons_succ, List.getElem_toArray, List.getElem_cons_zero, List.getElem_cons_succ]
        refine wpAnyH_take (i := 8) (v := ?_) rfl (by kernel_rfl) (by kernel_rfl) (by kernel_rfl) (fun _ _ _ h => h) (Or.inl ⟨by rfl, ?_⟩) hHeld ?_
        rotate_left
        · intro w hSw; (try dsimp only at hSw); go_simp; (try with_reducible rfl)
        try simp only [Act.put, List.setIfInBounds_toArray, List.set_cons_zero, List.set_cons_succ, List.getElem_toArray, List.getElem_cons_zero, List.getElem_cons_succ]
        refine wpAnyH_ready (rs := [10]) (by kernel_rfl) (by simp) (AllReadyH.cons rfl (fun K hK => ?_) AllReadyH.nil)
        rw [if_pos (by rfl)]
        refine Big.wp_store_whole _ _ _ rfl y1.heap.size 62 _ (xcs (.slice a2 LB.length c2) kd z false 0 false 0) rfl rfl HX4.out rfl hsz62 (xcs_ones _ _ _ _ _ _ _ _ _) ?_; intro y9 hx9 hg9 hs9; have HE9 : Hid (Below (w.heap.size + 1) A y9) := HE4.out.grown hg9 (by have := HE4.out.size; omega) (fun j hj => by injection hj with hj; omega); have q9 := HC.out _ HE9.out; have HW : Hid (Want LB kd z y1.heap.size (w.heap.size + 1) A y9) := ⟨⟨a2, c2, hx9, ss_far HO4.out (xcs_far _ _ _ _ _ _ _ _ _) HX4.out hg9⟩, HE9.out, hlo⟩; clear hx9 hg9 hs9
        refine hK.out _ _ ?_ (fun hHeld2 => ?_)
        · first | (with_reducible exact q1) | (with_reducible exact q2) | (with_reducible exact q3) | (with_reducible exact q4) | (with_reducible exact q5) | (with_reducible exact q9)
        clear hK K hHeld; have hHeld := hHeld2; clear hHeld2
        try simp only [Act.put, List.setIfInBounds_toArray, List.set_cons_zero, List.set_cons_succ, List.getElem_toArray, List.getElem_cons_zero, List.getElem_cons_succ]
        refine wpAnyH_take (i := 11) (v := ?_) rfl (by kernel_rfl) (by kernel_rfl) (by kernel_rfl) (fun _ _ _ h => h) (Or.inl ⟨by rfl, ?_⟩) hHeld ?_
        rotate_left
        · intro w hSw; (try dsimp only at hSw); go_simp; (try with_reducible rfl)
        try simp only [Act.put, List.setIfInBounds_toArray, List.set_cons_zero, List.set_cons_succ, List.getElem_toArray, List.getElem_cons_zero, List.getElem_cons_succ]
        refine wpAnyH_done (by kernel_rfl) ?_ _
        refine NoPanic.normal ?_
        go_wp2_with fail
        go_meet
        exact ⟨_, rfl, rfl, HW.out⟩
    · skip
      go_simp
      obtain ⟨y3, hy⟩ : ∃ y, y = (w1.alloc (.cells #[.slice none 0 0, .int .i64 0, .float .f64 0, .bool false, .float .f64 0, .slice none 0 0, .int .i64 0, .int .i64 0, .bool false, .int .u64 0, .float .f64 0, .slice none 0 0, .int .i64 0, .bool false, .int .i32 0, .float .f64 0, .int .u64 0, .slice none 0 0, .slice none 0 0, .slice none 0 0, .slice none 0 0, .slice none 0 0, .int .u64 0, .float .f64 0, .slice none 0 0, .bool false, .int .i64 0] 62)).drew := ⟨_, rfl⟩; rw [← hy]; have HX3 : Hid (Whole y3 w1.heap.size 62 (xcs (.slice none 0 0) 0 0 false 0 false 0)) := (by rw [hy]; first | done | exact Whole.made w1 _ _); have HE3 : Hid (Below (w.heap.size + 1) A y3) := (by rw [hy]; exact bdr (HB1.out.alloc (by have := HB1.out.size; omega) _) 1); have q3 := HC.out _ HE3.out; have hlo : w.heap.size + 1 ≤ w1.heap.size := (by have := HB1.out.size; omega); clear hy
      refine hK.out _ _ ?_ (fun hHeld2 => ?_)
      · first | (with_reducible exact q1) | (with_reducible exact q2) | (with_reducible exact q3) | (with_reducible exact q4) | (with_reducible exact q5) | (with_reducible exact q9)
      clear hK K hHeld; have hHeld := hHeld2; clear hHeld2
      try simp only [Act.put, List.setIfInBounds_toArray, List.set_cons_zero, List.set_cons_succ, List.getElem_toArray, List.getElem_cons_zero, List.getElem_cons_succ]
      refine wpAnyH_ready (rs := [2]) (by kernel_rfl) (by simp) (AllReadyH.cons rfl (fun K hK => ?_) AllReadyH.nil)
      go_simp
      go_at_call 31; refine (CK.out _ HE3.out).mono ?_; rintro e y4 ⟨rfl, hb, hb'⟩; have HE4 := Lib.hid hb; have HX4 : Hid (Whole y4 w1.heap.size 62 (xcs (.slice none 0 0) 0 0 false 0 false 0)) := (hb'.block _ HX3.out.lt).trans HX3.out; have q4 := HC.out _ hb; clear hb hb'
      refine hK.out _ _ ?_ (fun hHeld2 => ?_)
      · first | (with_reducible exact q1) | (with_reducible exact q2) | (with_reducible exact q3) | (with_reducible exact q4) | (with_reducible exact q5) | (with_reducible exact q9)
      clear hK K hHeld; have hHeld := hHeld2; clear hHeld2
      try simp only [Act.put, List.setIfInBounds_toArray, List.set_cons_zero, List.set_cons_succ, List.getElem_toArray, List.getElem_cons_zero, List.getElem_cons_succ]
      refine wpAnyH_ready (rs := [5]) (by kernel_rfl) (by simp) (AllReadyH.cons rfl (fun K hK => ?_) AllReadyH.nil)
      go_simp
      go_at_call 30; refine (CC.out _ HE4.out).mono ?_; rintro e y5 ⟨a2, c2, rfl, ho, hb, hb'⟩; have HE5 := Lib.hid hb; have HO5 := Lib.hid ho; have HX5 : Hid (Whole y5 w1.heap.size 62 (xcs (.slice none 0 0) 0 0 false 0 false 0)) := (hb'.block _ HX4.out.lt).trans HX4.out; have q5 := HC.out _ hb; clear hb hb' ho
      refine hK.out _ _ ?_ (fun hHeld2 => ?_)
      · first | (with_reducible exact q1) | (with_reducible exact q2) | (with_reducible exact q3) | (with_reducible exact q4) | (with_reducible exact q5) | (with_reducible exact q9)
      clear hK K hHeld; have hHeld := hHeld2; clear hHeld2
      try simp only [Act.put, List.setIfInBounds_toArray, List.set_cons_zero, List.set_cons_succ, List.getElem_toArray, List.getElem_cons_zero, List.getElem_cons_succ]
      refine wpAnyH_take (i := 6) (v := ?_) rfl (by kernel_rfl) (by kernel_rfl) (by kernel_rfl) (fun _ _ _ h => h) (Or.inl ⟨by rfl, ?_⟩) hHeld ?_
      rotate_left
      · intro w hSw; (try dsimp only at hSw); go_simp; (try with_reducible rfl)
      try simp only [Act.put, List.setIfInBounds_toArray, List.set_cons_zero, List.set_cons_succ, List.getElem_toArray, List.getElem_cons_zero, List.getElem_cons_succ]
      refine wpAnyH_take (i := 7) (v := ?_) rfl (by kernel_rfl) (by kernel_rfl) (by kernel_rfl) (fun _ _ _ h => h) (Or.inl ⟨by rfl, ?_⟩) hHeld ?_
      rotate_left
      · intro w hSw; (try dsimp only at hSw); go_simp; (try with_reducible rfl)
      try simp only [Act.put, List.setIfInBounds_toArray, List.set_cons_zero, List.set_cons_succ, List.getElem_toArray, List.getElem_cons_zero, List.getElem_cons_succ]
      refine wpAnyH_take (i := 8) (v := ?_) rfl (by kernel_rfl) (by kernel_rfl) (by kernel_rfl) (fun _ _ _ h => h) (Or.inl ⟨by rfl, ?_⟩) hHeld ?_
      rotate_left
      · intro w hSw; (try dsimp only at hSw); go_simp; (try with_reducible rfl)
      try simp only [Act.put, List.setIfInBounds_toArray, List.set_cons_zero, List.set_cons_succ, List.getElem_toArray, List.getElem_cons_zero, List.getElem_cons_succ]
      refine wpAnyH_ready (rs := [10]) (by kernel_rfl) (by simp) (AllReadyH.cons rfl (fun K hK => ?_) AllReadyH.nil)
      rw [if_pos (by rfl)]
      refine Big.wp_store_whole _ _ _ rfl w1.heap.size 62 _ (xcs (.slice a2 LB.length c2) kd z false 0 false 0) rfl rfl HX5.out rfl hsz62 (xcs_ones _ _ _ _ _ _ _ _ _) ?_; intro y9 hx9 hg9 hs9; have HE9 : Hid (Below (w.heap.size + 1) A y9) := HE5.out.grown hg9 (by have := HE5.out.size; omega) (fun j hj => by injection hj with hj; omega); have q9 := HC.out _ HE9.out; have HW : Hid (Want LB kd z w1.heap.size (w.heap.size + 1) A y9) := ⟨⟨a2, c2, hx9, ss_far HO5.out (xcs_far _ _ _ _ _ _ _ _ _) HX5.out hg9⟩, HE9.out, hlo⟩; clear hx9 hg9 hs9
      refine hK.out _ _ ?_ (fun hHeld2 => ?_)
      · first | (with_reducible exact q1) | (with_reducible exact q2) | (with_reducible exact q3) | (with_reducible exact q4) | (with_reducible exact q5) | (with_reducible exact q9)
      clear hK K hHeld; have hHeld := hHeld2; clear hHeld2
      try simp only [Act.put, List.setIfInBounds_toArray, List.set_cons_zero, List.set_cons_succ, List.getElem_toArray, List.getElem_cons_zero, List.getElem_cons_succ]
      refine wpAnyH_take (i := 11) (v := ?_) rfl (by kernel_rfl) (by kernel_rfl) (by kernel_rfl) (fun _ _ _ h => h) (Or.inl ⟨by rfl, ?_⟩) hHeld ?_
      rotate_left
      · intro w hSw; (try dsimp only at hSw); go_simp; (try with_reducible rfl)
      try simp only [Act.put, List.setIfInBounds_toArray, List.set_cons_zero, List.set_cons_succ, List.getElem_toArray, List.getElem_cons_zero, List.getElem_cons_succ]
      refine wpAnyH_done (by kernel_rfl) ?_ _
      refine NoPanic.normal ?_
      go_wp2_with fail
      go_meet
      exact ⟨_, rfl, rfl, HW.out⟩
  case rest => as_aux_lemma =>
    obtain ⟨x, rfl, rfl, hwant⟩ := hcut
    obtain ⟨W5, rfl⟩ : ∃ W5, W5 = wc := ⟨_, rfl⟩
    have HB5 := Lib.hid hwant.out.b
    cases hsay : (sayB nm hp un V L && sayVB V X) with
    | false =>
      clear CC CK HF4 HF3 hm hs hvv hcv hqb hx
      go_wp2_with fail
      refine (HLv.out _ HB5.out).mono ?_
      rintro e w7 ⟨rfl, hb7⟩
      have HF := Lib.hid (HUp.out _ hb7)
      clear hb7
      go_wp2_with fail
      go_ret
      exact ⟨rfl, HF.out⟩
    | true =>
      obtain ⟨hb1, hb2⟩ := Bool.and_eq_true_iff.1 hsay
      obtain ⟨hxa, hxV⟩ := sayVB_iff.1 hb2
      have ok := new_ok hb1 hs
      have hr : ∀ p ∈ L, p.1.size ≤ 2147483647 ∧ p.2.size ≤ 2147483647 := fun p hp => by have := mem_wp hp; omega
      have hxs2 : ∀ s ∈ X, Asc s ∧ s.size ≤ 9223372036854775807 := fun s h => ⟨ascii_asc (hxa s h), by have := hxs s h; omega⟩
      obtain ⟨⟨aw, cw, hwx, hwo⟩, _, hlo⟩ := hwant.out
      have hz5 := HB5.out.size
      have HU5 : Hid (∀ W, Below W5.heap.size W5 W → Below (w.heap.size + 1) A W) := fun W h => HTr.out _ _ HB5.out h
      have HWt : Hid (∀ W, Below W5.heap.size W5 W → Whole W x 62 (xcs (.slice aw LB.length cw) kd z false 0 false 0) ∧ Ss.Of 2 pc W (.slice aw LB.length cw) LB) := fun W h => ⟨(h.block x hwx.lt).trans hwx, hwo.below h⟩
      have CM : Hid (∀ W, Below W5.heap.size W5 W → Calls Tryz.prog 14 #[.agg #[.string nm, .string hp, .string un, vv, cv]] W (fun e w' => ∃ v2 c2, e = .returned (.agg #[.string nm, .string hp, .string un, v2, c2]) ∧ Sl.Of Value.string w' v2 V ∧ Ss.Of 2 pc w' c2 L ∧ Below W5.heap.size W5 w')) := fun W h =>
        (metaTo_any _ nm hp un V L W (hm.below (HUp.out _ (HU5.out W h)))).mono fun e w' ⟨v2, c2, he, hv, hc, hb⟩ => ⟨v2, c2, he, hv, hc, h.trans (hb.mono h.size)⟩
      have CK5 : Hid (∀ W, Below W5.heap.size W5 W → Calls Tryz.prog 31 #[.int .u8 (k : Int)] W (fun e w' => e = .returned (.int .i64 kd) ∧ Below W5.heap.size W5 w' ∧ Below W.heap.size W w')) := fun W h => (CK.out W (HU5.out W h)).mono fun e w' ⟨he, _, hb⟩ => ⟨he, h.trans (hb.mono h.size), hb⟩
      have CD : Hid (∀ W va ca, Below W5.heap.size W5 W → Sl.Of Value.string W va V → Ss.Of 2 pc W ca L → Calls Tryz.prog 33 #[.agg #[.string nm, .string hp, .string un, va, ca], .int .i64 kd, .float .f64 z, v3] W (fun e w' => ∃ a c, e = .returned (.tuple #[.agg (xcs (.slice a LB.length c) kd z false 0 false 0), .bool true]) ∧ Ss.Of 2 pc w' (.slice a LB.length c) LB ∧ Below W5.heap.size W5 w')) := fun W va ca h h1 h2 => by
        have h0 := HUp.out _ (HU5.out W h)
        refine (const_any nm hp un V X L va ca v3 kd (by rw [← hkd]; exact hkc) z W (hG.below h0) ok h1 h2 hr (hx.below h0) hxV hxs2).mono ?_
        rintro e w' ⟨a, c, rfl, ho, hb⟩
        rw [hLB] at ho ⊢
        refine ⟨a, c, ?_, Ss.Of.own pc_len ho, h.trans (hb.mono h.size)⟩
        have e1 : isD kd none = false := by unfold isD; split <;> rfl
        have e2 : toD kd none = 0 := by unfold toD; split <;> rfl
        rw [e1, e2]
        rfl
      have k5 := HC.out W5 HB5.out
      have HB55 : Hid (Below W5.heap.size W5 W5) := Below.refl _ _
      clear CC CK HF4 HF3 hm hs hvv hcv hqb hx hxs2 hr ok hxa hxV hb1 hb2 hsay hwx hwo hwant hLB hkd hkc
      go_wp2_with fail
      refine (CM.out _ HB55.out).mono ?_
      rintro e y1 ⟨va, ca, rfl, hv1, hc1, hb1⟩
      have HE1 := Lib.hid hb1
      have HVa := Lib.hid hv1
      have HCa := Lib.hid hc1
      clear hv1 hc1 hb1 k5
      go_wp2_with fail
      refine (CK5.out _ HE1.out).mono ?_
      rintro e y2 ⟨rfl, hb2, hb2'⟩
      have CDa := Lib.hid (CD.out _ _ _ hb2 (HVa.out.below hb2') (HCa.out.below hb2'))
      clear hb2 hb2'
      go_wp2_with fail
      refine CDa.out.mono ?_
      rintro e y3 ⟨a3, c3, rfl, ho3, hb3⟩
      have HE3 := Lib.hid hb3
      have HO3 := Lib.hid ho3
      clear ho3 hb3 CDa HVa HCa CM CD CK5
      rename_i K1 hK1 K2 hK2
      dsimp only
      refine hK2 _ _ ?_
      refine wpList_plain rfl fun K3 hK3 => ?_
      go_simp
      refine hK3 _ _ ?_
      clear hK3 K3
      refine wpList_plain rfl fun K3 hK3 => ?_
      go_simp
      refine hK3 _ _ ?_
      clear hK3 K3
      refine wpList_plain rfl fun K3 hK3 => ?_
      go_simp
      refine hK3 _ _ ?_
      clear hK3 K3
      refine wpList_plain rfl fun K3 hK3 => ?_
      go_simp
      refine hK3 _ _ ?_
      clear hK3 K3
      refine Big.wpList_store_whole rfl _ _ _ rfl y3.heap.size 75 (xcs (.slice none 0 0) 0 0 false 0 false 0) (xcs (.slice a3 LB.length c3) kd z false 0 false 0) rfl rfl (Whole.made y3 _ _) rfl hsz75 (xcs_ones _ _ _ _ _ _ _ _ _) ?_
      intro y4 hx4 hg4 hs4
      simp only [Act.put]
      have hb34 : Below y3.heap.size y3 y4 := ((Below.refl _ _).alloc (Nat.le_refl _) _).grown hg4 (by simp) (fun j hj => by injection hj with hj; omega)
      have hb4 : Below W5.heap.size W5 y4 := HE3.out.trans (hb34.mono HE3.out.size)
      have HQ : Hid (∀ W, Below y4.heap.size y4 W → Whole W y3.heap.size 75 (xcs (.slice a3 LB.length c3) kd z false 0 false 0) ∧ Whole W x 62 (xcs (.slice aw LB.length cw) kd z false 0 false 0)) := fun W h => ⟨(h.block _ hx4.lt).trans hx4, (HWt.out _ (hb4.trans (h.mono hb4.size))).1⟩
      have HP : Hid (∀ W, Below y4.heap.size y4 W → Ss.Of 2 pc W (.slice a3 LB.length c3) LB ∧ Ss.Of 2 pc W (.slice aw LB.length cw) LB) := fun W h => ⟨(HO3.out.below hb34).below h, (HWt.out _ (hb4.trans (h.mono hb4.size))).2⟩
      have HU4 : Hid (∀ W, Below y4.heap.size y4 W → Below (w.heap.size + 1) A W) := fun W h => HU5.out _ (hb4.trans (h.mono hb4.size))
      have CF : Hid (∀ W, Below y4.heap.size y4 W → Calls Tryz.prog 35 #[.agg (xcs (.slice a3 LB.length c3) kd z false 0 false 0)] W (fun e w' => ∃ fv, e = .returned (.agg fv) ∧ FromOk w' fv LB kd z false 0 false 0 ∧ Below y4.heap.size y4 w')) := fun W h => (from_x LB _ kd z false 0 false 0 W (HP.out W h).1 hll).mono fun e w' ⟨fv, he, hf, hb⟩ => ⟨fv, he, hf, h.trans (hb.mono h.size)⟩
      have CS : Hid (∀ W fv, Below y4.heap.size y4 W → FromOk W fv LB kd z false 0 false 0 → Calls Tryz.prog 34 #[.agg fv, .agg (xcs (.slice aw LB.length cw) kd z false 0 false 0)] W (fun e w' => e = .returned (.bool true) ∧ Below y4.heap.size y4 w')) := fun W fv h hf => (same_x LB fv _ kd z false 0 false 0 W hf (HP.out W h).2 hll).mono fun e w' ⟨he, hb⟩ => ⟨he, h.trans (hb.mono h.size)⟩
      have HE0 : Hid (Below y4.heap.size y4 y4.drew) := bdr (Below.refl _ _) 1
      have k1 := HQ.out _ HE0.out
      have CL : Hid (∀ W, Below y4.heap.size y4 W → Calls Tryz.prog 32 #[] W (fun e w' => e = .returned (.bool true) ∧ Below (w.heap.size + 1) A w' ∧ Below y4.heap.size y4 w')) := fun W h => (awake_any W (hG.below (HUp.out _ (HU4.out W h)))).mono fun e w' ⟨he, hb⟩ => ⟨he, HTr.out _ _ (HU4.out W h) hb, h.trans (hb.mono h.size)⟩
      clear hx4 hg4 hs4 hb34 hb4 HE3 HO3 HWt HU5 hG
      go_wp2_with fail
      refine wp_region_noPanic ?_
      refine wp_region_held_drew (S := fun W => Whole W y3.heap.size 75 (xcs (.slice a3 LB.length c3) kd z false 0 false 0) ∧ Whole W x 62 (xcs (.slice aw LB.length cw) kd z false 0 false 0)) (by kernel_rfl) (by (with_reducible exact k1)) (fun hHeld => ?_)
      refine wpAnyH_take (i := 0) (v := ?_) rfl (by kernel_rfl) (by kernel_rfl) (by kernel_rfl) (fun _ _ _ h => h) (Or.inl ⟨by rfl, ?_⟩) hHeld ?_
      rotate_left
      · intro w hSw; (try dsimp only at hSw); go_simp; (try with_reducible rfl)
      try simp only [Act.put, List.setIfInBounds_toArray, List.set_cons_zero, List.set_cons_succ, List.getElem_toArray, List.getElem_cons_zero, List.getElem_cons_succ]
      refine wpAnyH_take (i := 1) (v := ?_) rfl (by kernel_rfl) (by kernel_rfl) (by kernel_rfl) (fun _ _ _ h => h) (Or.inl ⟨by rfl, ?_⟩) hHeld ?_
      rotate_left
      · intro w hSw; (try dsimp only at hSw); go_simp; (try with_reducible rfl)
      try simp only [Act.put, List.setIfInBounds_toArray, List.set_cons_zero, List.set_cons_succ, List.getElem_toArray, List.getElem_cons_zero, List.getElem_cons_succ]
      refine wpAnyH_take (i := 2) (v := .agg (xcs (.slice a3 LB.length c3) kd z false 0 false 0)) rfl (by kernel_rfl) (by kernel_rfl) (by kernel_rfl) (fun _ _ _ h => h) (yields_whole (by rfl) 75 _ rfl y3.heap.size 75 (xcs (.slice a3 LB.length c3) kd z false 0 false 0) rfl (fun W h => h.1) _ Tryz.underlying75 rfl hsz75) hHeld ?_
      try simp only [Act.put, List.setIfInBounds_toArray, List.set_cons_zero, List.set_cons_succ, List.getElem_toArray, List.getElem_cons_zero, List.getElem_cons_succ]
      refine wpAnyH_take (i := 4) (v := .agg (xcs (.slice aw LB.length cw) kd z false 0 false 0)) rfl (by kernel_rfl) (by kernel_rfl) (by kernel_rfl) (fun _ _ _ h => h) (yields_whole (by rfl) 62 _ rfl x 62 (xcs (.slice aw LB.length cw) kd z false 0 false 0) rfl (fun W h => h.2) _ Tryz.underlying62 rfl hsz62) hHeld ?_
      try simp only [Act.put, List.setIfInBounds_toArray, List.set_cons_zero, List.set_cons_succ, List.getElem_toArray, List.getElem_cons_zero, List.getElem_cons_succ]
      refine wpAnyH_ready (rs := [3]) (by kernel_rfl) (by simp) (AllReadyH.cons rfl (fun K hK => ?_) AllReadyH.nil)
      go_simp
      go_at_call 35; refine (CF.out _ HE0.out).mono ?_; rintro e z1 ⟨fv, rfl, hf, hb⟩; have HF1 := Lib.hid hf; have HE1 := Lib.hid hb; have q1 := HQ.out _ hb; clear hb hf
      refine hK.out _ _ ?_ (fun hHeld2 => ?_)
      · first | (with_reducible exact q1) | (with_reducible exact q2) | (with_reducible exact q3)
      clear hK K hHeld; have hHeld := hHeld2; clear hHeld2
      try simp only [Act.put, List.setIfInBounds_toArray, List.set_cons_zero, List.set_cons_succ, List.getElem_toArray, List.getElem_cons_zero, List.getElem_cons_succ]
      refine wpAnyH_ready (rs := [5]) (by kernel_rfl) (by simp) (AllReadyH.cons rfl (fun K hK => ?_) AllReadyH.nil)
      go_simp
      go_at_call 34; refine (CS.out _ _ HE1.out HF1.out).mono ?_; rintro e z2 ⟨rfl, hb⟩; have HE2 := Lib.hid hb; have q2 := HQ.out _ hb; clear hb
      refine hK.out _ _ ?_ (fun hHeld2 => ?_)
      · first | (with_reducible exact q1) | (with_reducible exact q2) | (with_reducible exact q3)
      clear hK K hHeld; have hHeld := hHeld2; clear hHeld2
      try simp only [Act.put, List.setIfInBounds_toArray, List.set_cons_zero, List.set_cons_succ, List.getElem_toArray, List.getElem_cons_zero, List.getElem_cons_succ]
      refine wpAnyH_take (i := 6) (v := ?_) rfl (by kernel_rfl) (by kernel_rfl) (by kernel_rfl) (fun _ _ _ h => h) (Or.inl ⟨by rfl, ?_⟩) hHeld ?_
      rotate_left
      · intro w hSw; (try dsimp only at hSw); go_simp; (try with_reducible rfl)
      try simp only [Act.put, List.setIfInBounds_toArray, List.set_cons_zero, List.set_cons_succ, List.getElem_toArray, List.getElem_cons_zero, List.getElem_cons_succ]
      refine wpAnyH_take (i := 7) (v := ?_) rfl (by kernel_rfl) (by kernel_rfl) (by kernel_rfl) (fun _ _ _ h => h) (Or.inl ⟨by rfl, ?_⟩) hHeld ?_
      rotate_left
      · intro w hSw; (try dsimp only at hSw); go_simp; (try with_reducible rfl)
      try simp only [Act.put, List.setIfInBounds_toArray, List.set_cons_zero, List.set_cons_succ, List.getElem_toArray, List.getElem_cons_zero, List.getElem_cons_succ]
      refine wpAnyH_ready (rs := [8]) (by kernel_rfl) (by simp) (AllReadyH.cons rfl (fun K hK => ?_) AllReadyH.nil)
      go_simp
      go_at_call 32; refine (CL.out _ HE2.out).mono ?_; rintro e z3 ⟨rfl, hb, hb'⟩; have HFin := Lib.hid (HUp.out _ hb); have q3 := HQ.out _ hb'; clear hb hb'
      refine hK.out _ _ ?_ (fun hHeld2 => ?_)
      · first | (with_reducible exact q1) | (with_reducible exact q2) | (with_reducible exact q3)
      clear hK K hHeld; have hHeld := hHeld2; clear hHeld2
      try simp only [Act.put, List.setIfInBounds_toArray, List.set_cons_zero, List.set_cons_succ, List.getElem_toArray, List.getElem_cons_zero, List.getElem_cons_succ]
      refine wpAnyH_take (i := 9) (v := ?_) rfl (by kernel_rfl) (by kernel_rfl) (by kernel_rfl) (fun _ _ _ h => h) (Or.inl ⟨by rfl, ?_⟩) hHeld ?_
      rotate_left
      · intro w hSw; (try dsimp only at hSw); go_simp; (try with_reducible rfl)
      try simp only [Act.put, List.setIfInBounds_toArray, List.set_cons_zero, List.set_cons_succ, List.getElem_toArray, List.getElem_cons_zero, List.getElem_cons_succ]
      refine wpAnyH_take (i := 10) (v := ?_) rfl (by kernel_rfl) (by kernel_rfl) (by kernel_rfl) (fun _ _ _ h => h) (Or.inl ⟨by rfl, ?_⟩) hHeld ?_
      rotate_left
      · intro w hSw; (try dsimp only at hSw); go_simp; (try with_reducible rfl)
      try simp only [Act.put, List.setIfInBounds_toArray, List.set_cons_zero, List.set_cons_succ, List.getElem_toArray, List.getElem_cons_zero, List.getElem_cons_succ]
      refine wpAnyH_done (by kernel_rfl) ?_ _
      refine NoPanic.normal ?_
      go_wp2_with fail
      go_ret
      exact ⟨rfl, HFin.out⟩

end Go.Proofs.YtfcpapbokefdmaaGreatDoor.Const
