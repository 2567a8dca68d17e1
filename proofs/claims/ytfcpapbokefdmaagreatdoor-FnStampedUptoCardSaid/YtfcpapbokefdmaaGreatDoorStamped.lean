/- FnStamped: a metric with a single value and a timestamp is that metric, with the time rounded down to milliseconds; the last of two timestamps applies: how the arguments are read, and the walk of the law. -/
import Derived.Test.YtfcpapbokefdmaaGreatDoorMte
import Derived.Test.YtfcpapbokefdmaaGreatDoorMti
import Derived.Test.YtfcpapbokefdmaaGreatDoorNsh
import Derived.Test.YtfcpapbokefdmaaGreatDoorNsf
import Derived.Test.YtfcpapbokefdmaaGreatDoorNgl
import Derived.Deep.DeepCutAuto
set_option linter.unusedVariables false
set_option linter.unusedSimpArgs false
namespace Go.Proofs.YtfcpapbokefdmaaGreatDoor.Stamped
open Go.RowKit Go.Maps Go.WideMaps Go.ChangeShapes Go.WideShapes Go.Deep Fp Obs _root_.Go.Proofs.YtfcpapbokefdmaaGreatDoor.Nd _root_.Go.Proofs.YtfcpapbokefdmaaGreatDoor.Mt

def Good (w : World) (v : Value) : Prop := ∃ nm hp un V L, MetaAt w v nm hp un V L ∧ Small nm hp un V L
def GoodS (w : World) (v : Value) : Prop := ∃ X : List ByteArray, Sl.Of Value.string w v X ∧ wt X ≤ 1048576
set_option maxRecDepth 100000 in
theorem read0 {H : Type} {enc : TypeId × Value → H} {W : World} {base b0 : Nat} {held : Bool} {r : Reach} {v : Value} {d : DataW H} {p : List MemPlace}
    (hv : Value.okWide Tryz.prog W r b0 25 v) (h : DataW.Trod enc Tryz.prog W base (fun _ => true) held 25 v d p) (hb : Rows.uptoBulk d ≤ 1048576) : Good W v := by
  obtain ⟨nm, hp, un, V, L, h1, h2, _⟩ := meta_read hv h hb
  exact ⟨nm, hp, un, V, L, h1, h2⟩
set_option maxRecDepth 100000 in
theorem read3 {H : Type} {enc : TypeId × Value → H} {W : World} {base b0 : Nat} {held : Bool} {r : Reach} {v : Value} {d : DataW H} {p : List MemPlace}
    (hv : Value.okWide Tryz.prog W r b0 22 v) (h : DataW.Trod enc Tryz.prog W base (fun _ => true) held 22 v d p) (hb : Rows.uptoBulk d ≤ 1048576) : GoodS W v := by
  obtain ⟨zs, h1, _, h2⟩ := Sl.open_strings_bulk Tryz.underlying22 Tryz.underlying9 (by kernel_rfl) hv h
  exact ⟨zs, h1, Nat.le_trans h2 hb⟩

theorem wpList_load_wanted {P : Program} {ops : Array Oper} {rest : List Oper} {op : Oper} {a : Act} {w : World} {Q : Exit → Act → World → Prop} (hw : Region.wanted op (yielded ops a.tmps) = true) (ty : TypeId) (x : Operand) (ho : op.op = .load ty x) (b : Nat) (T : TypeId) (cs : Array Value) (hx : a.eval x = .pointer (some ⟨b, 0, none⟩)) (hW : Whole w b T cs) (d : TypeDesc)
    (hu : P.underlying ty = some d) (hd : d.isRow = true) (hi : (P.info? ty).map (·.size) = some cs.size)
    (h : wpList P ops Q rest (a.put op.dst (.agg cs)) w) : wpList P ops Q (op :: rest) a w :=
  wpList_step fun K hK => by
    simp only [hw, if_true]
    exact wp_load_mid ty x ho b 0 hx cs.toList d (Big.whole_range hW) hu hd (by rw [Array.length_toList]; exact hi) (hK _ _ h)
theorem wpList_wanted {P : Program} {ops : Array Oper} {rest : List Oper} {o : Oper} {a : Act} {w : World} {Q : Exit → Act → World → Prop} (hw : Region.wanted o (yielded ops a.tmps) = true)
    (h : ∀ K : Act → World → Prop, (∀ a w, wpList P ops Q rest a w → K a w) → o.wp P a w K Q) : wpList P ops Q (o :: rest) a w :=
  wpList_step fun K hK => by simp only [hw, if_true]; exact h K hK
theorem _root_.Go.Proofs.YtfcpapbokefdmaaGreatDoor.Mt.FromOk.far {W W' : World} {fv : Array Value} {L : List P2} {kind : Int} {val : Nat} {b6 : Bool} {t5 : Int} {b11 : Bool} {t12 : Int} {b : Nat} {T : TypeId} {cs : Array Value} (h : FromOk W fv L kind val b6 t5 b11 t12) (hn : ∀ (j : Nat) s, cs[j]? ≠ some (.string s)) (hw : Whole W b T cs) (hg : W.grownBy W' (some b)) : FromOk W' fv L kind val b6 t5 b11 t12 := by
  obtain ⟨lab, d1, d1c, u1, u1c, h1, h2⟩ := h
  exact ⟨lab, d1, d1c, u1, u1c, h1, ss_far h2 hn hw hg⟩
theorem from_ones {W : World} {fv : Array Value} {L : List P2} {kind : Int} {val : Nat} {b6 : Bool} {t5 : Int} {b11 : Bool} {t12 : Int} (h : FromOk W fv L kind val b6 t5 b11 t12) : fv.size = 27 ∧ fv.all (·.oneCell') = true := by
  obtain ⟨lab, d1, d1c, u1, u1c, rfl, h2⟩ := h
  obtain ⟨a, c, rfl, _, _⟩ := h2.slice
  exact ⟨rfl, by simp [Value.oneCell']⟩
/-- the reference's metric lies in block x -/
structure Want (LB : List P2) (kind : Int) (z x : Nat) (B : Nat) (A wx : World) : Prop where
  blk : ∃ a c, Whole wx x 62 (xcs (.slice a LB.length c) kind z false 0 false 0) ∧ Ss.Of 2 pc wx (.slice a LB.length c) LB
  b : Below B A wx
  lo : B ≤ x

set_option maxHeartbeats 16000000 in
set_option maxRecDepth 100000 in
theorem law_any (v : Value) (k : Int) (z : Nat) (v3 : Value) (t s : Int) (w : World) (g1 : Good w v) (hk : (Lit.int .u8 k).wf = true) (hz : z < 18446744073709551616) (g2 : GoodS w v3) (ht : (Lit.int .i64 t).wf = true) (hs : (Lit.int .i64 s).wf = true) (hG : Glob w) :
    Calls Tryz.prog 9 #[v, .int .u8 k, .float .f64 z, v3, .int .i64 t, .int .i64 s] w fun e w' => e = .returned (.bool true) ∧ Below w.heap.size w w' := by
  simp [Lit.wf, IntKind.min, IntKind.max, IntKind.signed, IntKind.bits] at ht hs
  obtain ⟨ht1, ht2⟩ := ht
  obtain ⟨hs1, hs2⟩ := hs
  obtain ⟨nm, hp, un, V, L, hm, hs⟩ := g1
  obtain ⟨X, hx, hxw⟩ := g2
  simp [Lit.wf, IntKind.min, IntKind.max, IntKind.signed, IntKind.bits] at hk
  obtain ⟨k, rfl⟩ := Int.eq_ofNat_of_zero_le hk.1
  have hk2 : k < 256 := by omega
  clear hk
  have hall := hs.all
  have hxl := wt_len X
  have hxs : ∀ s ∈ X, s.size ≤ 1048576 := fun s h => Nat.le_trans (mem_wt h) hxw
  have hkc := kind_cases k
  obtain ⟨vv, cv, rfl, hvv, hcv⟩ := id hm.val
  obtain ⟨A, hA⟩ : ∃ A, A = w.alloc (.cells #[.string nm, .string hp, .string un, vv, cv] 25) := ⟨_, rfl⟩
  have s2 : A.heap.size = w.heap.size + 1 := by rw [hA]; simp
  have hqb : Below w.heap.size w A := by rw [hA]; exact (Below.refl _ _).alloc (Nat.le_refl _) _
  have HUp : Hid (∀ W : World, Below (w.heap.size + 1) A W → Below w.heap.size w W) := fun W h => hqb.trans (h.mono (by omega))
  have HTr : Hid (∀ W W' : World, Below (w.heap.size + 1) A W → Below W.heap.size W W' → Below (w.heap.size + 1) A W') := fun W W' h h' => h.trans (h'.mono (by have := h.size; omega))
  have HC : Hid (∀ W : World, Below (w.heap.size + 1) A W → W.cell? ⟨w.heap.size, 0, none⟩ = some (.string nm) ∧ W.cell? ⟨w.heap.size, 1, none⟩ = some (.string hp) ∧ W.cell? ⟨w.heap.size, 2, none⟩ = some (.string un) ∧ W.cell? ⟨w.heap.size, 3, none⟩ = some vv ∧ W.cell? ⟨w.heap.size, 4, none⟩ = some cv) := fun W h => by
    rw [hA] at h
    have e : ∀ j, W.cell? ⟨w.heap.size, j, none⟩ = (#[.string nm, .string hp, .string un, vv, cv] : Array Value)[j]? := fun j => (h.cell (p := ⟨w.heap.size, j, none⟩) (by show w.heap.size < w.heap.size + 1; omega)).trans (Sl.cell_new w _ _ j)
    exact ⟨e 0, e 1, e 2, e 3, e 4⟩
  obtain ⟨LB, hLB⟩ : ∃ LB, labs V X (fit L) = LB := ⟨_, rfl⟩
  obtain ⟨kd, hkd⟩ : ∃ kd, kindOf k = kd := ⟨_, rfl⟩
  have hll : LB.length ≤ 2147483647 := by
    have := labs_len (V := V) (X := X) (F := fit L)
    have := fit_le L
    have := hm.lenL
    have := hm.lenV
    rw [← hLB]; omega
  have HF4 : Hid (∀ W : World, Below (w.heap.size + 1) A W → Calls Tryz.prog 10 #[.agg #[.string nm, .string hp, .string un, vv, cv]] W (fun e w' => e = .returned (.bool true) ∧ Below (w.heap.size + 1) A w')) := fun W h => (fits4_any _ nm hp un V L W (hm.below (HUp.out W h)) hs).mono fun e w' ⟨he, hb⟩ => ⟨he, HTr.out _ _ h hb⟩
  have HF3 : Hid (∀ W : World, Below (w.heap.size + 1) A W → Calls Tryz.prog 16 #[v3] W (fun e w' => e = .returned (.bool true) ∧ W = w')) := fun W h => Fits.fits3_any v3 X W (hx.below (HUp.out W h)) (by omega) (fun z hz => by have := hxs z hz; omega)
  have CK : Hid (∀ W : World, Below (w.heap.size + 1) A W → Calls Tryz.prog 31 #[.int .u8 (k : Int)] W (fun e w' => e = .returned (.int .i64 kd) ∧ Below (w.heap.size + 1) A w' ∧ Below W.heap.size W w')) := fun W h => (valueKind_any k hk2 W).mono fun e w' ⟨he, hb⟩ => ⟨by rw [he, hkd], HTr.out _ _ h hb, hb⟩
  have CC : Hid (∀ W : World, Below (w.heap.size + 1) A W → Calls Tryz.prog 30 #[.agg #[.string nm, .string hp, .string un, vv, cv], .int .i64 kd, .float .f64 z, v3] W (fun e w' => ∃ a c, e = .returned (.tuple #[.agg (xcs (.slice a LB.length c) kd z false 0 false 0), .bool (sayB nm hp un V L && sayVB V X)]) ∧ Ss.Of 2 pc w' (.slice a LB.length c) LB ∧ Below (w.heap.size + 1) A w' ∧ Below W.heap.size W w')) := fun W h => by
    refine (constMetric_any _ nm hp un V X L v3 kd z W (hm.below (HUp.out W h)) (hx.below (HUp.out W h)) (by omega) (fun s h => by have := hxs s h; omega) (by rw [← hkd]; exact hkc)).mono ?_
    rintro e w' ⟨lab, rfl, ho, hb⟩
    rw [hLB] at ho
    obtain ⟨a, c, rfl, _, _⟩ := ho.slice
    exact ⟨a, c, rfl, ho, HTr.out _ _ h hb, hb⟩
  have HLv : Hid (∀ W : World, Below (w.heap.size + 1) A W → Calls Tryz.prog 32 #[] W (fun e w' => e = .returned (.bool true) ∧ Below (w.heap.size + 1) A w')) := fun W h => (awake_any W (hG.below (HUp.out W h))).mono fun e w' ⟨he, hb⟩ => ⟨he, HTr.out _ _ h hb⟩
  have hsz62 : (Tryz.prog.info? 62).map (·.size) = some 27 := by kernel_rfl
  have hsz75 : (Tryz.prog.info? 75).map (·.size) = some 27 := by kernel_rfl
  have k0 := HC.out A (Below.refl _ _)
  have HB0 : Hid (Below (w.heap.size + 1) A A) := Below.refl _ _
  go_enter Tryz.func9, Tryz.ntmps9
  go_wp2_with fail
  rw [← hA]
  clear hA
  refine (HF4.out A HB0.out).mono ?_
  rintro e w1 ⟨rfl, hb1⟩
  have HE0 : Hid (Below (w.heap.size + 1) A w1.drew) := bdr hb1 1
  have k1 := HC.out _ HE0.out
  have HB1 := Lib.hid hb1
  clear hb1 k0
  go_wp2_with fail
  refine (HF3.out w1 HB1.out).mono ?_
  rintro e w2 ⟨rfl, rfl⟩
  go_upto_region 3 with fail
  go_cut [13, 14] (fun s9 s10 wx => ∃ x, s9 = ptr x ∧ s10 = .bool (sayB nm hp un V L && sayVB V X) ∧ Hid (Want LB kd z x (w.heap.size + 1) A wx))
  case first => as_aux_lemma =>
    refine wp_region_noPanic ?_
    refine wp_region_held_drew (S := fun W => W.cell? ⟨w.heap.size, 0, none⟩ = some (.string nm) ∧ W.cell? ⟨w.heap.size, 1, none⟩ = some (.string hp) ∧ W.cell? ⟨w.heap.size, 2, none⟩ = some (.string un) ∧ W.cell? ⟨w.heap.size, 3, none⟩ = some vv ∧ W.cell? ⟨w.heap.size, 4, none⟩ = some cv) (by kernel_rfl) (by (with_reducible exact k1)) (fun hHeld => ?_)
    refine wpAnyH_take (i := 0) (v := ?_) rfl (by kernel_rfl) (by kernel_rfl) (by kernel_rfl) (fun _ _ _ h => h) (Or.inl ⟨by rfl, ?_⟩) hHeld ?_
    rotate_left
    · intro w hSw; (try dsimp only at hSw); go_simp; (try with_reducible rfl)
    try simp only [Act.put, List.setIfInBounds_toArray, List.set_cons_zero, List.set_cons_succ, List.getElem_toArray, List.getElem_cons_zero, List.getElem_cons_succ]
    refine wpAnyH_take (i := 1) (v := ?_) rfl (by kernel_rfl) (by kernel_rfl) (by kernel_rfl) (fun _ _ _ h => h) (Or.inl ⟨by rfl, ?_⟩) hHeld ?_
    rotate_left
    · intro w hSw; (try dsimp only at hSw); go_simp; (try with_reducible rfl)
    try simp only [Act.put, List.setIfInBounds_toArray, List.set_cons_zero, List.set_cons_succ, List.getElem_toArray, List.getElem_cons_zero, List.getElem_cons_succ]
    refine wpAnyH_take (i := 3) (v := ?_) rfl (by kernel_rfl) (by kernel_rfl) (by kernel_rfl) (fun _ _ _ h => h) (Or.inl ⟨by rfl, ?_⟩) hHeld ?_
    rotate_left
    · intro w hSw; (try dsimp only at hSw); go_simp; (try with_reducible rfl)
    try simp only [Act.put, List.setIfInBounds_toArray, List.set_cons_zero, List.set_cons_succ, List.getElem_toArray, List.getElem_cons_zero, List.getElem_cons_succ]
    refine wpAnyH_take (i := 4) (v := ?_) rfl (by kernel_rfl) (by kernel_rfl) (by kernel_rfl) (fun _ _ _ h => h) (Or.inl ⟨by rfl, ?_⟩) hHeld ?_
    rotate_left
    · intro w hSw; (try dsimp only at hSw); go_simp; (try with_reducible rfl)
    try simp only [Act.put, List.setIfInBounds_toArray, List.set_cons_zero, List.set_cons_succ, List.getElem_toArray, List.getElem_cons_zero, List.getElem_cons_succ]
    refine wpAnyH_ready (rs := [2, 9]) (by kernel_rfl) (by simp) (AllReadyH.cons rfl (fun K hK => ?_) (AllReadyH.cons rfl (fun K hK => ?_) AllReadyH.nil))
    · skip
      go_simp
      go_at_call 31; refine (CK.out _ HE0.out).mono ?_; rintro e y1 ⟨rfl, hb, hb'⟩; have HE1 := Lib.hid hb; have q1 := HC.out _ hb; clear hb hb'
      refine hK.out _ _ ?_ (fun hHeld2 => ?_)
      · first | (with_reducible exact q1) | (with_reducible exact q2) | (with_reducible exact q3) | (with_reducible exact q4) | (with_reducible exact q5) | (with_reducible exact q9)
      clear hK K hHeld; have hHeld := hHeld2; clear hHeld2
      try simp only [Act.put, List.setIfInBounds_toArray, List.set_cons_zero, List.set_cons_succ, List.getElem_toArray, List.getElem_cons_zero, List.getElem_cons_succ]
      refine wpAnyH_ready (rs := [5, 9]) (by kernel_rfl) (by simp) (AllReadyH.cons rfl (fun K hK => ?_) (AllReadyH.cons rfl (fun K hK => ?_) AllReadyH.nil))
      · skip
        go_simp
        go_at_call 30; refine (CC.out _ HE1.out).mono ?_; rintro e y2 ⟨a2, c2, rfl, ho, hb, hb'⟩; have HE2 := Lib.hid hb; have HO2 := Lib.hid ho; have q2 := HC.out _ hb; clear hb hb' ho
        refine hK.out _ _ ?_ (fun hHeld2 => ?_)
        · first | (with_reducible exact q1) | (with_reducible exact q2) | (with_reducible exact q3) | (with_reducible exact q4) | (with_reducible exact q5) | (with_reducible exact q9)
        clear hK K hHeld; have hHeld := hHeld2; clear hHeld2
        try simp only [Act.put, List.setIfInBounds_toArray, List.set_cons_zero, List.set_cons_succ, List.getElem_toArray, List.getElem_cons_zero, List.getElem_cons_succ]
        refine wpAnyH_take (i := 6) (v := ?_) rfl (by kernel_rfl) (by kernel_rfl) (by kernel_rfl) (fun _ _ _ h => h) (Or.inl ⟨by rfl, ?_⟩) hHeld ?_
        rotate_left
        · intro w hSw; (try dsimp only at hSw); go_simp; (try with_reducible rfl)
        try simp only [Act.put, List.setIfInBounds_toArray, List.set_cons_zero, List.set_cons_succ, List.getElem_toArray, List.getElem_cons_zero, List.getElem_cons_succ]
        refine wpAnyH_take (i := 7) (v := ?_) rfl (by kernel_rfl) (by kernel_rfl) (by kernel_rfl) (fun _ _ _ h => h) (Or.inl ⟨by rfl, ?_⟩) hHeld ?_
        rotate_left
        · intro w hSw; (try dsimp only at hSw); go_simp; (try with_reducible rfl)
        try simp only [Act.put, List.setIfInBounds_toArray, List.set_cons_zero, List.set_cons_succ, List.getElem_toArray, List.getElem_cons_zero, List.getElem_cons_succ]
        refine wpAnyH_take (i := 8) (v := ?_) rfl (by kernel_rfl) (by kernel_rfl) (by kernel_rfl) (fun _ _ _ h => h) (Or.inl ⟨by rfl, ?_⟩) hHeld ?_
        rotate_left
        · intro w hSw; (try dsimp only at hSw); go_simp; (try with_reducible rfl)
        try simp only [Act.put, List.setIfInBounds_toArray, List.set_cons_zero, List.set_cons_succ, List.getElem_toArray, List.getElem_cons_zero, List.getElem_cons_succ]
        refine wpAnyH_ready (rs := [9]) (by kernel_rfl) (by simp) (AllReadyH.cons rfl (fun K hK => ?_) AllReadyH.nil)
        go_simp
        obtain ⟨y3, hy⟩ : ∃ y, y = y2.alloc (.cells #[.slice none 0 0, .int .i64 0, .float .f64 0, .bool false, .float .f64 0, .slice none 0 0, .int .i64 0, .int .i64 0, .bool false, .int .u64 0, .float .f64 0, .slice none 0 0, .int .i64 0, .bool false, .int .i32 0, .float .f64 0, .int .u64 0, .slice none 0 0, .slice none 0 0, .slice none 0 0, .slice none 0 0, .slice none 0 0, .int .u64 0, .float .f64 0, .slice none 0 0, .bool false, .int .i64 0] 62) := ⟨_, rfl⟩; rw [← hy]; have HX3 : Hid (Whole y3 y2.heap.size 62 (xcs (.slice none 0 0) 0 0 false 0 false 0)) := (by rw [hy]; first | done | exact Whole.made y2 _ _); have HE3 : Hid (Below (w.heap.size + 1) A y3) := (by rw [hy]; exact HE2.out.alloc (by have := HE2.out.size; omega) _); have HO3 : Hid (Ss.Of 2 pc y3 (.slice a2 LB.length c2) LB) := (by rw [hy]; exact HO2.out.below ((Below.refl _ _).alloc (Nat.le_refl _) _)); have q3 := HC.out _ HE3.out; have hlo : w.heap.size + 1 ≤ y2.heap.size := (by have := HE2.out.size; omega); clear hy
        refine hK.out _ _ ?_ (fun hHeld2 => ?_)
        · first | (with_reducible exact q1) | (with_reducible exact q2) | (with_reducible exact q3) | (with_reducible exact q4) | (with_reducible exact q5) | (with_reducible exact q9)
        clear hK K hHeld; have hHeld := hHeld2; clear hHeld2
        try simp only [Act.put, List.setIfInBounds_toArray, List.set_cons_zero, List.set_cons_succ, List.getElem_toArray, List.getElem_cons_zero, List.getElem_cons_succ]
        refine wpAnyH_ready (rs := [10]) (by kernel_rfl) (by simp) (AllReadyH.cons rfl (fun K hK => ?_) AllReadyH.nil)
        rw [if_pos (by rfl)]
        refine Big.wp_store_whole _ _ _ rfl y2.heap.size 62 _ (xcs (.slice a2 LB.length c2) kd z false 0 false 0) rfl rfl HX3.out rfl hsz62 (xcs_ones _ _ _ _ _ _ _ _ _) ?_; intro y9 hx9 hg9 hs9; have HE9 : Hid (Below (w.heap.size + 1) A y9) := HE3.out.grown hg9 (by have := HE3.out.size; omega) (fun j hj => by injection hj with hj; omega); have q9 := HC.out _ HE9.out; have HW : Hid (Want LB kd z y2.heap.size (w.heap.size + 1) A y9) := ⟨⟨a2, c2, hx9, ss_far HO3.out (xcs_far _ _ _ _ _ _ _ _ _) HX3.out hg9⟩, HE9.out, hlo⟩; clear hx9 hg9 hs9
        refine hK.out _ _ ?_ (fun hHeld2 => ?_)
        · first | (with_reducible exact q1) | (with_reducible exact q2) | (with_reducible exact q3) | (with_reducible exact q4) | (with_reducible exact q5) | (with_reducible exact q9)
        clear hK K hHeld; have hHeld := hHeld2; clear hHeld2
        try simp only [Act.put, List.setIfInBounds_toArray, List.set_cons_zero, List.set_cons_succ, List.getElem_toArray, List.getElem_cons_zero, List.getElem_cons_succ]
        refine wpAnyH_take (i := 11) (v := ?_) rfl (by kernel_rfl) (by kernel_rfl) (by kernel_rfl) (fun _ _ _ h => h) (Or.inl ⟨by rfl, ?_⟩) hHeld ?_
        rotate_left
        · intro w hSw; (try dsimp only at hSw); go_simp; (try with_reducible rfl)
        try simp only [Act.put, List.setIfInBounds_toArray, List.set_cons_zero, List.set_cons_succ, List.getElem_toArray, List.getElem_cons_zero, List.getElem_cons_succ]
        refine wpAnyH_done (by kernel_rfl) ?_ _
        refine NoPanic.normal ?_
        go_wp2_with fail
        go_meet
        exact ⟨_, rfl, rfl, HW.out⟩
      · skip
        go_simp
        obtain ⟨y3, hy⟩ : ∃ y, y = y1.alloc (.cells #[.slice none 0 0, .int .i64 0, .float .f64 0, .bool false, .float .f64 0, .slice none 0 0, .int .i64 0, .int .i64 0, .bool false, .int .u64 0, .float .f64 0, .slice none 0 0, .int .i64 0, .bool false, .int .i32 0, .float .f64 0, .int .u64 0, .slice none 0 0, .slice none 0 0, .slice none 0 0, .slice none 0 0, .slice none 0 0, .int .u64 0, .float .f64 0, .slice none 0 0, .bool false, .int .i64 0] 62) := ⟨_, rfl⟩; rw [← hy]; have HX3 : Hid (Whole y3 y1.heap.size 62 (xcs (.slice none 0 0) 0 0 false 0 false 0)) := (by rw [hy]; first | done | exact Whole.made y1 _ _); have HE3 : Hid (Below (w.heap.size + 1) A y3) := (by rw [hy]; exact HE1.out.alloc (by have := HE1.out.size; omega) _); have q3 := HC.out _ HE3.out; have hlo : w.heap.size + 1 ≤ y1.heap.size := (by have := HE1.out.size; omega); clear hy
        refine hK.out _ _ ?_ (fun hHeld2 => ?_)
        · first | (with_reducible exact q1) | (with_reducible exact q2) | (with_reducible exact q3) | (with_reducible exact q4) | (with_reducible exact q5) | (with_reducible exact q9)
        clear hK K hHeld; have hHeld := hHeld2; clear hHeld2
        try simp only [Act.put, List.setIfInBounds_toArray, List.set_cons_zero, List.set_cons_succ, List.getElem_toArray, List.getElem_cons_zero, List.getElem_cons_succ]
        refine wpAnyH_ready (rs := [5]) (by kernel_rfl) (by simp) (AllReadyH.cons rfl (fun K hK => ?_) AllReadyH.nil)
        go_simp
        go_at_call 30; refine (CC.out _ HE3.out).mono ?_; rintro e y4 ⟨a2, c2, rfl, ho, hb, hb'⟩; have HE4 := Lib.hid hb; have HO4 := Lib.hid ho; have HX4 : Hid (Whole y4 y1.heap.size 62 (xcs (.slice none 0 0) 0 0 false 0 false 0)) := (hb'.block _ HX3.out.lt).trans HX3.out; have q4 := HC.out _ hb; clear hb hb' ho
        refine hK.out _ _ ?_ (fun hHeld2 => ?_)
        · first | (with_reducible exact q1) | (with_reducible exact q2) | (with_reducible exact q3) | (with_reducible exact q4) | (with_reducible exact q5) | (with_reducible exact q9)
        clear hK K hHeld; have hHeld := hHeld2; clear hHeld2
        try simp only [Act.put, List.setIfInBounds_toArray, List.set_cons_zero, List.set_cons_succ, List.getElem_toArray, List.getElem_cons_zero, List.getElem_cons_succ]
        refine wpAnyH_take (i := 6) (v := ?_) rfl (by kernel_rfl) (by kernel_rfl) (by kernel_rfl) (fun _ _ _ h => h) (Or.inl ⟨by rfl, ?_⟩) hHeld ?_
        rotate_left
        · intro w hSw; (try dsimp only at hSw); go_simp; (try with_reducible rfl)
        try simp only [Act.put, List.setIfInBounds_toArray, List.set_cons_zero, List.set_cons_succ, List.getElem_toArray, List.getElem_cons_zero, List.getElem_cons_succ]
        refine wpAnyH_take (i := 7) (v := ?_) rfl (by kernel_rfl) (by kernel_rfl) (by kernel_rfl) (fun _ _ _ h => h) (Or.inl ⟨by rfl, ?_⟩) hHeld ?_
        rotate_left
        · intro w hSw; (try dsimp only at hSw); go_simp; (try with_reducible rfl)
        try simp only [Act.put, List.setIfInBounds_toArray, List.set_cons_zero, List.set_cons_succ, List.getElem_toArray, List.getElem_cons_zero, List.getElem_cons_succ]
        refine wpAnyH_take (i := 8) (v := ?_) rfl (by kernel_rfl) (by kernel_rfl) (by kernel_rfl) (fun _ _ _ h => h) (Or.inl ⟨by rfl, ?_⟩) hHeld ?_
        rotate_left
        · intro w hSw; (try dsimp only at hSw); go_simp; (try with_reducible rfl)
        try simp only [Act.put, List.setIfInBounds_toArray, List.set_cons_zero, List.set_cons_succ, List.getElem_toArray, List.getElem_cons_zero, List.getElem_cons_succ]
        refine wpAnyH_ready (rs := [10]) (by kernel_rfl) (by simp) (AllReadyH.cons rfl (fun K hK => ?_) AllReadyH.nil)
        rw [if_pos (by rfl)]
        refine Big.wp_store_whole _ _ _ rfl y1.heap.size 62 _ (xcs (.slice a2 LB.length c2) kd z false 0 false 0) rfl rfl HX4.out rfl hsz62 (xcs_ones _ _ _ _ _ _ _ _ _) ?_; intro y9 hx9 hg9 hs9; have HE9 : Hid (Below (w.heap.size + 1) A y9) := HE4.out.grown hg9 (by have := HE4.out.size; omega) (fun j hj => by injection hj with hj; omega); have q9 := HC.out _ HE9.out; have HW : Hid (Want LB kd z y1.heap.size (w.heap.size + 1) A y9) := ⟨⟨a2, c2, hx9, ss_far HO4.out (xcs_far _ _ _ _ _ _ _ _ _) HX4.out hg9⟩, HE9.out, hlo⟩; clear hx9 hg9 hs9
        refine hK.out _ _ ?_ (fun hHeld2 => ?_)
        · first | (with_reducible exact q1) | (with_reducible exact q2) | (with_reducible exact q3) | (with_reducible exact q4) | (with_reducible exact q5) | (with_reducible exact q9)
        clear hK K hHeld; have hHeld := hHeld2; clear hHeld2
        try simp only [Act.put, List.setIfInBounds_toArray, List.set_cons_zero, List.set_cons_succ, List.getElem_toArray, List.getElem_cons_zero, List.getElem_cons_succ]
        refine wpAnyH_take (i := 11) (v := ?_) rfl (by kernel_rfl) (by kernel_rfl) (by kernel_rfl) (fun _ _ _ h => h) (Or.inl ⟨by rfl, ?_⟩) hHeld ?_
        rotate_left
        · intro w hSw; (try dsimp only at hSw); go_simp; (try with_reducible rfl)
        try simp only [Act.put, List.setIfInBounds_toArray, List.set_cons_zero, List.set_cons_succ, List.getElem_toArray, List.getElem_cons_zero, List.getElem_cons_succ]
        refine wpAnyH_done (by kernel_rfl) ?_ _
        refine NoPanic.normal ?_
        go_wp2_with fail
        go_meet
        exact ⟨_, rfl, rfl, HW.out⟩
    · skip
      go_simp
      obtain ⟨y3, hy⟩ : ∃ y, y = (w1.alloc (.cells #[.slice none 0 0, .int .i64 0, .float .f64 0, .bool false, .float .f64 0, .slice none 0 0, .int .i64 0, .int .i64 0, .bool false, .int .u64 0, .float .f64 0, .slice none 0 0, .int .i64 0, .bool false, .int .i32 0, .float .f64 0, .int .u64 0, .slice none 0 0, .slice none 0 0, .slice none 0 0, .slice none 0 0, .slice none 0 0, .int .u64 0, .float .f64 0, .slice none 0 0, .bool false, .int .i64 0] 62)).drew := ⟨_, rfl⟩; rw [← hy]; have HX3 : Hid (Whole y3 w1.heap.size 62 (xcs (.slice none 0 0) 0 0 false 0 false 0)) := (by rw [hy]; first | done | exact Whole.made w1 _ _); have HE3 : Hid (Below (w.heap.size + 1) A y3) := (by rw [hy]; exact bdr (HB1.out.alloc (by have := HB1.out.size; omega) _) 1); have q3 := HC.out _ HE3.out; have hlo : w.heap.size + 1 ≤ w1.heap.size := (by have := HB1.out.size; omega); clear hy
      refine hK.out _ _ ?_ (fun hHeld2 => ?_)
      · first | (with_reducible exact q1) | (with_reducible exact q2) | (with_reducible exact q3) | (with_reducible exact q4) | (with_reducible exact q5) | (with_reducible exact q9)
      clear hK K hHeld; have hHeld := hHeld2; clear hHeld2
      try simp only [Act.put, List.setIfInBounds_toArray, List.set_cons_zero, List.set_cons_succ, List.getElem_toArray, List.getElem_cons_zero, List.getElem_cons_succ]
      refine wpAnyH_ready (rs := [2]) (by kernel_rfl) (by simp) (AllReadyH.cons rfl (fun K hK => ?_) AllReadyH.nil)
      go_simp
      go_at_call 31; refine (CK.out _ HE3.out).mono ?_; rintro e y4 ⟨rfl, hb, hb'⟩; have HE4 := Lib.hid hb; have HX4 : Hid (Whole y4 w1.heap.size 62 (xcs (.slice none 0 0) 0 0 false 0 false 0)) := (hb'.block _ HX3.out.lt).trans HX3.out; have q4 := HC.out _ hb; clear hb hb'
      refine hK.out _ _ ?_ (fun hHeld2 => ?_)
      · first | (with_reducible exact q1) | (with_reducible exact q2) | (with_reducible exact q3) | (with_reducible exact q4) | (with_reducible exact q5) | (with_reducible exact q9)
      clear hK K hHeld; have hHeld := hHeld2; clear hHeld2
      try simp only [Act.put, List.setIfInBounds_toArray, List.set_cons_zero, List.set_cons_succ, List.getElem_toArray, List.getElem_cons_zero, List.getElem_cons_succ]
      refine wpAnyH_ready (rs := [5]) (by kernel_rfl) (by simp) (AllReadyH.cons rfl (fun K hK => ?_) AllReadyH.nil)
      go_simp
      go_at_call 30; refine (CC.out _ HE4.out).mono ?_; rintro e y5 ⟨a2, c2, rfl, ho, hb, hb'⟩; have HE5 := Lib.hid hb; have HO5 := Lib.hid ho; have HX5 : Hid (Whole y5 w1.heap.size 62 (xcs (.slice none 0 0) 0 0 false 0 false 0)) := (hb'.block _ HX4.out.lt).trans HX4.out; have q5 := HC.out _ hb; clear hb hb' ho
      refine hK.out _ _ ?_ (fun hHeld2 => ?_)
      · first | (with_reducible exact q1) | (with_reducible exact q2) | (with_reducible exact q3) | (with_reducible exact q4) | (with_reducible exact q5) | (with_reducible exact q9)
      clear hK K hHeld; have hHeld := hHeld2; clear hHeld2
      try simp only [Act.put, List.setIfInBounds_toArray, List.set_cons_zero, List.set_cons_succ, List.getElem_toArray, List.getElem_cons_zero, List.getElem_cons_succ]
      refine wpAnyH_take (i := 6) (v := ?_) rfl (by kernel_rfl) (by kernel_rfl) (by kernel_rfl) (fun _ _ _ h => h) (Or.inl ⟨by rfl, ?_⟩) hHeld ?_
      rotate_left
      · intro w hSw; (try dsimp only at hSw); go_simp; (try with_reducible rfl)
      try simp only [Act.put, List.setIfInBounds_toArray, List.set_cons_zero, List.set_cons_succ, List.getElem_toArray, List.getElem_cons_zero, List.getElem_cons_succ]
      refine wpAnyH_take (i := 7) (v := ?_) rfl (by kernel_rfl) (by kernel_rfl) (by kernel_rfl) (fun _ _ _ h => h) (Or.inl ⟨by rfl, ?_⟩) hHeld ?_
      rotate_left
      · intro w hSw; (try dsimp only at hSw); go_simp; (try with_reducible rfl)
      try simp only [Act.put, List.setIfInBounds_toArray, List.set_cons_zero, List.set_cons_succ, List.getElem_toArray, List.getElem_cons_zero, List.getElem_cons_succ]
      refine wpAnyH_take (i := 8) (v := ?_) rfl (by kernel_rfl) (by kernel_rfl) (by kernel_rfl) (fun _ _ _ h => h) (Or.inl ⟨by rfl, ?_⟩) hHeld ?_
      rotate_left
      · intro w hSw; (try dsimp only at hSw); go_simp; (try with_reducible rfl)
      try simp only [Act.put, List.setIfInBounds_toArray, List.set_cons_zero, List.set_cons_succ, List.getElem_toArray, List.getElem_cons_zero, List.getElem_cons_succ]
      refine wpAnyH_ready (rs := [10]) (by kernel_rfl) (by simp) (AllReadyH.cons rfl (fun K hK => ?_) AllReadyH.nil)
      rw [if_pos (by rfl)]
      refine Big.wp_store_whole _ _ _ rfl w1.heap.size 62 _ (xcs (.slice a2 LB.length c2) kd z false 0 false 0) rfl rfl HX5.out rfl hsz62 (xcs_ones _ _ _ _ _ _ _ _ _) ?_; intro y9 hx9 hg9 hs9; have HE9 : Hid (Below (w.heap.size + 1) A y9) := HE5.out.grown hg9 (by have := HE5.out.size; omega) (fun j hj => by injection hj with hj; omega); have q9 := HC.out _ HE9.out; have HW : Hid (Want LB kd z w1.heap.size (w.heap.size + 1) A y9) := ⟨⟨a2, c2, hx9, ss_far HO5.out (xcs_far _ _ _ _ _ _ _ _ _) HX5.out hg9⟩, HE9.out, hlo⟩; clear hx9 hg9 hs9
      refine hK.out _ _ ?_ (fun hHeld2 => ?_)
      · first | (with_reducible exact q1) | (with_reducible exact q2) | (with_reducible exact q3) | (with_reducible exact q4) | (with_reducible exact q5) | (with_reducible exact q9)
      clear hK K hHeld; have hHeld := hHeld2; clear hHeld2
      try simp only [Act.put, List.setIfInBounds_toArray, List.set_cons_zero, List.set_cons_succ, List.getElem_toArray, List.getElem_cons_zero, List.getElem_cons_succ]
      refine wpAnyH_take (i := 11) (v := ?_) rfl (by kernel_rfl) (by kernel_rfl) (by kernel_rfl) (fun _ _ _ h => h) (Or.inl ⟨by rfl, ?_⟩) hHeld ?_
      rotate_left
      · intro w hSw; (try dsimp only at hSw); go_simp; (try with_reducible rfl)
      try simp only [Act.put, List.setIfInBounds_toArray, List.set_cons_zero, List.set_cons_succ, List.getElem_toArray, List.getElem_cons_zero, List.getElem_cons_succ]
      refine wpAnyH_done (by kernel_rfl) ?_ _
      refine NoPanic.normal ?_
      go_wp2_with fail
      go_meet
      exact ⟨_, rfl, rfl, HW.out⟩
  case rest => as_aux_lemma =>
    obtain ⟨x, rfl, rfl, hwant⟩ := hcut
    obtain ⟨W5, rfl⟩ : ∃ W5, W5 = wc := ⟨_, rfl⟩
    have HB5 := Lib.hid hwant.out.b
    cases hsay : (sayB nm hp un V L && sayVB V X) with
    | false =>
      clear CC CK HF4 HF3 hm hs hvv hcv hqb hx
      go_wp2_with fail
      refine (HLv.out _ HB5.out).mono ?_
      rintro e w7 ⟨rfl, hb7⟩
      have HF := Lib.hid (HUp.out _ hb7)
      clear hb7
      go_wp2_with fail
      go_ret
      exact ⟨rfl, HF.out⟩
    | true =>
      obtain ⟨hb1, hb2⟩ := Bool.and_eq_true_iff.1 hsay
      obtain ⟨hxa, hxV⟩ := sayVB_iff.1 hb2
      have ok := new_ok hb1 hs
      have hr : ∀ p ∈ L, p.1.size ≤ 2147483647 ∧ p.2.size ≤ 2147483647 := fun p hp => by have := mem_wp hp; omega
      have hxs2 : ∀ s ∈ X, Asc s ∧ s.size ≤ 9223372036854775807 := fun s h => ⟨ascii_asc (hxa s h), by have := hxs s h; omega⟩
      obtain ⟨⟨aw, cw, hwx, hwo⟩, _, hlo⟩ := hwant.out
      have hz5 := HB5.out.size
      have HU5 : Hid (∀ W, Below W5.heap.size W5 W → Below (w.heap.size + 1) A W) := fun W h => HTr.out _ _ HB5.out h
      have HWt : Hid (∀ W, Below W5.heap.size W5 W → Whole W x 62 (xcs (.slice aw LB.length cw) kd z false 0 false 0) ∧ Ss.Of 2 pc W (.slice aw LB.length cw) LB) := fun W h => ⟨(h.block x hwx.lt).trans hwx, hwo.below h⟩
      have CM : Hid (∀ W, Below W5.heap.size W5 W → Calls Tryz.prog 14 #[.agg #[.string nm, .string hp, .string un, vv, cv]] W (fun e w' => ∃ v2 c2, e = .returned (.agg #[.string nm, .string hp, .string un, v2, c2]) ∧ Sl.Of Value.string w' v2 V ∧ Ss.Of 2 pc w' c2 L ∧ Below W5.heap.size W5 w')) := fun W h =>
        (metaTo_any _ nm hp un V L W (hm.below (HUp.out _ (HU5.out W h)))).mono fun e w' ⟨v2, c2, he, hv, hc, hb⟩ => ⟨v2, c2, he, hv, hc, h.trans (hb.mono h.size)⟩
      have CK5 : Hid (∀ W, Below W5.heap.size W5 W → Calls Tryz.prog 31 #[.int .u8 (k : Int)] W (fun e w' => e = .returned (.int .i64 kd) ∧ Below W5.heap.size W5 w' ∧ Below W.heap.size W w')) := fun W h => (CK.out W (HU5.out W h)).mono fun e w' ⟨he, _, hb⟩ => ⟨he, h.trans (hb.mono h.size), hb⟩
      have CD : Hid (∀ W va ca, Below W5.heap.size W5 W → Sl.Of Value.string W va V → Ss.Of 2 pc W ca L → Calls Tryz.prog 33 #[.agg #[.string nm, .string hp, .string un, va, ca], .int .i64 kd, .float .f64 z, v3] W (fun e w' => ∃ a c, e = .returned (.tuple #[.agg (xcs (.slice a LB.length c) kd z false 0 false 0), .bool true]) ∧ Ss.Of 2 pc w' (.slice a LB.length c) LB ∧ Below W5.heap.size W5 w')) := fun W va ca h h1 h2 => by
        have h0 := HUp.out _ (HU5.out W h)
        refine (const_any nm hp un V X L va ca v3 kd (by rw [← hkd]; exact hkc) z W (hG.below h0) ok h1 h2 hr (hx.below h0) hxV hxs2).mono ?_
        rintro e w' ⟨a, c, rfl, ho, hb⟩
        rw [hLB] at ho ⊢
        refine ⟨a, c, ?_, Ss.Of.own pc_len ho, h.trans (hb.mono h.size)⟩
        obtain ⟨n1, n2⟩ := noD kd
        rw [n1, n2]
        rfl
      have hkd3 : kd = 0 ∨ kd = 1 ∨ kd = 3 := by rw [← hkd]; exact hkc
      have CT : Hid (∀ (B0 : Nat) (A0 W : World) (a : Option Addr) (c : Nat) (b11 : Bool) (t12 u : Int), -9223372036854775808 ≤ u → u ≤ 9223372036854775807 → Below B0 A0 W → B0 ≤ W.heap.size → Ss.Of 2 pc W (.slice a LB.length c) LB → Calls Tryz.prog 37 #[.agg (xcs (.slice a LB.length c) kd z false 0 b11 t12), .int .i64 u] W (fun e w' => ∃ a2 c2, e = .returned (.agg (xcs (.slice a2 LB.length c2) kd z false 0 true (msOf u))) ∧ Ss.Of 2 pc w' (.slice a2 LB.length c2) LB ∧ Below B0 A0 w')) := fun B0 A0 W a c b11 t12 u h1 h2 hB hz ho =>
        (stamped_any LB a c hll kd hkd3 z b11 t12 u h1 h2 W ho).mono fun e w' ⟨a2, c2, he, ho2, hb⟩ => ⟨a2, c2, he, ho2, hB.trans (hb.mono hz)⟩
      have CF : Hid (∀ (B0 : Nat) (A0 W : World) (a : Option Addr) (c : Nat) (u : Int), Below B0 A0 W → B0 ≤ W.heap.size → Ss.Of 2 pc W (.slice a LB.length c) LB → Calls Tryz.prog 35 #[.agg (xcs (.slice a LB.length c) kd z false 0 true u)] W (fun e w' => ∃ fv, e = .returned (.agg fv) ∧ FromOk w' fv LB kd z false 0 true u ∧ Below B0 A0 w')) := fun B0 A0 W a c u hB hz ho => (from_x LB _ kd z false 0 true u W ho hll).mono fun e w' ⟨fv, he, hf, hb⟩ => ⟨fv, he, hf, hB.trans (hb.mono hz)⟩
      have CS : Hid (∀ (B0 : Nat) (A0 W : World) fv (a : Option Addr) (c : Nat) (u : Int), Below B0 A0 W → B0 ≤ W.heap.size → FromOk W fv LB kd z false 0 true u → Ss.Of 2 pc W (.slice a LB.length c) LB → Calls Tryz.prog 34 #[.agg fv, .agg (xcs (.slice a LB.length c) kd z false 0 true u)] W (fun e w' => e = .returned (.bool true) ∧ Below B0 A0 w')) := fun B0 A0 W fv a c u hB hz hf ho => (same_x LB fv _ kd z false 0 true u W hf ho hll).mono fun e w' ⟨he, hb⟩ => ⟨he, hB.trans (hb.mono hz)⟩
      have CY : Hid (∀ u W, -9223372036854775808 ≤ u → u ≤ 9223372036854775807 → Calls Tryz.prog 38 #[.int .i64 u] W (fun e w' => e = .returned (.int .i64 (msOf u)) ∧ W = w')) := fun u W h1 h2 => millis_any u h1 h2 W
      have k5 := HC.out W5 HB5.out
      have HB55 : Hid (Below W5.heap.size W5 W5) := Below.refl _ _
      clear CC CK HF4 HF3 hm hs hvv hcv hqb hx hxs2 hr ok hxa hxV hb1 hb2 hsay hwx hwo hwant hLB hkd hkc hkd3
      go_wp2_with fail
      refine (CM.out _ HB55.out).mono ?_
      rintro e y1 ⟨va, ca, rfl, hv1, hc1, hb1⟩
      have HE1 := Lib.hid hb1
      have HVa := Lib.hid hv1
      have HCa := Lib.hid hc1
      clear hv1 hc1 hb1 k5
      go_wp2_with fail
      refine (CK5.out _ HE1.out).mono ?_
      rintro e y2 ⟨rfl, hb2, hb2'⟩
      have CDa := Lib.hid (CD.out _ _ _ hb2 (HVa.out.below hb2') (HCa.out.below hb2'))
      clear hb2 hb2'
      go_wp2_with fail
      refine CDa.out.mono ?_
      rintro e y3 ⟨a3, c3, rfl, ho3, hb3⟩
      have HE3 := Lib.hid hb3
      have HO3 := Lib.hid ho3
      clear ho3 hb3 CDa HVa HCa CM CD CK5
      rename_i K1 hK1 K2 hK2
      dsimp only
      refine hK2 _ _ ?_
      refine wpList_plain rfl fun K3 hK3 => ?_
      go_simp
      refine hK3 _ _ ?_
      clear hK3 K3
      refine wpList_plain rfl fun K3 hK3 => ?_
      go_simp
      refine hK3 _ _ ?_
      clear hK3 K3
      refine wpList_plain rfl fun K3 hK3 => ?_
      go_simp
      refine hK3 _ _ ?_
      clear hK3 K3
      refine wpList_plain rfl fun K3 hK3 => ?_
      go_simp
      refine hK3 _ _ ?_
      clear hK3 K3
      refine Big.wpList_store_whole rfl _ _ _ rfl y3.heap.size 75 (xcs (.slice none 0 0) 0 0 false 0 false 0) (xcs (.slice a3 LB.length c3) kd z false 0 false 0) rfl rfl (Whole.made y3 _ _) rfl hsz75 (xcs_ones _ _ _ _ _ _ _ _ _) ?_
      intro y4 hx4 hg4 hs4
      simp only [Act.put]
      have hb34 : Below y3.heap.size y3 y4 := ((Below.refl _ _).alloc (Nat.le_refl _) _).grown hg4 (by simp) (fun j hj => by injection hj with hj; omega)
      have hb4 : Below W5.heap.size W5 y4 := HE3.out.trans (hb34.mono HE3.out.size)
      -- from here on all is seen from y4
      have hx15 := Lib.hid hx4
      obtain ⟨hwx4, hwo4⟩ := HWt.out _ hb4
      have HWx := Lib.hid hwx4
      have HP : Hid (∀ W, Below y4.heap.size y4 W → (Whole W y3.heap.size 75 (xcs (.slice a3 LB.length c3) kd z false 0 false 0) ∧ Ss.Of 2 pc W (.slice a3 LB.length c3) LB) ∧ (Whole W x 62 (xcs (.slice aw LB.length cw) kd z false 0 false 0) ∧ Ss.Of 2 pc W (.slice aw LB.length cw) LB)) := fun W h =>
        ⟨⟨(h.block _ hx4.lt).trans hx4, (HO3.out.below hb34).below h⟩, HWt.out _ (hb4.trans (h.mono hb4.size))⟩
      have HU4 : Hid (∀ W, Below y4.heap.size y4 W → Below (w.heap.size + 1) A W) := fun W h => HU5.out _ (hb4.trans (h.mono hb4.size))
      have CL : Hid (∀ W, Below (w.heap.size + 1) A W → Calls Tryz.prog 32 #[] W (fun e w' => e = .returned (.bool true) ∧ Below w.heap.size w w')) := fun W h => (awake_any W (hG.below (HUp.out _ h))).mono fun e w' ⟨he, hb⟩ => ⟨he, HUp.out _ (HTr.out _ _ h hb)⟩
      have hlx4 : x < y4.heap.size := hwx4.lt
      have HE4 : Hid (Below y4.heap.size y4 y4) := Below.refl _ _
      clear hx4 hg4 hs4 hb34 hb4 HE3 HO3 HWt HU5 hG hwx4 hwo4
      -- region 7
      go_upto_region 7 with fail
      go_step
      refine Big.wpList_load_whole rfl _ _ rfl y3.heap.size 75 (xcs (.slice a3 LB.length c3) kd z false 0 false 0) rfl (HP.out _ HE4.out).1.1 _ Tryz.underlying75 rfl hsz75 ?_
      simp only [Act.put, List.setIfInBounds_toArray, List.set_cons_zero, List.set_cons_succ]
      go_wp2_with fail
      refine (CT.out y4.heap.size y4 y4 a3 c3 false 0 t ht1 ht2 HE4.out (Nat.le_refl _) (HP.out _ HE4.out).1.2).mono ?_
      rintro e y5 ⟨a5, c5, rfl, ho5, hb5⟩
      have CFa := Lib.hid (CF.out y4.heap.size y4 y5 a5 c5 (msOf t) hb5 hb5.size ho5)
      clear ho5 hb5
      go_wp2_with fail
      refine CFa.out.mono ?_
      rintro e y6 ⟨f1, rfl, hf6, hb6⟩
      obtain ⟨hfs6, hfo6⟩ := from_ones hf6
      have HFs1 := Lib.hid hfs6
      rename_i K1 hK1 K2 hK2
      dsimp only
      refine hK2 _ _ ?_
      refine wpList_plain rfl fun K3 hK3 => ?_
      go_simp
      refine hK3 _ _ ?_
      clear hK3 K3
      refine Big.wpList_store_whole rfl _ _ _ rfl y6.heap.size 62 (xcs (.slice none 0 0) 0 0 false 0 false 0) f1 rfl rfl (Whole.made y6 _ _) hfs6 (by rw [hfs6]; exact hsz62) hfo6 ?_
      intro y7 hx7 hg7 hs7
      simp only [Act.put]
      have hb67 : Below y6.heap.size y6 y7 := ((Below.refl _ _).alloc (Nat.le_refl _) _).grown hg7 (by simp) (fun j hj => by injection hj with hj; omega)
      have hb7 : Below y4.heap.size y4 y7 := hb6.trans (hb67.mono hb6.size)
      have HX7 : Hid (∀ W, Below y7.heap.size y7 W → Whole W y6.heap.size 62 f1 ∧ FromOk W f1 LB kd z false 0 true (msOf t) ∧ Below y4.heap.size y4 W) := fun W h => ⟨(h.block _ hx7.lt).trans hx7, (hf6.below hb67).below h, hb7.trans (h.mono hb7.size)⟩
      have HE7 : Hid (Below y7.heap.size y7 y7) := Below.refl _ _
      have hl67 : y4.heap.size ≤ y6.heap.size := hb6.size
      clear hf6 hb6 hfs6 hfo6 hx7 hg7 hs7 hb67 hb7 CFa
      -- region 8
      go_upto_region 8 with fail
      go_step
      refine Big.wpList_load_whole rfl _ _ rfl y3.heap.size 75 (xcs (.slice a3 LB.length c3) kd z false 0 false 0) rfl (HP.out _ (HX7.out _ HE7.out).2.2).1.1 _ Tryz.underlying75 rfl hsz75 ?_
      simp only [Act.put, List.setIfInBounds_toArray, List.set_cons_zero, List.set_cons_succ]
      go_wp2_with fail
      refine (CT.out y7.heap.size y7 y7 a3 c3 false 0 t ht1 ht2 HE7.out (Nat.le_refl _) (HP.out _ (HX7.out _ HE7.out).2.2).1.2).mono ?_
      rintro e y8 ⟨a8, c8, rfl, ho8, hb8⟩
      have CTa := Lib.hid (CT.out y7.heap.size y7 y8 a8 c8 true (msOf t) s hs1 hs2 hb8 hb8.size ho8)
      clear ho8 hb8
      go_wp2_with fail
      refine CTa.out.mono ?_
      rintro e y9 ⟨a9, c9, rfl, ho9, hb9⟩
      have CFa := Lib.hid (CF.out y7.heap.size y7 y9 a9 c9 (msOf s) hb9 hb9.size ho9)
      clear ho9 hb9 CTa
      go_wp2_with fail
      refine CFa.out.mono ?_
      rintro e z0 ⟨f2, rfl, hf0, hb0⟩
      obtain ⟨hfs0, hfo0⟩ := from_ones hf0
      have HFs2 := Lib.hid hfs0
      rename_i K1 hK1 K2 hK2
      dsimp only
      refine hK2 _ _ ?_
      refine wpList_plain rfl fun K3 hK3 => ?_
      go_simp
      refine hK3 _ _ ?_
      clear hK3 K3
      refine Big.wpList_store_whole rfl _ _ _ rfl z0.heap.size 62 (xcs (.slice none 0 0) 0 0 false 0 false 0) f2 rfl rfl (Whole.made z0 _ _) hfs0 (by rw [hfs0]; exact hsz62) hfo0 ?_
      intro z1 hx1 hg1 hs1'
      simp only [Act.put]
      have hb01 : Below z0.heap.size z0 z1 := ((Below.refl _ _).alloc (Nat.le_refl _) _).grown hg1 (by simp) (fun j hj => by injection hj with hj; omega)
      have hb1 : Below y7.heap.size y7 z1 := hb0.trans (hb01.mono hb0.size)
      have hlz : y7.heap.size ≤ z0.heap.size := hb0.size
      obtain ⟨q1, q2, q3⟩ := HX7.out _ hb1
      obtain ⟨_, r1, r2⟩ := HP.out _ q3
      have HQ := Lib.hid (And.intro q1 (And.intro q2 (And.intro r1 (And.intro r2 (And.intro hx1 (hf0.below hb01))))))
      have HB1 := Lib.hid (HU4.out _ q3)
      have hly : y6.heap.size < y7.heap.size := (HX7.out _ HE7.out).1.lt
      have x25 : z1.cell? ⟨x, 25, none⟩ = some (.bool false) := r1.cell 25
      have x26 : z1.cell? ⟨x, 26, none⟩ = some (.int .i64 0) := r1.cell 26
      have f25 := r1.free 25
      have f26 := r1.free 26
      have hlB := HB1.out.size
      have hlB' : (w.heap.size + 1) ≤ z1.heap.size := by omega
      have hzA : w.heap.size + 1 ≤ x := hlo
      clear hf0 hb0 hfs0 hfo0 hx1 hg1 hs1' hb01 hb1 CFa q1 q2 q3 r1 r2 HX7 HE7 HP HU4 HE4
      -- region 9
      go_wp2_with fail
      refine (CY.out t z1 ht1 ht2).mono ?_
      rintro e z1' ⟨rfl, rfl⟩
      go_upto_region 10 with fail
      obtain ⟨z2, hz2⟩ : ∃ z2, z2 = (z1.setCell ⟨x, 25, none⟩ (.bool true)).setCell ⟨x, 26, none⟩ (.int .i64 (msOf t)) := ⟨_, rfl⟩
      rw [← hz2]
      obtain ⟨q1, q2, r1, r2, q3, q4⟩ := HQ.out
      have hg12 : z1.grownBy z2 (some x) := by
        rw [hz2]
        refine ⟨rfl, rfl, rfl, by simp [World.setCell], fun k hk hne => ?_⟩
        have hkb : k ≠ x := by rintro rfl; exact hne rfl
        rw [Below.heap_setCell _ ⟨x, 26, none⟩ _ k hkb, Below.heap_setCell _ ⟨x, 25, none⟩ _ k hkb]
      have hxz : Whole z2 x 62 (xcs (.slice aw LB.length cw) kd z false 0 true (msOf t)) := by rw [hz2]; exact (r1.put 25 (.bool true)).put 26 (.int .i64 (msOf t))
      have hoz : Ss.Of 2 pc z2 (.slice aw LB.length cw) LB := ss_far r2 (xcs_far _ _ _ _ _ _ _ _ _) r1 hg12
      have h1z : Whole z2 y6.heap.size 62 f1 := (hg12.block _ q1.lt (by intro e; injection e with e; omega)).trans q1
      have h2z : Whole z2 z0.heap.size 62 f2 := (hg12.block _ q3.lt (by intro e; injection e with e; omega)).trans q3
      have g1z : FromOk z2 f1 LB kd z false 0 true (msOf t) := q2.far (xcs_far _ _ _ _ _ _ _ _ _) r1 hg12
      have g2z : FromOk z2 f2 LB kd z false 0 true (msOf s) := q4.far (xcs_far _ _ _ _ _ _ _ _ _) r1 hg12
      have HB2 : Hid (Below (w.heap.size + 1) A z2) := HB1.out.grown hg12 hlB' (fun j hj => by injection hj with hj; omega)
      have hlz2 := hxz.lt
      clear hz2 q1 q2 r1 r2 q3 q4 HQ x25 x26 f25 f26 hg12
      have CSa := Lib.hid (CS.out z2.heap.size z2 z2 f1 aw cw (msOf t) (Below.refl _ _) (Nat.le_refl _) g1z hoz)
      -- region 10
      go_step
      refine wpList_plain rfl fun K3 hK3 => ?_
      go_simp
      refine hK3 _ _ ?_
      clear hK3 K3
      refine wpList_plain rfl fun K3 hK3 => ?_
      go_simp
      refine hK3 _ _ ?_
      clear hK3 K3
      refine wpList_plain rfl fun K3 hK3 => ?_
      go_simp
      refine hK3 _ _ ?_
      clear hK3 K3
      refine wpList_load_wanted (by rfl) _ _ rfl y6.heap.size 62 f1 rfl h1z _ Tryz.underlying62 rfl (by rw [HFs1.out]; exact hsz62) ?_
      simp only [Act.put, List.setIfInBounds_toArray, List.set_cons_zero, List.set_cons_succ]
      refine wpList_load_wanted (by rfl) _ _ rfl x 62 (xcs (.slice aw LB.length cw) kd z false 0 true (msOf t)) rfl hxz _ Tryz.underlying62 rfl hsz62 ?_
      simp only [Act.put, List.setIfInBounds_toArray, List.set_cons_zero, List.set_cons_succ]
      have H2z := Lib.hid h2z
      have HXz := Lib.hid hxz
      have HOz := Lib.hid hoz
      have HG2 := Lib.hid g2z
      clear h1z h2z hxz hoz g1z g2z
      go_wp2_with fail
      refine CSa.out.mono ?_
      rintro e z3 ⟨rfl, hb3⟩
      have hz3 := hb3.size
      have HX3 : Hid (Whole z3 x 62 (xcs (.slice aw LB.length cw) kd z false 0 true (msOf t))) := (hb3.block _ hlz2).trans HXz.out
      have H23 : Hid (Whole z3 z0.heap.size 62 f2) := (hb3.block _ H2z.out.lt).trans H2z.out
      have HO3 := Lib.hid (HOz.out.below hb3)
      have HG3 := Lib.hid (HG2.out.below hb3)
      have HB3 : Hid (Below (w.heap.size + 1) A z3) := HTr.out _ _ HB2.out hb3
      have x26 : z3.cell? ⟨x, 26, none⟩ = some (.int .i64 (msOf t)) := HX3.out.cell 26
      have f26 := HX3.out.free 26
      clear hb3 CSa
      go_wp2_with fail
      refine (CY.out s z3 hs1 hs2).mono ?_
      rintro e z3' ⟨rfl, rfl⟩
      go_upto_region 13 with fail
      obtain ⟨z4, hz4⟩ : ∃ z4, z4 = z3.setCell ⟨x, 26, none⟩ (.int .i64 (msOf s)) := ⟨_, rfl⟩
      rw [← hz4]
      have hg34 : z3.grownBy z4 (some x) := by rw [hz4]; exact put_grown z3 x 26 _
      have hxz : Whole z4 x 62 (xcs (.slice aw LB.length cw) kd z false 0 true (msOf s)) := by rw [hz4]; exact HX3.out.put 26 (.int .i64 (msOf s))
      have hoz : Ss.Of 2 pc z4 (.slice aw LB.length cw) LB := ss_far HO3.out (xcs_far _ _ _ _ _ _ _ _ _) HX3.out hg34
      have h2z : Whole z4 z0.heap.size 62 f2 := (hg34.block _ H23.out.lt (by intro e; injection e with e; omega)).trans H23.out
      have g2z : FromOk z4 f2 LB kd z false 0 true (msOf s) := HG3.out.far (xcs_far _ _ _ _ _ _ _ _ _) HX3.out hg34
      have HB4 : Hid (Below (w.heap.size + 1) A z4) := HB3.out.grown hg34 (by have := HB3.out.size; omega) (fun j hj => by injection hj with hj; omega)
      have CSb := Lib.hid (CS.out (w.heap.size + 1) A z4 f2 aw cw (msOf s) HB4.out (by have := HB4.out.size; omega) g2z hoz)
      clear hz4 hg34 x26 f26 hoz g2z HX3 H23 HO3 HG3
      go_step
      refine Big.wpList_load_whole rfl _ _ rfl z0.heap.size 62 f2 rfl h2z _ Tryz.underlying62 rfl (by rw [HFs2.out]; exact hsz62) ?_
      simp only [Act.put, List.setIfInBounds_toArray, List.set_cons_zero, List.set_cons_succ]
      refine Big.wpList_load_whole rfl _ _ rfl x 62 (xcs (.slice aw LB.length cw) kd z false 0 true (msOf s)) rfl hxz _ Tryz.underlying62 rfl hsz62 ?_
      simp only [Act.put, List.setIfInBounds_toArray, List.set_cons_zero, List.set_cons_succ]
      clear h2z hxz
      go_wp2_with fail
      refine CSb.out.mono ?_
      rintro e z5 ⟨rfl, hb5⟩
      have CLa := Lib.hid (CL.out z5 hb5)
      have HUa := Lib.hid (HUp.out _ hb5)
      clear hb5
      go_wp2_with fail
      refine CLa.out.mono ?_
      rintro e z6 ⟨rfl, hb6⟩
      have HF := Lib.hid hb6
      clear hb6
      go_wp2_with fail
      go_ret
      exact ⟨rfl, HF.out⟩

end Go.Proofs.YtfcpapbokefdmaaGreatDoor.Stamped
