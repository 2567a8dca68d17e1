/- Metrics: a constant metric made, written and handed back (NewConstMetric, (*constMetric).Write, impl.written, impl.Const). -/
import Derived.Test.YtlolomodcbkblaaGreatDoorMtb
import Derived.Test.YtlolomodcbkblaaGreatDoorMg14
set_option linter.unusedVariables false
set_option linter.unusedSimpArgs false
namespace Go.Proofs.YtlolomodcbkblaaGreatDoor.Mt
open Go.RowKit Go.Maps Go.WideMaps Go.ChangeShapes Go.WideShapes Go.Deep Fp Obs _root_.Go.Proofs.YtlolomodcbkblaaGreatDoor.Nd

structure ConstAt (W : World) (cm b : Nat) (F : List P2) (kind : Int) (val : Nat) (dt : Option Int) : Prop where
  c1 : W.cell? ⟨cm, 1, none⟩ = some (ptr b)
  met : MetAt W b F kind val dt none
  lt : cm < W.heap.size
theorem ConstAt.below {W W' : World} {cm b : Nat} {F : List P2} {kind : Int} {val : Nat} {dt : Option Int} (h : ConstAt W cm b F kind val dt) (k : Below W.heap.size W W') : ConstAt W' cm b F kind val dt :=
  ⟨(k.cell (p := ⟨cm, 1, none⟩) h.lt).trans h.c1, h.met.below k, Nat.lt_of_lt_of_le h.lt k.size⟩
abbrev zeroM : Array Value := #[.slice none 0 0, nilp, nilp, nilp, nilp, nilp, nilp]
/-- what a Write does to the metric in block out -/
def WriteOut (out : Nat) (F : List P2) (kind : Int) (val : Nat) (dt st : Option Int) (w : World) (e : Ending) (w' : World) : Prop :=
  e = .returned .nilIface ∧ MetAt w' out F kind val dt st ∧ w.grownBy w' (some out)
theorem grown4 (w : World) (b i1 i2 i3 i4 : Nat) (u1 u2 u3 u4 : Value) : w.grownBy ((((w.setCell ⟨b, i1, none⟩ u1).setCell ⟨b, i2, none⟩ u2).setCell ⟨b, i3, none⟩ u3).setCell ⟨b, i4, none⟩ u4) (some b) := by
  refine ⟨rfl, rfl, rfl, by simp [World.setCell], fun k hk hne => ?_⟩
  have hkb : k ≠ b := by rintro rfl; exact hne rfl
  rw [Below.heap_setCell _ ⟨b, i4, none⟩ _ k hkb, Below.heap_setCell _ ⟨b, i3, none⟩ _ k hkb, Below.heap_setCell _ ⟨b, i2, none⟩ _ k hkb, Below.heap_setCell _ ⟨b, i1, none⟩ _ k hkb]
set_option maxHeartbeats 8000000 in
set_option maxRecDepth 100000 in
theorem writeConst_any (cm b out : Nat) (F : List P2) (kind : Int) (hk : kind = 0 ∨ kind = 1 ∨ kind = 3) (val : Nat) (dt : Option Int) (w0 w : World) (hc : ConstAt w0 cm b F kind val dt) (hb : Below w0.heap.size w0 w) (hlo : w0.heap.size ≤ out) (ho : Whole w out 201 zeroM) :
    Calls Tryz.prog 275 #[ptr cm, ptr out] w (WriteOut out F kind val dt none w) := by
  have hm := hc.met
  obtain ⟨lv, vb, f, ct, ts, hcs, hps, hva, hdt, hst⟩ := hm.got
  have hst : ts = nilp := hst
  subst hst
  obtain ⟨qs, hql, hlvs, _⟩ := id hps
  obtain ⟨al, cl, rfl, _, _⟩ := sl_slice hlvs
  have hlb := hm.lt
  have hlc := hc.lt
  have hbo : b ≠ out := by omega
  have hob : out ≠ b := by omega
  have hco : cm ≠ out := by omega
  have hoc : out ≠ cm := by omega
  have k1 : w.cell? ⟨cm, 1, none⟩ = some (ptr b) := (hb.cell (p := ⟨cm, 1, none⟩) hlc).trans hc.c1
  have hcw : ∀ j, w.cell? ⟨b, j, none⟩ = (mcs (.slice al qs.length cl) kind vb nilp)[j]? := fun j => (hb.cell (p := ⟨b, j, none⟩) hlb).trans (hcs j)
  have k2 := hcw 0
  have k3 := hcw 1
  have k4 := hcw 2
  have k5 := hcw 4
  have o0 := ho.cell 0
  have o1 := ho.cell 1
  have o2 := ho.cell 2
  have o4 := ho.cell 4
  have f0 := ho.free 0
  have f1 := ho.free 1
  have f2 := ho.free 2
  have f4 := ho.free 4
  have HFin : Hid (∀ u0 u1 u2 u4, Whole ((((w.setCell ⟨out, 0, none⟩ u0).setCell ⟨out, 2, none⟩ u2).setCell ⟨out, 1, none⟩ u1).setCell ⟨out, 4, none⟩ u4) out 201 (mcs (.slice al qs.length cl) kind vb nilp) →
      WriteOut out F kind val dt none w (.returned .nilIface) ((((w.setCell ⟨out, 0, none⟩ u0).setCell ⟨out, 2, none⟩ u2).setCell ⟨out, 1, none⟩ u1).setCell ⟨out, 4, none⟩ u4)) := fun u0 u1 u2 u4 h => by
    have hq := grown4 w out 0 2 1 4 u0 u2 u1 u4
    have hq0 := hb.grown hq hb.size (fun j hj => by injection hj with hj; omega)
    exact ⟨rfl, ⟨⟨_, vb, f, ct, nilp, fun j => h.cell j, hps.below hq0, hva.below hq0, fun e => (hdt e).below hq0, rfl⟩, h.lt⟩, hq⟩
  have HO := Lib.hid ho
  clear hps hlvs hql hva hdt hcs hcw hc hm hb ho
  rcases hk with rfl | rfl | rfl
  all_goals
    simp [mcs] at k2 k3 k4 k5 o0 o1 o2 o4
    go_enter Tryz.func275, Tryz.ntmps275
    go_wp2_with fail
    go_ret
    exact HFin.out _ _ _ _ ((((HO.out.put 0 _).put 2 _).put 1 _).put 4 _)

/-- label pairs lie in no block that holds an empty metric -/
theorem Pairs.far {w w' : World} {v : Value} {F : List P2} {b : Nat} {T : TypeId} (h : Pairs w v F) (hw : Whole w b T zeroM) (hg : w.grownBy w' (some b)) : Pairs w' v F := by
  have key : ∀ (g o : Nat) (u : Value), w.cell? ⟨g, o, none⟩ = some u → (∃ s, u = .string s) ∨ (∃ a, u = .pointer (some a)) → w'.cell? ⟨g, o, none⟩ = some u := by
    intro g o u hu hk
    have hne : g ≠ b := by
      rintro rfl
      rw [hw.cell o] at hu
      rcases o with _ | _ | _ | _ | _ | _ | _ | o
      all_goals
        simp at hu
        try subst hu
        try (rcases hk with ⟨s, hs⟩ | ⟨a, ha⟩ <;> simp_all)
    rw [hg.cell_far ⟨g, o, none⟩ (World.block_lt_of_cell? w (a := ⟨g, o, none⟩) hu) (fun e => by injection e with e; exact hne e)]
    exact hu
  obtain ⟨qs, h1, h2, h3⟩ := h
  refine ⟨qs, h1, ?_, fun i hi h4 => ?_⟩
  · rcases h2 with h2 | ⟨g, off, cap, e1, e2, e3, e4, e5, e6⟩
    · exact Or.inl h2
    · exact Or.inr ⟨g, off, cap, e1, e2, e3, e4, Nat.lt_of_lt_of_le e5 hg.size, fun i hi => key _ _ _ (e6 i hi) (Or.inr ⟨_, rfl⟩)⟩
  · have h5 := h3 i hi h4
    exact ⟨key _ _ _ h5.nm (Or.inr ⟨_, rfl⟩), key _ _ _ h5.vl (Or.inr ⟨_, rfl⟩), key _ _ _ h5.n (Or.inl ⟨_, rfl⟩), key _ _ _ h5.v (Or.inl ⟨_, rfl⟩), Nat.lt_of_lt_of_le h5.lt.1 hg.size, Nat.lt_of_lt_of_le h5.lt.2.1 hg.size, Nat.lt_of_lt_of_le h5.lt.2.2 hg.size⟩
/-- a constant metric that is made -/
def NewConstOut (F : List P2) (kind : Int) (val : Nat) (dt : Option Int) (w : World) (e : Ending) (w' : World) : Prop :=
  ∃ cm b, e = .returned (.tuple #[.iface 290 (ptr cm), .nilIface]) ∧ ConstAt w' cm b F kind val dt ∧ Below w.heap.size w w'
set_option maxHeartbeats 8000000 in
set_option maxRecDepth 100000 in
theorem newConst_any (d c : Nat) (nm hp un : ByteArray) (V X : List ByteArray) (F : List P2) (v3 vn vx : Value) (kind : Int) (hk : kind = 0 ∨ kind = 1 ∨ kind = 3) (val : Nat) (w : World) (hG : Glob w) (hd : DescAt w d nm hp un V F v3 c vn) (hx : Sl.Of Value.string w vx X) (hl : X.length = V.length) (hn : (F.map (·.1) ++ V).Nodup) (hs : Srt F)
    (hV : V.length ≤ 1048576) (hF : F.length ≤ 1048576) (ha : ∀ s ∈ X, Asc s ∧ s.size ≤ 9223372036854775807) :
    Calls Tryz.prog 80 #[ptr d, .int .i64 (typeOf kind), .float .f64 val, vx] w (NewConstOut (labs V X F) kind val none w) := by
  obtain ⟨an, cn, rfl, hcn1, hcn2⟩ := sl_slice hd.names
  obtain ⟨ax, cx, rfl, hcx1, hcx2⟩ := sl_slice hx
  have k7 := hd.c7
  have k4 := hd.c4
  have n0 := hd.n0
  have CV : Hid (Calls Tryz.prog 101 #[.slice ax X.length cx, .int .i64 (V.length : Int)] w fun e w' => e = .returned .nilIface ∧ Below w.heap.size w w') := by
    have h := values_any X _ w hx hG (by omega) ha
    rw [hl] at h
    rw [hl]
    exact h
  have CM : Hid (∀ W, Below w.heap.size w W → Calls Tryz.prog 106 #[ptr d, .slice ax X.length cx] W (MakeOut V X F W)) := fun W h => make_any d c nm hp un V X F v3 _ _ W (hd.below h) (hx.below h) hl hn hs hV hF
  have HT : Hid (∀ (a : Option Addr) (n cl b : Nat) (W : World), Whole W b 201 zeroM → Calls Tryz.prog 117 #[.int .i64 (typeOf kind), .float .f64 val, .slice a n cl, nilp, ptr b, nilp] W (PopOut (.slice a n cl) kind val b nilp W)) := fun a n cl b W h => populate_any a n cl kind hk val b none W h
  clear hd hx hl hn hs ha hG
  generalize typeOf kind = tk at *
  go_enter Tryz.func80, Tryz.ntmps80
  go_wp2_with fail
  refine CV.out.mono ?_
  rintro e w1 ⟨rfl, hb1⟩
  have HB1 := Lib.hid hb1
  have HA1 : Hid (Below w.heap.size w (w1.alloc (.cells #[.slice none 0 0, .pointer none, .pointer none, .pointer none, .pointer none, .pointer none, .pointer none] 201))) := hb1.alloc hb1.size _
  have hsz1 := hb1.size
  clear hb1 k7 k4 n0
  go_wp2_with fail
  refine (CM.out _ HA1.out).mono ?_
  rintro e w2 ⟨v, rfl, hp2, hb2⟩
  obtain ⟨qs, hql, hlvs, _⟩ := id hp2
  obtain ⟨al, cl, rfl, _, _⟩ := sl_slice hlvs
  have hb02 : Below w.heap.size w w2 := HA1.out.trans (hb2.mono HA1.out.size)
  have hW : Whole w2 w1.heap.size 201 zeroM := (hb2.block w1.heap.size (by simp)).trans (Whole.made w1 _ _)
  have CP := Lib.hid (HT.out al qs.length cl w1.heap.size w2 hW)
  have HF : Hid (∀ e w3, PopOut (.slice al qs.length cl) kind val w1.heap.size nilp w2 e w3 → e = .returned .nilIface ∧ MetAt w3 w1.heap.size (labs V X F) kind val none none ∧ Below w.heap.size w w3) := fun e w3 ⟨he, hw, hv, hg⟩ => by
    have hq : Below w1.heap.size w2 w2 := Below.refl _ _
    have hq3 : Below w.heap.size w w3 := hb02.grown hg hb02.size (fun j hj => by injection hj with hj; omega)
    exact ⟨he, ⟨⟨_, _, _, nilp, nilp, fun j => hw.cell j, Pairs.far hp2 hW hg, hv, fun _ => rfl, rfl⟩, hw.lt⟩, hq3⟩
  clear hp2 hlvs hql hb2 hb02 hW
  go_wp2_with fail
  refine CP.out.mono ?_
  rintro e w3 hpo
  obtain ⟨rfl, hm3, hb3⟩ := HF.out _ _ hpo
  have HO : Hid (NewConstOut (labs V X F) kind val none w (.returned (.tuple #[.iface 290 (ptr w3.heap.size), .nilIface])) (w3.alloc (.cells #[ptr d, ptr w1.heap.size] 292))) := by
    have hq : Below w3.heap.size w3 (w3.alloc (.cells #[ptr d, ptr w1.heap.size] 292)) := (Below.refl _ _).alloc (Nat.le_refl _) _
    exact ⟨_, _, rfl, ⟨Sl.cell_new w3 _ _ 1, hm3.below hq, by simp⟩, hb3.alloc hb3.size _⟩
  clear hpo hm3 hb3
  go_wp2_with fail
  go_ret2
  exact HO.out

theorem metricOf_plain (b : Nat) (F : List P2) (kind : Int) (hk : kind = 0 ∨ kind = 1 ∨ kind = 3) (val : Nat) (dt : Option Int) (hdt : kind ≠ 0 → dt = none) (w : World) (hm : MetAt w b F kind val dt none) (hF : F.length ≤ 2147483647) :
    Calls Tryz.prog 86 #[ptr b] w (MetOut F kind val dt none w) := by
  rcases hk with rfl | rfl | rfl
  · cases dt with
    | none => exact metricOf_0 b F val w hm hF
    | some t => exact metricOf_0d b F val t w hm hF
  · obtain rfl := hdt (by decide)
    exact metricOf_1 b F val w hm hF
  · obtain rfl := hdt (by decide)
    exact metricOf_3 b F val w hm hF
/-- a metric that is written and read back -/
def WrOut (F : List P2) (kind : Int) (val : Nat) (dt st : Option Int) (w : World) (e : Ending) (w' : World) : Prop :=
  ∃ a c, e = .returned (.tuple #[.agg (xcs (.slice a F.length c) kind val (isD kind dt) (toD kind dt) st.isSome (st.getD 0)), .bool true]) ∧ w'.ownsRow w.heap.size 211 2 (.slice a F.length c) F.length (F.flatMap pc) ∧ Below w.heap.size w w'
set_option maxHeartbeats 8000000 in
set_option maxRecDepth 100000 in
theorem writtenConst_any (cm b : Nat) (F : List P2) (kind : Int) (hk : kind = 0 ∨ kind = 1 ∨ kind = 3) (val : Nat) (dt : Option Int) (hdt : kind ≠ 0 → dt = none) (w : World) (hc : ConstAt w cm b F kind val dt) (hF : F.length ≤ 2147483647) :
    Calls Tryz.prog 41 #[.iface 290 (ptr cm), .nilIface] w (WrOut F kind val dt none w) := by
  obtain ⟨A, hA⟩ : ∃ A, A = (w.alloc (.cells #[.slice none 0 0, .int .i64 0, .float .f64 0, .bool false, .float .f64 0, .slice none 0 0, .int .i64 0, .int .i64 0, .bool false, .int .u64 0, .float .f64 0, .slice none 0 0, .int .i64 0, .bool false, .int .i32 0, .float .f64 0, .int .u64 0, .slice none 0 0, .slice none 0 0, .slice none 0 0, .slice none 0 0, .slice none 0 0, .int .u64 0, .float .f64 0, .slice none 0 0, .bool false, .int .i64 0] 40)).alloc (.cells #[.slice none 0 0, .pointer none, .pointer none, .pointer none, .pointer none, .pointer none, .pointer none] 201) := ⟨_, rfl⟩
  have hw0 : Below w.heap.size w (w.alloc (.cells #[.slice none 0 0, .int .i64 0, .float .f64 0, .bool false, .float .f64 0, .slice none 0 0, .int .i64 0, .int .i64 0, .bool false, .int .u64 0, .float .f64 0, .slice none 0 0, .int .i64 0, .bool false, .int .i32 0, .float .f64 0, .int .u64 0, .slice none 0 0, .slice none 0 0, .slice none 0 0, .slice none 0 0, .slice none 0 0, .int .u64 0, .float .f64 0, .slice none 0 0, .bool false, .int .i64 0] 40)) := (Below.refl _ _).alloc (Nat.le_refl _) _
  have s1 : (w.alloc (.cells #[.slice none 0 0, .int .i64 0, .float .f64 0, .bool false, .float .f64 0, .slice none 0 0, .int .i64 0, .int .i64 0, .bool false, .int .u64 0, .float .f64 0, .slice none 0 0, .int .i64 0, .bool false, .int .i32 0, .float .f64 0, .int .u64 0, .slice none 0 0, .slice none 0 0, .slice none 0 0, .slice none 0 0, .slice none 0 0, .int .u64 0, .float .f64 0, .slice none 0 0, .bool false, .int .i64 0] 40)).heap.size = w.heap.size + 1 := by simp
  have s2 : A.heap.size = w.heap.size + 1 + 1 := by rw [hA]; simp
  have hqb : Below w.heap.size w A := by rw [hA]; exact hw0.alloc (by simp) _
  have hWo : Whole A (w.heap.size + 1) 201 zeroM := by rw [hA, ← s1]; exact Whole.made _ _ _
  have hWr : Whole A w.heap.size 40 (xcs (.slice none 0 0) 0 0 false 0 false 0) := by
    rw [hA]
    have hz : Below (w.heap.size + 1) (w.alloc (.cells #[.slice none 0 0, .int .i64 0, .float .f64 0, .bool false, .float .f64 0, .slice none 0 0, .int .i64 0, .int .i64 0, .bool false, .int .u64 0, .float .f64 0, .slice none 0 0, .int .i64 0, .bool false, .int .i32 0, .float .f64 0, .int .u64 0, .slice none 0 0, .slice none 0 0, .slice none 0 0, .slice none 0 0, .slice none 0 0, .int .u64 0, .float .f64 0, .slice none 0 0, .bool false, .int .i64 0] 40)) _ := (Below.refl _ _).alloc (by rw [s1]; exact Nat.le_refl _) (.cells #[.slice none 0 0, .pointer none, .pointer none, .pointer none, .pointer none, .pointer none, .pointer none] 201)
    exact (hz.block w.heap.size (by omega)).trans (Whole.made w _ _)
  have CW := Lib.hid (writeConst_any cm b (w.heap.size + 1) F kind hk val dt w A hc hqb (by omega) hWo)
  have hsz27 : (Tryz.prog.info? 40).map (·.size) = some 27 := by kernel_rfl
  have HM : Hid (∀ W, MetAt W (w.heap.size + 1) F kind val dt none → Calls Tryz.prog 86 #[ptr (w.heap.size + 1)] W (MetOut F kind val dt none W)) := fun W h => metricOf_plain _ F kind hk val dt hdt W h hF
  have HG : Hid (∀ W, A.grownBy W (some (w.heap.size + 1)) → Below w.heap.size w W ∧ Whole W w.heap.size 40 (xcs (.slice none 0 0) 0 0 false 0 false 0) ∧ w.heap.size + 1 < W.heap.size) := fun W h =>
    ⟨hqb.grown h (by omega) (fun j hj => by injection hj with hj; omega), (h.block w.heap.size (by omega) (by intro e; injection e with e; omega)).trans hWr, by have := h.size; omega⟩
  clear hc hqb hWo hWr hw0 s1
  go_enter Tryz.func41, Tryz.ntmps41
  go_wp2_with fail
  rw [← hA]
  clear hA
  refine CW.out.mono ?_
  rintro e w2 ⟨rfl, hm2, hg2⟩
  obtain ⟨hb2, hr2, hs2⟩ := HG.out _ hg2
  have CM := Lib.hid (HM.out _ hm2)
  have HB2 := Lib.hid hb2
  have HR2 := Lib.hid hr2
  clear hm2 hg2 hb2 hr2
  go_wp2_with fail
  refine CM.out.mono ?_
  rintro e w3 ⟨a1, c1, rfl, ho3, hb3⟩
  have hsz3 := hb3.size
  have HR3 : Hid (Whole w3 w.heap.size 40 (xcs (.slice none 0 0) 0 0 false 0 false 0)) := (hb3.block w.heap.size (by omega)).trans HR2.out
  have HOut : Hid (∀ Wf, w3.grownBy Wf (some w.heap.size) → Wf.heap.size = w3.heap.size → Wf.ownsRow w.heap.size 211 2 (.slice a1 F.length c1) F.length (F.flatMap pc) ∧ Below w.heap.size w Wf) := fun Wf hg hs => by
    refine ⟨own_base (ho3.kept hg ?_) (by omega), (HB2.out.trans (hb3.mono (by omega))).grown hg (by omega) (fun j hj => by injection hj with hj; omega)⟩
    cases hv : (Value.slice a1 F.length c1).ownBlock with
    | none => exact Or.inl rfl
    | some g => exact Or.inr (by have := (ho3.lt g hv).1; intro e; injection e with e; omega)
  clear ho3 hb3
  rename_i K1 hK1 K2 hK2
  dsimp only
  refine hK2 _ _ ?_
  refine Big.wpList_store_whole rfl _ _ _ rfl w.heap.size 40 _ (xcs (.slice a1 F.length c1) kind val (isD kind dt) (toD kind dt) false 0) rfl rfl HR3.out rfl hsz27 (xcs_ones _ _ _ _ _ _ _ _ _) ?_
  intro W7 hx7 hg7 hs7
  simp only [Act.put]
  obtain ⟨ho7, hb7⟩ := HOut.out _ hg7 hs7
  have HF : Hid (WrOut F kind val dt none w (.returned (.tuple #[.agg (xcs (.slice a1 F.length c1) kind val (isD kind dt) (toD kind dt) false 0), .bool true])) W7) := ⟨a1, c1, rfl, ho7, hb7⟩
  have HX7 := Lib.hid hx7
  clear hx7 hg7 hs7 ho7 hb7
  go_wp2_with fail
  exact bodyPost_ret (v := .tuple #[.agg (xcs (.slice a1 F.length c1) kind val (isD kind dt) (toD kind dt) false 0), .bool true]) (res2 rfl _ _ _ _ _ _ rfl (Big.loaded_whole 40 w.heap.size 40 _ HX7.out _ Tryz.underlying40 rfl hsz27) rfl) rfl HF.out

set_option maxHeartbeats 8000000 in
set_option maxRecDepth 100000 in
/-- a constant metric, made and handed back (impl.Const) -/
theorem const_any (nm hp un : ByteArray) (V X : List ByteArray) (L : List P2) (vv cv vx : Value) (kind : Int) (hk : kind = 0 ∨ kind = 1 ∨ kind = 3) (val : Nat) (w : World) (hG : Glob w) (hok : NewOk nm hp un V L) (hV : Sl.Of Value.string w vv V) (hL : Ss.Of 2 pc w cv L) (hr : ∀ p ∈ L, p.1.size ≤ 2147483647 ∧ p.2.size ≤ 2147483647)
    (hx : Sl.Of Value.string w vx X) (hl : X.length = V.length) (ha : ∀ s ∈ X, Asc s ∧ s.size ≤ 9223372036854775807) :
    Calls Tryz.prog 39 #[.agg #[.string nm, .string hp, .string un, vv, cv], .int .i64 kind, .float .f64 val, vx] w (WrOut (labs V X (fit L)) kind val none none w) := by
  have hfl := fit_le L
  have hll := hok.lenL
  have hlv := hok.lenV
  obtain ⟨A, hA⟩ : ∃ A, A = (w.alloc (.cells #[.string nm, .string hp, .string un, vv, cv] 74)).alloc (.cells #[.slice none 0 0, .int .i64 0, .float .f64 0, .bool false, .float .f64 0, .slice none 0 0, .int .i64 0, .int .i64 0, .bool false, .int .u64 0, .float .f64 0, .slice none 0 0, .int .i64 0, .bool false, .int .i32 0, .float .f64 0, .int .u64 0, .slice none 0 0, .slice none 0 0, .slice none 0 0, .slice none 0 0, .slice none 0 0, .int .u64 0, .float .f64 0, .slice none 0 0, .bool false, .int .i64 0] 40) := ⟨_, rfl⟩
  have hb0 : Below w.heap.size w A := by rw [hA]; exact ((Below.refl _ _).alloc (Nat.le_refl _) _).alloc (by simp) _
  have s1 : (w.alloc (.cells #[.string nm, .string hp, .string un, vv, cv] 74)).heap.size = w.heap.size + 1 := by simp
  have s2 : A.heap.size = w.heap.size + 1 + 1 := by rw [hA]; simp
  have hWr : Whole A (w.heap.size + 1) 40 (xcs (.slice none 0 0) 0 0 false 0 false 0) := by rw [hA, ← s1]; exact Whole.made _ _ _
  have CD := Lib.hid (desc_any nm hp un V L vv cv A (hG.below hb0) hok (hV.below hb0) (hL.below hb0) hr)
  have CT := Lib.hid (valueType_any kind hk)
  have CN : Hid (∀ (W : World) d v3 c vn, Below w.heap.size w W → DescAt W d nm hp un V (fit L) v3 c vn → Calls Tryz.prog 80 #[ptr d, .int .i64 (typeOf kind), .float .f64 val, vx] W (NewConstOut (labs V X (fit L)) kind val none W)) := fun W d v3 c vn h hd =>
    newConst_any d c nm hp un V X (fit L) v3 vn vx kind hk val W (hG.below h) hd (hx.below h) hl hok.apart (fit_srt L) hok.lenV (by omega) ha
  have hlab : (labs V X (fit L)).length ≤ 2147483647 := by
    have := labs_len (V := V) (X := X) (F := fit L)
    omega
  have CW : Hid (∀ W cm b, ConstAt W cm b (labs V X (fit L)) kind val none → Calls Tryz.prog 41 #[.iface 290 (ptr cm), .nilIface] W (WrOut (labs V X (fit L)) kind val none none W)) := fun W cm b h => writtenConst_any cm b _ kind hk val none (fun _ => rfl) W h hlab
  have hsz27 : (Tryz.prog.info? 40).map (·.size) = some 27 := by kernel_rfl
  have HB0 := Lib.hid hb0
  have HR0 := Lib.hid hWr
  clear hG hok hV hL hr hx hl ha hb0 hfl hll hlv hWr s1 hlab
  generalize typeOf kind = tk at *
  go_enter Tryz.func39, Tryz.ntmps39
  go_wp2_with fail
  rw [← hA]
  clear hA
  refine CD.out.mono ?_
  rintro e w1 ⟨d, v3, c, vn, rfl, hd, hb1⟩
  have hb2 := HB0.out.trans (hb1.mono HB0.out.size)
  have CE := Lib.hid (CN.out w1 d v3 c vn hb2 hd)
  have hr1 : Whole w1 (w.heap.size + 1) 40 (xcs (.slice none 0 0) 0 0 false 0 false 0) := (hb1.block _ (by omega)).trans HR0.out
  have HB1 := Lib.hid hb2
  have HR1 := Lib.hid hr1
  have hs1 : w.heap.size + 1 < w1.heap.size := hr1.lt
  clear hd hb1 hb2 hr1
  go_wp2_with fail
  refine (CT.out _).mono ?_
  rintro e w' ⟨rfl, rfl⟩
  go_wp2_with fail
  refine CE.out.mono ?_
  rintro e w2 ⟨cm, b, rfl, hc2, hb2⟩
  have hs2 : w.heap.size + 1 < w2.heap.size := Nat.lt_of_lt_of_le hs1 hb2.size
  have CF := Lib.hid (CW.out w2 cm b hc2)
  have HB2 : Hid (Below w.heap.size w w2) := HB1.out.trans (hb2.mono HB1.out.size)
  have HR2 : Hid (Whole w2 (w.heap.size + 1) 40 (xcs (.slice none 0 0) 0 0 false 0 false 0)) := (hb2.block _ (by omega)).trans HR1.out
  clear hc2 hb2
  go_wp2_with fail
  refine CF.out.mono ?_
  rintro e w3 ⟨a1, c1, rfl, ho3, hb3⟩
  have hsz3 := hb3.size
  have HR3 : Hid (Whole w3 (w.heap.size + 1) 40 (xcs (.slice none 0 0) 0 0 false 0 false 0)) := (hb3.block _ (by omega)).trans HR2.out
  generalize labs V X (fit L) = F at *
  have HOut : Hid (∀ Wf, w3.grownBy Wf (some (w.heap.size + 1)) → Wf.heap.size = w3.heap.size → Wf.ownsRow w.heap.size 211 2 (.slice a1 F.length c1) F.length (F.flatMap pc) ∧ Below w.heap.size w Wf) := fun Wf hg hs => by
    refine ⟨own_base (ho3.kept hg ?_) (by omega), (HB2.out.trans (hb3.mono (by omega))).grown hg (by omega) (fun j hj => by injection hj with hj; omega)⟩
    cases hv : (Value.slice a1 F.length c1).ownBlock with
    | none => exact Or.inl rfl
    | some g => exact Or.inr (by have := (ho3.lt g hv).1; intro e; injection e with e; omega)
  clear ho3 hb3
  rename_i K1 hK1 K2 hK2
  dsimp only
  refine hK2 _ _ ?_
  refine wpList_plain rfl fun K3 hK3 => ?_
  go_simp
  refine hK3 _ _ ?_
  refine wpList_plain rfl fun K4 hK4 => ?_
  go_simp
  refine hK4 _ _ ?_
  refine Big.wpList_store_whole rfl _ _ _ rfl (w.heap.size + 1) 40 _ (xcs (.slice a1 F.length c1) kind val (isD kind none) (toD kind none) false 0) rfl rfl HR3.out rfl hsz27 (xcs_ones _ _ _ _ _ _ _ _ _) ?_
  intro W7 hx7 hg7 hs7
  simp only [Act.put]
  obtain ⟨ho7, hb7⟩ := HOut.out _ hg7 hs7
  have HF : Hid (WrOut F kind val none none w (.returned (.tuple #[.agg (xcs (.slice a1 F.length c1) kind val (isD kind none) (toD kind none) false 0), .bool true])) W7) := ⟨a1, c1, rfl, ho7, hb7⟩
  have HX7 := Lib.hid hx7
  clear hx7 hg7 hs7 ho7 hb7
  go_wp2_with fail
  exact bodyPost_ret (v := .tuple #[.agg (xcs (.slice a1 F.length c1) kind val (isD kind none) (toD kind none) false 0), .bool true]) (res2 rfl _ _ _ _ _ _ rfl (Big.loaded_whole 40 (w.heap.size + 1) 40 _ HX7.out _ Tryz.underlying40 rfl hsz27) rfl) rfl HF.out

end Go.Proofs.YtlolomodcbkblaaGreatDoor.Mt
