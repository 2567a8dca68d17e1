/- Metrics: a constant metric with a created timestamp (NewConstMetricWithCreatedTimestamp, impl.ConstDated). -/
import Derived.Test.YtfcpapbokefdmaaGreatDoorMtd
set_option linter.unusedVariables false
set_option linter.unusedSimpArgs false
namespace Go.Proofs.YtfcpapbokefdmaaGreatDoor.Mt
open Go.RowKit Go.Maps Go.WideMaps Go.ChangeShapes Go.WideShapes Go.Deep Fp Obs _root_.Go.Proofs.YtfcpapbokefdmaaGreatDoor.Nd

def ErrOut (w : World) (e : Ending) (w' : World) : Prop := ∃ a, e = .returned (.iface 237 (ptr a)) ∧ Below w.heap.size w w'
set_option maxHeartbeats 1000000 in
set_option maxRecDepth 100000 in
theorem errNew_any (s : ByteArray) (w : World) : Calls Tryz.prog 92 #[.string s] w (ErrOut w) := by
  go_enter Tryz.func92, Tryz.ntmps92
  go_wp2
  go_ret
  exact ⟨_, rfl, (Below.refl _ _).alloc (Nat.le_refl _) _⟩
set_option maxHeartbeats 8000000 in
set_option maxRecDepth 100000 in
theorem newDated_any (d c : Nat) (nm hp un : ByteArray) (V X : List ByteArray) (F : List P2) (v3 vn vx : Value) (t : Int) (val : Nat) (w : World) (hG : Glob w) (hd : DescAt w d nm hp un V F v3 c vn) (hx : Sl.Of Value.string w vx X) (hl : X.length = V.length) (hn : (F.map (·.1) ++ V).Nodup) (hs : Srt F)
    (hV : V.length ≤ 1048576) (hF : F.length ≤ 1048576) (ha : ∀ s ∈ X, Asc s ∧ s.size ≤ 9223372036854775807) :
    Calls Tryz.prog 69 #[ptr d, .int .i64 (typeOf 0), .float .f64 val, .int .i64 t, vx] w (NewConstOut (labs V X F) 0 val (some t) w) := by
  obtain ⟨an, cn, rfl, hcn1, hcn2⟩ := sl_slice hd.names
  obtain ⟨ax, cx, rfl, hcx1, hcx2⟩ := sl_slice hx
  have k7 := hd.c7
  have k4 := hd.c4
  have n0 := hd.n0
  have CV : Hid (Calls Tryz.prog 75 #[.slice ax X.length cx, .int .i64 (V.length : Int)] w fun e w' => e = .returned .nilIface ∧ Below w.heap.size w w') := by
    have h := values_any X _ w hx hG (by omega) ha
    rw [hl] at h
    rw [hl]
    exact h
  have CM : Hid (∀ W, Below w.heap.size w W → Calls Tryz.prog 76 #[ptr d, .slice ax X.length cx] W (MakeOut V X F W)) := fun W h => make_any d c nm hp un V X F v3 _ _ W (hd.below h) (hx.below h) hl hn hs hV hF
  have HT : Hid (∀ (a : Option Addr) (n cl b tb : Nat) (W : World), Whole W b 155 zeroM → Calls Tryz.prog 82 #[.int .i64 1, .float .f64 val, .slice a n cl, nilp, ptr b, ptr tb] W (PopOut (.slice a n cl) 0 val b (ptr tb) W)) := fun a n cl b tb W h => populate_any a n cl 0 (Or.inl rfl) val b _ W h
  clear hd hx hl hn hs ha hG
  show Calls _ _ #[_, .int .i64 1, _, _, _] _ _
  go_enter Tryz.func69, Tryz.ntmps69
  go_wp2_with fail
  refine CV.out.mono ?_
  rintro e w1 ⟨rfl, hb1⟩
  have HB1 := Lib.hid hb1
  have HA1 : Hid (Below w.heap.size w (w1.alloc (.cells #[.slice none 0 0, .pointer none, .pointer none, .pointer none, .pointer none, .pointer none, .pointer none] 155))) := hb1.alloc hb1.size _
  have hsz1 := hb1.size
  clear hb1 k7 k4 n0
  go_wp2_with fail
  refine (CM.out _ HA1.out).mono ?_
  rintro e w2 ⟨v, rfl, hp2, hb2⟩
  obtain ⟨qs, hql, hlvs, _⟩ := id hp2
  obtain ⟨al, cl, rfl, _, _⟩ := sl_slice hlvs
  have hb02 : Below w.heap.size w w2 := HA1.out.trans (hb2.mono HA1.out.size)
  have hW : Whole w2 w1.heap.size 155 zeroM := (hb2.block w1.heap.size (by simp)).trans (Whole.made w1 _ _)
  have hq2 : Below w2.heap.size w2 (w2.alloc (.cells #[.int .i64 t] 176)) := (Below.refl _ _).alloc (Nat.le_refl _) _
  have hW2 : Whole (w2.alloc (.cells #[.int .i64 t] 176)) w1.heap.size 155 zeroM := (hq2.block _ hW.lt).trans hW
  have CP := Lib.hid (HT.out al qs.length cl w1.heap.size w2.heap.size _ hW2)
  have HF : Hid (∀ e w3, PopOut (.slice al qs.length cl) 0 val w1.heap.size (ptr w2.heap.size) (w2.alloc (.cells #[.int .i64 t] 176)) e w3 → e = .returned .nilIface ∧ MetAt w3 w1.heap.size (labs V X F) 0 val (some t) none ∧ Below w.heap.size w w3) := fun e w3 ⟨he, hw, hv, hg⟩ => by
    have hz : (w2.alloc (.cells #[.int .i64 t] 176)).heap.size = w2.heap.size + 1 := by simp
    have hz2 := hb02.size
    have hq3 : Below w.heap.size w w3 := (hb02.alloc hb02.size _).grown hg (by omega) (fun j hj => by injection hj with hj; omega)
    have hne : w2.heap.size ≠ w1.heap.size := by have := hW.lt; omega
    refine ⟨he, ⟨⟨_, _, _, ptr w2.heap.size, nilp, fun j => hw.cell j, Pairs.far (hp2.below hq2) hW2 hg, hv, fun _ => ?_, rfl⟩, hw.lt⟩, hq3⟩
    refine ⟨w2.heap.size, rfl, by have := hg.size; omega, ?_⟩
    rw [hg.cell_far ⟨w2.heap.size, 0, none⟩ (by show w2.heap.size < _; omega) (fun e => by injection e with e; exact hne e)]
    exact Sl.cell_new w2 _ _ 0
  clear hp2 hlvs hql hb2 hb02 hW hq2 hW2
  go_wp2_with fail
  refine CP.out.mono ?_
  rintro e w3 hpo
  obtain ⟨rfl, hm3, hb3⟩ := HF.out _ _ hpo
  have HO : Hid (NewConstOut (labs V X F) 0 val (some t) w (.returned (.tuple #[.iface 157 (ptr w3.heap.size), .nilIface])) (w3.alloc (.cells #[ptr d, ptr w1.heap.size] 159))) := by
    have hq : Below w3.heap.size w3 (w3.alloc (.cells #[ptr d, ptr w1.heap.size] 159)) := (Below.refl _ _).alloc (Nat.le_refl _) _
    exact ⟨_, _, rfl, ⟨Sl.cell_new w3 _ _ 1, hm3.below hq, by simp⟩, hb3.alloc hb3.size _⟩
  clear hpo hm3 hb3
  go_wp2_with fail
  go_ret2
  exact HO.out
def ErrsOut (w : World) (e : Ending) (w' : World) : Prop := ∃ a, e = .returned (.tuple #[.nilIface, .iface 237 (ptr a)]) ∧ Below w.heap.size w w'
set_option maxHeartbeats 8000000 in
set_option maxRecDepth 100000 in
theorem newDated_err (d c : Nat) (nm hp un : ByteArray) (V X : List ByteArray) (F : List P2) (v3 vn vx : Value) (kind : Int) (hk : kind = 1 ∨ kind = 3) (t : Int) (val : Nat) (w : World) (hG : Glob w) (hd : DescAt w d nm hp un V F v3 c vn) (hx : Sl.Of Value.string w vx X) (hl : X.length = V.length) (hV : V.length ≤ 1048576)
    (ha : ∀ s ∈ X, Asc s ∧ s.size ≤ 9223372036854775807) :
    Calls Tryz.prog 69 #[ptr d, .int .i64 (typeOf kind), .float .f64 val, .int .i64 t, vx] w (ErrsOut w) := by
  obtain ⟨an, cn, rfl, hcn1, hcn2⟩ := sl_slice hd.names
  obtain ⟨ax, cx, rfl, hcx1, hcx2⟩ := sl_slice hx
  have k7 := hd.c7
  have k4 := hd.c4
  have n0 := hd.n0
  have CV : Hid (Calls Tryz.prog 75 #[.slice ax X.length cx, .int .i64 (V.length : Int)] w fun e w' => e = .returned .nilIface ∧ Below w.heap.size w w') := by
    have h := values_any X _ w hx hG (by omega) ha
    rw [hl] at h
    rw [hl]
    exact h
  have hne : (typeOf kind == 1) = false := by rcases hk with rfl | rfl <;> rfl
  clear hd hx hl ha hG
  generalize typeOf kind = tk at *
  go_enter Tryz.func69, Tryz.ntmps69
  go_wp2_with fail
  refine CV.out.mono ?_
  rintro e w1 ⟨rfl, hb1⟩
  have HB1 := Lib.hid hb1
  clear hb1 k7 k4 n0
  go_wp2_with fail
  refine (errNew_any _ _).mono ?_
  rintro e w2 ⟨a, rfl, hb2⟩
  have HO : Hid (ErrsOut w (.returned (.tuple #[.nilIface, .iface 237 (ptr a)])) w2) := ⟨a, rfl, HB1.out.trans (hb2.mono HB1.out.size)⟩
  clear hb2
  go_wp2_with fail
  go_ret2
  exact HO.out
/-- nothing is written behind an error -/
def NoneOut (w : World) (e : Ending) (w' : World) : Prop := e = .returned (.tuple #[.agg (xcs (.slice none 0 0) 0 0 false 0 false 0), .bool false]) ∧ Below w.heap.size w w'
set_option maxHeartbeats 8000000 in
set_option maxRecDepth 100000 in
theorem writtenErr_any (a : Nat) (w : World) : Calls Tryz.prog 61 #[.nilIface, .iface 237 (ptr a)] w (NoneOut w) := by
  have hsz27 : (Tryz.prog.info? 75).map (·.size) = some 27 := by kernel_rfl
  go_enter Tryz.func61, Tryz.ntmps61
  go_upto_region 3 with fail
  obtain ⟨A, hA⟩ : ∃ A, A = (w.alloc (.cells #[.slice none 0 0, .int .i64 0, .float .f64 0, .bool false, .float .f64 0, .slice none 0 0, .int .i64 0, .int .i64 0, .bool false, .int .u64 0, .float .f64 0, .slice none 0 0, .int .i64 0, .bool false, .int .i32 0, .float .f64 0, .int .u64 0, .slice none 0 0, .slice none 0 0, .slice none 0 0, .slice none 0 0, .slice none 0 0, .int .u64 0, .float .f64 0, .slice none 0 0, .bool false, .int .i64 0] 75)).alloc (.cells #[.slice none 0 0, .pointer none, .pointer none, .pointer none, .pointer none, .pointer none, .pointer none] 155) := ⟨_, rfl⟩
  rw [← hA]
  have hw0 : Below w.heap.size w (w.alloc (.cells #[.slice none 0 0, .int .i64 0, .float .f64 0, .bool false, .float .f64 0, .slice none 0 0, .int .i64 0, .int .i64 0, .bool false, .int .u64 0, .float .f64 0, .slice none 0 0, .int .i64 0, .bool false, .int .i32 0, .float .f64 0, .int .u64 0, .slice none 0 0, .slice none 0 0, .slice none 0 0, .slice none 0 0, .slice none 0 0, .int .u64 0, .float .f64 0, .slice none 0 0, .bool false, .int .i64 0] 75)) := (Below.refl _ _).alloc (Nat.le_refl _) _
  have s1 : (w.alloc (.cells #[.slice none 0 0, .int .i64 0, .float .f64 0, .bool false, .float .f64 0, .slice none 0 0, .int .i64 0, .int .i64 0, .bool false, .int .u64 0, .float .f64 0, .slice none 0 0, .int .i64 0, .bool false, .int .i32 0, .float .f64 0, .int .u64 0, .slice none 0 0, .slice none 0 0, .slice none 0 0, .slice none 0 0, .slice none 0 0, .int .u64 0, .float .f64 0, .slice none 0 0, .bool false, .int .i64 0] 75)).heap.size = w.heap.size + 1 := by simp
  have hqb : Below w.heap.size w A := by rw [hA]; exact hw0.alloc (by simp) _
  have hWr : Whole A w.heap.size 75 (xcs (.slice none 0 0) 0 0 false 0 false 0) := by
    rw [hA]
    have hz : Below (w.heap.size + 1) (w.alloc (.cells #[.slice none 0 0, .int .i64 0, .float .f64 0, .bool false, .float .f64 0, .slice none 0 0, .int .i64 0, .int .i64 0, .bool false, .int .u64 0, .float .f64 0, .slice none 0 0, .int .i64 0, .bool false, .int .i32 0, .float .f64 0, .int .u64 0, .slice none 0 0, .slice none 0 0, .slice none 0 0, .slice none 0 0, .slice none 0 0, .int .u64 0, .float .f64 0, .slice none 0 0, .bool false, .int .i64 0] 75)) _ := (Below.refl _ _).alloc (by rw [s1]; exact Nat.le_refl _) (.cells #[.slice none 0 0, .pointer none, .pointer none, .pointer none, .pointer none, .pointer none, .pointer none] 155)
    exact (hz.block w.heap.size (by omega)).trans (Whole.made w _ _)
  have s2 : w.heap.size < A.heap.size := hWr.lt
  have HQ := Lib.hid hqb
  clear hA hw0 s1 hqb
  go_step
  refine wpList_plain rfl fun K3 hK3 => ?_
  go_simp
  refine hK3 _ _ ?_
  refine Big.wpList_store_whole rfl _ _ _ rfl w.heap.size 75 _ (xcs (.slice none 0 0) 0 0 false 0 false 0) rfl rfl hWr rfl hsz27 (xcs_ones _ _ _ _ _ _ _ _ _) ?_
  intro W7 hx7 hg7 hs7
  simp only [Act.put]
  have HF : Hid (NoneOut w (.returned (.tuple #[.agg (xcs (.slice none 0 0) 0 0 false 0 false 0), .bool false])) W7) := ⟨rfl, HQ.out.grown hg7 (by omega) (fun j hj => by injection hj with hj; omega)⟩
  have HX7 := Lib.hid hx7
  clear hx7 hg7 hs7 hWr
  go_wp2_with fail
  exact bodyPost_ret (v := .tuple #[.agg (xcs (.slice none 0 0) 0 0 false 0 false 0), .bool false]) (res2 rfl _ _ _ _ _ _ rfl (Big.loaded_whole 75 w.heap.size 75 _ HX7.out _ Tryz.underlying75 rfl hsz27) rfl) rfl HF.out

set_option maxHeartbeats 8000000 in
set_option maxRecDepth 100000 in
theorem constDated_any (nm hp un : ByteArray) (V X : List ByteArray) (L : List P2) (vv cv vx : Value) (t : Int) (val : Nat) (w : World) (hG : Glob w) (hok : NewOk nm hp un V L) (hV : Sl.Of Value.string w vv V) (hL : Ss.Of 2 pc w cv L) (hr : ∀ p ∈ L, p.1.size ≤ 2147483647 ∧ p.2.size ≤ 2147483647)
    (hx : Sl.Of Value.string w vx X) (hl : X.length = V.length) (ha : ∀ s ∈ X, Asc s ∧ s.size ≤ 9223372036854775807) :
    Calls Tryz.prog 36 #[.agg #[.string nm, .string hp, .string un, vv, cv], .int .i64 0, .float .f64 val, .int .i64 t, vx] w (WrOut (labs V X (fit L)) 0 val (some t) none w) := by
  have hfl := fit_le L
  have hll := hok.lenL
  have hlv := hok.lenV
  obtain ⟨A, hA⟩ : ∃ A, A = (w.alloc (.cells #[.string nm, .string hp, .string un, vv, cv] 31)).alloc (.cells #[.slice none 0 0, .int .i64 0, .float .f64 0, .bool false, .float .f64 0, .slice none 0 0, .int .i64 0, .int .i64 0, .bool false, .int .u64 0, .float .f64 0, .slice none 0 0, .int .i64 0, .bool false, .int .i32 0, .float .f64 0, .int .u64 0, .slice none 0 0, .slice none 0 0, .slice none 0 0, .slice none 0 0, .slice none 0 0, .int .u64 0, .float .f64 0, .slice none 0 0, .bool false, .int .i64 0] 75) := ⟨_, rfl⟩
  have hb0 : Below w.heap.size w A := by rw [hA]; exact ((Below.refl _ _).alloc (Nat.le_refl _) _).alloc (by simp) _
  have s1 : (w.alloc (.cells #[.string nm, .string hp, .string un, vv, cv] 31)).heap.size = w.heap.size + 1 := by simp
  have s2 : A.heap.size = w.heap.size + 1 + 1 := by rw [hA]; simp
  have hWr : Whole A (w.heap.size + 1) 75 (xcs (.slice none 0 0) 0 0 false 0 false 0) := by rw [hA, ← s1]; exact Whole.made _ _ _
  have CD := Lib.hid (desc_any nm hp un V L vv cv A (hG.below hb0) hok (hV.below hb0) (hL.below hb0) hr)
  have CT := Lib.hid (valueType_any 0 (Or.inl rfl))
  have CN : Hid (∀ (W : World) d v3 c vn, Below w.heap.size w W → DescAt W d nm hp un V (fit L) v3 c vn → Calls Tryz.prog 69 #[ptr d, .int .i64 (typeOf 0), .float .f64 val, .int .i64 t, vx] W (NewConstOut (labs V X (fit L)) 0 val (some t) W)) := fun W d v3 c vn h hd =>
    newDated_any d c nm hp un V X (fit L) v3 vn vx t val W (hG.below h) hd (hx.below h) hl hok.apart (fit_srt L) hok.lenV (by omega) ha
  have hlab : (labs V X (fit L)).length ≤ 2147483647 := by
    have := labs_len (V := V) (X := X) (F := fit L)
    omega
  have CW : Hid (∀ W cm b, ConstAt W cm b (labs V X (fit L)) 0 val (some t) → Calls Tryz.prog 61 #[.iface 157 (ptr cm), .nilIface] W (WrOut (labs V X (fit L)) 0 val (some t) none W)) := fun W cm b h => writtenConst_any cm b _ 0 (Or.inl rfl) val (some t) (fun h => absurd rfl h) W h hlab
  have hsz27 : (Tryz.prog.info? 75).map (·.size) = some 27 := by kernel_rfl
  have HB0 := Lib.hid hb0
  have HR0 := Lib.hid hWr
  clear hG hok hV hL hr hx hl ha hb0 hfl hll hlv hWr s1 hlab
  generalize typeOf 0 = tk at *
  go_enter Tryz.func36, Tryz.ntmps36
  go_wp2_with fail
  rw [← hA]
  clear hA
  refine CD.out.mono ?_
  rintro e w1 ⟨d, v3, c, vn, rfl, hd, hb1⟩
  have hb2 := HB0.out.trans (hb1.mono HB0.out.size)
  have CE := Lib.hid (CN.out w1 d v3 c vn hb2 hd)
  have hr1 : Whole w1 (w.heap.size + 1) 75 (xcs (.slice none 0 0) 0 0 false 0 false 0) := (hb1.block _ (by omega)).trans HR0.out
  have HB1 := Lib.hid hb2
  have HR1 := Lib.hid hr1
  have hs1 : w.heap.size + 1 < w1.heap.size := hr1.lt
  clear hd hb1 hb2 hr1
  go_wp2_with fail
  refine (CT.out _).mono ?_
  rintro e w' ⟨rfl, rfl⟩
  go_wp2_with fail
  refine CE.out.mono ?_
  rintro e w2 ⟨cm, b, rfl, hc2, hb2⟩
  have CF := Lib.hid (CW.out w2 cm b hc2)
  have hs2 : w.heap.size + 1 < w2.heap.size := Nat.lt_of_lt_of_le hs1 hb2.size
  have HB2 : Hid (Below w.heap.size w w2) := HB1.out.trans (hb2.mono HB1.out.size)
  have HR2 : Hid (Whole w2 (w.heap.size + 1) 75 (xcs (.slice none 0 0) 0 0 false 0 false 0)) := (hb2.block _ (by omega)).trans HR1.out
  clear hc2 hb2
  go_wp2_with fail
  refine CF.out.mono ?_
  rintro e w3 ⟨a1, c1, rfl, ho3, hb3⟩
  have hsz3 := hb3.size
  have HR3 : Hid (Whole w3 (w.heap.size + 1) 75 (xcs (.slice none 0 0) 0 0 false 0 false 0)) := (hb3.block _ (by omega)).trans HR2.out
  generalize labs V X (fit L) = F at *
  have HOut : Hid (∀ Wf, w3.grownBy Wf (some (w.heap.size + 1)) → Wf.heap.size = w3.heap.size → Wf.ownsRow w.heap.size 102 2 (.slice a1 F.length c1) F.length (F.flatMap pc) ∧ Below w.heap.size w Wf) := fun Wf hg hs => by
    refine ⟨own_base (ho3.kept hg ?_) (by omega), (HB2.out.trans (hb3.mono (by omega))).grown hg (by omega) (fun j hj => by injection hj with hj; omega)⟩
    cases hv : (Value.slice a1 F.length c1).ownBlock with
    | none => exact Or.inl rfl
    | some g => exact Or.inr (by have := (ho3.lt g hv).1; intro e; injection e with e; omega)
  clear ho3 hb3
  rename_i K1 hK1 K2 hK2
  dsimp only
  refine hK2 _ _ ?_
  refine wpList_plain rfl fun K3 hK3 => ?_
  go_simp
  refine hK3 _ _ ?_
  refine wpList_plain rfl fun K4 hK4 => ?_
  go_simp
  refine hK4 _ _ ?_
  refine Big.wpList_store_whole rfl _ _ _ rfl (w.heap.size + 1) 75 _ (xcs (.slice a1 F.length c1) 0 val true t false 0) rfl rfl HR3.out rfl hsz27 (xcs_ones _ _ _ _ _ _ _ _ _) ?_
  intro W7 hx7 hg7 hs7
  simp only [Act.put]
  obtain ⟨ho7, hb7⟩ := HOut.out _ hg7 hs7
  have HF : Hid (WrOut F 0 val (some t) none w (.returned (.tuple #[.agg (xcs (.slice a1 F.length c1) 0 val true t false 0), .bool true])) W7) := ⟨a1, c1, rfl, ho7, hb7⟩
  have HX7 := Lib.hid hx7
  clear hx7 hg7 hs7 ho7 hb7
  go_wp2_with fail
  exact bodyPost_ret (v := .tuple #[.agg (xcs (.slice a1 F.length c1) 0 val true t false 0), .bool true]) (res2 rfl _ _ _ _ _ _ rfl (Big.loaded_whole 75 (w.heap.size + 1) 75 _ HX7.out _ Tryz.underlying75 rfl hsz27) rfl) rfl HF.out

set_option maxHeartbeats 8000000 in
set_option maxRecDepth 100000 in
theorem constDated_err (nm hp un : ByteArray) (V X : List ByteArray) (L : List P2) (vv cv vx : Value) (kind : Int) (hk : kind = 1 ∨ kind = 3) (t : Int) (val : Nat) (w : World) (hG : Glob w) (hok : NewOk nm hp un V L) (hV : Sl.Of Value.string w vv V) (hL : Ss.Of 2 pc w cv L) (hr : ∀ p ∈ L, p.1.size ≤ 2147483647 ∧ p.2.size ≤ 2147483647)
    (hx : Sl.Of Value.string w vx X) (hl : X.length = V.length) (ha : ∀ s ∈ X, Asc s ∧ s.size ≤ 9223372036854775807) :
    Calls Tryz.prog 36 #[.agg #[.string nm, .string hp, .string un, vv, cv], .int .i64 kind, .float .f64 val, .int .i64 t, vx] w (NoneOut w) := by
  have hfl := fit_le L
  have hll := hok.lenL
  have hlv := hok.lenV
  obtain ⟨A, hA⟩ : ∃ A, A = (w.alloc (.cells #[.string nm, .string hp, .string un, vv, cv] 31)).alloc (.cells #[.slice none 0 0, .int .i64 0, .float .f64 0, .bool false, .float .f64 0, .slice none 0 0, .int .i64 0, .int .i64 0, .bool false, .int .u64 0, .float .f64 0, .slice none 0 0, .int .i64 0, .bool false, .int .i32 0, .float .f64 0, .int .u64 0, .slice none 0 0, .slice none 0 0, .slice none 0 0, .slice none 0 0, .slice none 0 0, .int .u64 0, .float .f64 0, .slice none 0 0, .bool false, .int .i64 0] 75) := ⟨_, rfl⟩
  have hb0 : Below w.heap.size w A := by rw [hA]; exact ((Below.refl _ _).alloc (Nat.le_refl _) _).alloc (by simp) _
  have s1 : (w.alloc (.cells #[.string nm, .string hp, .string un, vv, cv] 31)).heap.size = w.heap.size + 1 := by simp
  have s2 : A.heap.size = w.heap.size + 1 + 1 := by rw [hA]; simp
  have hWr : Whole A (w.heap.size + 1) 75 (xcs (.slice none 0 0) 0 0 false 0 false 0) := by rw [hA, ← s1]; exact Whole.made _ _ _
  have CD := Lib.hid (desc_any nm hp un V L vv cv A (hG.below hb0) hok (hV.below hb0) (hL.below hb0) hr)
  have CT := Lib.hid (valueType_any kind (by rcases hk with h | h <;> simp [h]))
  have CN : Hid (∀ (W : World) d v3 c vn, Below w.heap.size w W → DescAt W d nm hp un V (fit L) v3 c vn → Calls Tryz.prog 69 #[ptr d, .int .i64 (typeOf kind), .float .f64 val, .int .i64 t, vx] W (ErrsOut W)) := fun W d v3 c vn h hd =>
    newDated_err d c nm hp un V X (fit L) v3 vn vx kind hk t val W (hG.below h) hd (hx.below h) hl hok.lenV ha
  have hsz27 : (Tryz.prog.info? 75).map (·.size) = some 27 := by kernel_rfl
  have HB0 := Lib.hid hb0
  have HR0 := Lib.hid hWr
  clear hG hok hV hL hr hx hl ha hb0 hfl hll hlv hWr s1 
  generalize typeOf kind = tk at *
  go_enter Tryz.func36, Tryz.ntmps36
  go_wp2_with fail
  rw [← hA]
  clear hA
  refine CD.out.mono ?_
  rintro e w1 ⟨d, v3, c, vn, rfl, hd, hb1⟩
  have hb2 := HB0.out.trans (hb1.mono HB0.out.size)
  have CE := Lib.hid (CN.out w1 d v3 c vn hb2 hd)
  have hr1 : Whole w1 (w.heap.size + 1) 75 (xcs (.slice none 0 0) 0 0 false 0 false 0) := (hb1.block _ (by omega)).trans HR0.out
  have HB1 := Lib.hid hb2
  have HR1 := Lib.hid hr1
  have hs1 : w.heap.size + 1 < w1.heap.size := hr1.lt
  clear hd hb1 hb2 hr1
  go_wp2_with fail
  refine (CT.out _).mono ?_
  rintro e w' ⟨rfl, rfl⟩
  go_wp2_with fail
  refine CE.out.mono ?_
  rintro e w2 ⟨ea, rfl, hb2⟩
  have hs2 : w.heap.size + 1 < w2.heap.size := Nat.lt_of_lt_of_le hs1 hb2.size
  have HB2 : Hid (Below w.heap.size w w2) := HB1.out.trans (hb2.mono HB1.out.size)
  have HR2 : Hid (Whole w2 (w.heap.size + 1) 75 (xcs (.slice none 0 0) 0 0 false 0 false 0)) := (hb2.block _ (by omega)).trans HR1.out
  clear hb2
  go_wp2_with fail
  refine (writtenErr_any ea w2).mono ?_
  rintro e w3 ⟨rfl, hb3⟩
  have hsz3 := hb3.size
  have HR3 : Hid (Whole w3 (w.heap.size + 1) 75 (xcs (.slice none 0 0) 0 0 false 0 false 0)) := (hb3.block _ (by omega)).trans HR2.out
  have HOut : Hid (∀ Wf, w3.grownBy Wf (some (w.heap.size + 1)) → Wf.heap.size = w3.heap.size → Below w.heap.size w Wf) := fun Wf hg hs => (HB2.out.trans (hb3.mono (by omega))).grown hg (by omega) (fun j hj => by injection hj with hj; omega)
  clear hb3
  rename_i K1 hK1 K2 hK2
  dsimp only
  refine hK2 _ _ ?_
  refine wpList_plain rfl fun K3 hK3 => ?_
  go_simp
  refine hK3 _ _ ?_
  refine wpList_plain rfl fun K4 hK4 => ?_
  go_simp
  refine hK4 _ _ ?_
  refine Big.wpList_store_whole rfl _ _ _ rfl (w.heap.size + 1) 75 _ (xcs (.slice none 0 0) 0 0 false 0 false 0) rfl rfl HR3.out rfl hsz27 (xcs_ones _ _ _ _ _ _ _ _ _) ?_
  intro W7 hx7 hg7 hs7
  simp only [Act.put]
  have HF : Hid (NoneOut w (.returned (.tuple #[.agg (xcs (.slice none 0 0) 0 0 false 0 false 0), .bool false])) W7) := ⟨rfl, HOut.out _ hg7 hs7⟩
  have HX7 := Lib.hid hx7
  clear hx7 hg7 hs7
  go_wp2_with fail
  exact bodyPost_ret (v := .tuple #[.agg (xcs (.slice none 0 0) 0 0 false 0 false 0), .bool false]) (res2 rfl _ _ _ _ _ _ rfl (Big.loaded_whole 75 (w.heap.size + 1) 75 _ HX7.out _ Tryz.underlying75 rfl hsz27) rfl) rfl HF.out

end Go.Proofs.YtfcpapbokefdmaaGreatDoor.Mt
