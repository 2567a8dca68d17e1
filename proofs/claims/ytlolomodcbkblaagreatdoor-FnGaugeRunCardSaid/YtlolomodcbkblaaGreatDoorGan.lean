/- Gauges: one made (NewGauge), written out ((*gauge).Write). -/
import Derived.Test.YtlolomodcbkblaaGreatDoorGam
import Derived.Test.YtlolomodcbkblaaGreatDoorFq
import Derived.Test.YtlolomodcbkblaaGreatDoorMg6
set_option linter.unusedVariables false
set_option linter.unusedSimpArgs false
namespace Go.Proofs.YtlolomodcbkblaaGreatDoor.Gg
open Go.RowKit Go.Maps Go.WideMaps Go.ChangeShapes Go.WideShapes Go.Deep Fp Obs Plf Flo _root_.Go.Proofs.YtlolomodcbkblaaGreatDoor.Nd _root_.Go.Proofs.YtlolomodcbkblaaGreatDoor.Mt

def InitOut (g : Nat) (T : TypeId) (v : Value) (W : World) (e : Ending) (w' : World) : Prop := e = .returned (.tuple #[]) ∧ w' = W.setCell ⟨g, 1, none⟩ (.iface T v)
set_option maxHeartbeats 4000000 in
set_option maxRecDepth 100000 in
theorem init_any (g : Nat) (T : TypeId) (v u : Value) (W : World) (h : W.cell? ⟨g, 1, none⟩ = some u) (hf : W.frozen? ⟨g, 1, none⟩ = false) :
    Calls Tryz.prog 85 #[.pointer (some ⟨g, 1, none⟩), .iface T v] W (InitOut g T v W) := by
  have HO : Hid (InitOut g T v W (.returned (.tuple #[])) (W.setCell ⟨g, 1, none⟩ (.iface T v))) := ⟨rfl, rfl⟩
  go_enter Tryz.func85, Tryz.ntmps85
  go_wp2_with fail
  exact bodyPost_ret (v := .tuple #[]) (by simp [results, Tryz.results85, go_sem]) rfl HO.out

abbrev optsG : Array Value := #[.string ⟨#[]⟩, .string ⟨#[]⟩, .string ⟨#[103]⟩, .string ⟨#[]⟩, .string ⟨#[]⟩, .map none, .nilFunc]
theorem g_ok : NewOk ⟨#[103]⟩ ⟨#[]⟩ ⟨#[]⟩ [] [] := by
  refine ⟨by decide, fun b hb => ?_, by decide, (fun p hp => by cases hp), (fun v hv => by cases hv), by decide, by decide, by decide, ?_, ?_⟩
  · have : b ∈ ([103] : List UInt8) := hb
    simp at this
    subst this
    decide
  · decide +kernel
  · decide +kernel
theorem fq_g : (⟨(Fq.fq (⟨#[]⟩ : ByteArray).data.toList (⟨#[]⟩ : ByteArray).data.toList (⟨#[103]⟩ : ByteArray).data.toList).toArray⟩ : ByteArray) = ⟨#[103]⟩ := by decide
/-- a gauge that is made -/
def NewG (w : World) (e : Ending) (w' : World) : Prop :=
  ∃ g d self al cl, cl ≤ 9223372036854775807 ∧ e = .returned (.iface 184 (ptr g)) ∧ Gauge w' g 0 self (.slice al 0 cl) d ∧ w.heap.size ≤ g ∧ Below w.heap.size w w'
set_option maxHeartbeats 16000000 in
set_option maxRecDepth 100000 in
theorem newGauge_any (w : World) (hG : Glob w) :
    Calls Tryz.prog 40 #[.agg optsG] w (NewG w) := by
  obtain ⟨A, hA⟩ : ∃ A, A = w.alloc (.cells optsG 108) := ⟨_, rfl⟩
  have s1 : A.heap.size = w.heap.size + 1 := by rw [hA]; simp
  have hb0 : Below w.heap.size w A := by rw [hA]; exact (Below.refl _ _).alloc (Nat.le_refl _) _
  have hx : Whole A w.heap.size 108 optsG := by rw [hA]; exact Whole.made w _ _
  have HC : Hid (∀ W, Below A.heap.size A W → W.cell? ⟨w.heap.size, 0, none⟩ = some (.string ⟨#[]⟩) ∧ W.cell? ⟨w.heap.size, 1, none⟩ = some (.string ⟨#[]⟩) ∧ W.cell? ⟨w.heap.size, 2, none⟩ = some (.string ⟨#[103]⟩) ∧ W.cell? ⟨w.heap.size, 3, none⟩ = some (.string ⟨#[]⟩) ∧ W.cell? ⟨w.heap.size, 4, none⟩ = some (.string ⟨#[]⟩) ∧ W.cell? ⟨w.heap.size, 5, none⟩ = some (.map none)) := fun W h => by
    have g : Whole W w.heap.size 108 optsG := (h.block _ hx.lt).trans hx
    exact ⟨g.cell 0, g.cell 1, g.cell 2, g.cell 3, g.cell 4, g.cell 5⟩
  have HUp : Hid (∀ W, Below A.heap.size A W → Below w.heap.size w W) := fun W h => hb0.trans (h.mono (by omega))
  have CB : Hid (∀ W, Below A.heap.size A W → Calls Tryz.prog 83 #[.string ⟨#[]⟩, .string ⟨#[]⟩, .string ⟨#[103]⟩] W fun e w' => e = .returned (.string ⟨#[103]⟩) ∧ Below A.heap.size A w') := fun W h =>
    (Fq.build_any _ _ _ W (by decide) (by decide) (by decide)).mono fun e w' ⟨he, hb⟩ => ⟨by rw [he, fq_g], h.trans (hb.mono h.size)⟩
  have CN : Hid (∀ W, Below A.heap.size A W → Calls Tryz.prog 82 #[.agg #[], .string ⟨#[103]⟩, .string ⟨#[]⟩, .iface 180 (.slice none 0 0), .map none, .slice (some ⟨W.heap.size + 1, 0, none⟩) 1 1] ((W.alloc (.cells #[.string ⟨#[]⟩] 9)).alloc (.cells #[.func (.func 126) #[] #[.pointer (some ⟨W.heap.size, 0, none⟩)]] 182)) fun e w' => ∃ d al cl c, cl ≤ 9223372036854775807 ∧ e = .returned (.pointer (some ⟨d, 0, none⟩)) ∧ w'.cell? ⟨d, 3, none⟩ = some (.slice al 0 cl) ∧ Below A.heap.size A w') := fun W h => by
    have hz := h.size
    have h2 : (W.alloc (.cells #[.string ⟨#[]⟩] 9)).heap.size = W.heap.size + 1 := by simp
    have hb2 : Below A.heap.size A ((W.alloc (.cells #[.string ⟨#[]⟩] 9)).alloc (.cells #[.func (.func 126) #[] #[.pointer (some ⟨W.heap.size, 0, none⟩)]] 182)) := (h.alloc hz _).alloc (by rw [h2]; omega) _
    refine (new_any ⟨#[103]⟩ ⟨#[]⟩ ⟨#[]⟩ [] [] none (.slice none 0 0) (W.heap.size + 1) W.heap.size _ (hG.below (HUp.out _ hb2)) g_ok (Or.inl ⟨rfl, rfl⟩) (Or.inl ⟨rfl, none, 0, rfl, by omega⟩) ?_ ?_ ?_).mono ?_
    · have h1 := Sl.cell_new (W.alloc (.cells #[.string ⟨#[]⟩] 9)) #[.func (.func 126) #[] #[.pointer (some ⟨W.heap.size, 0, none⟩)]] 182 0
      rw [h2] at h1
      exact h1
    · exact (Sl.cell_old (W.alloc (.cells #[.string ⟨#[]⟩] 9)) _ W.heap.size 0 (by rw [h2]; omega)).trans (Sl.cell_new W #[.string ⟨#[]⟩] 9 0)
    · constructor <;> simp <;> omega
    · rintro e w' ⟨d, v3, c, rfl, hd, hb⟩
      obtain ⟨qs, hql, hlvs, _⟩ := id hd.pairs
      obtain ⟨al, cl, rfl, _, hcl⟩ := sl_slice hlvs
      have hq0 : qs.length = 0 := by rw [hql]; rfl
      have hc3 := hd.c3
      rw [hq0] at hc3
      exact ⟨d, al, cl, c, hcl, rfl, hc3, hb2.trans (hb.mono hb2.size)⟩
  have HFin : Hid (∀ (W : World) d al cl u, cl ≤ 9223372036854775807 → Below A.heap.size A W → Hid (NewG w (.returned (.iface 184 (ptr W.heap.size))) (W.alloc (.cells #[.int .u64 0, u, ptr d, .slice al 0 cl] 192)))) := fun W d al cl u hcl h => by
    have hm : Whole (W.alloc (.cells #[.int .u64 0, u, ptr d, .slice al 0 cl] 192)) W.heap.size 192 #[.int .u64 0, u, ptr d, .slice al 0 cl] := Whole.made W _ _
    have hz := h.size
    have hw := HUp.out _ h
    exact ⟨_, d, u, al, cl, hcl, rfl, hm, by omega, hw.alloc hw.size _⟩
  have HE0 : Hid (Below A.heap.size A A.drew) := bdr (Below.refl _ _) 1
  have k1 := HC.out _ HE0.out
  have k0 := HC.out A (Below.refl _ _)
  clear hb0 hx hG
  go_enter Tryz.func40, Tryz.ntmps40
  go_wp2_with fail
  rw [← hA]
  clear hA
  go_region_held3 (fun W => W.cell? ⟨w.heap.size, 0, none⟩ = some (.string ⟨#[]⟩) ∧ W.cell? ⟨w.heap.size, 1, none⟩ = some (.string ⟨#[]⟩) ∧ W.cell? ⟨w.heap.size, 2, none⟩ = some (.string ⟨#[103]⟩) ∧ W.cell? ⟨w.heap.size, 3, none⟩ = some (.string ⟨#[]⟩) ∧ W.cell? ⟨w.heap.size, 4, none⟩ = some (.string ⟨#[]⟩) ∧ W.cell? ⟨w.heap.size, 5, none⟩ = some (.map none)) (first | (with_reducible exact k0) | (with_reducible exact k1) | (with_reducible exact k2) | (with_reducible exact k3) | (with_reducible exact k4) | (with_reducible exact k5))
    (first
      | (go_at_call 83; refine (CB.out _ HE0.out).mono ?_; rintro e W2 ⟨rfl, hb⟩; have HE2 := Lib.hid hb; have k2 := HC.out _ hb; have k3 := HC.out _ (hb.alloc hb.size (.cells #[.string ⟨#[]⟩] 9)); have k4 := HC.out _ ((hb.alloc hb.size (.cells #[.string ⟨#[]⟩] 9)).alloc (by simp; exact Nat.le_succ_of_le hb.size) (.cells #[.func (.func 126) #[] #[.pointer (some ⟨W2.heap.size, 0, none⟩)]] 182)); clear hb)
      | (go_at_call 84; refine (unit_any _ _).mono ?_; rintro e w' ⟨rfl, rfl⟩)
      | (go_at_call 82; refine (CN.out _ HE2.out).mono ?_; rintro e W3 ⟨d, al, cl, c, hcl, rfl, hc3, hb⟩; have HE3 := Lib.hid hb; have k5 := HC.out _ hb; clear hb))
  have HF := HFin.out W3 d al cl (.iface 184 (ptr W3.heap.size)) hcl HE3.out
  have CI := Lib.hid (init_any W3.heap.size 184 (ptr W3.heap.size) .nilIface (W3.alloc (.cells #[.int .u64 0, .nilIface, ptr d, .slice al 0 cl] 192)) (Sl.cell_new W3 _ _ 1) (Whole.free (Whole.made W3 _ _) 1))
  clear k0 k1 k2 k3 k4 k5
  go_wp2_with fail
  refine CI.out.mono ?_
  rintro e W4 ⟨rfl, rfl⟩
  go_wp2_with fail
  go_ret
  exact HF.out

set_option maxHeartbeats 8000000 in
set_option maxRecDepth 100000 in
theorem writeGauge_any (g z d out : Nat) (self : Value) (al : Option Addr) (cl : Nat) (w : World) (h : Gauge w g z self (.slice al 0 cl) d) (hcl : cl ≤ 9223372036854775807) (ho : Whole w out 201 zeroM) :
    Calls Tryz.prog 256 #[ptr g, ptr out] w (WriteOut out [] 1 z none none w) := by
  have k1 : w.cell? ⟨g, 0, none⟩ = some (.int .u64 (z : Int)) := h.cell 0
  have k2 : w.cell? ⟨g, 3, none⟩ = some (.slice al 0 cl) := h.cell 3
  have c1 := load_u64 ⟨g, 0, none⟩ z w k1
  have c2 := call_from (z : Int) w
  rw [Int.toNat_natCast] at c2
  have CP := Lib.hid (populate_any al 0 cl 1 (Or.inr (Or.inl rfl)) z out none w ho)
  have HF : Hid (∀ e w3, PopOut (.slice al 0 cl) 1 z out nilp w e w3 → e = .returned .nilIface ∧ MetAt w3 out [] 1 z none none ∧ w.grownBy w3 (some out)) := fun e w3 ⟨he, hw, hv, hg⟩ => by
    exact ⟨he, ⟨⟨_, _, _, nilp, nilp, fun j => hw.cell j, ⟨[], rfl, Or.inl ⟨rfl, al, cl, rfl, hcl⟩, fun i hi => absurd hi (by simp)⟩, hv, fun _ => rfl, rfl⟩, hw.lt⟩, hg⟩
  clear h ho hcl
  go_enter Tryz.func256, Tryz.ntmps256
  go_wp2_with fail
  refine CP.out.mono ?_
  rintro e w3 hpo
  obtain ⟨rfl, hr1, hr2⟩ := HF.out _ _ hpo
  have HR := Lib.hid (And.intro hr1 hr2)
  clear hpo hr1 hr2
  go_wp2_with fail
  go_ret
  exact ⟨rfl, HR.out⟩

set_option maxHeartbeats 8000000 in
set_option maxRecDepth 100000 in
theorem writtenGauge_any (g z d : Nat) (self : Value) (al : Option Addr) (cl : Nat) (w : World) (hc : Gauge w g z self (.slice al 0 cl) d) (hcl : cl ≤ 9223372036854775807) :
    Calls Tryz.prog 41 #[.iface 184 (ptr g), .nilIface] w (WrOut [] 1 z none none w) := by
  obtain ⟨A, hA⟩ : ∃ A, A = (w.alloc (.cells #[.slice none 0 0, .int .i64 0, .float .f64 0, .bool false, .float .f64 0, .slice none 0 0, .int .i64 0, .int .i64 0, .bool false, .int .u64 0, .float .f64 0, .slice none 0 0, .int .i64 0, .bool false, .int .i32 0, .float .f64 0, .int .u64 0, .slice none 0 0, .slice none 0 0, .slice none 0 0, .slice none 0 0, .slice none 0 0, .int .u64 0, .float .f64 0, .slice none 0 0, .bool false, .int .i64 0] 40)).alloc (.cells #[.slice none 0 0, .pointer none, .pointer none, .pointer none, .pointer none, .pointer none, .pointer none] 201) := ⟨_, rfl⟩
  have hw0 : Below w.heap.size w (w.alloc (.cells #[.slice none 0 0, .int .i64 0, .float .f64 0, .bool false, .float .f64 0, .slice none 0 0, .int .i64 0, .int .i64 0, .bool false, .int .u64 0, .float .f64 0, .slice none 0 0, .int .i64 0, .bool false, .int .i32 0, .float .f64 0, .int .u64 0, .slice none 0 0, .slice none 0 0, .slice none 0 0, .slice none 0 0, .slice none 0 0, .int .u64 0, .float .f64 0, .slice none 0 0, .bool false, .int .i64 0] 40)) := (Below.refl _ _).alloc (Nat.le_refl _) _
  have s1 : (w.alloc (.cells #[.slice none 0 0, .int .i64 0, .float .f64 0, .bool false, .float .f64 0, .slice none 0 0, .int .i64 0, .int .i64 0, .bool false, .int .u64 0, .float .f64 0, .slice none 0 0, .int .i64 0, .bool false, .int .i32 0, .float .f64 0, .int .u64 0, .slice none 0 0, .slice none 0 0, .slice none 0 0, .slice none 0 0, .slice none 0 0, .int .u64 0, .float .f64 0, .slice none 0 0, .bool false, .int .i64 0] 40)).heap.size = w.heap.size + 1 := by simp
  have s2 : A.heap.size = w.heap.size + 1 + 1 := by rw [hA]; simp
  have hqb : Below w.heap.size w A := by rw [hA]; exact hw0.alloc (by simp) _
  have hWo : Whole A (w.heap.size + 1) 201 zeroM := by rw [hA, ← s1]; exact Whole.made _ _ _
  have hWr : Whole A w.heap.size 40 (xcs (.slice none 0 0) 0 0 false 0 false 0) := by
    rw [hA]
    have hz : Below (w.heap.size + 1) (w.alloc (.cells #[.slice none 0 0, .int .i64 0, .float .f64 0, .bool false, .float .f64 0, .slice none 0 0, .int .i64 0, .int .i64 0, .bool false, .int .u64 0, .float .f64 0, .slice none 0 0, .int .i64 0, .bool false, .int .i32 0, .float .f64 0, .int .u64 0, .slice none 0 0, .slice none 0 0, .slice none 0 0, .slice none 0 0, .slice none 0 0, .int .u64 0, .float .f64 0, .slice none 0 0, .bool false, .int .i64 0] 40)) _ := (Below.refl _ _).alloc (by rw [s1]; exact Nat.le_refl _) (.cells #[.slice none 0 0, .pointer none, .pointer none, .pointer none, .pointer none, .pointer none, .pointer none] 201)
    exact (hz.block w.heap.size (by omega)).trans (Whole.made w _ _)
  have CW := Lib.hid (writeGauge_any g z d (w.heap.size + 1) self al cl A ((hqb.block _ hc.lt).trans hc) hcl hWo)
  have hsz27 : (Tryz.prog.info? 40).map (·.size) = some 27 := by kernel_rfl
  have HM : Hid (∀ W, MetAt W (w.heap.size + 1) [] 1 z none none → Calls Tryz.prog 86 #[ptr (w.heap.size + 1)] W (MetOut [] 1 z none none W)) := fun W h => metricOf_plain _ [] 1 (Or.inr (Or.inl rfl)) z none (fun _ => rfl) W h (by simp)
  have HG : Hid (∀ W, A.grownBy W (some (w.heap.size + 1)) → Below w.heap.size w W ∧ Whole W w.heap.size 40 (xcs (.slice none 0 0) 0 0 false 0 false 0) ∧ w.heap.size + 1 < W.heap.size) := fun W h =>
    ⟨hqb.grown h (by omega) (fun j hj => by injection hj with hj; omega), (h.block w.heap.size (by omega) (by intro e; injection e with e; omega)).trans hWr, by have := h.size; omega⟩
  clear hc hqb hWo hWr hw0 s1 hcl
  go_enter Tryz.func41, Tryz.ntmps41
  go_wp2_with fail
  rw [← hA]
  clear hA
  refine CW.out.mono ?_
  rintro e w2 ⟨rfl, hm2, hg2⟩
  obtain ⟨hb2, hr2, hs2⟩ := HG.out _ hg2
  have CM := Lib.hid (HM.out _ hm2)
  have HB2 := Lib.hid hb2
  have HR2 := Lib.hid hr2
  clear hm2 hg2 hb2 hr2
  go_wp2_with fail
  refine CM.out.mono ?_
  rintro e w3 ⟨a1, c1, rfl, ho3, hb3⟩
  have hsz3 := hb3.size
  have HR3 : Hid (Whole w3 w.heap.size 40 (xcs (.slice none 0 0) 0 0 false 0 false 0)) := (hb3.block w.heap.size (by omega)).trans HR2.out
  have HOut : Hid (∀ Wf, w3.grownBy Wf (some w.heap.size) → Wf.heap.size = w3.heap.size → Wf.ownsRow w.heap.size 211 2 (.slice a1 0 c1) 0 (([] : List P2).flatMap pc) ∧ Below w.heap.size w Wf) := fun Wf hg hs => by
    refine ⟨own_base (ho3.kept hg ?_) (by omega), (HB2.out.trans (hb3.mono (by omega))).grown hg (by omega) (fun j hj => by injection hj with hj; omega)⟩
    cases hv : (Value.slice a1 0 c1).ownBlock with
    | none => exact Or.inl rfl
    | some g => exact Or.inr (by have := (ho3.lt g hv).1; intro e; injection e with e; omega)
  clear ho3 hb3
  rename_i K1 hK1 K2 hK2
  dsimp only
  refine hK2 _ _ ?_
  refine Big.wpList_store_whole rfl _ _ _ rfl w.heap.size 40 _ (xcs (.slice a1 0 c1) 1 z false 0 false 0) rfl rfl HR3.out rfl hsz27 (xcs_ones _ _ _ _ _ _ _ _ _) ?_
  intro W7 hx7 hg7 hs7
  simp only [Act.put]
  obtain ⟨ho7, hb7⟩ := HOut.out _ hg7 hs7
  have HF : Hid (WrOut [] 1 z none none w (.returned (.tuple #[.agg (xcs (.slice a1 0 c1) 1 z false 0 false 0), .bool true])) W7) := ⟨a1, c1, rfl, ho7, hb7⟩
  have HX7 := Lib.hid hx7
  clear hx7 hg7 hs7 ho7 hb7
  go_wp2_with fail
  exact bodyPost_ret (v := .tuple #[.agg (xcs (.slice a1 0 c1) 1 z false 0 false 0), .bool true]) (res2 rfl _ _ _ _ _ _ rfl (Big.loaded_whole 40 w.heap.size 40 _ HX7.out _ Tryz.underlying40 rfl hsz27) rfl) rfl HF.out


end Go.Proofs.YtlolomodcbkblaaGreatDoor.Gg
