/- A classic histogram written and read back (impl.written); one bucket at most is sorted already. A constant classic histogram: impl.ConstHist. -/
import Derived.Test.YtlolomodcbkblaaGreatDoorCnq
import Derived.Test.YtlolomodcbkblaaGreatDoorMg14
set_option linter.unusedVariables false
set_option linter.unusedSimpArgs false
namespace Go.Proofs.YtlolomodcbkblaaGreatDoor.Ch
open Go.RowKit Go.Maps Go.WideMaps Go.ChangeShapes Go.WideShapes Go.Deep Fp Obs _root_.Go.Proofs.YtlolomodcbkblaaGreatDoor.Fm _root_.Go.Proofs.YtlolomodcbkblaaGreatDoor
open _root_.Go.Proofs.YtlolomodcbkblaaGreatDoor.Nd (Glob Pairs)
open _root_.Go.Proofs.YtlolomodcbkblaaGreatDoor.Mt (ptr nilp zeroM)
open _root_.Go.Proofs.YtlolomodcbkblaaGreatDoor.Cz (NE ne_of_lt ne_of_base Gg1)
open _root_.Go.Proofs.YtlolomodcbkblaaGreatDoor.Sp (Q3 pv)

/-- a classic histogram's metric, as it is read back -/
def WrC (SP : List FC → Prop) (F : List P2) (count : Int) (z : Nat) (E : List FC) (w : World) (e : Ending) (w' : World) : Prop :=
  ∃ ps a1 c1 a15 k15, SP ps ∧ ps.Perm E ∧ e = .returned (.tuple #[.agg #[.slice a1 F.length c1, .int .i64 4, .float .f64 0, .bool false, .float .f64 0, .slice none 0 0, .int .i64 0, .int .i64 0, .bool false, .int .u64 count, .float .f64 z, .slice a15 ps.length k15, .int .i64 0, .bool false, .int .i32 0, .float .f64 0, .int .u64 0, .slice none 0 0, .slice none 0 0, .slice none 0 0, .slice none 0 0, .slice none 0 0, .int .u64 0, .float .f64 0, .slice none 0 0, .bool false, .int .i64 0], .bool true]) ∧ CRows F ps w.heap.size w' (.slice a1 F.length c1) (.slice a15 ps.length k15) ∧ Below w.heap.size w w'
theorem his_cl {W : World} {B hb : Nat} {count : Int} {z : Nat} {v : Value} {qs : List Q3} {ps : List FC} (h : HisAt W B hb count z v qs ps) : HCl W hb count z v := by
  obtain ⟨c0, c1, hw, h0, h1⟩ := h.blk
  exact ⟨⟨c0, c1, hw.cell 0, hw.cell 1, h0, h1⟩, hw.cell 2, hw.cell 3, hw.cell 4⟩
set_option maxHeartbeats 4000000 in
set_option maxRecDepth 100000 in
theorem written_c (SP : List FC → Prop) (cm d mb : Nat) (F : List P2) (count : Int) (z : Nat) (E : List FC) (w : World) (h : HistC w cm d mb count z E F) (hF : F.length ≤ 2147483647) (hE : E.length ≤ 2147483647) (hS : ∀ B, Sorts SP B E) (hS0 : E = [] → SP []) :
    Calls Tryz.prog 41 #[.iface 261 (ptr cm), .nilIface] w (WrC SP F count z E w) := by
  obtain ⟨lv, hcm, hps⟩ := h.blk
  have hmp := h.map
  obtain ⟨qs, hql, hlvs, _⟩ := id hps
  obtain ⟨al, cl, rfl, _, _⟩ := Nd.sl_slice hlvs
  rw [hql] at hps hcm
  have hlt := hcm.lt
  have hltm := hmp.lt
  obtain ⟨A1, hA1⟩ : ∃ A1, A1 = w.alloc (.cells #[.slice none 0 0, .int .i64 0, .float .f64 0, .bool false, .float .f64 0, .slice none 0 0, .int .i64 0, .int .i64 0, .bool false, .int .u64 0, .float .f64 0, .slice none 0 0, .int .i64 0, .bool false, .int .i32 0, .float .f64 0, .int .u64 0, .slice none 0 0, .slice none 0 0, .slice none 0 0, .slice none 0 0, .slice none 0 0, .int .u64 0, .float .f64 0, .slice none 0 0, .bool false, .int .i64 0] 40) := ⟨_, rfl⟩
  obtain ⟨A, hA⟩ : ∃ A, A = A1.alloc (.cells #[.slice none 0 0, .pointer none, .pointer none, .pointer none, .pointer none, .pointer none, .pointer none] 201) := ⟨_, rfl⟩
  have s1 : A1.heap.size = w.heap.size + 1 := by rw [hA1]; simp
  have s2 : A.heap.size = w.heap.size + 1 + 1 := by rw [hA]; simp [s1]
  have b1 : Below w.heap.size w A1 := by rw [hA1]; exact (Below.refl _ _).alloc (Nat.le_refl _) _
  have b2 : Below A1.heap.size A1 A := by rw [hA]; exact (Below.refl _ _).alloc (Nat.le_refl _) _
  have hqb : Below w.heap.size w A := b1.trans (b2.mono (by omega))
  have hWo : Whole A (w.heap.size + 1) 201 zeroM := by rw [hA, ← s1]; exact Whole.made _ _ _
  have hWr : Whole A w.heap.size 40 #[.slice none 0 0, .int .i64 0, .float .f64 0, .bool false, .float .f64 0, .slice none 0 0, .int .i64 0, .int .i64 0, .bool false, .int .u64 0, .float .f64 0, .slice none 0 0, .int .i64 0, .bool false, .int .i32 0, .float .f64 0, .int .u64 0, .slice none 0 0, .slice none 0 0, .slice none 0 0, .slice none 0 0, .slice none 0 0, .int .u64 0, .float .f64 0, .slice none 0 0, .bool false, .int .i64 0] := (b2.block _ (by omega)).trans (by rw [hA1]; exact Whole.made w _ _)
  have hAA : A = (w.alloc (.cells #[.slice none 0 0, .int .i64 0, .float .f64 0, .bool false, .float .f64 0, .slice none 0 0, .int .i64 0, .int .i64 0, .bool false, .int .u64 0, .float .f64 0, .slice none 0 0, .int .i64 0, .bool false, .int .i32 0, .float .f64 0, .int .u64 0, .slice none 0 0, .slice none 0 0, .slice none 0 0, .slice none 0 0, .slice none 0 0, .int .u64 0, .float .f64 0, .slice none 0 0, .bool false, .int .i64 0] 40)).alloc (.cells #[.slice none 0 0, .pointer none, .pointer none, .pointer none, .pointer none, .pointer none, .pointer none] 201) := by rw [hA, hA1]
  have CW := Lib.hid (writeHist_any SP cm d mb (w.heap.size + 1) count z E al F.length cl A ((hqb.block _ hlt).trans hcm) (hmp.below hqb) hE hWo (by omega) (by omega) (hS _) hS0)
  have HG : Hid (∀ W, A.grownBy W (some (w.heap.size + 1)) → Below w.heap.size w W ∧ Whole W w.heap.size 40 #[.slice none 0 0, .int .i64 0, .float .f64 0, .bool false, .float .f64 0, .slice none 0 0, .int .i64 0, .int .i64 0, .bool false, .int .u64 0, .float .f64 0, .slice none 0 0, .int .i64 0, .bool false, .int .i32 0, .float .f64 0, .int .u64 0, .slice none 0 0, .slice none 0 0, .slice none 0 0, .slice none 0 0, .slice none 0 0, .int .u64 0, .float .f64 0, .slice none 0 0, .bool false, .int .i64 0] ∧ A.heap.size ≤ W.heap.size) := fun W k =>
    ⟨hqb.grown k (by omega) (fun j hj => by injection hj with hj; omega), (k.block w.heap.size (by omega) (by intro e; injection e with e; omega)).trans hWr, k.size⟩
  have HM : Hid (∀ W hb v qs ps, Below w.heap.size w W → Whole W (w.heap.size + 1) 201 #[.slice al F.length cl, nilp, nilp, nilp, nilp, ptr hb, nilp] → HisAt W A.heap.size hb count z v qs ps → ps.length ≤ 2147483647 → Calls Tryz.prog 86 #[ptr (w.heap.size + 1)] W (MetC F count z ps W)) := fun W hb v qs ps k hx hh hl =>
    metricOf_c (w.heap.size + 1) hb al cl F count z v ps W hx (hps.below k) hF (his_cl hh) hh.bks.bkts hl
  have hsz27 : (Tryz.prog.info? 40).map (·.size) = some 27 := by kernel_rfl
  clear hps hlvs hql h hcm hmp hqb hWo hWr b1 b2 hA hA1 s1 hS hS0
  go_enter Tryz.func41, Tryz.ntmps41
  go_wp2_with fail
  rw [← hAA]
  clear hAA
  refine CW.out.mono ?_
  rintro e w2 ⟨rfl, hb, v, qs2, ps, hx2, _, hh2, hsp, hpe, hg2⟩
  obtain ⟨hb2, hr2, hs2⟩ := HG.out _ hg2
  have hpl : ps.length ≤ 2147483647 := by rw [hpe.length_eq]; exact hE
  have CM := Lib.hid (HM.out _ hb v qs2 ps hb2 hx2 hh2 hpl)
  have HB2 := Lib.hid hb2
  have HR2 := Lib.hid hr2
  have HSp := Lib.hid hsp
  have HPe := Lib.hid hpe
  clear hx2 hg2 hb2 hr2 hh2 hsp hpe hpl
  go_wp2_with fail
  refine CM.out.mono ?_
  rintro e w3 ⟨a1, c1, a15, k15, rfl, hrw, hb3⟩
  have HR3 : Hid (Whole w3 w.heap.size 40 #[.slice none 0 0, .int .i64 0, .float .f64 0, .bool false, .float .f64 0, .slice none 0 0, .int .i64 0, .int .i64 0, .bool false, .int .u64 0, .float .f64 0, .slice none 0 0, .int .i64 0, .bool false, .int .i32 0, .float .f64 0, .int .u64 0, .slice none 0 0, .slice none 0 0, .slice none 0 0, .slice none 0 0, .slice none 0 0, .int .u64 0, .float .f64 0, .slice none 0 0, .bool false, .int .i64 0]) := (hb3.block w.heap.size (by omega)).trans HR2.out
  have HOut : Hid (∀ Wf, w3.grownBy Wf (some w.heap.size) → WrC SP F count z E w (.returned (.tuple #[.agg #[.slice a1 F.length c1, .int .i64 4, .float .f64 0, .bool false, .float .f64 0, .slice none 0 0, .int .i64 0, .int .i64 0, .bool false, .int .u64 count, .float .f64 z, .slice a15 ps.length k15, .int .i64 0, .bool false, .int .i32 0, .float .f64 0, .int .u64 0, .slice none 0 0, .slice none 0 0, .slice none 0 0, .slice none 0 0, .slice none 0 0, .int .u64 0, .float .f64 0, .slice none 0 0, .bool false, .int .i64 0], .bool true])) Wf) := fun Wf hg =>
    ⟨ps, a1, c1, a15, k15, HSp.out, HPe.out, rfl, hrw.kept hg (by omega) (by omega), (HB2.out.trans (hb3.mono (by omega))).grown hg (by have := hb3.size; omega) (fun j hj => by injection hj with hj; omega)⟩
  clear hrw hb3
  rename_i K1 hK1 K2 hK2
  dsimp only
  refine hK2 _ _ ?_
  refine Big.wpList_store_whole rfl _ _ _ rfl w.heap.size 40 _ #[.slice a1 F.length c1, .int .i64 4, .float .f64 0, .bool false, .float .f64 0, .slice none 0 0, .int .i64 0, .int .i64 0, .bool false, .int .u64 count, .float .f64 z, .slice a15 ps.length k15, .int .i64 0, .bool false, .int .i32 0, .float .f64 0, .int .u64 0, .slice none 0 0, .slice none 0 0, .slice none 0 0, .slice none 0 0, .slice none 0 0, .int .u64 0, .float .f64 0, .slice none 0 0, .bool false, .int .i64 0] rfl rfl HR3.out rfl hsz27 (by simp [Value.oneCell']) ?_
  intro W7 hx7 hg7 hs7
  simp only [Act.put]
  have HF := Lib.hid (HOut.out _ hg7)
  have HX7 := Lib.hid hx7
  clear hx7 hg7 hs7 HOut
  go_wp2_with fail
  exact bodyPost_ret (v := .tuple #[.agg #[.slice a1 F.length c1, .int .i64 4, .float .f64 0, .bool false, .float .f64 0, .slice none 0 0, .int .i64 0, .int .i64 0, .bool false, .int .u64 count, .float .f64 z, .slice a15 ps.length k15, .int .i64 0, .bool false, .int .i32 0, .float .f64 0, .int .u64 0, .slice none 0 0, .slice none 0 0, .slice none 0 0, .slice none 0 0, .slice none 0 0, .int .u64 0, .float .f64 0, .slice none 0 0, .bool false, .int .i64 0], .bool true]) (Mt.res2 rfl _ _ _ _ _ _ rfl (Big.loaded_whole 40 w.heap.size 40 _ HX7.out _ Tryz.underlying40 rfl hsz27) rfl) rfl HF.out

end Go.Proofs.YtlolomodcbkblaaGreatDoor.Ch

set_option linter.unusedVariables false
set_option linter.unusedSimpArgs false
namespace Go.Proofs.YtlolomodcbkblaaGreatDoor.Ch
open Go.RowKit Go.Maps Go.WideMaps Go.ChangeShapes Go.WideShapes Go.Deep Fp Obs _root_.Go.Proofs.YtlolomodcbkblaaGreatDoor.Fm _root_.Go.Proofs.YtlolomodcbkblaaGreatDoor
open _root_.Go.Proofs.YtlolomodcbkblaaGreatDoor.Nd hiding len_reached less_reached swap_reached
open _root_.Go.Proofs.YtlolomodcbkblaaGreatDoor.Mt (ptr nilp zeroM)
open _root_.Go.Proofs.YtlolomodcbkblaaGreatDoor.Cz (NE ne_of_lt ne_of_base Gg1)
open _root_.Go.Proofs.YtlolomodcbkblaaGreatDoor.Sp (Q3 pv)
open Go.Shelf

theorem len_reached (p : Option Addr) (n c : Nat) : Reaches Tryz.prog 439 (.slice p n c) "Len" 299 := ⟨fun _ => by kernel_rfl, enters_of Tryz.func299 (by kernel_rfl) rfl⟩
theorem buck_Len (p : Option Addr) (n c : Nat) (W : World) : LenM Tryz.prog 299 (.slice p n c) n W := by
  unfold LenM
  go_enter Tryz.func299, Tryz.ntmps299
  go_wp2
  go_ret
  exact ⟨rfl, 0, rfl⟩
theorem bel_drewN {B : Nat} {a w : World} (h : Below B a w) (n : Nat) : Below B a (w.drewN n) := h.trans ⟨rfl, rfl, rfl, Nat.le_refl _, fun _ _ => rfl⟩
/-- one bucket at most -/
theorem sorts_tiny {E : List FC} (h : E.length ≤ 1) (B : Nat) : Sorts (fun _ => True) B E := fun u qs ps W hs hp => by
  obtain ⟨a, c, rfl⟩ := row_slice2 hs.row
  refine (Sh.sort_Sort_tiny (α := Nat) 439 (.slice a ps.length c) _ (len_reached _ _ _) ps.length (by rw [hp.length_eq]; exact h) W (buck_Len _ _ _ _)).mono ?_
  rintro e w' ⟨rfl, q, rfl⟩
  have hb := bel_drewN (Below.refl W.heap.size W) q
  exact ⟨rfl, qs, ps, hs.kept hb, trivial, hp, (below_grown hb).but _⟩

/-- a bucket of the thin package, whatever its exemplar -/
abbrev GB := FC × Value × Value × Value × Value
def gb (x : GB) : List Value := [.int .u64 x.1.2, .float .f64 x.1.1, x.2.1, x.2.2.1, x.2.2.2.1, x.2.2.2.2]
theorem gb_len (x : GB) : (gb x).length = 6 := rfl
theorem gb_range {w : World} {a : Option Addr} {n cap : Nat} {G : List GB} (h : Ss.Of 6 gb w (.slice a n cap) G) {k : Nat} (hk : k < G.length) : ∃ b off, a = some ⟨b, off, none⟩ ∧ b < w.heap.size ∧ w.rangeAt b (off + k * 6) (gb G[k]) := by
  rcases h with ⟨rfl, _⟩ | ⟨b, off, cap, h, h0, hcap, hm, hbb, hcell⟩
  · simp at hk
  · injection h with h1 h2 h3
    exact ⟨b, off, h1, hbb, fun j u hu => by rw [Nat.add_assoc]; exact hcell k hk j u hu⟩

set_option maxHeartbeats 8000000 in
set_option maxRecDepth 100000 in
theorem constHist_any (SP : List FC → Prop) (nm hp un : ByteArray) (V X : List ByteArray) (L : List P2) (vv cv vx vb : Value) (count : Int) (z : Nat) (G : List GB) (w : World) (hG : Glob w) (hok : NewOk nm hp un V L) (hV : Sl.Of Value.string w vv V) (hL : Ss.Of 2 pc w cv L) (hr : ∀ p ∈ L, p.1.size ≤ 2147483647 ∧ p.2.size ≤ 2147483647)
    (hx : Sl.Of Value.string w vx X) (hl : X.length = V.length) (ha : ∀ s ∈ X, Asc s ∧ s.size ≤ 9223372036854775807) (hb : Ss.Of 6 gb w vb G) (hGl : G.length ≤ 2147483647) (h1 : ∀ x ∈ G, ∀ u ∈ gb x, u.oneCell' = true) (hnew : ∀ k (h : k < G.length), New (G[k]).1.1 ((G.take k).map (·.1)))
    (hS : ∀ B, Sorts SP B (G.map (·.1))) (hS0 : G = [] → SP []) :
    Calls Tryz.prog 33 #[.agg #[.string nm, .string hp, .string un, vv, cv], .int .u64 count, .float .f64 z, vb, vx] w (WrC SP (labs V X (fit L)) count z (G.map (·.1)) w) := by
  obtain ⟨av, cb, rfl, _, _⟩ := hb.slice
  have hfl := fit_le L
  have hll := hok.lenL
  have hlv := hok.lenV
  have hmm := @run_makeMap Tryz.prog
  obtain ⟨A, hA⟩ : ∃ A, A = ((w.alloc (.cells #[.string nm, .string hp, .string un, vv, cv] 74)).alloc (.cells #[.slice none 0 0, .int .i64 0, .float .f64 0, .bool false, .float .f64 0, .slice none 0 0, .int .i64 0, .int .i64 0, .bool false, .int .u64 0, .float .f64 0, .slice none 0 0, .int .i64 0, .bool false, .int .i32 0, .float .f64 0, .int .u64 0, .slice none 0 0, .slice none 0 0, .slice none 0 0, .slice none 0 0, .slice none 0 0, .int .u64 0, .float .f64 0, .slice none 0 0, .bool false, .int .i64 0] 40)) := ⟨_, rfl⟩
  have hb0 : Below w.heap.size w A := by rw [hA]; exact ((Below.refl _ _).alloc (Nat.le_refl _) _).alloc (by simp) _
  have s1 : (w.alloc (.cells #[.string nm, .string hp, .string un, vv, cv] 74)).heap.size = w.heap.size + 1 := by simp
  have s2 : A.heap.size = w.heap.size + 1 + 1 := by rw [hA]; simp
  have hWr : Whole A (w.heap.size + 1) 40 #[.slice none 0 0, .int .i64 0, .float .f64 0, .bool false, .float .f64 0, .slice none 0 0, .int .i64 0, .int .i64 0, .bool false, .int .u64 0, .float .f64 0, .slice none 0 0, .int .i64 0, .bool false, .int .i32 0, .float .f64 0, .int .u64 0, .slice none 0 0, .slice none 0 0, .slice none 0 0, .slice none 0 0, .slice none 0 0, .int .u64 0, .float .f64 0, .slice none 0 0, .bool false, .int .i64 0] := by rw [hA, ← s1]; exact Whole.made _ _ _
  have hWm : Whole A w.heap.size 74 #[.string nm, .string hp, .string un, vv, cv] := by rw [hA]; exact (((Below.refl _ _).alloc (Nat.le_refl _) (.cells #[.slice none 0 0, .int .i64 0, .float .f64 0, .bool false, .float .f64 0, .slice none 0 0, .int .i64 0, .int .i64 0, .bool false, .int .u64 0, .float .f64 0, .slice none 0 0, .int .i64 0, .bool false, .int .i32 0, .float .f64 0, .int .u64 0, .slice none 0 0, .slice none 0 0, .slice none 0 0, .slice none 0 0, .slice none 0 0, .int .u64 0, .float .f64 0, .slice none 0 0, .bool false, .int .i64 0] 40) : Below (w.alloc (.cells #[.string nm, .string hp, .string un, vv, cv] 74)).heap.size _ _).block _ (by simp)).trans (Whole.made w _ _)
  have HU : Hid (∀ W, Below A.heap.size A W → Below w.heap.size w W) := fun W k => hb0.trans (k.mono (by omega))
  have CD : Hid (∀ W, Below A.heap.size A W → Calls Tryz.prog 66 #[.agg #[.string nm, .string hp, .string un, vv, cv]] W (Nd.DescOut nm hp un V L W)) := fun W k => by
    have kk := HU.out W k
    exact desc_any nm hp un V L vv cv W (hG.below kk) hok (hV.below kk) (hL.below kk) hr
  have CN : Hid (∀ (W : World) d v3 c vn mb, Below w.heap.size w W → DescAt W d nm hp un V (fit L) v3 c vn → FMap W mb (G.map (·.1)) → Calls Tryz.prog 73 #[ptr d, .int .u64 count, .float .f64 z, .map (some mb), vx] W (NewHist (labs V X (fit L)) d mb count z (G.map (·.1)) W)) := fun W d v3 c vn mb h hd hm =>
    newHist_any d c mb nm hp un V X (fit L) v3 vn vx count z (G.map (·.1)) W (hG.below h) hd (hx.below h) hl hok.apart (fit_srt L) hok.lenV (by omega) ha hm
  have hlab : (labs V X (fit L)).length ≤ 2147483647 := by
    have := labs_len (V := V) (X := X) (F := fit L)
    omega
  have CW : Hid (∀ W cm d mb, HistC W cm d mb count z (G.map (·.1)) (labs V X (fit L)) → Calls Tryz.prog 41 #[.iface 261 (ptr cm), .nilIface] W (WrC SP (labs V X (fit L)) count z (G.map (·.1)) W)) := fun W cm d mb h =>
    written_c SP cm d mb _ count z _ W h hlab (by rw [List.length_map]; exact hGl) hS (fun e => hS0 (by cases G with | nil => rfl | cons x r => cases e))
  have hsz27 : (Tryz.prog.info? 40).map (·.size) = some 27 := by kernel_rfl
  have hszB : (Tryz.prog.info? 141).map (·.size) = some 6 := by kernel_rfl
  have HB0 := Lib.hid hb0
  have HR0 : Hid (∀ W, Below A.heap.size A W → Whole W (w.heap.size + 1) 40 #[.slice none 0 0, .int .i64 0, .float .f64 0, .bool false, .float .f64 0, .slice none 0 0, .int .i64 0, .int .i64 0, .bool false, .int .u64 0, .float .f64 0, .slice none 0 0, .int .i64 0, .bool false, .int .i32 0, .float .f64 0, .int .u64 0, .slice none 0 0, .slice none 0 0, .slice none 0 0, .slice none 0 0, .slice none 0 0, .int .u64 0, .float .f64 0, .slice none 0 0, .bool false, .int .i64 0]) := fun W k => (k.block _ (by omega)).trans hWr
  have HM0 : Hid (∀ W, Below A.heap.size A W → Whole W w.heap.size 74 #[.string nm, .string hp, .string un, vv, cv]) := fun W k => (k.block _ (by omega)).trans hWm
  have HGs : Hid (∀ W, Below A.heap.size A W → Ss.Of 6 gb W (.slice av G.length cb) G) := fun W k => hb.below (HU.out W k)
  have H1 := Lib.hid h1
  have HNew := Lib.hid hnew
  have HS2 : Hid (A.heap.size = w.heap.size + 1 + 1) := s2
  have HA1 : Hid (FMap (A.alloc (.map #[] 0)) A.heap.size [] ∧ Below A.heap.size A (A.alloc (.map #[] 0))) := ⟨FMap.made A, (Below.refl _ _).alloc (Nat.le_refl _) _⟩
  clear hG hok hV hL hr hx hl ha hb0 hfl hll hlv hWr s1 hlab hb h1 hnew hS hS0 hWm s2
  go_enter Tryz.func33, Tryz.ntmps33
  go_upto_region 1 with fail
  rw [← hA]
  clear hA
  go_wp2_with fail
  go_loopw [20] (fun vk wr => ∃ k : Nat, k ≤ G.length ∧ vk = .int .i64 (k : Int) ∧ Hid (FMap wr A.heap.size ((G.take k).map (·.1)) ∧ Below A.heap.size A wr)) (fun vk _ => G.length - (intOf vk).toNat)
  case atStart => exact ⟨0, Nat.zero_le _, rfl, HA1.out⟩
  case round =>
    obtain ⟨k, hk, rfl, hst⟩ := hrel
    clear HA1
    by_cases hlt : k < G.length
    · obtain ⟨b, off, hav, hbb, hrg⟩ := gb_range (HGs.out wr hst.out.2) hlt
      have hn := HNew.out k hlt
      have hone := H1.out _ (List.getElem_mem hlt)
      have htk : (G.take (k + 1)).map (·.1) = (G.take k).map (·.1) ++ [(G[k]).1] := by rw [List.take_succ_eq_append_getElem hlt, List.map_append]; rfl
      obtain ⟨⟨⟨f, c⟩, t1, t2, t3, t4⟩, hx⟩ : ∃ x : GB, G[k] = x := ⟨_, rfl⟩
      rw [hx] at hrg hn hone htk
      have hn : New f ((G.take k).map (·.1)) := hn
      have htk : (G.take (k + 1)).map (·.1) = (G.take k).map (·.1) ++ [(f, c)] := htk
      subst hav
      have hone5 : (#[.int .u64 c, .float .f64 f, t1, t2, t3, t4] : Array Value).all (·.oneCell') = true := by
        have h : ∀ u ∈ [Value.int .u64 c, .float .f64 f, t1, t2, t3, t4], u.oneCell' = true := hone
        simpa using h
      have HRg : Hid (wr.rangeAt b (off + k * 6) [.int .u64 c, .float .f64 f, t1, t2, t3, t4]) := hrg
      have HTk := Lib.hid htk
      have HN := Lib.hid hn
      have HOne := Lib.hid hone5
      have z1 : (0 : Int) ≤ (k : Int) := by omega
      have z2 : (k : Int) < (G.length : Int) := by omega
      obtain ⟨K, hK⟩ : ∃ K, (G.take k).map (·.1) = K := ⟨_, rfl⟩
      rw [hK] at hst HTk HN
      have HSt := Lib.hid hst.out
      have HStep : Hid (∀ W2 W3 : World, Below wr.heap.size wr W2 → W2.grownBy W3 (some A.heap.size) → FMap W3 A.heap.size (K ++ [(f, c)]) → FMap W3 A.heap.size ((G.take (k + 1)).map (·.1)) ∧ Below A.heap.size A W3) := fun W2 W3 k2 k3 hm => by
        have hlt := HSt.out.1.lt
        exact ⟨by rw [HTk.out]; exact hm, (HSt.out.2.trans (k2.mono HSt.out.2.size)).grown k3 (Nat.le_trans HSt.out.2.size k2.size) (fun j hj => by injection hj with hj; omega)⟩
      clear hst hrg hn hone htk hx hone5 hK
      go_wp2_with (first
        | (refine wpList_load_mid rfl 141 _ rfl b (off + k * 6) rfl [.int .u64 c, .float .f64 f, t1, t2, t3, t4] _ HRg.out Tryz.underlying141 rfl hszB ?_)
        | (refine Big.wpList_store_whole rfl 141 _ _ rfl wr.heap.size 141 #[.int .u64 0, .float .f64 0, .bool false, .float .f64 0, .slice none 0 0, .int .i64 0] #[.int .u64 c, .float .f64 f, t1, t2, t3, t4] rfl rfl (Whole.made wr _ _) rfl hszB HOne.out ?_; intro W2 hx2 hg2 hs2; have hb2 : Below wr.heap.size wr W2 := (((Below.refl _ _).alloc (Nat.le_refl _) _).grown hg2 (by simp) (fun j hj => by injection hj with hj; omega)); have HB2 := Lib.hid hb2; have x20 := Whole.cell (T := 141) hx2 0; have x21 := Whole.cell (T := 141) hx2 1; have HM2 : Hid (FMap W2 A.heap.size K) := HSt.out.1.below hb2; clear hx2 hg2 hs2 hb2)
        | (at_mapUpdate; refine wpList_fupd _ rfl _ _ _ 161 rfl 24 31 Tryz.underlying161 Tryz.underlying24 A.heap.size K rfl HM2.out f c rfl rfl HN.out ?_; intro W3 hm3 hg3; have hq3 := Lib.hid (HStep.out W2 W3 HB2.out hg3 hm3); clear hm3 hg3))
      go_roundw
      case rel => exact ⟨k + 1, by omega, by go_num, hq3.out⟩
      case measure => simp [intOf]; omega
    · obtain rfl : k = G.length := by omega
      have hm0 : FMap wr A.heap.size (G.map (·.1)) := by
        have h := hst.out.1
        rw [List.take_length] at h
        exact h
      have HMp := Lib.hid hm0
      have HBw := Lib.hid hst.out.2
      have hmt := HM0.out wr hst.out.2
      have m0 := hmt.cell 0
      have m1 := hmt.cell 1
      have m2 := hmt.cell 2
      have m3 := hmt.cell 3
      have m4 := hmt.cell 4
      have CDr := Lib.hid (CD.out wr hst.out.2)
      clear hst hm0 hmt HNew H1 HGs CD
      go_wp2_with fail
      refine CDr.out.mono ?_
      rintro e w1 ⟨d, v3, c, vn, rfl, hd, hb1⟩
      have HB1 : Hid (Below A.heap.size A w1) := HBw.out.trans (hb1.mono HBw.out.size)
      have CE := Lib.hid (CN.out w1 d v3 c vn A.heap.size (HU.out w1 HB1.out) hd (HMp.out.below hb1))
      clear hd hb1 m0 m1 m2 m3 m4
      go_wp2_with fail
      refine CE.out.mono ?_
      rintro e w2 ⟨cm, rfl, hc2, hb2⟩
      have CF := Lib.hid (CW.out w2 cm d A.heap.size hc2)
      have HB2 : Hid (Below A.heap.size A w2) := HB1.out.trans (hb2.mono HB1.out.size)
      clear hc2 hb2
      go_wp2_with fail
      refine CF.out.mono ?_
      rintro e w3 ⟨ps, a1, c1, a15, k15, hsp, hpe, rfl, hrw, hb3⟩
      have HB3 : Hid (Below A.heap.size A w3) := HB2.out.trans (hb3.mono HB2.out.size)
      have hsz3 := HB3.out.size
      have hsz2 := HB2.out.size
      have hr3 : Whole w3 (w.heap.size + 1) 40 #[.slice none 0 0, .int .i64 0, .float .f64 0, .bool false, .float .f64 0, .slice none 0 0, .int .i64 0, .int .i64 0, .bool false, .int .u64 0, .float .f64 0, .slice none 0 0, .int .i64 0, .bool false, .int .i32 0, .float .f64 0, .int .u64 0, .slice none 0 0, .slice none 0 0, .slice none 0 0, .slice none 0 0, .slice none 0 0, .int .u64 0, .float .f64 0, .slice none 0 0, .bool false, .int .i64 0] := HR0.out w3 HB3.out
      obtain ⟨F, hFe⟩ : ∃ F, labs V X (fit L) = F := ⟨_, rfl⟩
      rw [hFe] at hrw
      have HOut : Hid (∀ Wf, w3.grownBy Wf (some (w.heap.size + 1)) → WrC SP (labs V X (fit L)) count z (G.map (·.1)) w (.returned (.tuple #[.agg #[.slice a1 F.length c1, .int .i64 4, .float .f64 0, .bool false, .float .f64 0, .slice none 0 0, .int .i64 0, .int .i64 0, .bool false, .int .u64 count, .float .f64 z, .slice a15 ps.length k15, .int .i64 0, .bool false, .int .i32 0, .float .f64 0, .int .u64 0, .slice none 0 0, .slice none 0 0, .slice none 0 0, .slice none 0 0, .slice none 0 0, .int .u64 0, .float .f64 0, .slice none 0 0, .bool false, .int .i64 0], .bool true])) Wf) := fun Wf hg => by
        rw [hFe]
        have h2 := HS2.out
        exact ⟨ps, a1, c1, a15, k15, hsp, hpe, rfl, hrw.kept hg (by omega) (by omega), (HU.out w3 HB3.out).grown hg (by omega) (fun j hj => by injection hj with hj; omega)⟩
      have HR3 := Lib.hid hr3
      rw [hFe]
      clear hrw hb3 hsp hpe hr3
      rename_i K1 hK1 K2 hK2
      dsimp only
      refine hK2 _ _ ?_
      refine wpList_plain rfl fun K3 hK3 => ?_
      go_simp
      refine hK3 _ _ ?_
      refine wpList_plain rfl fun K4 hK4 => ?_
      go_simp
      refine hK4 _ _ ?_
      refine Big.wpList_store_whole rfl _ _ _ rfl (w.heap.size + 1) 40 _ #[.slice a1 F.length c1, .int .i64 4, .float .f64 0, .bool false, .float .f64 0, .slice none 0 0, .int .i64 0, .int .i64 0, .bool false, .int .u64 count, .float .f64 z, .slice a15 ps.length k15, .int .i64 0, .bool false, .int .i32 0, .float .f64 0, .int .u64 0, .slice none 0 0, .slice none 0 0, .slice none 0 0, .slice none 0 0, .slice none 0 0, .int .u64 0, .float .f64 0, .slice none 0 0, .bool false, .int .i64 0] rfl rfl HR3.out rfl hsz27 (by simp [Value.oneCell']) ?_
      intro W7 hx7 hg7 hs7
      simp only [Act.put]
      have HF := Lib.hid (HOut.out W7 hg7)
      have HX7 := Lib.hid hx7
      clear hx7 hg7 hs7 HOut
      go_wp2_with fail
      exact bodyPost_ret (v := .tuple #[.agg #[.slice a1 F.length c1, .int .i64 4, .float .f64 0, .bool false, .float .f64 0, .slice none 0 0, .int .i64 0, .int .i64 0, .bool false, .int .u64 count, .float .f64 z, .slice a15 ps.length k15, .int .i64 0, .bool false, .int .i32 0, .float .f64 0, .int .u64 0, .slice none 0 0, .slice none 0 0, .slice none 0 0, .slice none 0 0, .slice none 0 0, .int .u64 0, .float .f64 0, .slice none 0 0, .bool false, .int .i64 0], .bool true]) (Mt.res2 rfl _ _ _ _ _ _ rfl (Big.loaded_whole 40 (w.heap.size + 1) 40 _ HX7.out _ Tryz.underlying40 rfl hsz27) rfl) rfl HF.out

end Go.Proofs.YtlolomodcbkblaaGreatDoor.Ch
