/- Descriptors: from the laid variables to what the walks ask of them; a descriptor's data as an argument is read. -/
import Derived.Test.YtlolomodcbkblaaGreatDoorRows
import Derived.Test.YtlolomodcbkblaaGreatDoorMg5
import Derived.Test.YtlolomodcbkblaaGreatDoorMg10
import Derived.LaidMore
import Derived.MakeChecks
import Derived.Lib.LaidU8
import Derived.PinnedBridge
import Derived.Lib.SmallJoins
set_option linter.unusedVariables false
set_option linter.unusedSimpArgs false
namespace Go.Proofs.YtlolomodcbkblaaGreatDoor.Nd
open Go.RowKit Go.Joins Go.ChangeShapes Go.WideShapes Go.Deep Fp

set_option maxRecDepth 100000 in
theorem sep_of {W : World} (h : Lib.VarReads Tryz.prog W "pub-dialplate/pub/clientgolang/prometheus.separatorByteSlice" Rows.laid_pub_dialplate_pub_clientgolang_prometheus_separatorByteSlice) : Sep W := by
  obtain ⟨g, t, cs, fuel, p, hg, hty, hvar, hd⟩ := h
  obtain rfl := Option.some.inj ((show Tryz.prog.globalNamed "pub-dialplate/pub/clientgolang/prometheus.separatorByteSlice" = some 1 by kernel_rfl).symm.trans hg)
  obtain rfl := Option.some.inj ((show (Tryz.prog.globals[1]?).map (·.type) = some 299 by kernel_rfl).symm.trans hty)
  have hd' : DataW.trod (fun _ => ()) Tryz.prog W 0 (fun _ => true) false fuel 299 cs.toList = some (.slice [.lit (.int .u8 255)] [], p) := hd
  obtain ⟨a, cap, hcs, _, hel⟩ := open_row Tryz.underlying299 (by kernel_rfl) hd'
  obtain ⟨v0, n0, q0, hc0, hr0⟩ := hel 0 _ rfl
  obtain ⟨z, e1, e2, _⟩ := DataW.trod_int Tryz.underlying5 hr0
  have hz : z = 255 := by simpa using (congrArg Prod.fst e2).symm
  subst hz
  have hv0 : v0 = .int .u8 255 := by simpa using e1
  subst hv0
  obtain ⟨b, off, spot⟩ := a
  have hspot : spot = none := by simpa [Addr.add] using World.cell?_spot hc0
  subst hspot
  have h1 := World.var?_cell hg hvar 0
  rw [Array.eq_one_of_toList hcs] at h1
  have h0 : W.cell? ⟨b, off, none⟩ = some (.int .u8 255) := by simpa [Addr.add] using hc0
  refine ⟨b, off, cap, by simpa using h1, h0, ?_, ?_⟩
  · exact World.block_lt_of_cell? W (a := ⟨b, off, none⟩) h0
  · exact World.block_lt_of_cell? W (a := ⟨1, 0, none⟩) (by simpa using h1)

set_option maxRecDepth 100000 in
theorem tabs_of {W : World} (h3 : Lib.VarReads Tryz.prog W "unicode/utf8.first" Rows.laid_unicode_utf8_first) (h4 : Lib.VarReads Tryz.prog W "unicode/utf8.acceptRanges" Rows.laid_unicode_utf8_acceptRanges) : Lib.Utf8Tabs 3 4 W := by
  have e3 : Rows.laid_unicode_utf8_first = Lib.firstData := Pinned.utf8First_eq
  have e4 : (Rows.laid_unicode_utf8_acceptRanges : DataW Unit) = Lib.acceptData := by kernel_rfl
  rw [e3] at h3
  rw [e4] at h4
  have c5 : Tryz.prog.cellsOf 5 = 1 := by kernel_rfl
  have c256 : Tryz.prog.cellsOf 351 = 256 := by kernel_rfl
  have c2 : Tryz.prog.cellsOf 353 = 2 := by kernel_rfl
  refine ⟨fun c hc => ?_, fun i hi => ?_⟩
  · obtain ⟨g, t, cs, fuel, p, hg, hty, hvar, hd⟩ := h3
    obtain rfl := Option.some.inj ((show Tryz.prog.globalNamed "unicode/utf8.first" = some 3 by kernel_rfl).symm.trans hg)
    obtain rfl := Option.some.inj ((show (Tryz.prog.globals[3]?).map (·.type) = some 351 by kernel_rfl).symm.trans hty)
    have hcs := Lib.cells_of_tab Tryz.underlying351 Tryz.underlying5 c5 c256 hd
    have := World.var?_cell hg hvar c
    rw [this, ← Array.getElem?_toList, hcs]
    simp [Lib.firstTab, hc]
  · obtain ⟨g, t, cs, fuel, p, hg, hty, hvar, hd⟩ := h4
    obtain rfl := Option.some.inj ((show Tryz.prog.globalNamed "unicode/utf8.acceptRanges" = some 4 by kernel_rfl).symm.trans hg)
    obtain rfl := Option.some.inj ((show (Tryz.prog.globals[4]?).map (·.type) = some 354 by kernel_rfl).symm.trans hty)
    obtain ⟨fuel', d, q, hdi, he⟩ := Lib.array_elem Tryz.underlying354 hd i hi
    simp only [List.getElem?_map, List.getElem?_range hi, Option.map_some, Option.some.injEq] at hdi
    subst hdi
    rw [c2] at he
    have hcs := Lib.ints_of_struct Tryz.underlying353 (fun j f hj => by
      match j, hj with
      | 0, hj => simp at hj; subst hj; exact ⟨Tryz.underlying5, rfl, c5⟩
      | 1, hj => simp at hj; subst hj; exact ⟨Tryz.underlying5, rfl, c5⟩
      | j + 2, hj => simp at hj) (by rw [c2]; rfl) he
    have e0 := congrArg (·[0]?) hcs
    have e1 := congrArg (·[1]?) hcs
    simp only [List.getElem?_take, List.getElem?_drop] at e0 e1
    constructor
    · rw [World.var?_cell hg hvar (2 * i), ← Array.getElem?_toList]
      simpa [Nat.mul_comm] using e0
    · rw [World.var?_cell hg hvar (2 * i + 1), ← Array.getElem?_toList]
      simpa [Nat.mul_comm] using e1

/-- the five variables that the descriptors' rows list -/
def laidD : List (String × DataW Unit) := [("unicode/utf8.acceptRanges", Rows.laid_unicode_utf8_acceptRanges), ("pub-dialplate/pub/clientgolang/prometheus.errInconsistentCardinality", Rows.laid_pub_dialplate_pub_clientgolang_prometheus_errInconsistentCardinality), ("pub-dialplate/pub/clientgolang/prometheus.separatorByteSlice", Rows.laid_pub_dialplate_pub_clientgolang_prometheus_separatorByteSlice), ("pub-dialplate/pub/clientgolang/prometheus.V2", Rows.laid_pub_dialplate_pub_clientgolang_prometheus_V2), ("unicode/utf8.first", Rows.laid_unicode_utf8_first)]
set_option maxRecDepth 100000 in
theorem glob_of {W : World} (h : laidMetH Tryz.prog laidD W) : Glob W := by
  rw [_root_.Go.MakeChecks.laidMetH_plain Tryz.prog laidD W (by kernel_rfl)] at h
  exact ⟨tabs_of (Lib.laidMet.reads h (by unfold laidD; simp)) (Lib.laidMet.reads h (by unfold laidD; simp)), sep_of (Lib.laidMet.reads h (by unfold laidD; simp))⟩

section
variable {H : Type} {enc : TypeId × Value → H} {P : Program} {w : World} {base : Nat} {spare : Nat → Bool} {held : Bool}
theorem open_agg5 {r : Reach} {b0 : Nat} {t : TypeId} {f0 f1 f2 f3 f4 : Field} {v : Value} {d : DataW H} {p : List MemPlace} (hs : P.underlying t = some (.struct #[f0, f1, f2, f3, f4])) (hone : oneCellFields P #[f0, f1, f2, f3, f4] = true) (hC : P.cellsOf t = 5)
    (hv : Value.okWide P w r b0 t v) (h : DataW.Trod enc P w base spare held t v d p) :
    ∃ (v0 v1 v2 v3 v4 : Value) (y0 y1 y2 y3 y4 : DataW H × List MemPlace) (n : Nat), v = .agg #[v0, v1, v2, v3, v4] ∧ d = .agg [y0.1, y1.1, y2.1, y3.1, y4.1] ∧ p = y0.2 ++ (y1.2 ++ (y2.2 ++ (y3.2 ++ y4.2))) ∧
      DataW.trod enc P w base spare held n f0.type [v0] = some y0 ∧ DataW.trod enc P w base spare held n f1.type [v1] = some y1 ∧ DataW.trod enc P w base spare held n f2.type [v2] = some y2 ∧ DataW.trod enc P w base spare held n f3.type [v3] = some y3 ∧ DataW.trod enc P w base spare held n f4.type [v4] = some y4 := by
  obtain ⟨cs, rfl, hsz⟩ := okWide_struct hs hv
  obtain ⟨l⟩ := cs
  match l, hsz.trans hC with
  | [c0, c1, c2, c3, c4], _ =>
    obtain ⟨fuel, hf⟩ := h
    obtain ⟨xs, n, _, hx, _, hlen, hg⟩ := DataW.trod_struct hs hf
    obtain ⟨o0, k0⟩ := hone_of hone 0 f0 rfl
    obtain ⟨o1, k1⟩ := hone_of hone 1 f1 rfl
    obtain ⟨o2, k2⟩ := hone_of hone 2 f2 rfl
    obtain ⟨o3, k3⟩ := hone_of hone 3 f3 rfl
    obtain ⟨o4, k4⟩ := hone_of hone 4 f4 rfl
    match xs, hlen with
    | [y0, y1, y2, y3, y4], _ =>
      simp only [Prod.mk.injEq] at hx
      exact ⟨c0, c1, c2, c3, c4, y0, y1, y2, y3, y4, n, rfl, by simpa using hx.1, by simpa using hx.2, by simpa [Value.cells, o0, k0] using hg 0 f0 rfl, by simpa [Value.cells, o1, k1] using hg 1 f1 rfl, by simpa [Value.cells, o2, k2] using hg 2 f2 rfl, by simpa [Value.cells, o3, k3] using hg 3 f3 rfl, by simpa [Value.cells, o4, k4] using hg 4 f4 rfl⟩
end

theorem len_of (s : ByteArray) : s.data.toList.length = s.size := by rw [Array.length_toList]; rfl
set_option maxRecDepth 100000 in
theorem pairs_bulk {H : Type} {enc : TypeId × Value → H} {W : World} {base fuel : Nat} {held : Bool} {v : Value} {x : DataW H × List MemPlace}
    (h : DataW.trod enc Tryz.prog W base (fun _ => true) held fuel 45 [v] = some x) : ∃ L : List P2, Ss.Of 2 pc W v L ∧ wp L + 1 ≤ Rows.uptoBulk x.1 + 1 ∧ L.length ≤ Rows.uptoBulk x.1 := by
  have hv := Sl.slice_of Tryz.underlying45 h
  have h' : DataW.Trod enc Tryz.prog W base (fun _ => true) held 45 v x.1 x.2 := by
    obtain ⟨a, len, cap, rfl⟩ := hv
    exact ⟨fuel, h⟩
  obtain ⟨L, h1, hT, h2⟩ : ∃ L : List P2, Ss.Of 2 pc W v L ∧ (∀ z ∈ L, True) ∧ (L.map fun p => (p.1.size + 1) + (p.2.size + 1)).sum ≤ Rows.uptoBulk x.1 := by
    refine Ss.open_bulk0 2 pc pc_len (fun _ => True) (fun p => (p.1.size + 1) + (p.2.size + 1)) Tryz.underlying45 Tryz.underlying138 (by kernel_rfl) (by kernel_rfl) rfl (by decide) ?_ hv h'
    intro V ys hyl hV
    obtain ⟨n0, y0, g0, h0⟩ := hV 0 _ rfl
    obtain ⟨n1, y1, g1, h1⟩ := hV 1 _ rfl
    obtain ⟨s0, e0, x0, w0⟩ := DataW.trod_string Tryz.underlying9 h0
    obtain ⟨s1, e1, x1, w1⟩ := DataW.trod_string Tryz.underlying9 h1
    simp only [List.cons.injEq, and_true] at e0 e1
    refine ⟨(s0, s1), ?_, trivial, ?_⟩
    · intro j u hu
      match j, hu with
      | 0, hu => injection hu with hu; rw [e0, ← hu]
      | 1, hu => injection hu with hu; rw [e1, ← hu]
      | j + 2, hu => cases hu
    · have e : ys = [y0, y1] := by
        match ys, hyl, g0, g1 with
        | [a, b], _, g0, g1 => injection g0 with g0; injection g1 with g1; rw [g0, g1]
      rw [e, x0, x1]
      have z0 := len_of s0
      have z1 := len_of s1
      simp only [List.map_cons, List.map_nil, Rows.uptoBulkAll, Rows.uptoBulk]
      omega
  have hs : L.length ≤ wp L := by
    clear h1 h2 hT
    induction L with
    | nil => simp
    | cons p L ih => rw [wp_cons, List.length_cons]; omega
  have e : wp L = (L.map fun p => (p.1.size + 1) + (p.2.size + 1)).sum := rfl
  exact ⟨L, h1, by omega, by omega⟩
theorem wt_len (l : List ByteArray) : l.length ≤ wt l := by
  induction l with
  | nil => simp
  | cons x l ih => rw [wt_cons, List.length_cons]; omega
set_option maxRecDepth 100000 in
/-- an argument that is a descriptor's data, of bulk at most 1048576 -/
theorem meta_read {H : Type} {enc : TypeId × Value → H} {W : World} {base b0 : Nat} {held : Bool} {r : Reach} {v : Value} {d : DataW H} {p : List MemPlace}
    (hv : Value.okWide Tryz.prog W r b0 66 v) (h : DataW.Trod enc Tryz.prog W base (fun _ => true) held 66 v d p) (hb : Rows.uptoBulk d ≤ 1048576) :
    ∃ nm hp un V L, MetaAt W v nm hp un V L ∧ Small nm hp un V L ∧ nm.size + hp.size + un.size + wt V + wp L ≤ 1048576 := by
  obtain ⟨v0, v1, v2, v3, v4, y0, y1, y2, y3, y4, n, rfl, rfl, _, h0, h1, h2, h3, h4⟩ := open_agg5 Tryz.underlying66 (by kernel_rfl) (by kernel_rfl) hv h
  obtain ⟨s0, e0, x0, w0⟩ := DataW.trod_string Tryz.underlying9 h0
  obtain ⟨s1, e1, x1, w1⟩ := DataW.trod_string Tryz.underlying9 h1
  obtain ⟨s2, e2, x2, w2⟩ := DataW.trod_string Tryz.underlying9 h2
  simp only [List.cons.injEq, and_true] at e0 e1 e2
  subst e0 e1 e2
  obtain ⟨V, hV, hVs, hVb⟩ := Sl.open_strings_bulk0 Tryz.underlying64 Tryz.underlying9 (by kernel_rfl) h3
  obtain ⟨L, hL, hLb, hLl⟩ := pairs_bulk h4
  have hVw : wt V ≤ Rows.uptoBulk y3.1 := hVb
  have z0 := len_of s0
  have z1 := len_of s1
  have z2 := len_of s2
  have hl := wt_len V
  rw [x0, x1, x2] at hb
  simp only [Rows.uptoBulkAll, Rows.uptoBulk] at hb
  have hall : s0.size + s1.size + s2.size + wt V + wp L ≤ 1048576 := by omega
  refine ⟨s0, s1, s2, V, L, ⟨⟨v3, v4, rfl, hV, hL⟩, by omega, by omega, by omega, by omega, hVs, fun q hq => ?_⟩, ⟨by omega, by omega, by omega⟩, hall⟩
  have := mem_wp hq
  omega

end Go.Proofs.YtlolomodcbkblaaGreatDoor.Nd
