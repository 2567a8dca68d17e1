/- FnEndpoint: the path of an endpoint is that of the base and of the endpoint, with the arguments in place of their names. -/
import Derived.Test.YtkmfedmiaannfaaEpi
import Derived.Test.YtkmfedmiaannfaaSsB
import Derived.Test.YtkmfedmiaannfaaFits
import Derived.Test.YtkmfedmiaannfaaGrA
set_option linter.unusedVariables false
set_option linter.unusedSimpArgs false
namespace Go.Proofs.Ytkmfedmiaannfaa.Endpoint
open Go.RowKit Go.ChangeShapes Go.WideShapes Go.Deep Fp GrA Fits _root_.Go.Proofs.Ytkmfedmiaannfaa.Ep

theorem sum_part {α : Type} {f : α → Nat} : ∀ {zs : List α} {z : α}, z ∈ zs → f z ≤ (zs.map f).sum
  | [], z, h => by simp at h
  | y :: zs, z, h => by
    simp only [List.map_cons, List.sum_cons]
    rcases List.mem_cons.1 h with rfl | h
    · omega
    · have := sum_part (f := f) h; omega
theorem sum_len {α : Type} {f : α → Nat} (h : ∀ z, 1 ≤ f z) : ∀ zs : List α, zs.length ≤ (zs.map f).sum
  | [] => by simp
  | y :: zs => by
    have := sum_len h zs
    have := h y
    simp only [List.map_cons, List.sum_cons, List.length_cons]
    omega
def sz (z : ByteArray) : Nat := z.size + 1
def sp (p : P2) : Nat := p.1.size + p.2.size + 1
/-- a list of strings of bulk at most 1048576 -/
def Few (zs : List ByteArray) : Prop := (zs.map sz).sum ≤ 1048576
def FewP (zs : List P2) : Prop := (zs.map sp).sum ≤ 1048576
theorem Few.fit {zs : List ByteArray} (h : Few zs) : Fit2 zs :=
  ⟨Nat.le_trans (sum_len (f := sz) (fun z => by unfold sz; omega) zs) h, fun z hz => by have := Nat.le_trans (sum_part (f := sz) hz) h; unfold sz at this; omega⟩
theorem FewP.fit {zs : List P2} (h : FewP zs) : Fit1 zs :=
  ⟨Nat.le_trans (sum_len (f := sp) (fun z => by unfold sp; omega) zs) h, fun z hz => by have := Nat.le_trans (sum_part (f := sp) hz) h; unfold sp at this; omega⟩
theorem J_len : ∀ zs : List ByteArray, (J zs).length = (zs.map sz).sum
  | [] => rfl
  | z :: zs => by
    have ih := J_len zs
    have e : J (z :: zs) = 47 :: z.data.toList ++ J zs := rfl
    rw [e, List.length_append, List.length_cons, ih, List.map_cons, List.sum_cons, sz, Lib.size_eq]

set_option maxRecDepth 100000 in
theorem read0 {H : Type} {enc : TypeId × Value → H} {W : World} {base b0 : Nat} {held : Bool} {r : Reach} {v : Value} {d : DataW H} {p : List MemPlace}
    (hv : Value.okWide Try.prog W r b0 22 v) (h : DataW.Trod enc Try.prog W base (fun _ => true) held 22 v d p) (hb : Rows.uptoBulk d ≤ 1048576) : ∃ zs : List ByteArray, Sl.Of Value.string W v zs ∧ Few zs := by
  obtain ⟨zs, h1, _, h2⟩ := Sl.open_strings_bulk Try.underlying22 Try.underlying9 (by kernel_rfl) hv h
  exact ⟨zs, h1, Nat.le_trans h2 hb⟩
set_option maxRecDepth 100000 in
theorem read1 {H : Type} {enc : TypeId × Value → H} {W : World} {base b0 : Nat} {held : Bool} {r : Reach} {v : Value} {d : DataW H} {p : List MemPlace}
    (hv : Value.okWide Try.prog W r b0 22 v) (h : DataW.Trod enc Try.prog W base (fun _ => true) held 22 v d p) (hb : Rows.uptoBulk d ≤ 1048576) : ∃ zs : List ByteArray, Sl.Of Value.string W v zs ∧ Few zs := read0 hv h hb
set_option maxRecDepth 100000 in
theorem read2 {H : Type} {enc : TypeId × Value → H} {W : World} {base b0 : Nat} {held : Bool} {r : Reach} {v : Value} {d : DataW H} {p : List MemPlace}
    (hv : Value.okWide Try.prog W r b0 53 v) (h : DataW.Trod enc Try.prog W base (fun _ => true) held 53 v d p) (hb : Rows.uptoBulk d ≤ 1048576) : ∃ zs : List P2, Ss.Of 2 pc W v zs ∧ FewP zs := by
  obtain ⟨zs, h1, _, h2⟩ : ∃ zs : List P2, Ss.Of 2 pc W v zs ∧ (∀ z ∈ zs, True) ∧ (zs.map sp).sum ≤ Rows.uptoBulk d := by
    refine Ss.open_bulk 2 pc pc_len (fun _ => True) sp Try.underlying53 Try.underlying105 (by kernel_rfl) (by kernel_rfl) rfl (by decide) ?_ hv h
    intro V ys hyl hV
    obtain ⟨n0, y0, g0, h0⟩ := hV 0 _ rfl
    obtain ⟨n1, y1, g1, h1⟩ := hV 1 _ rfl
    obtain ⟨s0, e0, x0, w0⟩ := DataW.trod_string Try.underlying9 h0
    obtain ⟨s1, e1, x1, w1⟩ := DataW.trod_string Try.underlying9 h1
    simp only [List.cons.injEq, and_true] at e0 e1
    refine ⟨(s0, s1), ?_, trivial, ?_⟩
    · intro j u hu
      match j, hu with
      | 0, hu => injection hu with hu; rw [e0, ← hu]
      | 1, hu => injection hu with hu; rw [e1, ← hu]
      | j + 2, hu => cases hu
    · have e : ys = [y0, y1] := by
        match ys, hyl, g0, g1 with
        | [a, b], _, g0, g1 => injection g0 with g0; injection g1 with g1; rw [g0, g1]
      rw [e, x0, x1]
      have z0 : s0.data.toList.length = s0.size := by rw [Array.length_toList]; rfl
      have z1 : s1.data.toList.length = s1.size := by rw [Array.length_toList]; rfl
      simp only [List.map_cons, List.map_nil, Rows.uptoBulkAll, Rows.uptoBulk, sp]
      omega
  exact ⟨zs, h1, Nat.le_trans h2 hb⟩

theorem last47 {zs : List ByteArray} (hz : ∀ z ∈ zs, word z = true) : ∀ h : 0 < (mk (J zs)).size, (((mk (J zs))[(mk (J zs)).size - 1]'(by omega)).toNat : Int) ≠ 47 := by
  have gen : ∀ (l A : List UInt8) (c : UInt8), l = A ++ [c] → ∀ h : 0 < (mk l).size, (mk l)[(mk l).size - 1]'(by omega) = c := by
    intro l A c e h
    subst e
    show (A ++ [c])[(A ++ [c]).length - 1]'(by simp) = c
    simp
  intro h
  have hne : zs ≠ [] := by
    intro e
    subst e
    exact absurd h (by decide)
  obtain ⟨D, z, rfl⟩ : ∃ D z, zs = D ++ [z] := ⟨zs.dropLast, zs.getLast hne, (List.dropLast_concat_getLast hne).symm⟩
  obtain ⟨hw1, hw2⟩ := (wordB_iff _).1 (hz z (by simp))
  obtain ⟨Z, c, hzc⟩ : ∃ Z c, z.data.toList = Z ++ [c] := ⟨_, _, (List.dropLast_concat_getLast hw1).symm⟩
  have e := J_snoc D z
  rw [hzc] at e
  rw [gen (J (D ++ [z])) (J D ++ 47 :: Z) c (by rw [e]; simp) h]
  have := (hw2 c (by rw [hzc]; simp)).1
  omega

set_option maxHeartbeats 8000000 in
set_option maxRecDepth 100000 in
theorem law_any (v v1 v2 : Value) (w : World) (hv : ∃ zs : List ByteArray, Sl.Of Value.string w v zs ∧ Few zs) (hv1 : ∃ zs : List ByteArray, Sl.Of Value.string w v1 zs ∧ Few zs) (hv2 : ∃ zs : List P2, Ss.Of 2 pc w v2 zs ∧ FewP zs) :
    Calls Try.prog 8 #[v, v1, v2] w fun e w' => e = .returned (.bool true) ∧ Below w.heap.size w w' := by
  obtain ⟨bs, hof, hf⟩ := hv
  obtain ⟨es, hof1, hf1⟩ := hv1
  obtain ⟨args, hof2, hf2⟩ := hv2
  have fb := hf.fit
  have fe := hf1.fit
  have fa := hf2.fit
  have CF1 := Lib.hid (fits3_any v bs w hof (by have := fb.1; omega) (fun z hz => by have := fb.2 z hz; omega))
  have CF2 := Lib.hid (fits3_any v1 es w hof1 (by have := fe.1; omega) (fun z hz => by have := fe.2 z hz; omega))
  have CF3 := Lib.hid (fits5_any args v2 w hof2 (by have := fa.1; omega) (fun p hp => by have := fa.2 p hp; omega))
  have CA := Lib.hid awake_any
  have HO := Lib.hid hof
  have HO1 := Lib.hid hof1
  have HO2 := Lib.hid hof2
  have FB := Lib.hid fb
  have FE := Lib.hid fe
  have FA := Lib.hid fa
  have hjb : (J bs).length ≤ 1048576 := by rw [J_len]; exact hf
  have hje : (J es).length ≤ 1048576 := by rw [J_len]; exact hf1
  clear hof hof1 hof2 hf hf1 hf2 fb fe fa
  go_enter Try.func8, Try.ntmps8
  go_wp2_with fail
  refine CF1.out.mono ?_
  rintro e w1 ⟨rfl, rfl⟩
  go_wp2_with fail
  refine CF2.out.mono ?_
  rintro e w1 ⟨rfl, rfl⟩
  go_wp2_with fail
  refine CF3.out.mono ?_
  rintro e w1 ⟨rfl, hb1⟩
  have HB1 := Lib.hid hb1
  have CE := Lib.hid (end_any bs es args v v1 v2 w1 (below_strs HO.out hb1) (below_strs HO1.out hb1) (HO2.out.below hb1) FB.out FE.out FA.out)
  clear hb1 CF1 CF2 CF3
  go_wp2_with fail
  refine CE.out.mono ?_
  rintro e w2 ⟨t, ok, rfl, hs, hb2⟩
  have HB2 : Hid (Below w.heap.size w w2) := HB1.out.trans (hb2.mono HB1.out.size)
  have HS := Lib.hid hs
  clear hs hb2 CE HB1
  cases ok with
  | false =>
    go_wp2_with fail
    refine (CA.out _).mono ?_
    rintro e w3 ⟨rfl, hb3⟩
    have hb4 := HB2.out.trans (hb3.mono HB2.out.size)
    clear hb3
    go_wp2_with fail
    go_ret
    exact ⟨rfl, hb4⟩
  | true =>
    have hsd := HS.out rfl
    have HU : Hid (([47] : List UInt8).intercalate ((Lib.Pa.els (Lib.Pa.join [J bs, J es])).map (put args)) = t.data.toList) := url_law hsd
    have HL7 := Lib.hid (last47 hsd.2.1)
    clear hsd HS
    have CJ1 := Lib.hid (join_any bs v w2 (below_strs HO.out HB2.out) (by omega) (by have := FB.out.1; omega))
    have CJ2 := Lib.hid (join_any es v1 w2 (below_strs HO1.out HB2.out) (by omega) (by have := FE.out.1; omega))
    have CP := Lib.hid (pairsTo_any args v2 w2 (HO2.out.below HB2.out) (by have := FA.out.1; omega))
    go_wp2_with fail
    refine CJ1.out.mono ?_
    rintro e w3 ⟨rfl, rfl⟩
    go_wp2_with fail
    refine CJ2.out.mono ?_
    rintro e w3 ⟨rfl, rfl⟩
    go_wp2_with fail
    refine CP.out.mono ?_
    rintro e w3 ⟨v3, rfl, hp, hb3⟩
    have HB3 : Hid (Below w.heap.size w w3) := HB2.out.trans (hb3.mono HB2.out.size)
    have CI := Lib.hid (impl_any args (mk (J bs)) (mk (J es)) v3 w3 hp FA.out (by rw [size_mk]; omega) (by rw [size_mk]; omega) HL7.out)
    clear hp hb3 CJ1 CJ2 CP HL7
    go_wp2_with fail
    refine CI.out.mono ?_
    rintro e w4 ⟨rfl, hb4⟩
    have HB4 : Hid (Below w.heap.size w w4) := HB3.out.trans (hb4.mono HB3.out.size)
    have eT : mk (([47] : List UInt8).intercalate ((Lib.Pa.els (Lib.Pa.join [(mk (J bs)).data.toList, (mk (J es)).data.toList])).map (put args))) = t := by
      rw [data_mk, data_mk, HU.out, mk_data]
    rw [eT]
    have hself : (t.toList == t.toList) = true := beq_self_eq_true _
    clear hb4 eT CI HU
    go_wp2_with fail
    refine (CA.out _).mono ?_
    rintro e w5 ⟨rfl, hb5⟩
    have hb6 := HB4.out.trans (hb5.mono HB4.out.size)
    clear hb5
    go_wp2_with fail
    go_ret
    exact ⟨rfl, hb6⟩

end Go.Proofs.Ytkmfedmiaannfaa.Endpoint
