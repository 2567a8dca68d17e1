/- Names of runtime metrics: the walks of RuntimeMetricsToProm and of the thin package. -/
import Derived.Test.YtkmfedmiaannfaaRtx
import Derived.Test.YtkmfedmiaannfaaShPath
set_option linter.unusedVariables false
set_option linter.unusedSimpArgs false
namespace Go.Proofs.Ytkmfedmiaannfaa.Rt
open Go.RowKit Zix

def Ok (A us : List (List UInt8)) (x : List UInt8) : Prop := A ≠ [] ∧ (∀ a ∈ A, Good a) ∧ Good x ∧ (∀ a ∈ us, Good a)
def key (A : List (List UInt8)) (x : List UInt8) : List UInt8 := 47 :: J [47] (A ++ [x])
def nameOf (A us : List (List UInt8)) (x : List UInt8) : List UInt8 := key A x ++ 58 :: J [47] us
def okB (kind : Int) : Bool := kind == 1 || kind == 2 || kind == 3
def Prom (A us : List (List UInt8)) (x : List UInt8) (cum : Bool) (kind : Int) (w : World) (e : Ending) (w' : World) : Prop :=
  e = .returned (.tuple #[.string ⟨#[103, 111]⟩, .string ⟨(J [95] (A.map line)).toArray⟩, .string ⟨(rest x us ++ tl cum kind).toArray⟩, .bool (okB kind)]) ∧ Below w.heap.size w w'

theorem J_one_len : ∀ (s : List UInt8) (A : List (List UInt8)), (J s (A.map line)).length = (J s A).length
  | s, [] => rfl
  | s, [a] => by rw [List.map_singleton, J_one, J_one, line_len]
  | s, a :: b :: r => by
    have ih := J_one_len s (b :: r)
    rw [List.map_cons] at ih
    rw [List.map_cons, List.map_cons, J_cons, J_cons]
    simp only [List.length_append, line_len, ih]
theorem flat_len {f : UInt8 → List UInt8} {m : Nat} (h : ∀ c, (f c).length ≤ m) : ∀ l : List UInt8, (l.flatMap f).length ≤ m * l.length
  | [] => by simp
  | c :: l => by
    have := flat_len h l
    have h1 := h c
    rw [List.flatMap_cons, List.length_append, List.length_cons, Nat.mul_add]
    omega
theorem sub1_len (c : UInt8) (new : List UInt8) (hn : 1 ≤ new.length) (b : UInt8) : (sub1 c new b).length ≤ new.length := by
  unfold sub1; split
  · exact Nat.le_refl _
  · exact hn
theorem repl_len (c : UInt8) (new l : List UInt8) (hn : 1 ≤ new.length) : (replAll [c] new l).length ≤ new.length * l.length := by
  rw [repl_sub1]; exact flat_len (sub1_len c new hn) l

theorem key_no {A : List (List UInt8)} {x : List UInt8} (hA : ∀ a ∈ A, Good a) (hx : Good x) : ∀ c ∈ key A x, c ≠ 58 := by
  intro c hc
  unfold key at hc
  rcases List.mem_cons.1 hc with rfl | hc
  · decide
  · rcases J_mem hc with hc | ⟨a, ha, hc⟩
    · have : c = 47 := by simpa using hc
      rw [this]; decide
    · rcases List.mem_append.1 ha with ha | ha
      · exact pb_ne ((hA a ha).2 c hc) (by decide)
      · rw [List.mem_singleton.1 ha] at hc
        exact pb_ne (hx.2 c hc) (by decide)
theorem split_name {A us : List (List UInt8)} {x : List UInt8} (hA : ∀ a ∈ A, Good a) (hx : Good x) : split2 [58] (nameOf A us x) = [⟨(key A x).toArray⟩, ⟨(J [47] us).toArray⟩] := by
  have hi : idx (nameOf A us x) [58] = ((key A x).length : Int) := idx_app (key_no hA hx)
  unfold split2
  rw [hi, if_neg (by omega), Int.toNat_natCast]
  unfold nameOf
  have e1 : (key A x ++ 58 :: J [47] us).take (key A x).length = key A x := List.take_left' rfl
  have e2 : (key A x ++ 58 :: J [47] us).drop ((key A x).length + [(58 : UInt8)].length) = J [47] us := by
    rw [show key A x ++ 58 :: J [47] us = (key A x ++ [58]) ++ J [47] us by simp]
    exact List.drop_left' (by simp)
  rw [e1, e2]

/-- a call of zzReplaceAll of one letter -/
theorem rep1 (c : UInt8) (new : List UInt8) (s t : ByteArray) (l : List UInt8) (hn : 1 ≤ new.length) (hn5 : new.length ≤ 5) (hs : s.data.toList = l) (hl : l.length ≤ 268435456) (ht : t.data.toList = l.flatMap (sub1 c new)) (w : World) :
    Calls Try.prog 74 #[.string s, .string ⟨#[c]⟩, .string ⟨new.toArray⟩] w fun e w' => e = .returned (.string t) ∧ Below w.heap.size w w' := by
  have hb := repl_len c new l hn
  have hb2 : new.length * l.length ≤ 5 * l.length := Nat.mul_le_mul_right _ hn5
  have h := replace_any s ⟨#[c]⟩ ⟨new.toArray⟩ (by rw [Lib.size_eq, hs]; omega) (by show 0 < 1; decide) (by show 1 ≤ 1048576; decide) (by rw [hs]; show (replAll [c] new l).length ≤ _; omega) w
  have e : (⟨(replAll (⟨#[c]⟩ : ByteArray).data.toList (⟨new.toArray⟩ : ByteArray).data.toList s.data.toList).toArray⟩ : ByteArray) = t := by
    apply (of_list _).symm
    rw [ht, hs]
    exact (repl_sub1 c new l).symm
  refine h.mono ?_
  rintro e1 w1 ⟨rfl, hb⟩
  exact ⟨by rw [e], hb⟩

/-- the check of the whole name -/
theorem legacyOf (D N : ByteArray) (hD : D.size ≤ 268435456) (hN : N.size ≤ 268435456) (hv : Valid ([103, 111, 95] ++ (D.data.toList ++ (95 :: N.data.toList)))) (w : World) :
    Calls Try.prog 75 #[.string ((⟨#[103, 111]⟩ : ByteArray) ++ ⟨#[95]⟩ ++ D ++ ⟨#[95]⟩ ++ N)] w fun e w' => e = .returned (.bool true) ∧ w = w' := by
  refine legacy_any _ ?_ ?_ w
  · simp only [ByteArray.size_append]
    have e1 : (⟨#[103, 111]⟩ : ByteArray).size = 2 := rfl
    have e2 : (⟨#[95]⟩ : ByteArray).size = 1 := rfl
    omega
  · have e : ((⟨#[103, 111]⟩ : ByteArray) ++ ⟨#[95]⟩ ++ D ++ ⟨#[95]⟩ ++ N).data.toList = [103, 111, 95] ++ (D.data.toList ++ (95 :: N.data.toList)) := by
      simp
    rw [e]; exact hv
theorem promOf {A us : List (List UInt8)} {x : List UInt8} {cum : Bool} {kind : Int} {w w' : World} {D N : ByteArray} {ok : Bool} (hD : D = ⟨(J [95] (A.map line)).toArray⟩) (hN : N.data.toList = rest x us ++ tl cum kind) (hok : ok = okB kind) (hb : Below w.heap.size w w') :
    Prom A us x cum kind w (.returned (.tuple #[.string ⟨#[103, 111]⟩, .string D, .string N, .bool ok])) w' :=
  ⟨by rw [hD, of_list hN, hok], hb⟩

set_option maxHeartbeats 16000000 in
set_option maxRecDepth 100000 in
theorem prom_any (A us : List (List UInt8)) (x : List UInt8) (h : Ok A us x) (cum : Bool) (kind : Int) (b : Nat) (w : World) (hb : b < w.heap.size) (hl : (nameOf A us x).length ≤ 16777216)
    (c0 : w.cell? ⟨b, 0, none⟩ = some (.string ⟨(nameOf A us x).toArray⟩)) (c1 : w.cell? ⟨b, 1, none⟩ = some (.int .i64 kind)) (c2 : w.cell? ⟨b, 2, none⟩ = some (.bool cum)) :
    Calls Try.prog 43 #[.pointer (some ⟨b, 0, none⟩)] w (Prom A us x cum kind w) := by
  obtain ⟨h0, hA, hx, hu⟩ := h
  have hlen : (key A x).length + (1 + (J [47] us).length) ≤ 16777216 := by
    have := hl
    unfold nameOf at this
    rw [List.length_append, List.length_cons] at this
    omega
  -- the texts on the way
  obtain ⟨K, hK⟩ : ∃ K : ByteArray, K = ⟨(key A x).toArray⟩ := ⟨_, rfl⟩
  obtain ⟨U, hU⟩ : ∃ U : ByteArray, U = ⟨(J [47] us).toArray⟩ := ⟨_, rfl⟩
  have hKd : K.data.toList = key A x := by rw [hK]
  have hUd : U.data.toList = J [47] us := by rw [hU]
  have hks : 1 ≤ K.size ∧ K.size ≤ 16777216 := by rw [size_of hKd]; exact ⟨by show 1 ≤ (J [47] (A ++ [x])).length + 1; omega, by omega⟩
  have hjs : (J [47] (A ++ [x])).length + 1 ≤ 16777216 := by have : (key A x).length = (J [47] (A ++ [x])).length + 1 := rfl; omega
  have CS := fun w => split_any (nameOf A us x) ⟨#[58]⟩ (by omega) (by show 0 < 1; decide) (by show 1 ≤ 1048576; decide) w
  have hsp : split2 (⟨#[58]⟩ : ByteArray).data.toList (nameOf A us x) = [K, U] := by rw [hK, hU]; exact split_name hA hx
  rw [hsp] at CS
  have hcut : (K.extract 1 K.size).data.toList = J [47] (A ++ [x]) := by
    rw [Lib.Pa.extract_from]
    show K.data.toList.drop 1 = _
    rw [hKd]; rfl
  obtain ⟨D0, hD0⟩ : ∃ D : ByteArray, D = ⟨(J [47] A).toArray⟩ := ⟨_, rfl⟩
  have CD := fun w => Sh.path_Dir_rules (K.extract 1 K.size) w (by rw [size_of hcut]; omega)
  rw [hcut, dir_eq h0 hA hx, ← hD0] at CD
  obtain ⟨X, hX⟩ : ∃ X : ByteArray, X = ⟨x.toArray⟩ := ⟨_, rfl⟩
  have CB := fun w => Sh.path_Base K w (by omega)
  have hbase : Lib.Pa.base K.data.toList = x := by rw [hKd]; exact base_eq h0 hx
  rw [hbase, ← hX] at CB
  have hsn := J_snoc [47] x h0
  have hDl : (J [47] A).length ≤ 16777216 := by rw [hsn, List.length_append] at hjs; omega
  have hXl : x.length ≤ 16777216 := by rw [hsn, List.length_append, List.length_append] at hjs; omega
  obtain ⟨D1, hD1⟩ : ∃ D : ByteArray, D = ⟨((J [47] A).flatMap (sub1 47 [95])).toArray⟩ := ⟨_, rfl⟩
  obtain ⟨D2, hD2⟩ : ∃ D : ByteArray, D = ⟨(J [95] (A.map line)).toArray⟩ := ⟨_, rfl⟩
  have l1 := flat_len (sub1_len 47 [95] (by decide)) (J [47] A)
  have R1 := fun w => rep1 47 [95] D0 D1 (J [47] A) (by decide) (by decide) (by rw [hD0]) (by omega) (by rw [hD1]) w
  have R2 := fun w => rep1 45 [95] D1 D2 ((J [47] A).flatMap (sub1 47 [95])) (by decide) (by decide) (by rw [hD1]) (by simp only [List.length_singleton] at l1; omega) (by rw [hD2, sub_eq hA]) w
  obtain ⟨U1, hU1⟩ : ∃ D : ByteArray, D = ⟨((J [47] us).flatMap (sub1 45 [95])).toArray⟩ := ⟨_, rfl⟩
  obtain ⟨U2, hU2⟩ : ∃ D : ByteArray, D = ⟨(((J [47] us).flatMap (sub1 45 [95])).flatMap (sub1 42 [95])).toArray⟩ := ⟨_, rfl⟩
  obtain ⟨U3, hU3⟩ : ∃ D : ByteArray, D = ⟨(J [95, 112, 101, 114, 95] (us.map line)).toArray⟩ := ⟨_, rfl⟩
  have m1 := flat_len (sub1_len 45 [95] (by decide)) (J [47] us)
  have m2 := flat_len (sub1_len 42 [95] (by decide)) ((J [47] us).flatMap (sub1 45 [95]))
  have m3 := flat_len (sub1_len 47 [95, 112, 101, 114, 95] (by decide)) (((J [47] us).flatMap (sub1 45 [95])).flatMap (sub1 42 [95]))
  simp only [List.length_singleton, List.length_cons, List.length_nil] at l1 m1 m2 m3
  have R3 := fun w => rep1 45 [95] U U1 (J [47] us) (by decide) (by decide) hUd (by omega) (by rw [hU1]) w
  have R4 := fun w => rep1 42 [95] U1 U2 ((J [47] us).flatMap (sub1 45 [95])) (by decide) (by decide) (by rw [hU1]) (by omega) (by rw [hU2]) w
  have R5 := fun w => rep1 47 [95, 112, 101, 114, 95] U2 U3 (((J [47] us).flatMap (sub1 45 [95])).flatMap (sub1 42 [95])) (by decide) (by decide) (by rw [hU2]) (by omega) (by rw [hU3, unit_eq hu]) w
  obtain ⟨X1, hX1⟩ : ∃ D : ByteArray, D = ⟨(line x).toArray⟩ := ⟨_, rfl⟩
  have R6 := fun w => rep1 45 [95] X X1 x (by decide) (by decide) (by rw [hX]) (by omega) (by rw [hX1]; rfl) w
  have zU3 : U3.size ≤ 83886080 := by rw [size_of (show U3.data.toList = J [95, 112, 101, 114, 95] (us.map line) by rw [hU3]), ← unit_eq hu]; omega
  have zX1 : X1.size ≤ 16777216 := by rw [hX1]; show (line x).length ≤ _; rw [line_len]; omega
  have zD2 : D2.size ≤ 16777216 := by rw [hD2]; show (J [95] (A.map line)).length ≤ _; rw [← sub_eq hA]; have := flat_len (sub1_len 45 [95] (by decide)) ((J [47] A).flatMap (sub1 47 [95])); simp only [List.length_singleton] at this; omega
  have hU3d : U3.data.toList = J [95, 112, 101, 114, 95] (us.map line) := by rw [hU3]
  have hX1d : X1.data.toList = line x := by rw [hX1]
  have hD2d : D2.data.toList = J [95] (A.map line) := by rw [hD2]
  have hrest : ∀ t : List UInt8, X1.data.toList ++ (95 :: U3.data.toList) ++ t = rest x us ++ t := by intro t; rw [hX1d, hU3d]; rfl
  have hval : ∀ t : List UInt8, (∀ c ∈ t, lb c = true) → Valid ([103, 111, 95] ++ (D2.data.toList ++ (95 :: (X1.data.toList ++ (95 :: U3.data.toList) ++ t)))) := by
    intro t ht
    rw [hrest, hD2d]
    exact valid_eq hA hx hu ht
  have HR1 := Lib.hid R1
  have HR2 := Lib.hid R2
  have HR3 := Lib.hid R3
  have HR4 := Lib.hid R4
  have HR5 := Lib.hid R5
  have HR6 := Lib.hid R6
  have HCS := Lib.hid CS
  have HCD := Lib.hid CD
  have HCB := Lib.hid CB
  have HRest := Lib.hid hrest
  have HVal := Lib.hid hval
  have HD2 := Lib.hid hD2
  have hk1 := hks.1
  have hk2 := hks.2
  clear R1 R2 R3 R4 R5 R6 CS CD CB l1 m1 m2 m3 hU3d hX1d hD2d hrest hval hD2 hU3 hX1 hU1 hU2 hD1 hX hK hU hKd hUd hks hjs hsp hcut hD0 hbase hsn hDl hXl hlen hl h0 hA hx hu
  go_enter Try.func43, Try.ntmps43
  go_wp2_with fail
  refine (HCS.out _).mono ?_
  rintro e w1 ⟨v, rfl, hof, hb1⟩
  rcases hof with ⟨hn, _⟩ | ⟨b2, off, cap, rfl, g0, hcap, hm, hbb, hcell⟩
  · cases hn
  have d0 : w1.cell? ⟨b2, off, none⟩ = some (.string K) := hcell 0 (by simp)
  have d1 : w1.cell? ⟨b2, off + 1, none⟩ = some (.string U) := hcell 1 (by simp)
  have e1 : w1.cell? ⟨b, 1, none⟩ = some (.int .i64 kind) := by rw [hb1.cell (p := ⟨b, 1, none⟩) hb]; exact c1
  have e2 : w1.cell? ⟨b, 2, none⟩ = some (.bool cum) := by rw [hb1.cell (p := ⟨b, 2, none⟩) hb]; exact c2
  have hbw : b < w1.heap.size := Nat.lt_of_lt_of_le hb hb1.size
  have HB1 := Lib.hid hb1
  clear hcell c0 c1 c2 hb1 g0 hcap hm hb
  go_wp2_with fail
  refine (HCD.out _).mono ?_
  rintro e w2 ⟨rfl, hb2⟩
  have hb2' := HB1.out.trans (hb2.mono HB1.out.size)
  have f1 : w2.cell? ⟨b, 1, none⟩ = some (.int .i64 kind) := by rw [hb2.cell (p := ⟨b, 1, none⟩) hbw]; exact e1
  have f2 : w2.cell? ⟨b, 2, none⟩ = some (.bool cum) := by rw [hb2.cell (p := ⟨b, 2, none⟩) hbw]; exact e2
  have hbw2 := Nat.lt_of_lt_of_le hbw hb2.size
  have HB2 := Lib.hid hb2'
  clear e1 e2 hb2 hb2' hbw d0 d1 hbb
  go_wp2_with fail
  refine (HCB.out _).mono ?_
  rintro e w3 ⟨rfl, rfl⟩
  go_wp2_with fail
  refine (HR1.out _).mono ?_
  rintro e w4 ⟨rfl, hb4⟩
  have hb4' := HB2.out.trans (hb4.mono HB2.out.size)
  have e1 : w4.cell? ⟨b, 1, none⟩ = some (.int .i64 kind) := by rw [hb4.cell (p := ⟨b, 1, none⟩) hbw2]; exact f1
  have e2 : w4.cell? ⟨b, 2, none⟩ = some (.bool cum) := by rw [hb4.cell (p := ⟨b, 2, none⟩) hbw2]; exact f2
  have hbw4 := Nat.lt_of_lt_of_le hbw2 hb4.size
  have HB4 := Lib.hid hb4'
  clear f1 f2 hb4 hb4' hbw2
  go_wp2_with fail
  refine (HR2.out _).mono ?_
  rintro e w5 ⟨rfl, hb5⟩
  have hb5' := HB4.out.trans (hb5.mono HB4.out.size)
  have f1 : w5.cell? ⟨b, 1, none⟩ = some (.int .i64 kind) := by rw [hb5.cell (p := ⟨b, 1, none⟩) hbw4]; exact e1
  have f2 : w5.cell? ⟨b, 2, none⟩ = some (.bool cum) := by rw [hb5.cell (p := ⟨b, 2, none⟩) hbw4]; exact e2
  have hbw5 := Nat.lt_of_lt_of_le hbw4 hb5.size
  have HB5 := Lib.hid hb5'
  clear e1 e2 hb5 hb5' hbw4
  go_wp2_with fail
  refine (HR3.out _).mono ?_
  rintro e w6 ⟨rfl, hb6⟩
  have hb6' := HB5.out.trans (hb6.mono HB5.out.size)
  have e1 : w6.cell? ⟨b, 1, none⟩ = some (.int .i64 kind) := by rw [hb6.cell (p := ⟨b, 1, none⟩) hbw5]; exact f1
  have e2 : w6.cell? ⟨b, 2, none⟩ = some (.bool cum) := by rw [hb6.cell (p := ⟨b, 2, none⟩) hbw5]; exact f2
  have hbw6 := Nat.lt_of_lt_of_le hbw5 hb6.size
  have HB6 := Lib.hid hb6'
  clear f1 f2 hb6 hb6' hbw5
  go_wp2_with fail
  refine (HR4.out _).mono ?_
  rintro e w7 ⟨rfl, hb7⟩
  have hb7' := HB6.out.trans (hb7.mono HB6.out.size)
  have f1 : w7.cell? ⟨b, 1, none⟩ = some (.int .i64 kind) := by rw [hb7.cell (p := ⟨b, 1, none⟩) hbw6]; exact e1
  have f2 : w7.cell? ⟨b, 2, none⟩ = some (.bool cum) := by rw [hb7.cell (p := ⟨b, 2, none⟩) hbw6]; exact e2
  have hbw7 := Nat.lt_of_lt_of_le hbw6 hb7.size
  have HB7 := Lib.hid hb7'
  clear e1 e2 hb7 hb7' hbw6
  go_wp2_with fail
  refine (HR5.out _).mono ?_
  rintro e w8 ⟨rfl, hb8⟩
  have hb8' := HB7.out.trans (hb8.mono HB7.out.size)
  have e1 : w8.cell? ⟨b, 1, none⟩ = some (.int .i64 kind) := by rw [hb8.cell (p := ⟨b, 1, none⟩) hbw7]; exact f1
  have e2 : w8.cell? ⟨b, 2, none⟩ = some (.bool cum) := by rw [hb8.cell (p := ⟨b, 2, none⟩) hbw7]; exact f2
  have hbw8 := Nat.lt_of_lt_of_le hbw7 hb8.size
  have HB8 := Lib.hid hb8'
  clear f1 f2 hb8 hb8' hbw7
  go_wp2_with fail
  refine (HR6.out _).mono ?_
  rintro e w9 ⟨rfl, hb9⟩
  have hb9' := HB8.out.trans (hb9.mono HB8.out.size)
  have f1 : w9.cell? ⟨b, 1, none⟩ = some (.int .i64 kind) := by rw [hb9.cell (p := ⟨b, 1, none⟩) hbw8]; exact e1
  have f2 : w9.cell? ⟨b, 2, none⟩ = some (.bool cum) := by rw [hb9.cell (p := ⟨b, 2, none⟩) hbw8]; exact e2
  have HB9 := Lib.hid hb9'
  clear e1 e2 hb9 hb9' hbw8 HR1 HR2 HR3 HR4 HR5 HR6 HCS HCD HCB
  cases cum with
  | false =>
    have hN : (X1 ++ ((⟨#[95]⟩ : ByteArray) ++ U3)).data.toList = rest x us ++ tl false kind := by
      rw [← HRest.out]; simp [tl]
    have hv := HVal.out ([]) (by decide)
    have hNs : (X1 ++ ((⟨#[95]⟩ : ByteArray) ++ U3)).size ≤ 268435456 := by
      have e2 : (⟨#[95]⟩ : ByteArray).size = 1 := rfl
      have e6 : (⟨#[95, 116, 111, 116, 97, 108]⟩ : ByteArray).size = 6 := rfl
      simp only [ByteArray.size_append]
      omega
    have CL := fun w => legacyOf D2 (X1 ++ ((⟨#[95]⟩ : ByteArray) ++ U3)) (by omega) hNs (by rw [hN, ← HRest.out]; simpa [tl] using hv) w
    have HCL := Lib.hid CL
    have HN := Lib.hid hN
    clear hv hNs CL hN
    go_wp2_with fail
    refine (HCL.out _).mono ?_
    rintro e wx ⟨rfl, rfl⟩
    cases k1 : kind == 1 <;> cases k2 : kind == 2 <;> cases k3 : kind == 3
    all_goals
      have HP := fun ok hok => promOf (ok := ok) (cum := false) HD2.out HN.out hok HB9.out
      have HPP := Lib.hid HP
      have hok : okB kind = ((kind == 1) || (kind == 2) || (kind == 3)) := rfl
      rw [k1, k2, k3] at hok
      have Hok := Lib.hid hok
      clear HP hok
      go_wp2
      exact bodyPost_ret (v := .tuple #[.string ⟨#[103, 111]⟩, .string D2, .string (X1 ++ ((⟨#[95]⟩ : ByteArray) ++ U3)), .bool _]) (by simp [results, Try.results43, go_sem]) rfl (HPP.out _ Hok.out.symm)
  | true =>
    cases hkd : kind != 3 with
    | false =>
      have hN : (X1 ++ ((⟨#[95]⟩ : ByteArray) ++ U3)).data.toList = rest x us ++ tl true kind := by
        rw [← HRest.out]; simp [tl, hkd]
      have hv := HVal.out ([]) (by decide)
      have hNs : (X1 ++ ((⟨#[95]⟩ : ByteArray) ++ U3)).size ≤ 268435456 := by
        have e2 : (⟨#[95]⟩ : ByteArray).size = 1 := rfl
        have e6 : (⟨#[95, 116, 111, 116, 97, 108]⟩ : ByteArray).size = 6 := rfl
        simp only [ByteArray.size_append]
        omega
      have CL := fun w => legacyOf D2 (X1 ++ ((⟨#[95]⟩ : ByteArray) ++ U3)) (by omega) hNs (by rw [hN, ← HRest.out]; simpa [tl, hkd] using hv) w
      have HCL := Lib.hid CL
      have HN := Lib.hid hN
      clear hv hNs CL hN
      go_wp2_with fail
      refine (HCL.out _).mono ?_
      rintro e wx ⟨rfl, rfl⟩
      cases k1 : kind == 1 <;> cases k2 : kind == 2 <;> cases k3 : kind == 3
      all_goals
        have HP := fun ok hok => promOf (ok := ok) (cum := true) HD2.out HN.out hok HB9.out
        have HPP := Lib.hid HP
        have hok : okB kind = ((kind == 1) || (kind == 2) || (kind == 3)) := rfl
        rw [k1, k2, k3] at hok
        have Hok := Lib.hid hok
        clear HP hok
        go_wp2
        exact bodyPost_ret (v := .tuple #[.string ⟨#[103, 111]⟩, .string D2, .string (X1 ++ ((⟨#[95]⟩ : ByteArray) ++ U3)), .bool _]) (by simp [results, Try.results43, go_sem]) rfl (HPP.out _ Hok.out.symm)
    | true =>
      have hN : (X1 ++ ((⟨#[95]⟩ : ByteArray) ++ U3) ++ (⟨#[95, 116, 111, 116, 97, 108]⟩ : ByteArray)).data.toList = rest x us ++ tl true kind := by
        rw [← HRest.out]; simp [tl, hkd]
      have hv := HVal.out ([95, 116, 111, 116, 97, 108]) (by decide)
      have hNs : (X1 ++ ((⟨#[95]⟩ : ByteArray) ++ U3) ++ (⟨#[95, 116, 111, 116, 97, 108]⟩ : ByteArray)).size ≤ 268435456 := by
        have e2 : (⟨#[95]⟩ : ByteArray).size = 1 := rfl
        have e6 : (⟨#[95, 116, 111, 116, 97, 108]⟩ : ByteArray).size = 6 := rfl
        simp only [ByteArray.size_append]
        omega
      have CL := fun w => legacyOf D2 (X1 ++ ((⟨#[95]⟩ : ByteArray) ++ U3) ++ (⟨#[95, 116, 111, 116, 97, 108]⟩ : ByteArray)) (by omega) hNs (by rw [hN, ← HRest.out]; simpa [tl, hkd] using hv) w
      have HCL := Lib.hid CL
      have HN := Lib.hid hN
      clear hv hNs CL hN
      go_wp2_with fail
      refine (HCL.out _).mono ?_
      rintro e wx ⟨rfl, rfl⟩
      cases k1 : kind == 1 <;> cases k2 : kind == 2 <;> cases k3 : kind == 3
      all_goals
        have HP := fun ok hok => promOf (ok := ok) (cum := true) HD2.out HN.out hok HB9.out
        have HPP := Lib.hid HP
        have hok : okB kind = ((kind == 1) || (kind == 2) || (kind == 3)) := rfl
        rw [k1, k2, k3] at hok
        have Hok := Lib.hid hok
        clear HP hok
        go_wp2
        exact bodyPost_ret (v := .tuple #[.string ⟨#[103, 111]⟩, .string D2, .string (X1 ++ ((⟨#[95]⟩ : ByteArray) ++ U3) ++ (⟨#[95, 116, 111, 116, 97, 108]⟩ : ByteArray)), .bool _]) (by simp [results, Try.results43, go_sem]) rfl (HPP.out _ Hok.out.symm)

end Go.Proofs.Ytkmfedmiaannfaa.Rt
