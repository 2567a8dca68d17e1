/- The size guard over strings, where they are small. Descriptors: the size guards over small data; equality of descriptors as the reference says it. Steps: rows of steps read as lists; the size guards whatever the size; steps converted (laws.stepsTo). -/
import Derived.Test.YtlolomodcbkblaaGreatDoorSl
import Derived.WalkSpells
import Derived.Lib.Hide
import Derived.Test.YtlolomodcbkblaaGreatDoorMg5
import Derived.Deep.QuietTactic
import Derived.BigQuiet
import Derived.Test.YtlolomodcbkblaaGreatDoorMg3
import Derived.Test.YtlolomodcbkblaaGreatDoorMg1
set_option linter.unusedVariables false
set_option linter.unusedSimpArgs false
namespace Go.Proofs.YtlolomodcbkblaaGreatDoor.Fits
open Go.RowKit

set_option maxHeartbeats 1000000 in
set_option maxRecDepth 100000 in
theorem fits3_any (v : Value) (zs : List ByteArray) (w : World) (hv : Sl.Of Value.string w v zs) (hl : zs.length ≤ 2147483647) (hs : ∀ z ∈ zs, z.size ≤ 2147483647) :
    Calls Tryz.prog 29 #[v] w fun e w' => e = .returned (.bool true) ∧ w = w' := by
  have hl1 : (zs.length : Int) ≤ 2147483647 := by omega
  rcases hv with ⟨rfl, a, cap, rfl, hcap⟩ | ⟨b, off, cap, rfl, h0, hcap, hm, hb, hcell⟩
  · clear hs
    go_enter Tryz.func29, Tryz.ntmps29
    go_wp2
    go_loopw [10] (fun i wr => i = .int .i64 0 ∧ w = wr) (fun _ _ => 0)
    case atStart => exact ⟨rfl, rfl⟩
    case round =>
      obtain ⟨rfl, rfl⟩ := hrel
      go_wp2
      go_ret
      exact ⟨rfl, rfl⟩
  · have Hcell := Lib.hid hcell
    have HS := Lib.hid hs
    clear hcell hs
    go_enter Tryz.func29, Tryz.ntmps29
    go_wp2
    go_loopw [10] (fun i wr => ∃ k : Nat, k ≤ zs.length ∧ i = .int .i64 k ∧ w = wr) (fun i _ => zs.length - (intOf i).toNat)
    case atStart => exact ⟨0, Nat.zero_le _, rfl, rfl⟩
    case round =>
      obtain ⟨k, hk, rfl, rfl⟩ := hrel
      by_cases hlt : k < zs.length
      · have c0 : w.cell? ⟨b, off + k, none⟩ = some (.string zs[k]) := Hcell.out k hlt
        have hsz : ((zs[k]).size : Int) ≤ 2147483647 := by have := HS.out _ (List.getElem_mem hlt); omega
        go_wp2
        go_roundw
        case rel => exact ⟨k + 1, by omega, by go_num, by first | rfl | trivial⟩
        case measure => simp [intOf]; omega
      · go_wp2
        go_ret
        exact ⟨rfl, rfl⟩

end Go.Proofs.YtlolomodcbkblaaGreatDoor.Fits

set_option linter.unusedVariables false
set_option linter.unusedSimpArgs false
namespace Go.Proofs.YtlolomodcbkblaaGreatDoor.Nd
open Go.RowKit Go.ChangeShapes Go.WideShapes Go.Deep Fp

set_option maxHeartbeats 1000000 in
set_option maxRecDepth 100000 in
theorem fits6_any (x y : ByteArray) (w : World) (hx : x.size ≤ 2147483647) (hy : y.size ≤ 2147483647) :
    Calls Tryz.prog 99 #[.agg #[.string x, .string y]] w fun e w' => e = .returned (.bool true) ∧ Below w.heap.size w w' := by
  have h1 : (x.size : Int) ≤ 2147483647 := by omega
  have h2 : (y.size : Int) ≤ 2147483647 := by omega
  go_enter Tryz.func99, Tryz.ntmps99
  go_wp2
  go_ret
  exact ⟨rfl, (Below.refl _ _).alloc (Nat.le_refl _) _⟩

set_option maxHeartbeats 4000000 in
set_option maxRecDepth 100000 in
theorem fits5_any (L : List P2) (v : Value) (w : World) (hof : Ss.Of 2 pc w v L) (hL : L.length ≤ 2147483647) (hs : ∀ p ∈ L, p.1.size ≤ 2147483647 ∧ p.2.size ≤ 2147483647) :
    Calls Tryz.prog 60 #[v] w fun e w' => e = .returned (.bool true) ∧ Below w.heap.size w w' := by
  obtain ⟨av, cv, rfl, _, _⟩ := hof.slice
  have HOf := Lib.hid hof
  have HS := Lib.hid hs
  have hl : (L.length : Int) ≤ 2147483647 := by omega
  clear hof hs
  go_enter Tryz.func60, Tryz.ntmps60
  go_wp2_with fail
  go_loopw [10] (fun vk wr => ∃ k : Nat, k ≤ L.length ∧ vk = .int .i64 (k : Int) ∧ Hid (Below w.heap.size w wr)) (fun k _ => L.length - (intOf k).toNat)
  case atStart => exact ⟨0, Nat.zero_le _, rfl, Below.refl _ _⟩
  case round =>
    obtain ⟨k, hk, rfl, hbw⟩ := hrel
    by_cases hlt : k < L.length
    · obtain ⟨b, off, hav, hb, d0, d1⟩ := pair_of HOf.out hlt
      obtain ⟨s1, s2⟩ := HS.out _ (List.getElem_mem hlt)
      subst hav
      obtain ⟨x, y, hxy⟩ : ∃ x y, L[k] = (x, y) := ⟨_, _, rfl⟩
      rw [hxy] at d0 d1 s1 s2
      have c0 : wr.cell? ⟨b, off + k * 2, none⟩ = some (.string x) := by rw [hbw.out.cell (p := ⟨b, off + k * 2, none⟩) hb]; exact d0
      have c1 : wr.cell? ⟨b, off + k * 2 + 1, none⟩ = some (.string y) := by rw [hbw.out.cell (p := ⟨b, off + k * 2 + 1, none⟩) hb]; exact d1
      have z1 : (0 : Int) ≤ (k : Int) := by omega
      have z2 : (k : Int) < (L.length : Int) := by omega
      have hb1 : Hid (Below w.heap.size w (wr.alloc (.cells #[.string x, .string y] 138))) := hbw.out.alloc hbw.out.size _
      clear d0 d1 hxy hbw
      go_wp2_with fail
      refine (fits6_any x y _ s1 s2).mono ?_
      rintro e w1 ⟨rfl, hb2⟩
      have hb3 : Hid (Below w.heap.size w w1) := hb1.out.trans (hb2.mono hb1.out.size)
      clear hb2
      go_wp2_with fail
      go_roundw
      case rel => exact ⟨k + 1, by omega, by go_num, hb3.out⟩
      case measure => simp [intOf]; omega
    · obtain rfl : k = L.length := by omega
      go_wp2_with fail
      go_ret
      exact ⟨rfl, hbw.out⟩

/-- the guard over a descriptor's data, where they are small -/
theorem small_str {l : List ByteArray} {n : Nat} (h : wt l ≤ n) : ∀ z ∈ l, z.size ≤ n := fun z hz => Nat.le_trans (mem_wt hz) h
set_option maxHeartbeats 4000000 in
set_option maxRecDepth 100000 in
theorem fits4_any (mv : Value) (nm hp un : ByteArray) (V : List ByteArray) (L : List P2) (w : World) (hm : MetaAt w mv nm hp un V L) (hs : Small nm hp un V L) :
    Calls Tryz.prog 17 #[mv] w fun e w' => e = .returned (.bool true) ∧ Below w.heap.size w w' := by
  obtain ⟨vv, cv, rfl, hvv, hcv⟩ := hm.val
  have hall := hs.all
  have h1 : (nm.size : Int) ≤ 2147483647 := by omega
  have h2 : (hp.size : Int) ≤ 2147483647 := by omega
  have h3 : (un.size : Int) ≤ 2147483647 := by omega
  have hb0 : Below w.heap.size w (w.alloc (.cells #[.string nm, .string hp, .string un, vv, cv] 66)) := (Below.refl _ _).alloc (Nat.le_refl _) _
  have C3 := Lib.hid (Fits.fits3_any vv V (w.alloc (.cells #[.string nm, .string hp, .string un, vv, cv] 66)) (hvv.below hb0) (by have := hs.lenV; omega) (fun z hz => by have := mem_wt hz; omega))
  have C5 := Lib.hid (fits5_any L cv (w.alloc (.cells #[.string nm, .string hp, .string un, vv, cv] 66)) (hcv.below hb0) (by have := hs.lenL; omega) (fun p hp => by have := mem_wp hp; omega))
  have HB := Lib.hid hb0
  clear hb0 hvv hcv hm hs hall
  have hb1 : Hid (∀ j, (w.alloc (.cells #[.string nm, .string hp, .string un, vv, cv] 66)).cell? ⟨w.heap.size, j, none⟩ = (#[.string nm, .string hp, .string un, vv, cv] : Array Value)[j]?) := fun j => Sl.cell_new w _ _ j
  go_enter Tryz.func17, Tryz.ntmps17
  go_wp2_with fail
  refine C3.out.mono ?_
  rintro e w1 ⟨rfl, rfl⟩
  go_wp2_with fail
  refine C5.out.mono ?_
  rintro e w2 ⟨rfl, hb2⟩
  have hb3 := HB.out.trans (hb2.mono HB.out.size)
  clear hb2
  go_wp2_with fail
  go_ret
  exact ⟨rfl, hb3⟩

end Go.Proofs.YtlolomodcbkblaaGreatDoor.Nd

set_option linter.unusedVariables false
set_option linter.unusedSimpArgs false
namespace Go.Proofs.YtlolomodcbkblaaGreatDoor.Gg
open Go.RowKit Go.Maps Go.WideMaps Go.ChangeShapes Go.WideShapes Go.Deep Fp Obs _root_.Go.Proofs.YtlolomodcbkblaaGreatDoor.Nd

/-- a step's four cells -/
structure Stp where
  k : Int
  z : Nat
  l : Value
  t : Int
instance : Inhabited Stp := ⟨⟨0, 0, .nilIface, 0⟩⟩
def sc (s : Stp) : List Value := [.int .i64 s.k, .float .f64 s.z, s.l, .int .i64 s.t]
theorem sc_len : ∀ s : Stp, (sc s).length = 4 := fun _ => rfl
/-- what a step says but its labels -/
def ky (s : Stp) : Int × Nat × Int := (s.k, s.z, s.t)
theorem step_of {w : World} {a : Option Addr} {n cap : Nat} {L : List Stp} (h : Ss.Of 4 sc w (.slice a n cap) L) {k : Nat} (hk : k < L.length) :
    ∃ b off, a = some ⟨b, off, none⟩ ∧ b < w.heap.size ∧ w.cell? ⟨b, off + k * 4, none⟩ = some (.int .i64 (L[k]).k) ∧ w.cell? ⟨b, off + k * 4 + 1, none⟩ = some (.float .f64 (L[k]).z) ∧ w.cell? ⟨b, off + k * 4 + 2, none⟩ = some (L[k]).l ∧ w.cell? ⟨b, off + k * 4 + 3, none⟩ = some (.int .i64 (L[k]).t) := by
  rcases h with ⟨rfl, _⟩ | ⟨b, off, cap, h, h0, hcap, hm, hbb, hcell⟩
  · simp at hk
  · injection h with h1 h2 h3
    exact ⟨b, off, h1, hbb, hcell k hk 0 _ rfl, by rw [Nat.add_assoc]; exact hcell k hk 1 _ rfl, by rw [Nat.add_assoc]; exact hcell k hk 2 _ rfl, by rw [Nat.add_assoc]; exact hcell k hk 3 _ rfl⟩
/-- the argument: steps whose labels are rows of pairs -/
structure Steps (w : World) (v : Value) (xs : List Stp) : Prop where
  row : Ss.Of 4 sc w v xs
  lab : ∀ s ∈ xs, ∃ A : List P2, Ss.Of 2 pc w s.l A
theorem Steps.below {w w' : World} {v : Value} {xs : List Stp} (h : Steps w v xs) (k : Below w.heap.size w w') : Steps w' v xs :=
  ⟨h.row.below k, fun s hs => by obtain ⟨A, hA⟩ := h.lab s hs; exact ⟨A, hA.below k⟩⟩

/-! the size guards -/
/-- a guard's answer, and what it says when it is yes -/
def Says (p : Prop) (w : World) (e : Ending) (w' : World) : Prop := ∃ b, e = .returned (.bool b) ∧ (b = true → p) ∧ Below w.heap.size w w'
set_option maxHeartbeats 4000000 in
set_option maxRecDepth 100000 in
theorem fits6_gen (x y : ByteArray) (w : World) :
    Calls Tryz.prog 99 #[.agg #[.string x, .string y]] w (Says True w) := by
  by_cases h1 : (x.size : Int) ≤ 2147483647
  · by_cases h2 : (y.size : Int) ≤ 2147483647
    · go_enter Tryz.func99, Tryz.ntmps99
      go_wp2
      go_ret
      exact ⟨_, rfl, fun _ => trivial, (Below.refl _ _).alloc (Nat.le_refl _) _⟩
    · go_enter Tryz.func99, Tryz.ntmps99
      go_wp2
      go_ret
      exact ⟨_, rfl, fun _ => trivial, (Below.refl _ _).alloc (Nat.le_refl _) _⟩
  · go_enter Tryz.func99, Tryz.ntmps99
    go_wp2
    go_ret
    exact ⟨_, rfl, fun _ => trivial, (Below.refl _ _).alloc (Nat.le_refl _) _⟩

set_option maxHeartbeats 4000000 in
set_option maxRecDepth 100000 in
theorem fits5_gen (L : List P2) (v : Value) (w : World) (hof : Ss.Of 2 pc w v L) :
    Calls Tryz.prog 60 #[v] w (Says (L.length ≤ 2147483647) w) := by
  obtain ⟨av, cv, rfl, _, _⟩ := hof.slice
  have HOf := Lib.hid hof
  clear hof
  by_cases hl : (L.length : Int) ≤ 2147483647
  case neg =>
    go_enter Tryz.func60, Tryz.ntmps60
    go_wp2_with fail
    go_ret
    exact ⟨false, rfl, (fun h => by cases h), Below.refl _ _⟩
  case pos =>
  go_enter Tryz.func60, Tryz.ntmps60
  go_wp2_with fail
  go_loopw [10] (fun vk wr => ∃ k : Nat, k ≤ L.length ∧ vk = .int .i64 (k : Int) ∧ Hid (Below w.heap.size w wr)) (fun k _ => L.length - (intOf k).toNat)
  case atStart => exact ⟨0, Nat.zero_le _, rfl, Below.refl _ _⟩
  case round =>
    obtain ⟨k, hk, rfl, hbw⟩ := hrel
    by_cases hlt : k < L.length
    · obtain ⟨b, off, hav, hb, d0, d1⟩ := pair_of HOf.out hlt
      subst hav
      obtain ⟨x, y, hxy⟩ : ∃ x y, L[k] = (x, y) := ⟨_, _, rfl⟩
      rw [hxy] at d0 d1
      have c0 : wr.cell? ⟨b, off + k * 2, none⟩ = some (.string x) := by rw [hbw.out.cell (p := ⟨b, off + k * 2, none⟩) hb]; exact d0
      have c1 : wr.cell? ⟨b, off + k * 2 + 1, none⟩ = some (.string y) := by rw [hbw.out.cell (p := ⟨b, off + k * 2 + 1, none⟩) hb]; exact d1
      have z1 : (0 : Int) ≤ (k : Int) := by omega
      have z2 : (k : Int) < (L.length : Int) := by omega
      have hb1 : Hid (Below w.heap.size w (wr.alloc (.cells #[.string x, .string y] 138))) := hbw.out.alloc hbw.out.size _
      clear d0 d1 hxy hbw
      go_wp2_with fail
      refine (fits6_gen x y _).mono ?_
      rintro e w1 ⟨bb, rfl, _, hb2⟩
      have hb3 : Hid (Below w.heap.size w w1) := hb1.out.trans (hb2.mono hb1.out.size)
      clear hb2
      cases bb with
      | true =>
        go_wp2_with fail
        go_roundw
        case rel => exact ⟨k + 1, by omega, by go_num, hb3.out⟩
        case measure => simp [intOf]; omega
      | false =>
        go_wp2_with fail
        go_ret
        exact ⟨false, rfl, (fun h => by cases h), hb3.out⟩
    · obtain rfl : k = L.length := by omega
      go_wp2_with fail
      go_ret
      exact ⟨true, rfl, fun _ => by omega, hbw.out⟩

set_option maxHeartbeats 4000000 in
set_option maxRecDepth 100000 in
theorem fits11_gen (k : Int) (z : Nat) (l : Value) (t : Int) (A : List P2) (w : World) (hof : Ss.Of 2 pc w l A) :
    Calls Tryz.prog 38 #[.agg #[.int .i64 k, .float .f64 z, l, .int .i64 t]] w (Says (A.length ≤ 2147483647) w) := by
  obtain ⟨av, cv, rfl, _, _⟩ := hof.slice
  have hb0 : Below w.heap.size w (w.alloc (.cells #[.int .i64 k, .float .f64 z, .slice av A.length cv, .int .i64 t] 98)) := (Below.refl _ _).alloc (Nat.le_refl _) _
  have C5 := Lib.hid (fits5_gen A _ _ (hof.below hb0))
  have HB := Lib.hid hb0
  have k2 : (w.alloc (.cells #[.int .i64 k, .float .f64 z, .slice av A.length cv, .int .i64 t] 98)).cell? ⟨w.heap.size, 2, none⟩ = some (.slice av A.length cv) := Sl.cell_new w _ _ 2
  clear hof hb0
  go_enter Tryz.func38, Tryz.ntmps38
  go_wp2_with fail
  refine C5.out.mono ?_
  rintro e w1 ⟨bb, rfl, hp, hb2⟩
  have hb3 : Hid (Below w.heap.size w w1) := HB.out.trans (hb2.mono HB.out.size)
  have HP := Lib.hid hp
  clear hb2 hp C5
  cases bb with
  | true =>
    go_wp2_with fail
    go_ret
    exact ⟨true, rfl, fun _ => HP.out (by simp), hb3.out⟩
  | false =>
    go_wp2_with fail
    go_ret
    exact ⟨false, rfl, (fun h => by cases h), hb3.out⟩

/-- what zzFits10 says of steps -/
def StepsFit (w : World) (xs : List Stp) : Prop := xs.length ≤ 2147483647 ∧ ∀ s ∈ xs, ∃ A : List P2, Ss.Of 2 pc w s.l A ∧ A.length ≤ 2147483647
set_option maxHeartbeats 4000000 in
set_option maxRecDepth 100000 in
theorem fits10_gen (L : List Stp) (v : Value) (w : World) (hst : Steps w v L) :
    Calls Tryz.prog 7 #[v] w (Says (StepsFit w L) w) := by
  obtain ⟨av, cv, rfl, _, _⟩ := hst.row.slice
  have HOf := Lib.hid hst.row
  have HLb := Lib.hid hst.lab
  clear hst
  by_cases hl : (L.length : Int) ≤ 2147483647
  case neg =>
    go_enter Tryz.func7, Tryz.ntmps7
    go_wp2_with fail
    go_ret
    exact ⟨false, rfl, (fun h => by cases h), Below.refl _ _⟩
  case pos =>
  have hsf := Flo.run_store_float (P := Tryz.prog)
  go_enter Tryz.func7, Tryz.ntmps7
  go_wp2_with fail
  go_loopw [10] (fun vk wr => ∃ k : Nat, k ≤ L.length ∧ vk = .int .i64 (k : Int) ∧ Hid (Below w.heap.size w wr ∧ ∀ i (hi : i < L.length), i < k → ∃ A : List P2, Ss.Of 2 pc w L[i].l A ∧ A.length ≤ 2147483647)) (fun k _ => L.length - (intOf k).toNat)
  case atStart => exact ⟨0, Nat.zero_le _, rfl, Below.refl _ _, fun i _ h => absurd h (by omega)⟩
  case round =>
    obtain ⟨k, hk, rfl, hbw⟩ := hrel
    by_cases hlt : k < L.length
    · obtain ⟨b, off, hav, hb, d0, d1, d2, d3⟩ := step_of HOf.out hlt
      subst hav
      obtain ⟨A, hA⟩ := HLb.out L[k] (List.getElem_mem hlt)
      obtain ⟨al, cl, hsl, _, _⟩ := hA.slice
      obtain ⟨sk, sz, sl, st, hs⟩ : ∃ sk sz sl st, L[k] = ⟨sk, sz, sl, st⟩ := ⟨_, _, _, _, rfl⟩
      have hAk : Hid (∃ A : List P2, Ss.Of 2 pc w L[k].l A ∧ (A.length ≤ 2147483647 → A.length ≤ 2147483647)) := ⟨A, hA, id⟩
      rw [hs] at d0 d1 d2 d3 hsl hA
      have hsl : sl = .slice al A.length cl := hsl
      subst hsl
      have c0 : wr.cell? ⟨b, off + k * 4, none⟩ = some (.int .i64 sk) := by rw [hbw.out.1.cell (p := ⟨b, off + k * 4, none⟩) hb]; exact d0
      have c1 : wr.cell? ⟨b, off + k * 4 + 1, none⟩ = some (.float .f64 sz) := by rw [hbw.out.1.cell (p := ⟨b, off + k * 4 + 1, none⟩) hb]; exact d1
      have c2 : wr.cell? ⟨b, off + k * 4 + 2, none⟩ = some (.slice al A.length cl) := by rw [hbw.out.1.cell (p := ⟨b, off + k * 4 + 2, none⟩) hb]; exact d2
      have c3 : wr.cell? ⟨b, off + k * 4 + 3, none⟩ = some (.int .i64 st) := by rw [hbw.out.1.cell (p := ⟨b, off + k * 4 + 3, none⟩) hb]; exact d3
      have z1 : (0 : Int) ≤ (k : Int) := by omega
      have z2 : (k : Int) < (L.length : Int) := by omega
      have hb1 : Hid (Below w.heap.size w (wr.alloc (.cells #[.int .i64 sk, .float .f64 sz, .slice al A.length cl, .int .i64 st] 98))) := hbw.out.1.alloc hbw.out.1.size _
      have hA0 : Hid (Ss.Of 2 pc w (L[k]).l A) := by rw [hs]; exact hA
      have C11 := Lib.hid (fits11_gen sk sz _ st A _ ((show Ss.Of 2 pc w (.slice al A.length cl) A from hA).below hb1.out))
      clear d0 d1 d2 d3 hs hA hAk
      go_wp2_with fail
      refine C11.out.mono ?_
      rintro e w1 ⟨bb, rfl, hp, hb2⟩
      have hb3 : Hid (Below w.heap.size w w1) := hb1.out.trans (hb2.mono hb1.out.size)
      have HP := Lib.hid hp
      clear hb2 hp C11
      cases bb with
      | true =>
        have HR : Hid (∀ i (hi : i < L.length), i < k + 1 → ∃ A : List P2, Ss.Of 2 pc w L[i].l A ∧ A.length ≤ 2147483647) := fun i hi h => by
          rcases Nat.lt_or_ge i k with h2 | h2
          · exact hbw.out.2 i hi h2
          · obtain rfl : i = k := by omega
            exact ⟨A, hA0.out, HP.out (by simp)⟩
        clear hbw
        go_wp2_with fail
        go_roundw
        case rel => exact ⟨k + 1, by omega, by go_num, hb3.out, HR.out⟩
        case measure => simp [intOf]; omega
      | false =>
        go_wp2_with fail
        go_ret
        exact ⟨false, rfl, (fun h => by cases h), hb3.out⟩
    · obtain rfl : k = L.length := by omega
      have HF : Hid (Says (StepsFit w L) w (.returned (.bool true)) wr) := ⟨true, rfl, fun _ => ⟨by omega, fun s hs => by obtain ⟨i, hi, rfl⟩ := List.getElem_of_mem hs; exact hbw.out.2 i hi hi⟩, hbw.out.1⟩
      go_wp2_with fail
      go_ret
      exact HF.out

end Go.Proofs.YtlolomodcbkblaaGreatDoor.Gg
