/- Descriptors: the size guards over small data; equality of descriptors as the reference says it. -/
import Derived.Test.YtfcpapbokefdmaaGreatDoorNwt
import Derived.Test.YtfcpapbokefdmaaGreatDoorFits
import Derived.Deep.QuietTactic
import Derived.BigQuiet
set_option linter.unusedVariables false
set_option linter.unusedSimpArgs false
namespace Go.Proofs.YtfcpapbokefdmaaGreatDoor.Nd
open Go.RowKit Go.ChangeShapes Go.WideShapes Go.Deep Fp

set_option maxHeartbeats 1000000 in
set_option maxRecDepth 100000 in
theorem fits6_any (x y : ByteArray) (w : World) (hx : x.size ≤ 2147483647) (hy : y.size ≤ 2147483647) :
    Calls Tryz.prog 50 #[.agg #[.string x, .string y]] w fun e w' => e = .returned (.bool true) ∧ Below w.heap.size w w' := by
  have h1 : (x.size : Int) ≤ 2147483647 := by omega
  have h2 : (y.size : Int) ≤ 2147483647 := by omega
  go_enter Tryz.func50, Tryz.ntmps50
  go_wp2
  go_ret
  exact ⟨rfl, (Below.refl _ _).alloc (Nat.le_refl _) _⟩

set_option maxHeartbeats 4000000 in
set_option maxRecDepth 100000 in
theorem fits5_any (L : List P2) (v : Value) (w : World) (hof : Ss.Of 2 pc w v L) (hL : L.length ≤ 2147483647) (hs : ∀ p ∈ L, p.1.size ≤ 2147483647 ∧ p.2.size ≤ 2147483647) :
    Calls Tryz.prog 22 #[v] w fun e w' => e = .returned (.bool true) ∧ Below w.heap.size w w' := by
  obtain ⟨av, cv, rfl, _, _⟩ := hof.slice
  have HOf := Lib.hid hof
  have HS := Lib.hid hs
  have hl : (L.length : Int) ≤ 2147483647 := by omega
  clear hof hs
  go_enter Tryz.func22, Tryz.ntmps22
  go_wp2_with fail
  go_loopw [10] (fun vk wr => ∃ k : Nat, k ≤ L.length ∧ vk = .int .i64 (k : Int) ∧ Hid (Below w.heap.size w wr)) (fun k _ => L.length - (intOf k).toNat)
  case atStart => exact ⟨0, Nat.zero_le _, rfl, Below.refl _ _⟩
  case round =>
    obtain ⟨k, hk, rfl, hbw⟩ := hrel
    by_cases hlt : k < L.length
    · obtain ⟨b, off, hav, hb, d0, d1⟩ := pair_of HOf.out hlt
      obtain ⟨s1, s2⟩ := HS.out _ (List.getElem_mem hlt)
      subst hav
      obtain ⟨x, y, hxy⟩ : ∃ x y, L[k] = (x, y) := ⟨_, _, rfl⟩
      rw [hxy] at d0 d1 s1 s2
      have c0 : wr.cell? ⟨b, off + k * 2, none⟩ = some (.string x) := by rw [hbw.out.cell (p := ⟨b, off + k * 2, none⟩) hb]; exact d0
      have c1 : wr.cell? ⟨b, off + k * 2 + 1, none⟩ = some (.string y) := by rw [hbw.out.cell (p := ⟨b, off + k * 2 + 1, none⟩) hb]; exact d1
      have z1 : (0 : Int) ≤ (k : Int) := by omega
      have z2 : (k : Int) < (L.length : Int) := by omega
      have hb1 : Hid (Below w.heap.size w (wr.alloc (.cells #[.string x, .string y] 88))) := hbw.out.alloc hbw.out.size _
      clear d0 d1 hxy hbw
      go_wp2_with fail
      refine (fits6_any x y _ s1 s2).mono ?_
      rintro e w1 ⟨rfl, hb2⟩
      have hb3 : Hid (Below w.heap.size w w1) := hb1.out.trans (hb2.mono hb1.out.size)
      clear hb2
      go_wp2_with fail
      go_roundw
      case rel => exact ⟨k + 1, by omega, by go_num, hb3.out⟩
      case measure => simp [intOf]; omega
    · obtain rfl : k = L.length := by omega
      go_wp2_with fail
      go_ret
      exact ⟨rfl, hbw.out⟩

/-- the guard over a descriptor's data, where they are small -/
theorem small_str {l : List ByteArray} {n : Nat} (h : wt l ≤ n) : ∀ z ∈ l, z.size ≤ n := fun z hz => Nat.le_trans (mem_wt hz) h
set_option maxHeartbeats 4000000 in
set_option maxRecDepth 100000 in
theorem fits4_any (mv : Value) (nm hp un : ByteArray) (V : List ByteArray) (L : List P2) (w : World) (hm : MetaAt w mv nm hp un V L) (hs : Small nm hp un V L) :
    Calls Tryz.prog 10 #[mv] w fun e w' => e = .returned (.bool true) ∧ Below w.heap.size w w' := by
  obtain ⟨vv, cv, rfl, hvv, hcv⟩ := hm.val
  have hall := hs.all
  have h1 : (nm.size : Int) ≤ 2147483647 := by omega
  have h2 : (hp.size : Int) ≤ 2147483647 := by omega
  have h3 : (un.size : Int) ≤ 2147483647 := by omega
  have hb0 : Below w.heap.size w (w.alloc (.cells #[.string nm, .string hp, .string un, vv, cv] 25)) := (Below.refl _ _).alloc (Nat.le_refl _) _
  have C3 := Lib.hid (Fits.fits3_any vv V (w.alloc (.cells #[.string nm, .string hp, .string un, vv, cv] 25)) (hvv.below hb0) (by have := hs.lenV; omega) (fun z hz => by have := mem_wt hz; omega))
  have C5 := Lib.hid (fits5_any L cv (w.alloc (.cells #[.string nm, .string hp, .string un, vv, cv] 25)) (hcv.below hb0) (by have := hs.lenL; omega) (fun p hp => by have := mem_wp hp; omega))
  have HB := Lib.hid hb0
  clear hb0 hvv hcv hm hs hall
  have hb1 : Hid (∀ j, (w.alloc (.cells #[.string nm, .string hp, .string un, vv, cv] 25)).cell? ⟨w.heap.size, j, none⟩ = (#[.string nm, .string hp, .string un, vv, cv] : Array Value)[j]?) := fun j => Sl.cell_new w _ _ j
  go_enter Tryz.func10, Tryz.ntmps10
  go_wp2_with fail
  refine C3.out.mono ?_
  rintro e w1 ⟨rfl, rfl⟩
  go_wp2_with fail
  refine C5.out.mono ?_
  rintro e w2 ⟨rfl, hb2⟩
  have hb3 := HB.out.trans (hb2.mono HB.out.size)
  clear hb2
  go_wp2_with fail
  go_ret
  exact ⟨rfl, hb3⟩

end Go.Proofs.YtfcpapbokefdmaaGreatDoor.Nd
