/- Differences of two lists: the question for a known answer, and the size guard over strings, whatever it answers. -/
import Derived.Test.YtkmfedmiaannfaaDoorDfe
set_option linter.unusedVariables false
set_option linter.unusedSimpArgs false
namespace Go.Proofs.YtkmfedmiaannfaaDoor.Df
open Go.RowKit Go.Maps Go.WideMaps Go.ChangeShapes

def fitsB (zs : List ByteArray) : Bool := decide (zs.length ≤ 2147483647) && zs.all fun z => decide (z.size ≤ 2147483647)
theorem fitsB_iff {zs : List ByteArray} : fitsB zs = true ↔ zs.length ≤ 2147483647 ∧ ∀ z ∈ zs, z.size ≤ 2147483647 := by
  unfold fitsB
  rw [Bool.and_eq_true, decide_eq_true_eq, List.all_eq_true]
  simp only [decide_eq_true_eq]

set_option maxHeartbeats 4000000 in
set_option maxRecDepth 100000 in
theorem fits3_any (v : Value) (zs : List ByteArray) (w : World) (hv : Sl.Of Value.string w v zs) (hs : ∀ z ∈ zs, z.size ≤ 9223372036854775807) :
    Calls Tryd.prog 4 #[v] w fun e w' => e = .returned (.bool (fitsB zs)) ∧ w = w' := by
  have hlen := hv.len
  have hvs : ∃ a c, v = .slice a zs.length c := by
    rcases hv with ⟨rfl, a, cap, rfl, _⟩ | ⟨b, off, cap, rfl, _⟩
    · exact ⟨_, _, rfl⟩
    · exact ⟨_, _, rfl⟩
  obtain ⟨av, cv, rfl⟩ := hvs
  have HV := Lib.hid hv
  have HS := Lib.hid hs
  obtain ⟨B, hB⟩ : ∃ B, fitsB zs = B := ⟨_, rfl⟩
  rw [hB]
  have HB := Lib.hid hB
  clear hv hs hB
  go_enter Tryd.func4, Tryd.ntmps4
  by_cases hl : zs.length ≤ 2147483647
  · have hl1 : (zs.length : Int) ≤ 2147483647 := by omega
    go_wp2_with fail
    go_loopw [10] (fun i wr => ∃ k : Nat, k ≤ zs.length ∧ i = .int .i64 k ∧ w = wr ∧ Hid (∀ j (h : j < zs.length), j < k → (zs[j]).size ≤ 2147483647)) (fun i _ => zs.length - (intOf i).toNat)
    case atStart => exact ⟨0, Nat.zero_le _, rfl, rfl, fun j h h0 => absurd h0 (Nat.not_lt_zero _)⟩
    case round =>
      obtain ⟨k, hk, rfl, rfl, hall⟩ := hrel
      by_cases hlt : k < zs.length
      · obtain ⟨b, off, hav, c0⟩ : ∃ b off, av = some ⟨b, off, none⟩ ∧ w.cell? ⟨b, off + k, none⟩ = some (.string zs[k]) := by
          rcases HV.out with ⟨h, _⟩ | ⟨b, off, cap, h, h0, hcap, hm, hbb, hcell⟩
          · rw [h] at hlt; simp at hlt
          · injection h with h1 h2 h3
            exact ⟨b, off, h1, hcell k hlt⟩
        subst hav
        have hsz0 := HS.out _ (List.getElem_mem hlt)
        have hmem := List.getElem_mem hlt
        obtain ⟨z, hz⟩ : ∃ z, zs[k] = z := ⟨_, rfl⟩
        rw [hz] at c0 hsz0 hmem
        have z1 : (0 : Int) ≤ (k : Int) := by omega
        have z2 : (k : Int) < (zs.length : Int) := by omega
        by_cases hzs : z.size ≤ 2147483647
        · have hz1 : (z.size : Int) ≤ 2147483647 := by omega
          have hall2 : Hid (∀ j (h : j < zs.length), j < k + 1 → (zs[j]).size ≤ 2147483647) := by
            intro j h hj
            rcases Nat.lt_or_ge j k with h1 | h1
            · exact hall.out j h h1
            · have : j = k := by omega
              subst this
              rw [hz]; exact hzs
          clear hz hall hmem
          go_wp2_with fail
          go_roundw
          case rel => exact ⟨k + 1, by omega, by go_num, by first | rfl | trivial, hall2⟩
          case measure => simp [intOf]; omega
        · have hz1 : (2147483647 : Int) < (z.size : Int) := by omega
          have hfin : Hid (B = false) := by
            show _ = _
            rw [← HB.out]
            cases h : fitsB zs with
            | false => rfl
            | true => exact absurd ((fitsB_iff.1 h).2 z hmem) hzs
          clear hz hall hmem hzs
          go_wp2_with fail
          go_ret
          exact ⟨by rw [hfin.out]; rfl, rfl⟩
      · have hfin : Hid (B = true) := by
          show _ = _
          rw [← HB.out]
          refine fitsB_iff.2 ⟨hl, fun z hz => ?_⟩
          obtain ⟨j, hj, rfl⟩ := List.getElem_of_mem hz
          exact hall.out j hj (by omega)
        obtain rfl : k = zs.length := by omega
        clear hall
        go_wp2_with fail
        go_ret
        exact ⟨by rw [hfin.out]; rfl, rfl⟩
  · have hl1 : (2147483647 : Int) < (zs.length : Int) := by omega
    have hfin : Hid (B = false) := by
      show _ = _
      rw [← HB.out]
      cases h : fitsB zs with
      | false => rfl
      | true => exact absurd (fitsB_iff.1 h).1 hl
    clear hl
    go_wp2_with fail
    go_ret
    exact ⟨by rw [hfin.out]; rfl, rfl⟩

def sA : ByteArray := ⟨#[97]⟩
def sB : ByteArray := ⟨#[98]⟩
theorem ops_ab : ops [sA] [sB] = [(114, 0, 1, 0, 1)] := by
  have h : mb [sA] [sB] ([sA].length + 1) 0 [sA].length 0 [sB].length = [] := by
    have hc := mb_chain (xs := [sA]) (ys := [sB]) ([sA].length + 1) 0 [sA].length 0 [sB].length (Nat.zero_le _) (Nat.zero_le _)
    generalize mb [sA] [sB] ([sA].length + 1) 0 [sA].length 0 [sB].length = L at *
    cases L with
    | nil => rfl
    | cons b r =>
      obtain ⟨h1, h2, h3, h4, h5⟩ := hc
      have h6 := chain_le h5
      simp only [List.length_singleton] at h6
      have e1 : b.1 = 0 := by omega
      have e2 : b.2.1 = 0 := by omega
      have := h4 0 h3
      rw [e1, e2] at this
      have h7 : sA = sB := this
      exact absurd h7 (by decide)
  unfold ops blocks
  rw [h]
  rfl

set_option maxHeartbeats 4000000 in
set_option maxRecDepth 100000 in
theorem awake_any (w : World) : Calls Tryd.prog 8 #[] w fun e w' => e = .returned (.bool true) ∧ Below w.heap.size w w' := by
  have one : ∀ (w : World) (s : ByteArray), Sl.Of Value.string (w.alloc (.cells #[.string s] 9)) (.slice (some ⟨w.heap.size, 0, none⟩) 1 1) [s] := by
    intro w s
    refine Or.inr ⟨w.heap.size, 0, 1, rfl, by simp, by simp, by omega, by simp, ?_⟩
    intro i hi
    rw [Sl.cell_new]
    match i, hi with
    | 0, _ => rfl
    | i + 1, hi => simp at hi
  have hb1 := (Below.refl w.heap.size w).alloc (Nat.le_refl _) (.cells #[.string sA] 9)
  have hb2 := hb1.alloc (by simp) (.cells #[.string sB] 9)
  have h1 := (one w sA).below ((Below.refl _ (w.alloc (.cells #[.string sA] 9))).alloc (Nat.le_refl _) (.cells #[.string sB] 9))
  have h2 := one (w.alloc (.cells #[.string sA] 9)) sB
  have CI := implEdits_any [sA] [sB] _ _ _ h1 h2 (by simp) (by simp) (by intro s hs; simp at hs; subst hs; decide) (by intro s hs; simp at hs; subst hs; decide)
  rw [ops_ab] at CI
  have HI := Lib.hid CI
  have HB := Lib.hid hb2
  clear CI h1 h2 hb1 hb2 one
  unfold sA sB at HI HB
  rw [show (w.alloc (.cells #[.string ⟨#[97]⟩] 9)).heap.size = w.heap.size + 1 by simp] at HI
  go_enter Tryd.func8, Tryd.ntmps8
  go_wp2_with fail
  refine HI.out.mono ?_
  rintro e W ⟨v, rfl, hq, hb⟩
  have hbW : Hid (Below w.heap.size w W) := HB.out.trans (hb.mono (by simp; omega))
  rcases hq with ⟨h, _⟩ | ⟨b, off, cap, rfl, g0, hcap, hm, hbb, hcell⟩
  · cases h
  · have c0 : W.cell? ⟨b, off, none⟩ = some (.int .u8 114) := hcell 0 (by simp) 0 _ rfl
    clear hcell hb
    go_wp2_with fail
    go_ret
    exact ⟨rfl, hbW.out⟩

end Go.Proofs.YtkmfedmiaannfaaDoor.Df
