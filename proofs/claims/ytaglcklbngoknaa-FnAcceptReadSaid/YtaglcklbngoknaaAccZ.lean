/- The walks of the size guard over entries, and of acceptAwake. -/
import Derived.Test.YtaglcklbngoknaaAccY
set_option linter.unusedVariables false
set_option linter.unusedSimpArgs false
namespace Go.Proofs.Ytaglcklbngoknaa.Acc
open Go.RowKit Plf Oct

def BoolB (x : Bool) (w : World) (e : Ending) (w' : World) : Prop := e = .returned (.bool x) ∧ Below w.heap.size w w'

set_option maxHeartbeats 1000000 in
set_option maxRecDepth 100000 in
theorem fits2_any (y d : ByteArray) (w : World) :
    Calls Try.prog 38 #[.agg #[.string y, .string d]] w (BoolB (decide (y.size ≤ 2147483647) && decide (d.size ≤ 2147483647)) w) := by
  by_cases h1 : y.size ≤ 2147483647
  · have g1 : (y.size : Int) ≤ 2147483647 := by omega
    by_cases h2 : d.size ≤ 2147483647
    · have g2 : (d.size : Int) ≤ 2147483647 := by omega
      have hr : (decide (y.size ≤ 2147483647) && decide (d.size ≤ 2147483647)) = true := by rw [decide_eq_true h1, decide_eq_true h2]; rfl
      rw [hr]
      clear hr h1 h2
      go_enter Try.func38, Try.ntmps38
      go_wp2
      go_ret
      exact ⟨rfl, (Below.refl _ _).alloc (Nat.le_refl _) _⟩
    · have g2 : (2147483647 : Int) < (d.size : Int) := by omega
      have hr : (decide (y.size ≤ 2147483647) && decide (d.size ≤ 2147483647)) = false := by rw [decide_eq_true h1, decide_eq_false h2]; rfl
      rw [hr]
      clear hr h1 h2
      go_enter Try.func38, Try.ntmps38
      go_wp2
      go_ret
      exact ⟨rfl, (Below.refl _ _).alloc (Nat.le_refl _) _⟩
  · have g1 : (2147483647 : Int) < (y.size : Int) := by omega
    have hr : (decide (y.size ≤ 2147483647) && decide (d.size ≤ 2147483647)) = false := by rw [decide_eq_false h1]; rfl
    rw [hr]
    clear hr h1
    go_enter Try.func38, Try.ntmps38
    go_wp2
    go_ret
    exact ⟨rfl, (Below.refl _ _).alloc (Nat.le_refl _) _⟩

def Small (z : B2) : Prop := z.1.size ≤ 2147483647 ∧ z.2.size ≤ 2147483647
def FitsB (zs : List B2) (w : World) (e : Ending) (w' : World) : Prop :=
  (e = .returned (.bool true) ∧ zs.length ≤ 2147483647 ∧ (∀ z ∈ zs, Small z) ∧ Below w.heap.size w w') ∨ (e = .returned (.bool false) ∧ Below w.heap.size w w')

set_option maxHeartbeats 4000000 in
set_option maxRecDepth 100000 in
theorem fits1_any (v : Value) (zs : List B2) (w : World) (hv : Ss.Of 2 cells2 w v zs) :
    Calls Try.prog 22 #[v] w (FitsB zs w) := by
  rcases hv with ⟨rfl, a, cap, rfl, hcap⟩ | ⟨b, off, cap, rfl, h0, hcap, hm, hb, hcell⟩
  · go_enter Try.func22, Try.ntmps22
    go_wp2
    go_loopw [10] (fun i wr => i = .int .i64 0 ∧ w = wr) (fun _ _ => 0)
    case atStart => exact ⟨rfl, rfl⟩
    case round =>
      obtain ⟨rfl, rfl⟩ := hrel
      go_wp2
      go_ret
      exact Or.inl ⟨rfl, by simp, by simp, Below.refl _ _⟩
  · have Hcell := Lib.hid hcell
    clear hcell
    by_cases hl : zs.length ≤ 2147483647
    · have hl1 : (zs.length : Int) ≤ 2147483647 := by omega
      go_enter Try.func22, Try.ntmps22
      go_wp2
      go_loopw [10] (fun i wr => ∃ k : Nat, k ≤ zs.length ∧ i = .int .i64 k ∧ Hid (∀ z ∈ zs.take k, Small z) ∧ Below w.heap.size w wr) (fun i _ => zs.length - (intOf i).toNat)
      case atStart => exact ⟨0, Nat.zero_le _, rfl, by intro z hz; simp at hz, Below.refl _ _⟩
      case round =>
        obtain ⟨k, hk, rfl, hsm, hbw⟩ := hrel
        by_cases hlt : k < zs.length
        · have c0 : wr.cell? ⟨b, off + k * 2, none⟩ = some (.string zs[k].1) := by
            rw [hbw.cell (p := ⟨b, off + k * 2, none⟩) hb]; exact Hcell.out k hlt 0 _ rfl
          have c1 : wr.cell? ⟨b, off + k * 2 + 1, none⟩ = some (.string zs[k].2) := by
            rw [hbw.cell (p := ⟨b, off + k * 2 + 1, none⟩) hb, Nat.add_assoc]; exact Hcell.out k hlt 1 _ rfl
          have hnext : Small zs[k] → Hid (∀ z ∈ zs.take (k + 1), Small z) := by
            intro hs z hz
            rw [List.take_succ_eq_append_getElem hlt] at hz
            rcases List.mem_append.1 hz with hz | hz
            · exact hsm.out z hz
            · rw [List.mem_singleton.1 hz]; exact hs
          obtain ⟨y, hy⟩ : ∃ y, zs[k].1 = y := ⟨_, rfl⟩
          obtain ⟨d, hd⟩ : ∃ d, zs[k].2 = d := ⟨_, rfl⟩
          rw [hy] at c0
          rw [hd] at c1
          have hsmall : Small zs[k] ↔ (y.size ≤ 2147483647 ∧ d.size ≤ 2147483647) := by unfold Small; rw [hy, hd]
          have HNx := Lib.hid hnext
          have HSm := Lib.hid hsmall
          have CF := Lib.hid (fits2_any y d)
          clear hnext hsmall hy hd
          cases hr : (decide (y.size ≤ 2147483647) && decide (d.size ≤ 2147483647)) with
          | true =>
            have hn := HNx.out (HSm.out.2 (by simpa using hr))
            have cf := CF.out
            rw [hr] at cf
            have CF := Lib.hid cf
            clear cf hr
            go_wp2_with fail
            refine (CF.out _).mono ?_
            rintro e w1 ⟨rfl, hb1⟩
            have hb2 : Below w.heap.size w w1 := (hbw.alloc hbw.size (.cells #[.string y, .string d] 57)).trans (hb1.mono (by have := hbw.size; simp; omega))
            clear hb1
            go_wp2
            go_roundw
            case rel => exact ⟨k + 1, by omega, by go_num, hn, hb2⟩
            case measure => simp [intOf]; omega
          | false =>
            have cf := CF.out
            rw [hr] at cf
            have CF := Lib.hid cf
            clear cf hr
            go_wp2_with fail
            refine (CF.out _).mono ?_
            rintro e w1 ⟨rfl, hb1⟩
            have hb2 : Below w.heap.size w w1 := (hbw.alloc hbw.size (.cells #[.string y, .string d] 57)).trans (hb1.mono (by have := hbw.size; simp; omega))
            clear hb1
            go_wp2
            go_ret
            exact Or.inr ⟨rfl, hb2⟩
        · have hall : Hid (∀ z ∈ zs, Small z) := by
            have := hsm.out
            rw [List.take_of_length_le (by omega)] at this
            exact this
          go_wp2
          go_ret
          exact Or.inl ⟨rfl, hl, hall.out, hbw⟩
    · have hl1 : (2147483647 : Int) < (zs.length : Int) := by omega
      go_enter Try.func22, Try.ntmps22
      go_wp2
      go_ret
      exact Or.inr ⟨rfl, Below.refl _ _⟩

theorem gzip_rest : restOf [⟨#[103, 122, 105, 112]⟩] 0 = [([103, 122, 105, 112], some oneF)] := by decide +kernel

set_option maxHeartbeats 1000000 in
set_option maxRecDepth 100000 in
theorem awake_any (w : World) : Calls Try.prog 24 #[] w (TrueB w) := by
  have hof : Sl.Of Value.string (w.alloc (.cells #[.string ⟨#[103, 122, 105, 112]⟩] 9)) (.slice (some ⟨w.heap.size, 0, none⟩) 1 1) [⟨#[103, 122, 105, 112]⟩] := by
    refine Or.inr ⟨w.heap.size, 0, 1, rfl, by simp, by simp, by omega, by simp, ?_⟩
    intro i hi
    rw [Sl.cell_new]
    match i, hi with
    | 0, _ => rfl
    | i + 1, hi => simp at hi
  have CI := impl_any _ _ _ hof (by intro s hs; simp at hs; subst hs; decide) (by rw [gzip_rest]; decide)
  rw [gzip_rest] at CI
  have HI := Lib.hid CI
  clear CI hof
  go_enter Try.func24, Try.ntmps24
  go_wp2_with fail
  refine HI.out.mono ?_
  rintro e W ⟨v, qs, rfl, hq, hden, hb⟩
  have hbW : Below w.heap.size w W := ((Below.refl w.heap.size w).alloc (Nat.le_refl _) _).trans (hb.mono (by simp))
  match qs, hden, hq with
  | [], hden, _ => cases hden
  | [z], hden, hq =>
    have h0 : den z = ([103, 122, 105, 112], some oneF) := by injection hden
    obtain ⟨z1, z2⟩ := z
    injection h0 with h1 h2
    have e1 : z1 = ⟨#[103, 122, 105, 112]⟩ := of_data h1
    have e2 : z2 = 4607182418800017408 := by
      have h2 : canon z2 = some oneF := h2
      unfold canon at h2
      split at h2
      · cases h2
      · injection h2
    subst e1
    subst e2
    rcases hq with ⟨h, _⟩ | ⟨b, off, cap, rfl, g0, hcap, hm, hbb, hcell⟩
    · cases h
    · have c0 : W.cell? ⟨b, off, none⟩ = some (.string ⟨#[103, 122, 105, 112]⟩) := hcell 0 (by simp) 0 _ rfl
      have c1 : W.cell? ⟨b, off + 1, none⟩ = some (.float .f64 4607182418800017408) := hcell 0 (by simp) 1 _ rfl
      have ho : (FloatKind.f64.format.order 4607182418800017408 4607182418800017408 == some Ordering.eq) = true := order_self (by decide +kernel)
      have HB := Lib.hid hbW
      clear hcell hb hbW h1 h2 hden
      go_wp2
      go_ret
      exact ⟨rfl, HB.out⟩
  | _ :: _ :: _, hden, _ => injection hden with _ h; cases h

end Go.Proofs.Ytaglcklbngoknaa.Acc
