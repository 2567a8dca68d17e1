/- The walk of acceptAwake; of the size guard over strings, where they are small. -/
import Derived.Test.YtkmfedmiaannfaaIAcc
set_option linter.unusedVariables false
set_option linter.unusedSimpArgs false
namespace Go.Proofs.Ytkmfedmiaannfaa.Acc
open Go.RowKit Plf Oct

def TrueA (w : World) (e : Ending) (w' : World) : Prop := e = .returned (.bool true) ∧ Below w.heap.size w w'
theorem order_one : (FloatKind.f64.format.order 4607182418800017408 4607182418800017408 == some Ordering.eq) = true := by decide +kernel
theorem gzip_rest : restOf [⟨#[103, 122, 105, 112]⟩] 0 = [([103, 122, 105, 112], some oneF)] := by decide +kernel

set_option maxHeartbeats 1000000 in
set_option maxRecDepth 100000 in
theorem awake_any (w : World) : Calls Try.prog 14 #[] w (TrueA w) := by
  have hof : Sl.Of Value.string (w.alloc (.cells #[.string ⟨#[103, 122, 105, 112]⟩] 9)) (.slice (some ⟨w.heap.size, 0, none⟩) 1 1) [⟨#[103, 122, 105, 112]⟩] := by
    refine Or.inr ⟨w.heap.size, 0, 1, rfl, by simp, by simp, by omega, by simp, ?_⟩
    intro i hi
    rw [Sl.cell_new]
    match i, hi with
    | 0, _ => rfl
    | i + 1, hi => simp at hi
  have CI := impl_any _ _ _ hof (by intro s hs; simp at hs; subst hs; decide) (by rw [gzip_rest]; decide)
  rw [gzip_rest] at CI
  have HI := Lib.hid CI
  clear CI hof
  go_enter Try.func14, Try.ntmps14
  go_wp2_with fail
  refine HI.out.mono ?_
  rintro e W ⟨v, qs, rfl, hq, hden, hb⟩
  have hbW : Below w.heap.size w W := ((Below.refl w.heap.size w).alloc (Nat.le_refl _) _).trans (hb.mono (by simp))
  match qs, hden, hq with
  | [], hden, _ => cases hden
  | [z], hden, hq =>
    have h0 : den z = ([103, 122, 105, 112], some oneF) := by injection hden
    obtain ⟨z1, z2⟩ := z
    injection h0 with h1 h2
    have e1 : z1 = ⟨#[103, 122, 105, 112]⟩ := of_data h1
    have e2 : z2 = 4607182418800017408 := by
      have h2 : canon z2 = some oneF := h2
      unfold canon at h2
      split at h2
      · cases h2
      · injection h2
    subst e1
    subst e2
    rcases hq with ⟨h, _⟩ | ⟨b, off, cap, rfl, g0, hcap, hm, hbb, hcell⟩
    · cases h
    · have c0 : W.cell? ⟨b, off, none⟩ = some (.string ⟨#[103, 122, 105, 112]⟩) := hcell 0 (by simp) 0 _ rfl
      have c1 : W.cell? ⟨b, off + 1, none⟩ = some (.float .f64 4607182418800017408) := hcell 0 (by simp) 1 _ rfl
      have ho := order_one
      have HB := Lib.hid hbW
      clear hcell hb hbW h1 h2 hden
      go_wp2
      go_ret
      exact ⟨rfl, HB.out⟩
  | _ :: _ :: _, hden, _ => injection hden with _ h; cases h

set_option maxHeartbeats 1000000 in
set_option maxRecDepth 100000 in
theorem fits3_any (v : Value) (zs : List ByteArray) (w : World) (hv : Sl.Of Value.string w v zs) (hl : zs.length ≤ 2147483647) (hs : ∀ z ∈ zs, z.size ≤ 2147483647) :
    Calls Try.prog 10 #[v] w fun e w' => e = .returned (.bool true) ∧ w = w' := by
  have hl1 : (zs.length : Int) ≤ 2147483647 := by omega
  rcases hv with ⟨rfl, a, cap, rfl, hcap⟩ | ⟨b, off, cap, rfl, h0, hcap, hm, hb, hcell⟩
  · clear hs
    go_enter Try.func10, Try.ntmps10
    go_wp2
    go_loopw [10] (fun i wr => i = .int .i64 0 ∧ w = wr) (fun _ _ => 0)
    case atStart => exact ⟨rfl, rfl⟩
    case round =>
      obtain ⟨rfl, rfl⟩ := hrel
      go_wp2
      go_ret
      exact ⟨rfl, rfl⟩
  · have Hcell := Lib.hid hcell
    have HS := Lib.hid hs
    clear hcell hs
    go_enter Try.func10, Try.ntmps10
    go_wp2
    go_loopw [10] (fun i wr => ∃ k : Nat, k ≤ zs.length ∧ i = .int .i64 k ∧ w = wr) (fun i _ => zs.length - (intOf i).toNat)
    case atStart => exact ⟨0, Nat.zero_le _, rfl, rfl⟩
    case round =>
      obtain ⟨k, hk, rfl, rfl⟩ := hrel
      by_cases hlt : k < zs.length
      · have c0 : w.cell? ⟨b, off + k, none⟩ = some (.string zs[k]) := Hcell.out k hlt
        have hsz : ((zs[k]).size : Int) ≤ 2147483647 := by have := HS.out _ (List.getElem_mem hlt); omega
        go_wp2
        go_roundw
        case rel => exact ⟨k + 1, by omega, by go_num, by first | rfl | trivial⟩
        case measure => simp [intOf]; omega
      · go_wp2
        go_ret
        exact ⟨rfl, rfl⟩

end Go.Proofs.Ytkmfedmiaannfaa.Acc
