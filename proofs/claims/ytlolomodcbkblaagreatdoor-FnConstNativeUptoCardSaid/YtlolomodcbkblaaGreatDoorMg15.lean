/- Metrics: a constant metric with a created timestamp (NewConstMetricWithCreatedTimestamp, impl.ConstDated). Native buckets: the counts of a constant histogram checked (validateCount): a sum over a map in whatever order. -/
import Derived.Test.YtlolomodcbkblaaGreatDoorMtd
import Derived.Test.YtlolomodcbkblaaGreatDoorMg7
import Derived.Test.YtlolomodcbkblaaGreatDoorSpv
set_option linter.unusedVariables false
set_option linter.unusedSimpArgs false
namespace Go.Proofs.YtlolomodcbkblaaGreatDoor.Mt
open Go.RowKit Go.Maps Go.WideMaps Go.ChangeShapes Go.WideShapes Go.Deep Fp Obs _root_.Go.Proofs.YtlolomodcbkblaaGreatDoor.Nd

def ErrOut (w : World) (e : Ending) (w' : World) : Prop := ∃ a, e = .returned (.iface 326 (ptr a)) ∧ Below w.heap.size w w'
set_option maxHeartbeats 1000000 in
set_option maxRecDepth 100000 in
theorem errNew_any (s : ByteArray) (w : World) : Calls Tryz.prog 102 #[.string s] w (ErrOut w) := by
  go_enter Tryz.func102, Tryz.ntmps102
  go_wp2
  go_ret
  exact ⟨_, rfl, (Below.refl _ _).alloc (Nat.le_refl _) _⟩
def ErrsOut (w : World) (e : Ending) (w' : World) : Prop := ∃ a, e = .returned (.tuple #[.nilIface, .iface 326 (ptr a)]) ∧ Below w.heap.size w w'
/-- nothing is written behind an error -/
def NoneOut (w : World) (e : Ending) (w' : World) : Prop := e = .returned (.tuple #[.agg (xcs (.slice none 0 0) 0 0 false 0 false 0), .bool false]) ∧ Below w.heap.size w w'
set_option maxHeartbeats 8000000 in
set_option maxRecDepth 100000 in
theorem writtenErr_any (a : Nat) (w : World) : Calls Tryz.prog 41 #[.nilIface, .iface 326 (ptr a)] w (NoneOut w) := by
  have hsz27 : (Tryz.prog.info? 40).map (·.size) = some 27 := by kernel_rfl
  go_enter Tryz.func41, Tryz.ntmps41
  go_upto_region 3 with fail
  obtain ⟨A, hA⟩ : ∃ A, A = (w.alloc (.cells #[.slice none 0 0, .int .i64 0, .float .f64 0, .bool false, .float .f64 0, .slice none 0 0, .int .i64 0, .int .i64 0, .bool false, .int .u64 0, .float .f64 0, .slice none 0 0, .int .i64 0, .bool false, .int .i32 0, .float .f64 0, .int .u64 0, .slice none 0 0, .slice none 0 0, .slice none 0 0, .slice none 0 0, .slice none 0 0, .int .u64 0, .float .f64 0, .slice none 0 0, .bool false, .int .i64 0] 40)).alloc (.cells #[.slice none 0 0, .pointer none, .pointer none, .pointer none, .pointer none, .pointer none, .pointer none] 201) := ⟨_, rfl⟩
  rw [← hA]
  have hw0 : Below w.heap.size w (w.alloc (.cells #[.slice none 0 0, .int .i64 0, .float .f64 0, .bool false, .float .f64 0, .slice none 0 0, .int .i64 0, .int .i64 0, .bool false, .int .u64 0, .float .f64 0, .slice none 0 0, .int .i64 0, .bool false, .int .i32 0, .float .f64 0, .int .u64 0, .slice none 0 0, .slice none 0 0, .slice none 0 0, .slice none 0 0, .slice none 0 0, .int .u64 0, .float .f64 0, .slice none 0 0, .bool false, .int .i64 0] 40)) := (Below.refl _ _).alloc (Nat.le_refl _) _
  have s1 : (w.alloc (.cells #[.slice none 0 0, .int .i64 0, .float .f64 0, .bool false, .float .f64 0, .slice none 0 0, .int .i64 0, .int .i64 0, .bool false, .int .u64 0, .float .f64 0, .slice none 0 0, .int .i64 0, .bool false, .int .i32 0, .float .f64 0, .int .u64 0, .slice none 0 0, .slice none 0 0, .slice none 0 0, .slice none 0 0, .slice none 0 0, .int .u64 0, .float .f64 0, .slice none 0 0, .bool false, .int .i64 0] 40)).heap.size = w.heap.size + 1 := by simp
  have hqb : Below w.heap.size w A := by rw [hA]; exact hw0.alloc (by simp) _
  have hWr : Whole A w.heap.size 40 (xcs (.slice none 0 0) 0 0 false 0 false 0) := by
    rw [hA]
    have hz : Below (w.heap.size + 1) (w.alloc (.cells #[.slice none 0 0, .int .i64 0, .float .f64 0, .bool false, .float .f64 0, .slice none 0 0, .int .i64 0, .int .i64 0, .bool false, .int .u64 0, .float .f64 0, .slice none 0 0, .int .i64 0, .bool false, .int .i32 0, .float .f64 0, .int .u64 0, .slice none 0 0, .slice none 0 0, .slice none 0 0, .slice none 0 0, .slice none 0 0, .int .u64 0, .float .f64 0, .slice none 0 0, .bool false, .int .i64 0] 40)) _ := (Below.refl _ _).alloc (by rw [s1]; exact Nat.le_refl _) (.cells #[.slice none 0 0, .pointer none, .pointer none, .pointer none, .pointer none, .pointer none, .pointer none] 201)
    exact (hz.block w.heap.size (by omega)).trans (Whole.made w _ _)
  have s2 : w.heap.size < A.heap.size := hWr.lt
  have HQ := Lib.hid hqb
  clear hA hw0 s1 hqb
  go_step
  refine wpList_plain rfl fun K3 hK3 => ?_
  go_simp
  refine hK3 _ _ ?_
  refine Big.wpList_store_whole rfl _ _ _ rfl w.heap.size 40 _ (xcs (.slice none 0 0) 0 0 false 0 false 0) rfl rfl hWr rfl hsz27 (xcs_ones _ _ _ _ _ _ _ _ _) ?_
  intro W7 hx7 hg7 hs7
  simp only [Act.put]
  have HF : Hid (NoneOut w (.returned (.tuple #[.agg (xcs (.slice none 0 0) 0 0 false 0 false 0), .bool false])) W7) := ⟨rfl, HQ.out.grown hg7 (by omega) (fun j hj => by injection hj with hj; omega)⟩
  have HX7 := Lib.hid hx7
  clear hx7 hg7 hs7 hWr
  go_wp2_with fail
  exact bodyPost_ret (v := .tuple #[.agg (xcs (.slice none 0 0) 0 0 false 0 false 0), .bool false]) (res2 rfl _ _ _ _ _ _ rfl (Big.loaded_whole 40 w.heap.size 40 _ HX7.out _ Tryz.underlying40 rfl hsz27) rfl) rfl HF.out

end Go.Proofs.YtlolomodcbkblaaGreatDoor.Mt

set_option linter.unusedVariables false
set_option linter.unusedSimpArgs false
namespace Go.Proofs.YtlolomodcbkblaaGreatDoor.Cn
open Go.RowKit Go.Maps Go.WideMaps Go.ChangeShapes Go.WideShapes Go.Deep Fp _root_.Go.Proofs.YtlolomodcbkblaaGreatDoor.Sp

/-- the counts of the keys met -/
def sumK (L : List N2) (ks : List Int) : Int := (ks.map fun k => (lastN L k).getD 0).sum
theorem sumK_snoc (L : List N2) (ks : List Int) (x c : Int) (h : lastN L x = some c) : sumK L (ks ++ [x]) = sumK L ks + c := by
  unfold sumK; simp [h]
def Counts (L : List N2) : Prop := ∀ k v, lastN L k = some v → 0 ≤ v ∧ v ≤ 1073741824
theorem sumK_in {L : List N2} (h : Counts L) (ks : List Int) : 0 ≤ sumK L ks ∧ sumK L ks ≤ 1073741824 * ks.length := by
  induction ks with
  | nil => simp [sumK]
  | cons k ks ih =>
    have e : sumK L (k :: ks) = (lastN L k).getD 0 + sumK L ks := by unfold sumK; simp
    have h1 : 0 ≤ (lastN L k).getD 0 ∧ (lastN L k).getD 0 ≤ 1073741824 := by
      cases e2 : lastN L k with
      | none => simp
      | some v => exact h k v e2
    rw [e, List.length_cons]
    have e2 : (1073741824 : Int) * ((ks.length + 1 : Nat) : Int) = 1073741824 * ks.length + 1073741824 := by omega
    rw [e2]
    omega
/-- the sum over all keys -/
def SumOf (L : List N2) (s : Int) : Prop := ∃ ks : List Int, ks.Nodup ∧ (∀ k, k ∈ ks ↔ (lastN L k).isSome = true) ∧ s = sumK L ks
/-- behind some rounds of the loop over the map in block b, whose state lies in block r -/
structure SumQ (L : List N2) (b r n : Nat) (D : DataW Unit) (w : World) (s : Int) (wr : World) : Prop where
  st : ∃ ks left cnt, wr.ranges Tryz.prog 3 (plainElem Tryz.prog 2) b r n D left cnt ∧ KeysAt L left ks ∧ ks.length + cnt ≤ n ∧ s = sumK L ks
  b : Below r w wr
  lt : r < wr.heap.size
theorem last_of {D : DataW Unit} {L : List N2} {x c : Int} (hat : AtL D L) (hc : ∀ z, D.atKey (il x) z = .lit (il c)) : lastN L x = some c := by
  have h1 := hc .nil
  rw [hat x .nil] at h1
  cases e : lastN L x with
  | none => rw [e] at h1; cases h1
  | some v =>
    rw [e] at h1
    have h2 : il v = il c := by injection h1
    rw [il_inj h2]
theorem SumQ.next {L : List N2} {b r n cnt cnt1 : Nat} {D : DataW Unit} {w wr w1 : World} {ks : List Int} {left : Lit → Bool} {x c : Int} (hat : AtL D L)
    (hrg : wr.ranges Tryz.prog 3 (plainElem Tryz.prog 2) b r n D left cnt) (hk : KeysAt L left ks) (hcn : ks.length + cnt ≤ n) (hbw : Below r w wr) (hsz : r < wr.heap.size)
    (hx : left (il x) = true) (hc : ∀ z, D.atKey (il x) z = .lit (il c)) (hrg1 : w1.ranges Tryz.prog 3 (plainElem Tryz.prog 2) b r n D (fun z => left z && !z.sameKey (il x)) cnt1) (hlt : cnt1 < cnt)
    (hg1 : wr.grownBy w1 (some r)) : SumQ L b r n D w (sumK L ks + c) w1 ∧ w1.rangeLeft b r < wr.rangeLeft b r := by
  refine ⟨⟨⟨ks ++ [x], _, cnt1, hrg1, hk.step hat hx hc, by simp; omega, (sumK_snoc L ks x c (last_of hat hc)).symm⟩, hbw.grown hg1 (by omega) (fun j hj => by injection hj with hj; omega), Nat.lt_of_lt_of_le hsz hg1.size⟩, ?_⟩
  rw [hrg1.left_eq, hrg.left_eq]; exact hlt

set_option maxHeartbeats 1000000 in
set_option maxRecDepth 100000 in
theorem isNaN_any (z : Nat) (w : World) : Calls Tryz.prog 134 #[.float .f64 z] w fun e w' => e = .returned (.bool (FloatKind.f64.format.order z z != some Ordering.eq)) ∧ w = w' := by
  go_enter Tryz.func134, Tryz.ntmps134
  go_wp2
  go_ret
  exact ⟨rfl, rfl⟩

/-- what validateCount answers: nil, or an error -/
def ValOut (ok : Prop) (w : World) (e : Ending) (w' : World) : Prop :=
  ((ok ∧ e = .returned .nilIface) ∨ (¬ ok ∧ ∃ t v, e = .returned (.iface t v))) ∧ Below w.heap.size w w'
set_option maxHeartbeats 4000000 in
set_option maxRecDepth 100000 in
theorem validateCount_any (P Q : List N2) (bp bq : Nat) (z : Nat) (count zero : Int) (w : World) (hP : Mi w bp P) (hQ : Mi w bq Q) (hPl : P.length ≤ 2147483647) (hQl : Q.length ≤ 2147483647) (hcP : Counts P) (hcQ : Counts Q) (tP tQ : Int) (htP : ∀ s, SumOf P s → s = tP) (htQ : ∀ s, SumOf Q s → s = tQ) (hz : 0 ≤ zero ∧ zero ≤ 1073741824) (hcount : tP + tQ + zero ≤ count ∧ count ≤ 9223372036854775807) :
    Calls Tryz.prog 103 #[.float .f64 z, .int .u64 count, .map (some bq), .map (some bp), .int .u64 zero] w (ValOut ((FloatKind.f64.format.order z z != some Ordering.eq) = true ∨ count = tP + tQ + zero) w) := by
  obtain ⟨n, D, hn, hown, hat⟩ := hP
  have hbl := hown.lt
  have hsl := hown.size_le
  have HO := Lib.hid hown
  have HAt := Lib.hid hat
  have HCp := Lib.hid hcP
  have HCq := Lib.hid hcQ
  have HMq := Lib.hid hQ
  have HFin : Hid (∀ s t, SumOf P s → SumOf Q t → s = tP ∧ t = tQ) := fun s t h1 h2 => ⟨htP s h1, htQ t h2⟩
  clear hown hat hcP hcQ hQ htP htQ
  go_enter Tryz.func103, Tryz.ntmps103
  go_wp2_with (first
    | (at_range; refine wpList_range_own _ rfl _ 152 rfl 3 2 lawI Tryz.underlying152 (plainElem Tryz.prog 2) bp n D rfl HO.out ?_; intro w0 hrg0 hg0 hs0; have HRg0 := Lib.hid hrg0; have HG0 := Lib.hid hg0; have HS0 := Lib.hid hs0; clear hrg0 hg0 hs0))
  go_frame
  go_loopw [11] (fun v wr => ∃ s, v = .int .i64 s ∧ Hid (SumQ P bp w.heap.size n D w s wr)) (fun _ wr => wr.rangeLeft bp w.heap.size)
  case atStart =>
    refine ⟨0, rfl, ⟨⟨[], _, _, HRg0.out, KeysAt.start HAt.out, by simp; exact hsl, rfl⟩, ⟨HG0.out.os, HG0.out.tape, HG0.out.output, HG0.out.size, fun i hi => HG0.out.block i hi (by simp)⟩, by rw [HS0.out]; exact Nat.lt_succ_self _⟩⟩
  case round =>
    obtain ⟨s, rfl, hq⟩ := hrel
    obtain ⟨ks, left, cnt, hrg, hka, hcn, hs⟩ := hq.out.st
    have hin := sumK_in HCp.out ks
    rw [← hs] at hin
    have HRg := Lib.hid hrg
    have HKa := Lib.hid hka
    have HBw := Lib.hid hq.out.b
    have HSz := Lib.hid hq.out.lt
    have HS := Lib.hid hs
    clear hrg hka hq hs
    go_wp2_with (first
      | (at_next; refine wpList_next_ranges_ii _ rfl _ rfl 3 2 .i64 .i64 lawI Tryz.underlying3 Tryz.underlying2 bp w.heap.size n D left cnt rfl HRg.out ?_ ?_))
    · intro hc0 hl0
      have hsum1 : Hid (SumOf P s) := ⟨ks, HKa.out.nd, KeysAt.done HKa.out hl0, HS.out⟩
      have hkl : ks.length ≤ 2147483647 := by omega
      have hs1 : 0 ≤ s ∧ s ≤ 2305843009213693952 := by omega
      obtain ⟨W1, rfl⟩ : ∃ W1, W1 = wr := ⟨_, rfl⟩
      obtain ⟨n2, D2, hn2, hown2, hat2⟩ := HMq.out.below HBw.out
      have hsl2 := hown2.size_le
      have HO2 := Lib.hid hown2
      have HAt2 := Lib.hid hat2
      have HW1 : Hid (Below w.heap.size w W1) := HBw.out
      clear hc0 hl0 hown2 hat2 HRg HKa HBw HS hin HRg0 HG0 HS0 hsl hkl
      go_wp2_with (first
        | (at_range; refine wpList_range_own _ rfl _ 152 rfl 3 2 lawI Tryz.underlying152 (plainElem Tryz.prog 2) bq n2 D2 rfl HO2.out ?_; intro w0 hrg0 hg0 hs0; have HRg0 := Lib.hid hrg0; have HG0 := Lib.hid hg0; have HS0 := Lib.hid hs0; clear hrg0 hg0 hs0))
      go_frame
      go_loopw [11] (fun v wr => ∃ t, v = .int .i64 (s + t) ∧ Hid (SumQ Q bq W1.heap.size n2 D2 W1 t wr)) (fun _ wr => wr.rangeLeft bq W1.heap.size)
      case atStart =>
        refine ⟨0, by rw [Int.add_zero], ⟨⟨[], _, _, HRg0.out, KeysAt.start HAt2.out, by simp; exact hsl2, rfl⟩, ⟨HG0.out.os, HG0.out.tape, HG0.out.output, HG0.out.size, fun i hi => HG0.out.block i hi (by simp)⟩, by rw [HS0.out]; exact Nat.lt_succ_self _⟩⟩
      case round =>
        obtain ⟨t, rfl, hq⟩ := hrel
        obtain ⟨ks, left, cnt, hrg, hka, hcn, hs⟩ := hq.out.st
        have hin := sumK_in HCq.out ks
        rw [← hs] at hin
        have HRg := Lib.hid hrg
        have HKa := Lib.hid hka
        have HBw := Lib.hid hq.out.b
        have HSz := Lib.hid hq.out.lt
        have HS := Lib.hid hs
        clear hrg hka hq hs
        go_wp2_with (first
          | (at_next; refine wpList_next_ranges_ii _ rfl _ rfl 3 2 .i64 .i64 lawI Tryz.underlying3 Tryz.underlying2 bq W1.heap.size n2 D2 left cnt rfl HRg.out ?_ ?_))
        · intro hc0 hl0
          have hsum2 : Hid (SumOf Q t) := ⟨ks, HKa.out.nd, KeysAt.done HKa.out hl0, HS.out⟩
          have hkl : ks.length ≤ 2147483647 := by omega
          have ht1 : 0 ≤ t ∧ t ≤ 2305843009213693952 := by omega
          have HW2 : Hid (Below w.heap.size w wr) := HW1.out.trans (HBw.out.mono HW1.out.size)
          obtain ⟨W2, rfl⟩ : ∃ W2, W2 = wr := ⟨_, rfl⟩
          have hT := HFin.out s t hsum1.out hsum2.out
          have wz : IntKind.i64.wrap zero = zero := wrap_in _ (by omega)
          have wcn : IntKind.i64.wrap count = count := wrap_in _ (by omega)
          have wa : IntKind.i64.wrap (s + t + zero) = s + t + zero := wrap_in _ (by omega)
          have hle : ¬ count < s + t + zero := by omega
          clear hc0 hl0 HRg HKa HBw HSz HS hin hsum1 hsum2 HW1 HO2 HAt2 HRg0 HG0 HS0 hcn hkl
          by_cases hnan : (FloatKind.f64.format.order z z != some Ordering.eq) = true
          · go_wp2_with (go_at_call 134; refine (isNaN_any _ _).mono ?_; rintro e w9 ⟨rfl, rfl⟩)
            go_ret
            exact ⟨Or.inl ⟨Or.inl hnan, rfl⟩, HW2.out⟩
          · by_cases heq : s + t + zero = count
            · go_wp2_with (go_at_call 134; refine (isNaN_any _ _).mono ?_; rintro e w9 ⟨rfl, rfl⟩)
              go_ret
              exact ⟨Or.inl ⟨Or.inr (by omega), rfl⟩, HW2.out⟩
            · go_wp2_with (first
                | (go_at_call 134; refine (isNaN_any _ _).mono ?_; rintro e w9 ⟨rfl, rfl⟩)
                | (go_at_call 102; refine (Mt.errNew_any _ _).mono ?_; rintro e w9 ⟨ae, rfl, hb9⟩; have HW9 : Hid (Below w.heap.size w w9) := HW2.out.trans (hb9.mono HW2.out.size); clear hb9))
              go_ret
              exact ⟨Or.inr ⟨fun h => by rcases h with h | h; exact hnan h; omega, _, _, rfl⟩, HW9.out⟩
        · intro x c w1 cnt1 hwx hwc hlx hat1 hrg1 hlt1 hgr1 hsz1 hen1
          have hc : 0 ≤ c ∧ c ≤ 1073741824 := HCq.out x c (last_of HAt2.out hat1)
          have hnx := Lib.hid (SumQ.next HAt2.out HRg.out HKa.out hcn HBw.out HSz.out hlx hat1 hrg1 hlt1 hgr1)
          have wc : IntKind.i64.wrap (s + t + c) = s + t + c := wrap_in _ (by omega)
          rw [← HS.out] at hnx
          clear hlx hat1 hrg1 hgr1
          go_wp2_with fail
          go_roundw
          case rel => exact ⟨t + c, by rw [Int.add_assoc], hnx.out.1⟩
          case measure => exact hnx.out.2
    · intro x c w1 cnt1 hwx hwc hlx hat1 hrg1 hlt1 hgr1 hsz1 hen1
      have hc : 0 ≤ c ∧ c ≤ 1073741824 := HCp.out x c (last_of HAt.out hat1)
      have hnx := Lib.hid (SumQ.next HAt.out HRg.out HKa.out hcn HBw.out HSz.out hlx hat1 hrg1 hlt1 hgr1)
      have wc : IntKind.i64.wrap (s + c) = s + c := wrap_in _ (by omega)
      rw [← HS.out] at hnx
      clear hlx hat1 hrg1 hgr1
      go_wp2_with fail
      go_roundw
      case rel => exact ⟨s + c, rfl, hnx.out.1⟩
      case measure => exact hnx.out.2

end Go.Proofs.YtlolomodcbkblaaGreatDoor.Cn
