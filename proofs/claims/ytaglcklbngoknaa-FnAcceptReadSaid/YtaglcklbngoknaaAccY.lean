/- The walks of the law's own helpers: sameAccepts, acceptLines, acceptAwake. -/
import Derived.Test.YtaglcklbngoknaaAccX
import Derived.Test.YtaglcklbngoknaaIAcc
import Derived.Deep.QuietTactic
import Derived.BigQuiet
import Derived.StillTailTactics
set_option linter.unusedVariables false
set_option linter.unusedSimpArgs false
namespace Go.Proofs.Ytaglcklbngoknaa.Acc
open Go.RowKit Plf Oct

theorem order_self {q : Nat} (h : isNan D q = false) : (FloatKind.f64.format.order q q == some Ordering.eq) = true := by
  have : D.order q q = some (compare (sv D q) (sv D q)) := order_num h h
  show (D.order q q == some Ordering.eq) = true
  rw [this, Int.compare_eq_eq.2 rfl]
  rfl

theorem den_eq {a b : M} (h : den a = den b) (ha : isNan D a.2 = false) : a = b := by
  obtain ⟨a1, a2⟩ := a
  obtain ⟨b1, b2⟩ := b
  unfold den at h
  injection h with h1 h2
  have e1 : a1 = b1 := by rw [of_data (s := a1) rfl, of_data (s := b1) rfl, h1]
  unfold canon at h2
  have ha : isNan D a2 = false := ha
  simp only at h2
  rw [ha] at h2
  cases hb : isNan D b2 with
  | true => rw [hb] at h2; cases h2
  | false =>
    rw [hb] at h2
    injection h2 with h2
    rw [e1, h2]

def TrueB (w : World) (e : Ending) (w' : World) : Prop := e = .returned (.bool true) ∧ Below w.heap.size w w'

set_option maxHeartbeats 4000000 in
set_option maxRecDepth 100000 in
theorem same_any (v1 v2 : Value) (qs : List M) (w : World) (h1 : Ss.Of 2 cells w v1 qs) (h2 : Ss.Of 2 cells w v2 qs) (hn : ∀ z ∈ qs, isNan D z.2 = false) :
    Calls Try.prog 25 #[v1, v2] w (TrueB w) := by
  rcases h1 with ⟨hq, a, cap, rfl, hcap⟩ | ⟨b, off, cap, rfl, h0, hcap, hm, hb, hcell⟩
  · subst hq
    rcases h2 with ⟨_, a2, cap2, rfl, hcap2⟩ | ⟨b, off, cap2, rfl, h0, _⟩
    · clear hn
      go_enter Try.func25, Try.ntmps25
      go_wp2
      go_loopw [5] (fun i wr => i = .int .i64 0 ∧ w = wr) (fun _ _ => 0)
      case atStart => exact ⟨rfl, rfl⟩
      case round =>
        obtain ⟨rfl, rfl⟩ := hrel
        go_wp2
        go_ret
        exact ⟨rfl, Below.refl _ _⟩
    · simp at h0
  · rcases h2 with ⟨hq, _⟩ | ⟨b2, off2, cap2, rfl, h02, hcap2, hm2, hb2, hcell2⟩
    · subst hq; simp at h0
    · have Hcell := Lib.hid hcell
      have Hcell2 := Lib.hid hcell2
      have HN := Lib.hid hn
      clear hcell hcell2 hn
      have hne : ((qs.length : Int) == (qs.length : Int)) = true := beq_self_eq_true _
      go_enter Try.func25, Try.ntmps25
      go_wp2
      go_loopw [5] (fun i wr => ∃ k : Nat, k ≤ qs.length ∧ i = .int .i64 k ∧ Below w.heap.size w wr) (fun i _ => qs.length - (intOf i).toNat)
      case atStart => exact ⟨0, Nat.zero_le _, rfl, Below.refl _ _⟩
      case round =>
        obtain ⟨k, hk, rfl, hbw⟩ := hrel
        by_cases hlt : k < qs.length
        · have c0 : wr.cell? ⟨b, off + k * 2, none⟩ = some (.string qs[k].1) := by
            rw [hbw.cell (p := ⟨b, off + k * 2, none⟩) hb]; exact Hcell.out k hlt 0 _ rfl
          have c1 : wr.cell? ⟨b, off + k * 2 + 1, none⟩ = some (.float .f64 qs[k].2) := by
            rw [hbw.cell (p := ⟨b, off + k * 2 + 1, none⟩) hb, Nat.add_assoc]; exact Hcell.out k hlt 1 _ rfl
          have e0 : wr.cell? ⟨b2, off2 + k * 2, none⟩ = some (.string qs[k].1) := by
            rw [hbw.cell (p := ⟨b2, off2 + k * 2, none⟩) hb2]; exact Hcell2.out k hlt 0 _ rfl
          have e1 : wr.cell? ⟨b2, off2 + k * 2 + 1, none⟩ = some (.float .f64 qs[k].2) := by
            rw [hbw.cell (p := ⟨b2, off2 + k * 2 + 1, none⟩) hb2, Nat.add_assoc]; exact Hcell2.out k hlt 1 _ rfl
          have hqn := HN.out _ (List.getElem_mem hlt)
          obtain ⟨y, hy⟩ : ∃ y, qs[k].1 = y := ⟨_, rfl⟩
          obtain ⟨q, hq⟩ : ∃ q, qs[k].2 = q := ⟨_, rfl⟩
          rw [hy] at c0 e0
          rw [hq] at c1 e1 hqn
          have hord := order_self hqn
          have hord2 : (FloatKind.f64.format.order q q != some Ordering.eq) = false := by unfold bne; rw [hord]; rfl
          clear hy hq hqn
          go_wp2
          go_quiet (fail)
          have hbw2 := below_drewN hbw nq
          go_wp2
          go_roundw
          case rel => exact ⟨k + 1, by omega, by go_num, hbw2⟩
          case measure => simp [intOf]; omega
        · go_wp2
          go_ret
          exact ⟨rfl, hbw⟩

def gapOf (blank : Bool) : ByteArray := if blank then ⟨#[32]⟩ else ⟨#[]⟩
def LinesB (zs : List B2) (k : Nat) (gap : ByteArray) (w : World) (e : Ending) (w' : World) : Prop :=
  ∃ v, e = .returned v ∧ Sl.Of Value.string w' v [⟨(line gap.data.toList ((zs.take k).map toQ)).toArray⟩, ⟨(line gap.data.toList ((zs.drop k).map toQ)).toArray⟩] ∧ Below w.heap.size w w'

theorem of_take {w : World} {b off cap : Nat} {zs : List B2} (hcap : zs.length ≤ cap) (hm : cap ≤ 9223372036854775807) (hb : b < w.heap.size) (hcell : ∀ i (h : i < zs.length) j u, (cells2 zs[i])[j]? = some u → w.cell? ⟨b, off + (i * 2 + j), none⟩ = some u) (k : Nat) (hk : k ≤ zs.length) :
    Ss.Of 2 cells2 w (.slice (some ⟨b, off, none⟩) k cap) (zs.take k) := by
  by_cases h : k = 0
  · subst h; exact Or.inl ⟨by simp, _, cap, rfl, hm⟩
  · refine Or.inr ⟨b, off, cap, by simp; omega, by simp; omega, by simp; omega, hm, hb, ?_⟩
    intro i hi j u hu
    rw [List.getElem_take] at hu
    exact hcell i (by simp at hi; omega) j u hu
theorem of_drop {w : World} {b off cap : Nat} {zs : List B2} (hcap : zs.length ≤ cap) (hm : cap ≤ 9223372036854775807) (hb : b < w.heap.size) (hcell : ∀ i (h : i < zs.length) j u, (cells2 zs[i])[j]? = some u → w.cell? ⟨b, off + (i * 2 + j), none⟩ = some u) (k : Nat) (hk : k ≤ zs.length) :
    Ss.Of 2 cells2 w (.slice (some ⟨b, off + k * 2, none⟩) (zs.length - k) (cap - k)) (zs.drop k) := by
  by_cases h : k = zs.length
  · subst h; exact Or.inl ⟨by simp, _, cap - zs.length, by rw [Nat.sub_self], by omega⟩
  · refine Or.inr ⟨b, off + k * 2, cap - k, by simp, by simp; omega, by simp; omega, by omega, hb, ?_⟩
    intro i hi j u hu
    rw [List.getElem_drop] at hu
    have := hcell (k + i) (by simp at hi; omega) j u hu
    rw [show off + k * 2 + (i * 2 + j) = off + ((k + i) * 2 + j) by omega]
    exact this

theorem turned {P : Program} {f : FuncId} {args : Array Value} {w : World} {x : Ending} (h : Calls P f args w fun e w' => e = x ∧ w = w') : Calls P f args w fun e w' => e = x ∧ w' = w := h.mono fun _ _ hh => ⟨hh.1, hh.2.symm⟩

theorem lines_made {zs : List B2} {k : Nat} {gap : ByteArray} {w w2 : World} {s1 s2 : ByteArray} (hb : Below w.heap.size w w2)
    (h1 : (⟨(line gap.data.toList ((zs.take k).map toQ)).toArray⟩ : ByteArray) = s1) (h2 : (⟨(line gap.data.toList ((zs.drop k).map toQ)).toArray⟩ : ByteArray) = s2) :
    LinesB zs k gap w (.returned (.slice (some ⟨w2.heap.size, 0, none⟩) 2 2)) (w2.alloc (.cells #[.string s1, .string s2] 9)) := by
  refine ⟨_, rfl, ?_, hb.alloc hb.size _⟩
  rw [h1, h2]
  refine Or.inr ⟨w2.heap.size, 0, 2, rfl, by simp, by simp, by omega, by simp, ?_⟩
  intro i hi
  rw [Sl.cell_new]
  match i, hi with
  | 0, _ => rfl
  | 1, _ => rfl
  | i + 2, hi => simp at hi; omega

set_option maxHeartbeats 4000000 in
set_option maxRecDepth 100000 in
theorem lines_any (v : Value) (zs : List B2) (c : Nat) (blank : Bool) (w : World) (hc : c < 256) (hv : Ss.Of 2 cells2 w v zs) (hn : zs.length ≤ 2147483647)
    (h1 : ∀ z ∈ zs, z.1.size ≤ 2147483647) (h2 : ∀ z ∈ zs, z.2.size ≤ 5) :
    Calls Try.prog 27 #[v, .int .u8 c, .bool blank] w (LinesB zs (c % (zs.length + 1)) (gapOf blank) w) := by
  rcases hv with ⟨rfl, a, cap, rfl, hcap⟩ | ⟨b, off, cap, rfl, h0, hcap, hm, hb, hcell⟩
  · have hk : c % (([] : List B2).length + 1) = 0 := by simp [Nat.mod_one]
    rw [hk]
    clear h1 h2 hk
    cases blank
    · obtain ⟨s1, hs1⟩ : ∃ s1 : ByteArray, (⟨(line (ByteArray.mk #[]).data.toList (([] : List B2).map toQ)).toArray⟩ : ByteArray) = s1 := ⟨_, rfl⟩
      have cl := line_any (.slice a 0 cap) [] ⟨#[]⟩ w.drew (Or.inl ⟨rfl, a, cap, rfl, hcap⟩) (by decide) (by simp) (by simp) (by simp)
      rw [hs1] at cl
      have CL := Lib.hid (turned cl)
      have CM := Lib.hid (turned cl)
      have HS1 := Lib.hid hs1
      have HS2 := Lib.hid hs1
      clear cl hs1
      go_enter Try.func27, Try.ntmps27
      go_wp2
      refine wp_region_still_tail 10 (by kernel_rfl) (by kernel_rfl) ?_
      simp only [List.take_succ_cons, List.take_zero, List.drop_succ_cons, List.drop_zero]
      repeat still_step
      still_call CL.out
      repeat still_step
      still_call CM.out
      refine wpStill_nil ?_
      change wpList _ _ _ _ _ w.drew
      have hbd : Below w.heap.size w w.drew := (Below.refl _ _).drew
      clear CL CM
      generalize w.drew = w2 at *
      go_wp2
      go_ret
      exact lines_made hbd HS1.out HS2.out
    · obtain ⟨s1, hs1⟩ : ∃ s1 : ByteArray, (⟨(line (ByteArray.mk #[32]).data.toList (([] : List B2).map toQ)).toArray⟩ : ByteArray) = s1 := ⟨_, rfl⟩
      have cl := line_any (.slice a 0 cap) [] ⟨#[32]⟩ w.drew (Or.inl ⟨rfl, a, cap, rfl, hcap⟩) (by decide) (by simp) (by simp) (by simp)
      rw [hs1] at cl
      have CL := Lib.hid (turned cl)
      have CM := Lib.hid (turned cl)
      have HS1 := Lib.hid hs1
      have HS2 := Lib.hid hs1
      clear cl hs1
      go_enter Try.func27, Try.ntmps27
      go_wp2
      refine wp_region_still_tail 10 (by kernel_rfl) (by kernel_rfl) ?_
      simp only [List.take_succ_cons, List.take_zero, List.drop_succ_cons, List.drop_zero]
      repeat still_step
      still_call CL.out
      repeat still_step
      still_call CM.out
      refine wpStill_nil ?_
      change wpList _ _ _ _ _ w.drew
      have hbd : Below w.heap.size w w.drew := (Below.refl _ _).drew
      clear CL CM
      generalize w.drew = w2 at *
      go_wp2
      go_ret
      exact lines_made hbd HS1.out HS2.out
  · obtain ⟨k, hk⟩ : ∃ k, c % (zs.length + 1) = k := ⟨_, rfl⟩
    rw [hk]
    have hkn : k ≤ zs.length := by have := Nat.mod_lt c (show zs.length + 1 > 0 by omega); omega
    have hki : (c : Int) % ((zs.length : Int) + 1) = (k : Int) := by rw [← hk, Int.natCast_emod, Int.natCast_add]; rfl
    have T := of_take hcap hm hb hcell k hkn
    have Dr := of_drop hcap hm hb hcell k hkn
    have t1 : ∀ z ∈ zs.take k, z.1.size ≤ 2147483647 := fun z hz => h1 z (List.mem_of_mem_take hz)
    have t2 : ∀ z ∈ zs.take k, z.2.size ≤ 5 := fun z hz => h2 z (List.mem_of_mem_take hz)
    have d1 : ∀ z ∈ zs.drop k, z.1.size ≤ 2147483647 := fun z hz => h1 z (List.mem_of_mem_drop hz)
    have d2 : ∀ z ∈ zs.drop k, z.2.size ≤ 5 := fun z hz => h2 z (List.mem_of_mem_drop hz)
    have lt : (zs.take k).length ≤ 2147483647 := by rw [List.length_take]; omega
    have ld : (zs.drop k).length ≤ 2147483647 := by rw [List.length_drop]; omega
    have hbk : Below w.heap.size w w.drew := (Below.refl _ _).drew
    have T := T.below hbk
    have Dr := Dr.below hbk
    have Dr2 : cap = k → Ss.Of 2 cells2 w.drew (.slice (some ⟨b, off, none⟩) (zs.length - k) (cap - k)) (zs.drop k) := fun h => by
      have : k = zs.length := by omega
      subst this
      exact Or.inl ⟨by simp, _, cap - zs.length, by rw [Nat.sub_self], by omega⟩
    have HK := Lib.hid hk
    have z1 : (0 : Int) ≤ (k : Int) := by omega
    have z2 : (k : Int) ≤ (zs.length : Int) := by omega
    have z3 : (k : Int) ≤ (cap : Int) := by omega
    clear hk h1 h2 hcell hbk
    by_cases hck : cap = k
    · have Dz : Ss.Of 2 cells2 w.drew (.slice (some ⟨b, off, none⟩) 0 0) (zs.drop k) := Or.inl ⟨by rw [List.drop_of_length_le (by omega)], _, 0, rfl, by omega⟩
      clear Dr2
      have hcz : cap = zs.length := by omega
      have hkz : k = zs.length := by omega
      subst hcz
      subst hkz
      clear hck
      cases blank
      · obtain ⟨s1, hs1⟩ : ∃ s1 : ByteArray, (⟨(line (ByteArray.mk #[]).data.toList ((zs.take zs.length).map toQ)).toArray⟩ : ByteArray) = s1 := ⟨_, rfl⟩
        obtain ⟨s2, hs2⟩ : ∃ s2 : ByteArray, (⟨(line (ByteArray.mk #[]).data.toList ((zs.drop zs.length).map toQ)).toArray⟩ : ByteArray) = s2 := ⟨_, rfl⟩
        have cl := line_any _ _ ⟨#[]⟩ w.drew T (by decide) lt t1 t2
        have cm := line_any _ _ ⟨#[]⟩ w.drew Dz (by decide) ld d1 d2
        rw [hs1] at cl
        rw [hs2] at cm
        have CL := Lib.hid (turned cl)
        have CM := Lib.hid (turned cm)
        have HS1 := Lib.hid hs1
        have HS2 := Lib.hid hs2
        clear cl cm hs1 hs2 T Dr Dz t1 t2 d1 d2 lt ld
        go_enter Try.func27, Try.ntmps27
        go_wp2
        refine wp_region_still_tail 10 (by kernel_rfl) (by kernel_rfl) ?_
        simp only [List.take_succ_cons, List.take_zero, List.drop_succ_cons, List.drop_zero]
        repeat still_step
        still_call CL.out
        repeat still_step
        still_call CM.out
        refine wpStill_nil ?_
        change wpList _ _ _ _ _ w.drew
        have hbd : Below w.heap.size w w.drew := (Below.refl _ _).drew
        clear CL CM
        generalize w.drew = w2 at *
        go_wp2
        go_ret
        exact lines_made hbd HS1.out HS2.out
      · obtain ⟨s1, hs1⟩ : ∃ s1 : ByteArray, (⟨(line (ByteArray.mk #[32]).data.toList ((zs.take zs.length).map toQ)).toArray⟩ : ByteArray) = s1 := ⟨_, rfl⟩
        obtain ⟨s2, hs2⟩ : ∃ s2 : ByteArray, (⟨(line (ByteArray.mk #[32]).data.toList ((zs.drop zs.length).map toQ)).toArray⟩ : ByteArray) = s2 := ⟨_, rfl⟩
        have cl := line_any _ _ ⟨#[32]⟩ w.drew T (by decide) lt t1 t2
        have cm := line_any _ _ ⟨#[32]⟩ w.drew Dz (by decide) ld d1 d2
        rw [hs1] at cl
        rw [hs2] at cm
        have CL := Lib.hid (turned cl)
        have CM := Lib.hid (turned cm)
        have HS1 := Lib.hid hs1
        have HS2 := Lib.hid hs2
        clear cl cm hs1 hs2 T Dr Dz t1 t2 d1 d2 lt ld
        go_enter Try.func27, Try.ntmps27
        go_wp2
        refine wp_region_still_tail 10 (by kernel_rfl) (by kernel_rfl) ?_
        simp only [List.take_succ_cons, List.take_zero, List.drop_succ_cons, List.drop_zero]
        repeat still_step
        still_call CL.out
        repeat still_step
        still_call CM.out
        refine wpStill_nil ?_
        change wpList _ _ _ _ _ w.drew
        have hbd : Below w.heap.size w w.drew := (Below.refl _ _).drew
        clear CL CM
        generalize w.drew = w2 at *
        go_wp2
        go_ret
        exact lines_made hbd HS1.out HS2.out
    · clear Dr2
      cases blank
      · obtain ⟨s1, hs1⟩ : ∃ s1 : ByteArray, (⟨(line (ByteArray.mk #[]).data.toList ((zs.take k).map toQ)).toArray⟩ : ByteArray) = s1 := ⟨_, rfl⟩
        obtain ⟨s2, hs2⟩ : ∃ s2 : ByteArray, (⟨(line (ByteArray.mk #[]).data.toList ((zs.drop k).map toQ)).toArray⟩ : ByteArray) = s2 := ⟨_, rfl⟩
        have cl := line_any _ _ ⟨#[]⟩ w.drew T (by decide) lt t1 t2
        have cm := line_any _ _ ⟨#[]⟩ w.drew Dr (by decide) ld d1 d2
        rw [hs1] at cl
        rw [hs2] at cm
        have CL := Lib.hid (turned cl)
        have CM := Lib.hid (turned cm)
        have HS1 := Lib.hid hs1
        have HS2 := Lib.hid hs2
        clear cl cm hs1 hs2 T Dr t1 t2 d1 d2 lt ld
        go_enter Try.func27, Try.ntmps27
        go_wp2
        refine wp_region_still_tail 10 (by kernel_rfl) (by kernel_rfl) ?_
        simp only [List.take_succ_cons, List.take_zero, List.drop_succ_cons, List.drop_zero]
        repeat still_step
        still_call CL.out
        repeat still_step
        still_call CM.out
        refine wpStill_nil ?_
        change wpList _ _ _ _ _ w.drew
        have hbd : Below w.heap.size w w.drew := (Below.refl _ _).drew
        clear CL CM
        generalize w.drew = w2 at *
        go_wp2
        go_ret
        exact lines_made hbd HS1.out HS2.out
      · obtain ⟨s1, hs1⟩ : ∃ s1 : ByteArray, (⟨(line (ByteArray.mk #[32]).data.toList ((zs.take k).map toQ)).toArray⟩ : ByteArray) = s1 := ⟨_, rfl⟩
        obtain ⟨s2, hs2⟩ : ∃ s2 : ByteArray, (⟨(line (ByteArray.mk #[32]).data.toList ((zs.drop k).map toQ)).toArray⟩ : ByteArray) = s2 := ⟨_, rfl⟩
        have cl := line_any _ _ ⟨#[32]⟩ w.drew T (by decide) lt t1 t2
        have cm := line_any _ _ ⟨#[32]⟩ w.drew Dr (by decide) ld d1 d2
        rw [hs1] at cl
        rw [hs2] at cm
        have CL := Lib.hid (turned cl)
        have CM := Lib.hid (turned cm)
        have HS1 := Lib.hid hs1
        have HS2 := Lib.hid hs2
        clear cl cm hs1 hs2 T Dr t1 t2 d1 d2 lt ld
        go_enter Try.func27, Try.ntmps27
        go_wp2
        refine wp_region_still_tail 10 (by kernel_rfl) (by kernel_rfl) ?_
        simp only [List.take_succ_cons, List.take_zero, List.drop_succ_cons, List.drop_zero]
        repeat still_step
        still_call CL.out
        repeat still_step
        still_call CM.out
        refine wpStill_nil ?_
        change wpList _ _ _ _ _ w.drew
        have hbd : Below w.heap.size w w.drew := (Below.refl _ _).drew
        clear CL CM
        generalize w.drew = w2 at *
        go_wp2
        go_ret
        exact lines_made hbd HS1.out HS2.out

end Go.Proofs.Ytaglcklbngoknaa.Acc
