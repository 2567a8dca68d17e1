/- Wrapped descriptors: what the law asks of the labels and of the wrap (spec.DescPlainPairs, laws.descWraps). -/
import Derived.Test.YtfcpapbokefdmaaGreatDoorNwt
import Derived.Test.YtfcpapbokefdmaaGreatDoorNgl
import Derived.Deep.QuietTactic
import Derived.BigQuiet
set_option linter.unusedVariables false
set_option linter.unusedSimpArgs false
namespace Go.Proofs.YtfcpapbokefdmaaGreatDoor.Nd
open Go.RowKit Go.ChangeShapes Go.WideShapes Go.Deep Fp

noncomputable def ppOk (p : P2) : Bool := plainB p.1 && asciiB p.2 && !(p.1.toList == [108, 101]) && !(p.1.toList == [113, 117, 97, 110, 116, 105, 108, 101])
noncomputable def ppB (L : List P2) : Bool := L.all ppOk
theorem ppB_no {L : List P2} {k : Nat} (h : k < L.length) (hf : ppOk L[k] = false) : ppB L = false := by
  unfold ppB
  rw [List.all_eq_false]
  exact ⟨L[k], List.getElem_mem h, by rw [hf]; simp⟩
theorem ppB_yes {L : List P2} (h : ∀ k (hk : k < L.length), ppOk L[k] = true) : ppB L = true := by
  unfold ppB
  rw [List.all_eq_true]
  intro p hp
  obtain ⟨k, hk, rfl⟩ := List.getElem_of_mem hp
  exact h k hk
theorem ppB_iff {L : List P2} : ppB L = true ↔ ∀ p ∈ L, ppOk p = true := by unfold ppB; rw [List.all_eq_true]
set_option maxHeartbeats 4000000 in
set_option maxRecDepth 100000 in
theorem plainPairs_any (L : List P2) (v : Value) (w : World) (hof : Ss.Of 2 pc w v L) (hL : L.length ≤ 2147483647) (hs : ∀ p ∈ L, p.1.size ≤ 2147483647 ∧ p.2.size ≤ 2147483647) :
    Calls Tryz.prog 51 #[v] w fun e w' => e = .returned (.bool (ppB L)) ∧ w' = w := by
  obtain ⟨av, cv, rfl, _, _⟩ := hof.slice
  have HOf := Lib.hid hof
  have HS := Lib.hid hs
  clear hof hs
  go_enter Tryz.func51, Tryz.ntmps51
  go_wp2_with fail
  go_loopw [3] (fun vk wr => ∃ k : Nat, k ≤ L.length ∧ vk = .int .i64 (k : Int) ∧ Hid (wr = w) ∧ Hid (∀ j (h : j < L.length), j < k → ppOk L[j] = true)) (fun k _ => L.length - (intOf k).toNat)
  case atStart => exact ⟨0, Nat.zero_le _, rfl, rfl, fun j h hj => absurd hj (Nat.not_lt_zero _)⟩
  case round =>
    obtain ⟨k, hk, rfl, hwr, hall⟩ := hrel
    obtain rfl : wr = w := hwr.out
    by_cases hlt : k < L.length
    · obtain ⟨b, off, hav, hb, c0, c1⟩ := pair_of HOf.out hlt
      obtain ⟨s1, s2⟩ := HS.out _ (List.getElem_mem hlt)
      have HNo := Lib.hid (fun h => ppB_no (L := L) hlt h)
      have HYe : Hid (ppOk L[k] = true → ∀ j (h : j < L.length), j < k + 1 → ppOk L[j] = true) := fun hy j h hj => by
        rcases Nat.lt_or_ge j k with h1 | h1
        · exact hall.out j h h1
        · obtain rfl : j = k := by omega
          exact hy
      subst hav
      obtain ⟨x, y, hxy⟩ : ∃ x y, L[k] = (x, y) := ⟨_, _, rfl⟩
      rw [hxy] at c0 c1 s1 s2 HNo HYe
      have s1 : x.size ≤ 2147483647 := s1
      have s2 : y.size ≤ 2147483647 := s2
      have z1 : (0 : Int) ≤ (k : Int) := by omega
      have z2 : (k : Int) < (L.length : Int) := by omega
      clear hxy hall
      obtain ⟨b1, e1⟩ : ∃ b1, plainB x = b1 := ⟨_, rfl⟩
      obtain ⟨b2, e2⟩ : ∃ b2, asciiB y = b2 := ⟨_, rfl⟩
      obtain ⟨b3, e3⟩ : ∃ b3, (x.toList == [108, 101]) = b3 := ⟨_, rfl⟩
      obtain ⟨b4, e4⟩ : ∃ b4, (x.toList == [113, 117, 97, 110, 116, 105, 108, 101]) = b4 := ⟨_, rfl⟩
      have HOk : Hid (ppOk (x, y) = (b1 && b2 && !b3 && !b4)) := by show _ = _; unfold ppOk; rw [e1, e2, e3, e4]
      have C1 : Hid (Calls Tryz.prog 39 #[.string x] wr fun e w' => e = .returned (.bool b1) ∧ wr = w') := by rw [← e1]; exact plain_any x wr (by omega)
      have C2 : Hid (Calls Tryz.prog 40 #[.string y] wr fun e w' => e = .returned (.bool b2) ∧ wr = w') := by rw [← e2]; exact ascii_any y wr (by omega)
      clear e1 e2
      cases b1 with
      | false =>
        have HQ := Lib.hid (HNo.out (by rw [HOk.out]; rfl))
        clear HNo HYe
        go_wp2_with (go_at_call 39; refine C1.out.mono ?_; rintro e w' ⟨rfl, rfl⟩)
        go_ret
        exact ⟨by rw [HQ.out]; rfl, rfl⟩
      | true =>
        cases b2 with
        | false =>
          have HQ := Lib.hid (HNo.out (by rw [HOk.out]; rfl))
          clear HNo HYe
          go_wp2_with (first
            | (go_at_call 39; refine C1.out.mono ?_; rintro e w' ⟨rfl, rfl⟩)
            | (go_at_call 40; refine C2.out.mono ?_; rintro e w' ⟨rfl, rfl⟩))
          go_ret
          exact ⟨by rw [HQ.out]; rfl, rfl⟩
        | true =>
          cases b3 with
          | true =>
            have HQ := Lib.hid (HNo.out (by rw [HOk.out]; rfl))
            clear HNo HYe
            go_wp2_with (first
              | (go_at_call 39; refine C1.out.mono ?_; rintro e w' ⟨rfl, rfl⟩)
              | (go_at_call 40; refine C2.out.mono ?_; rintro e w' ⟨rfl, rfl⟩))
            go_ret
            exact ⟨by rw [HQ.out]; rfl, rfl⟩
          | false =>
            cases b4 with
            | true =>
              have HQ := Lib.hid (HNo.out (by rw [HOk.out]; rfl))
              clear HNo HYe
              go_wp2_with (first
                | (go_at_call 39; refine C1.out.mono ?_; rintro e w' ⟨rfl, rfl⟩)
                | (go_at_call 40; refine C2.out.mono ?_; rintro e w' ⟨rfl, rfl⟩))
              go_ret
              exact ⟨by rw [HQ.out]; rfl, rfl⟩
            | false =>
              have HAll := Lib.hid (HYe.out (by rw [HOk.out]; rfl))
              clear HNo HYe
              go_wp2_with (first
                | (go_at_call 39; refine C1.out.mono ?_; rintro e w' ⟨rfl, rfl⟩)
                | (go_at_call 40; refine C2.out.mono ?_; rintro e w' ⟨rfl, rfl⟩))
              go_roundw
              case rel => exact ⟨k + 1, by omega, by go_num, trivial, HAll.out⟩
              case measure => simp [intOf]; omega
    · obtain rfl : k = L.length := by omega
      have HQ : Hid (ppB L = true) := ppB_yes fun j h => hall.out j h h
      clear hall
      go_wp2_with fail
      go_ret
      exact ⟨by rw [HQ.out]; rfl, rfl⟩

set_option maxHeartbeats 4000000 in
set_option maxRecDepth 100000 in
theorem descWraps_any (mv lv : Value) (nm hp un p : ByteArray) (V : List ByteArray) (L A : List P2) (w : World) (hm : MetaAt w mv nm hp un V L) (hA : Ss.Of 2 pc w lv A) (hl : A.length ≤ 2147483647) (hs : ∀ q ∈ A, q.1.size ≤ 2147483647 ∧ q.2.size ≤ 2147483647) (hsz : p.size + nm.size ≤ 4294967296) :
    Calls Tryz.prog 23 #[mv, .string p, lv] w fun e w' => e = .returned (.bool (sayB nm hp un V L && plainB (p ++ nm) && ppB A)) ∧ Below w.heap.size w w' := by
  obtain ⟨vv, cv, rfl, hvv, hcv⟩ := hm.val
  have hb0 : Below w.heap.size w (w.alloc (.cells #[.string nm, .string hp, .string un, vv, cv] 25)) := (Below.refl _ _).alloc (Nat.le_refl _) _
  have hc : ∀ j, (w.alloc (.cells #[.string nm, .string hp, .string un, vv, cv] 25)).cell? ⟨w.heap.size, j, none⟩ = (#[.string nm, .string hp, .string un, vv, cv] : Array Value)[j]? := fun j => Sl.cell_new w _ _ j
  have k0 := hc 0
  have k1 := hc 1
  have k2 := hc 2
  have k3 := hc 3
  have k4 := hc 4
  have hcat : ¬ (9223372036854775807 < p.size + nm.size) := by omega
  obtain ⟨b1, e1⟩ : ∃ b1, sayB nm hp un V L = b1 := ⟨_, rfl⟩
  obtain ⟨b2, e2⟩ : ∃ b2, plainB (p ++ nm) = b2 := ⟨_, rfl⟩
  obtain ⟨b3, e3⟩ : ∃ b3, ppB A = b3 := ⟨_, rfl⟩
  rw [e1, e2, e3]
  have C1 : Hid (Calls Tryz.prog 11 #[.agg #[.string nm, .string hp, .string un, vv, cv]] (w.alloc (.cells #[.string nm, .string hp, .string un, vv, cv] 25)) fun e w' => e = .returned (.bool b1) ∧ Below w.heap.size w w' ∧ w'.cell? ⟨w.heap.size, 0, none⟩ = some (.string nm)) := by
    rw [← e1]
    have h := say_any _ nm hp un V L _ (hm.below hb0)
    refine h.mono fun e w' ⟨h1, h2⟩ => ⟨h1, hb0.trans (h2.mono hb0.size), ?_⟩
    rw [h2.cell (p := ⟨w.heap.size, 0, none⟩) (by simp)]
    exact k0
  have C2 : Hid (∀ W, Calls Tryz.prog 39 #[.string (p ++ nm)] W fun e w' => e = .returned (.bool b2) ∧ W = w') := fun W => by rw [← e2]; exact plain_any (p ++ nm) W (by rw [ByteArray.size_append]; omega)
  have C3 : Hid (∀ W, Below w.heap.size w W → Calls Tryz.prog 51 #[lv] W fun e w' => e = .returned (.bool b3) ∧ w' = W) := fun W h => by rw [← e3]; exact plainPairs_any A lv W (hA.below h) hl hs
  clear hb0 hc hvv hcv hm hA hs e1 e2 e3
  go_enter Tryz.func23, Tryz.ntmps23
  cases b1 with
  | false =>
    go_wp2_with (go_at_call 11; refine C1.out.mono ?_; rintro e W1 ⟨rfl, hb1, kn⟩; have HB1 := Lib.hid hb1; clear hb1)
    go_ret
    exact ⟨rfl, HB1.out⟩
  | true =>
    cases b2 with
    | false =>
      go_wp2_with (first
        | (go_at_call 11; refine C1.out.mono ?_; rintro e W1 ⟨rfl, hb1, kn⟩; have HB1 := Lib.hid hb1; clear hb1)
        | (go_at_call 39; refine (C2.out W1).mono ?_; rintro e w' ⟨rfl, rfl⟩))
      go_ret
      exact ⟨rfl, HB1.out⟩
    | true =>
      go_wp2_with (first
        | (go_at_call 11; refine C1.out.mono ?_; rintro e W1 ⟨rfl, hb1, kn⟩; have HB1 := Lib.hid hb1; clear hb1)
        | (go_at_call 39; refine (C2.out W1).mono ?_; rintro e w' ⟨rfl, rfl⟩)
        | (go_at_call 51; refine (C3.out W1 HB1.out).mono ?_; rintro e w' ⟨rfl, rfl⟩))
      go_ret
      exact ⟨by simp, HB1.out⟩

end Go.Proofs.YtfcpapbokefdmaaGreatDoor.Nd
