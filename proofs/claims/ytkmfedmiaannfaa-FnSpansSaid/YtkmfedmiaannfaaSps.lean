/- Spans: two lists of buckets compared (spec.SameCells); a map of buckets (impl.cells). -/
import Derived.Test.YtkmfedmiaannfaaSpr
import Derived.Maps.Own
import Derived.Maps.OwnSet
set_option linter.unusedVariables false
set_option linter.unusedSimpArgs false
namespace Go.Proofs.Ytkmfedmiaannfaa.Sp
open Go.RowKit Go.Maps Go.WideMaps Go.ChangeShapes Go.WideShapes Go.Deep Fp

theorem below_drewN {B : Nat} {a w : World} (h : Below B a w) (n : Nat) : Below B a (w.drewN n) := h.trans ⟨rfl, rfl, rfl, Nat.le_refl _, fun _ _ => rfl⟩

set_option maxHeartbeats 4000000 in
set_option maxRecDepth 100000 in
theorem same_any (L : List N2) (v1 v2 : Value) (w : World) (h1 : Ss.Of 2 cc w v1 L) (h2 : Ss.Of 2 cc w v2 L) (hL : L.length ≤ 9223372036854775806) :
    Calls Try.prog 37 #[v1, v2] w fun e w' => e = .returned (.bool true) ∧ Below w.heap.size w w' := by
  obtain ⟨av, cv, rfl, _, _⟩ := h1.slice
  obtain ⟨bv, dv, rfl, _, _⟩ := h2.slice
  have H1 := Lib.hid h1
  have H2 := Lib.hid h2
  clear h1 h2
  go_enter Try.func37, Try.ntmps37
  go_wp2_with fail
  go_loopw [5] (fun vk wr => ∃ k : Nat, k ≤ L.length ∧ vk = .int .i64 (k : Int) ∧ Hid (Below w.heap.size w wr)) (fun k _ => L.length - (intOf k).toNat)
  case atStart => exact ⟨0, Nat.zero_le _, rfl, Below.refl _ _⟩
  case round =>
    obtain ⟨k, hk, rfl, hbw⟩ := hrel
    by_cases hlt : k < L.length
    · obtain ⟨b, off, hav, hb, d0, d1⟩ := cell_at H1.out hlt
      obtain ⟨b2, off2, hbv, hb2, e0, e1⟩ := cell_at H2.out hlt
      subst hav hbv
      obtain ⟨x, y, hxy⟩ : ∃ x y, L[k] = (x, y) := ⟨_, _, rfl⟩
      rw [hxy] at d0 d1 e0 e1
      have c0 : wr.cell? ⟨b, off + k * 2, none⟩ = some (.int .i64 x) := by rw [hbw.out.cell (p := ⟨b, off + k * 2, none⟩) hb]; exact d0
      have c1 : wr.cell? ⟨b, off + k * 2 + 1, none⟩ = some (.int .i64 y) := by rw [hbw.out.cell (p := ⟨b, off + k * 2 + 1, none⟩) hb]; exact d1
      have c2 : wr.cell? ⟨b2, off2 + k * 2, none⟩ = some (.int .i64 x) := by rw [hbw.out.cell (p := ⟨b2, off2 + k * 2, none⟩) hb2]; exact e0
      have c3 : wr.cell? ⟨b2, off2 + k * 2 + 1, none⟩ = some (.int .i64 y) := by rw [hbw.out.cell (p := ⟨b2, off2 + k * 2 + 1, none⟩) hb2]; exact e1
      have z1 : (0 : Int) ≤ (k : Int) := by omega
      have z2 : (k : Int) < (L.length : Int) := by omega
      clear d0 d1 e0 e1 hxy
      go_wp2_with fail
      go_quiet (fail)
      have hb3 : Hid (Below w.heap.size w (wr.drewN nq)) := below_drewN hbw.out nq
      go_wp2_with fail
      go_roundw
      case rel => exact ⟨k + 1, by omega, by go_num, hb3.out⟩
      case measure => simp [intOf]; omega
    · obtain rfl : k = L.length := by omega
      go_wp2_with fail
      go_ret
      exact ⟨rfl, hbw.out⟩

theorem lawI : Keyed Try.prog 3 := int_keyed Try.underlying3
theorem zeroInt (w : World) : (zeroValue 2).run Try.prog w = .ok (.int .i64 0) w := by kernel_rfl

/-- the count of a key: the last one's -/
def lastN (L : List N2) (k : Int) : Option Int := L.foldl (fun o p => if p.1 = k then some p.2 else o) none
theorem lastN_snoc (L : List N2) (p : N2) (k : Int) : lastN (L ++ [p]) k = if p.1 = k then some p.2 else lastN L k := by
  unfold lastN; rw [List.foldl_append]; rfl
def il (k : Int) : Lit := .int .i64 k
theorem il_inj {a b : Int} (h : il a = il b) : a = b := by unfold il at h; injection h
theorem il_key (k : Int) : WideAt.IsKeyLit (il k) := by unfold il; trivial
def In64 (c : Int) : Prop := -9223372036854775808 ≤ c ∧ c ≤ 9223372036854775807
/-- the map in block b holds the counts of the keys in L -/
def Mi (w : World) (b : Nat) (L : List N2) : Prop :=
  ∃ (n : Nat) (D : DataW Unit), n ≤ L.length ∧ w.ownsMap Try.prog 3 (plainElem Try.prog 2) b n D ∧
    ∀ k z, D.atKey (il k) z = (match lastN L k with | some v => .lit (il v) | none => z)
theorem Mi.kept {w w' : World} {b : Nat} {L : List N2} {r : Option Nat} (h : Mi w b L) (k : w.grownBy w' r) (hb : some b ≠ r) : Mi w' b L := by
  obtain ⟨n, D, h1, h2, h3⟩ := h
  exact ⟨n, D, h1, h2.kept k hb, h3⟩
theorem Mi.made (w : World) : Mi (w.alloc (.map #[] 0)) w.heap.size [] := ⟨0, .map [], Nat.le_refl _, World.ownsMap_made _ _ _ _, fun s z => rfl⟩
theorem Mi.lt {w : World} {b : Nat} {L : List N2} (h : Mi w b L) : b < w.heap.size := by
  obtain ⟨n, D, h1, h2, h3⟩ := h
  exact h2.lt
theorem Mi.below {w w' : World} {b : Nat} {L : List N2} (h : Mi w b L) (k : Below w.heap.size w w') : Mi w' b L :=
  h.kept (r := none) ⟨k.os, k.tape, k.output, k.size, fun i hi _ => k.block i hi⟩ (by simp)
theorem Mi.next {w wy : World} {b n : Nat} {L : List N2} {D : DataW Unit} {p : N2} (hn : n ≤ L.length) (hown : w.ownsMap Try.prog 3 (plainElem Try.prog 2) b n D)
    (hat : ∀ k z, D.atKey (il k) z = (match lastN L k with | some v => .lit (il v) | none => z))
    (ho : wy.ownsMap Try.prog 3 (plainElem Try.prog 2) b (n + 1) (D.put (il p.1) (.lit (il p.2)))) : Mi wy b (L ++ [p]) := by
  refine ⟨n + 1, _, by simp; omega, ho, fun s z => ?_⟩
  rw [lastN_snoc]
  by_cases e : p.1 = s
  · subst e
    rw [if_pos rfl, atKey_put_same hown.isMap (il_key p.1)]
  · rw [if_neg e, atKey_put_other (fun e2 => e (il_inj e2).symm), hat s z]

def MQ (L : List N2) (w : World) (k : Nat) (wr : World) : Prop := Mi wr w.heap.size (L.take k) ∧ Below w.heap.size w wr
def MapOut (L : List N2) (w : World) (e : Ending) (w' : World) : Prop := e = .returned (.map (some w.heap.size)) ∧ Mi w' w.heap.size L ∧ Below w.heap.size w w'

set_option maxHeartbeats 8000000 in
set_option maxRecDepth 100000 in
theorem map_any (L : List N2) (v : Value) (w : World) (hof : Ss.Of 2 cc w v L) (hL : L.length ≤ 2147483647) (hr : ∀ p ∈ L, In64 p.1 ∧ In64 p.2) :
    Calls Try.prog 62 #[v] w (MapOut L w) := by
  obtain ⟨av, cv, rfl, _, _⟩ := hof.slice
  have hmm := @run_makeMap Try.prog
  have HOf := Lib.hid hof
  have HL := Lib.hid hr
  have hq0 : Hid (MQ L w 0 (w.alloc (.map #[] 0))) := ⟨by rw [List.take_zero]; exact Mi.made w, (Below.refl _ _).alloc (Nat.le_refl _) _⟩
  clear hof hr
  go_enter Try.func62, Try.ntmps62
  go_wp2_with fail
  go_loopw [9] (fun vk wr => ∃ k : Nat, k ≤ L.length ∧ vk = .int .i64 (k : Int) ∧ Hid (MQ L w k wr)) (fun k _ => L.length - (intOf k).toNat)
  case atStart => exact ⟨0, Nat.zero_le _, rfl, hq0.out⟩
  case round =>
    clear hq0
    obtain ⟨k, hk, rfl, hq⟩ := hrel
    by_cases hlt : k < L.length
    · obtain ⟨b, off, hav, hb, d0, d1⟩ := cell_at HOf.out hlt
      obtain ⟨s1, s2⟩ := HL.out _ (List.getElem_mem hlt)
      have htk : L.take (k + 1) = L.take k ++ [L[k]] := List.take_succ_eq_append_getElem hlt
      have hbw := hq.out.2
      subst hav
      obtain ⟨x, y, hxy⟩ : ∃ x y, L[k] = (x, y) := ⟨_, _, rfl⟩
      rw [hxy] at d0 d1 s1 s2 htk
      have s1 : In64 x := s1
      have s2 : In64 y := s2
      have c0 : wr.cell? ⟨b, off + k * 2, none⟩ = some (.int .i64 x) := by rw [hbw.cell (p := ⟨b, off + k * 2, none⟩) hb]; exact d0
      have c1 : wr.cell? ⟨b, off + k * 2 + 1, none⟩ = some (.int .i64 y) := by rw [hbw.cell (p := ⟨b, off + k * 2 + 1, none⟩) hb]; exact d1
      have hsz : w.heap.size ≤ wr.heap.size := hbw.size
      have hm2 : Mi (wr.alloc (.cells #[.int .i64 x, .int .i64 y] 75)) w.heap.size (L.take k) := hq.out.1.kept (World.grownBy_alloc wr _ none) (by simp)
      obtain ⟨n, D, hn, hown, hat⟩ := hm2
      have hn2 : n ≤ 2147483647 := by
        have : (L.take k).length ≤ L.length := by rw [List.length_take]; omega
        omega
      have HOwn := Lib.hid hown
      have HKey : Hid (keyOf Try.prog 3 (.int .i64 x) = some (il x)) := keyOf_int_mk Try.underlying3 (WalkArith.wf_i64 s1)
      have HVal : Hid (plainElem (H := Unit) Try.prog 2 (.int .i64 y) = some (.lit (il y), [])) := plainElem_int Try.underlying2 (WalkArith.wf_i64 s2)
      have HStep : Hid (∀ wy : World, wy.ownsMap Try.prog 3 (plainElem Try.prog 2) w.heap.size (n + 1) (D.put (il x) (.lit (il y))) → (wr.alloc (.cells #[.int .i64 x, .int .i64 y] 75)).grownBy wy (some w.heap.size) → MQ L w (k + 1) wy) := by
        intro wy ho hgr
        refine ⟨?_, (hbw.alloc hsz _).grown hgr (by simp; omega) (fun j hj => by injection hj with hj; omega)⟩
        rw [htk]
        exact Mi.next (p := (x, y)) hn hown hat ho
      have z1 : (0 : Int) ≤ (k : Int) := by omega
      have z2 : (k : Int) < (L.length : Int) := by omega
      clear d0 d1 hxy hbw htk hown hat hq s1 s2
      go_wp2_with (at_mapUpdate; refine wpList_mapUpdate_own _ rfl _ _ _ 117 rfl 3 2 lawI Try.underlying117 (plainElem Try.prog 2) w.heap.size n D rfl HOwn.out (by unfold maxLen; omega) _ _ _ rfl rfl HKey.out _ [] HVal.out ?_; intro w2 hown2 hgrow2; have hq2 := Lib.hid (HStep.out w2 hown2 hgrow2); clear hown2 hgrow2)
      go_roundw
      case rel => exact ⟨k + 1, by omega, by go_num, hq2.out⟩
      case measure => simp [intOf]; omega
    · obtain rfl : k = L.length := by omega
      have hfin : Hid (MapOut L w (.returned (.map (some w.heap.size))) wr) := by
        refine ⟨rfl, ?_, hq.out.2⟩
        have := hq.out.1
        rw [List.take_length] at this
        exact this
      clear hq
      go_wp2_with fail
      go_ret
      exact hfin.out

end Go.Proofs.Ytkmfedmiaannfaa.Sp
