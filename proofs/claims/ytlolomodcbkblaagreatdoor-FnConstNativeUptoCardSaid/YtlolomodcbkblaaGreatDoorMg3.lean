/- Spans: two lists of buckets compared (spec.SameCells); a map of buckets (impl.cells). Descriptors, plain: the fitted pairs, sorted names, the identity and the dimension. -/
import Derived.Test.YtlolomodcbkblaaGreatDoorSpr
import Derived.Maps.Own
import Derived.Maps.OwnSet
import Derived.Test.YtlolomodcbkblaaGreatDoorMg1
import Derived.Sort.KeysCollected
set_option linter.unusedVariables false
set_option linter.unusedSimpArgs false
namespace Go.Proofs.YtlolomodcbkblaaGreatDoor.Sp
open Go.RowKit Go.Maps Go.WideMaps Go.ChangeShapes Go.WideShapes Go.Deep Fp

theorem below_drewN {B : Nat} {a w : World} (h : Below B a w) (n : Nat) : Below B a (w.drewN n) := h.trans ⟨rfl, rfl, rfl, Nat.le_refl _, fun _ _ => rfl⟩

set_option maxHeartbeats 4000000 in
set_option maxRecDepth 100000 in
theorem same_any (L : List N2) (v1 v2 : Value) (w : World) (h1 : Ss.Of 2 cc w v1 L) (h2 : Ss.Of 2 cc w v2 L) (hL : L.length ≤ 9223372036854775806) :
    Calls Tryz.prog 27 #[v1, v2] w fun e w' => e = .returned (.bool true) ∧ Below w.heap.size w w' := by
  obtain ⟨av, cv, rfl, _, _⟩ := h1.slice
  obtain ⟨bv, dv, rfl, _, _⟩ := h2.slice
  have H1 := Lib.hid h1
  have H2 := Lib.hid h2
  clear h1 h2
  go_enter Tryz.func27, Tryz.ntmps27
  go_wp2_with fail
  go_loopw [5] (fun vk wr => ∃ k : Nat, k ≤ L.length ∧ vk = .int .i64 (k : Int) ∧ Hid (Below w.heap.size w wr)) (fun k _ => L.length - (intOf k).toNat)
  case atStart => exact ⟨0, Nat.zero_le _, rfl, Below.refl _ _⟩
  case round =>
    obtain ⟨k, hk, rfl, hbw⟩ := hrel
    by_cases hlt : k < L.length
    · obtain ⟨b, off, hav, hb, d0, d1⟩ := cell_at H1.out hlt
      obtain ⟨b2, off2, hbv, hb2, e0, e1⟩ := cell_at H2.out hlt
      subst hav hbv
      obtain ⟨x, y, hxy⟩ : ∃ x y, L[k] = (x, y) := ⟨_, _, rfl⟩
      rw [hxy] at d0 d1 e0 e1
      have c0 : wr.cell? ⟨b, off + k * 2, none⟩ = some (.int .i64 x) := by rw [hbw.out.cell (p := ⟨b, off + k * 2, none⟩) hb]; exact d0
      have c1 : wr.cell? ⟨b, off + k * 2 + 1, none⟩ = some (.int .i64 y) := by rw [hbw.out.cell (p := ⟨b, off + k * 2 + 1, none⟩) hb]; exact d1
      have c2 : wr.cell? ⟨b2, off2 + k * 2, none⟩ = some (.int .i64 x) := by rw [hbw.out.cell (p := ⟨b2, off2 + k * 2, none⟩) hb2]; exact e0
      have c3 : wr.cell? ⟨b2, off2 + k * 2 + 1, none⟩ = some (.int .i64 y) := by rw [hbw.out.cell (p := ⟨b2, off2 + k * 2 + 1, none⟩) hb2]; exact e1
      have z1 : (0 : Int) ≤ (k : Int) := by omega
      have z2 : (k : Int) < (L.length : Int) := by omega
      clear d0 d1 e0 e1 hxy
      go_wp2_with fail
      go_quiet (fail)
      have hb3 : Hid (Below w.heap.size w (wr.drewN nq)) := below_drewN hbw.out nq
      go_wp2_with fail
      go_roundw
      case rel => exact ⟨k + 1, by omega, by go_num, hb3.out⟩
      case measure => simp [intOf]; omega
    · obtain rfl : k = L.length := by omega
      go_wp2_with fail
      go_ret
      exact ⟨rfl, hbw.out⟩

theorem lawI : Keyed Tryz.prog 3 := int_keyed Tryz.underlying3
theorem zeroInt (w : World) : (zeroValue 2).run Tryz.prog w = .ok (.int .i64 0) w := by kernel_rfl

/-- the count of a key: the last one's -/
def lastN (L : List N2) (k : Int) : Option Int := L.foldl (fun o p => if p.1 = k then some p.2 else o) none
theorem lastN_snoc (L : List N2) (p : N2) (k : Int) : lastN (L ++ [p]) k = if p.1 = k then some p.2 else lastN L k := by
  unfold lastN; rw [List.foldl_append]; rfl
def il (k : Int) : Lit := .int .i64 k
theorem il_inj {a b : Int} (h : il a = il b) : a = b := by unfold il at h; injection h
theorem il_key (k : Int) : WideAt.IsKeyLit (il k) := by unfold il; trivial
def In64 (c : Int) : Prop := -9223372036854775808 ≤ c ∧ c ≤ 9223372036854775807
/-- the map in block b holds the counts of the keys in L -/
def Mi (w : World) (b : Nat) (L : List N2) : Prop :=
  ∃ (n : Nat) (D : DataW Unit), n ≤ L.length ∧ w.ownsMap Tryz.prog 3 (plainElem Tryz.prog 2) b n D ∧
    ∀ k z, D.atKey (il k) z = (match lastN L k with | some v => .lit (il v) | none => z)
theorem Mi.kept {w w' : World} {b : Nat} {L : List N2} {r : Option Nat} (h : Mi w b L) (k : w.grownBy w' r) (hb : some b ≠ r) : Mi w' b L := by
  obtain ⟨n, D, h1, h2, h3⟩ := h
  exact ⟨n, D, h1, h2.kept k hb, h3⟩
theorem Mi.made (w : World) : Mi (w.alloc (.map #[] 0)) w.heap.size [] := ⟨0, .map [], Nat.le_refl _, World.ownsMap_made _ _ _ _, fun s z => rfl⟩
theorem Mi.lt {w : World} {b : Nat} {L : List N2} (h : Mi w b L) : b < w.heap.size := by
  obtain ⟨n, D, h1, h2, h3⟩ := h
  exact h2.lt
theorem Mi.below {w w' : World} {b : Nat} {L : List N2} (h : Mi w b L) (k : Below w.heap.size w w') : Mi w' b L :=
  h.kept (r := none) ⟨k.os, k.tape, k.output, k.size, fun i hi _ => k.block i hi⟩ (by simp)
theorem Mi.next {w wy : World} {b n : Nat} {L : List N2} {D : DataW Unit} {p : N2} (hn : n ≤ L.length) (hown : w.ownsMap Tryz.prog 3 (plainElem Tryz.prog 2) b n D)
    (hat : ∀ k z, D.atKey (il k) z = (match lastN L k with | some v => .lit (il v) | none => z))
    (ho : wy.ownsMap Tryz.prog 3 (plainElem Tryz.prog 2) b (n + 1) (D.put (il p.1) (.lit (il p.2)))) : Mi wy b (L ++ [p]) := by
  refine ⟨n + 1, _, by simp; omega, ho, fun s z => ?_⟩
  rw [lastN_snoc]
  by_cases e : p.1 = s
  · subst e
    rw [if_pos rfl, atKey_put_same hown.isMap (il_key p.1)]
  · rw [if_neg e, atKey_put_other (fun e2 => e (il_inj e2).symm), hat s z]

def MQ (L : List N2) (w : World) (k : Nat) (wr : World) : Prop := Mi wr w.heap.size (L.take k) ∧ Below w.heap.size w wr
def MapOut (L : List N2) (w : World) (e : Ending) (w' : World) : Prop := e = .returned (.map (some w.heap.size)) ∧ Mi w' w.heap.size L ∧ Below w.heap.size w w'

set_option maxHeartbeats 8000000 in
set_option maxRecDepth 100000 in
theorem map_any (L : List N2) (v : Value) (w : World) (hof : Ss.Of 2 cc w v L) (hL : L.length ≤ 2147483647) (hr : ∀ p ∈ L, In64 p.1 ∧ In64 p.2) :
    Calls Tryz.prog 67 #[v] w (MapOut L w) := by
  obtain ⟨av, cv, rfl, _, _⟩ := hof.slice
  have hmm := @run_makeMap Tryz.prog
  have HOf := Lib.hid hof
  have HL := Lib.hid hr
  have hq0 : Hid (MQ L w 0 (w.alloc (.map #[] 0))) := ⟨by rw [List.take_zero]; exact Mi.made w, (Below.refl _ _).alloc (Nat.le_refl _) _⟩
  clear hof hr
  go_enter Tryz.func67, Tryz.ntmps67
  go_wp2_with fail
  go_loopw [9] (fun vk wr => ∃ k : Nat, k ≤ L.length ∧ vk = .int .i64 (k : Int) ∧ Hid (MQ L w k wr)) (fun k _ => L.length - (intOf k).toNat)
  case atStart => exact ⟨0, Nat.zero_le _, rfl, hq0.out⟩
  case round =>
    clear hq0
    obtain ⟨k, hk, rfl, hq⟩ := hrel
    by_cases hlt : k < L.length
    · obtain ⟨b, off, hav, hb, d0, d1⟩ := cell_at HOf.out hlt
      obtain ⟨s1, s2⟩ := HL.out _ (List.getElem_mem hlt)
      have htk : L.take (k + 1) = L.take k ++ [L[k]] := List.take_succ_eq_append_getElem hlt
      have hbw := hq.out.2
      subst hav
      obtain ⟨x, y, hxy⟩ : ∃ x y, L[k] = (x, y) := ⟨_, _, rfl⟩
      rw [hxy] at d0 d1 s1 s2 htk
      have s1 : In64 x := s1
      have s2 : In64 y := s2
      have c0 : wr.cell? ⟨b, off + k * 2, none⟩ = some (.int .i64 x) := by rw [hbw.cell (p := ⟨b, off + k * 2, none⟩) hb]; exact d0
      have c1 : wr.cell? ⟨b, off + k * 2 + 1, none⟩ = some (.int .i64 y) := by rw [hbw.cell (p := ⟨b, off + k * 2 + 1, none⟩) hb]; exact d1
      have hsz : w.heap.size ≤ wr.heap.size := hbw.size
      have hm2 : Mi (wr.alloc (.cells #[.int .i64 x, .int .i64 y] 155)) w.heap.size (L.take k) := hq.out.1.kept (World.grownBy_alloc wr _ none) (by simp)
      obtain ⟨n, D, hn, hown, hat⟩ := hm2
      have hn2 : n ≤ 2147483647 := by
        have : (L.take k).length ≤ L.length := by rw [List.length_take]; omega
        omega
      have HOwn := Lib.hid hown
      have HKey : Hid (keyOf Tryz.prog 3 (.int .i64 x) = some (il x)) := keyOf_int_mk Tryz.underlying3 (WalkArith.wf_i64 s1)
      have HVal : Hid (plainElem (H := Unit) Tryz.prog 2 (.int .i64 y) = some (.lit (il y), [])) := plainElem_int Tryz.underlying2 (WalkArith.wf_i64 s2)
      have HStep : Hid (∀ wy : World, wy.ownsMap Tryz.prog 3 (plainElem Tryz.prog 2) w.heap.size (n + 1) (D.put (il x) (.lit (il y))) → (wr.alloc (.cells #[.int .i64 x, .int .i64 y] 155)).grownBy wy (some w.heap.size) → MQ L w (k + 1) wy) := by
        intro wy ho hgr
        refine ⟨?_, (hbw.alloc hsz _).grown hgr (by simp; omega) (fun j hj => by injection hj with hj; omega)⟩
        rw [htk]
        exact Mi.next (p := (x, y)) hn hown hat ho
      have z1 : (0 : Int) ≤ (k : Int) := by omega
      have z2 : (k : Int) < (L.length : Int) := by omega
      clear d0 d1 hxy hbw htk hown hat hq s1 s2
      go_wp2_with (at_mapUpdate; refine wpList_mapUpdate_own _ rfl _ _ _ 152 rfl 3 2 lawI Tryz.underlying152 (plainElem Tryz.prog 2) w.heap.size n D rfl HOwn.out (by unfold maxLen; omega) _ _ _ rfl rfl HKey.out _ [] HVal.out ?_; intro w2 hown2 hgrow2; have hq2 := Lib.hid (HStep.out w2 hown2 hgrow2); clear hown2 hgrow2)
      go_roundw
      case rel => exact ⟨k + 1, by omega, by go_num, hq2.out⟩
      case measure => simp [intOf]; omega
    · obtain rfl : k = L.length := by omega
      have hfin : Hid (MapOut L w (.returned (.map (some w.heap.size))) wr) := by
        refine ⟨rfl, ?_, hq.out.2⟩
        have := hq.out.1
        rw [List.take_length] at this
        exact this
      clear hq
      go_wp2_with fail
      go_ret
      exact hfin.out

end Go.Proofs.YtlolomodcbkblaaGreatDoor.Sp

set_option linter.unusedVariables false
set_option linter.unusedSimpArgs false
namespace Go.Proofs.YtlolomodcbkblaaGreatDoor.Nd
open Fp

abbrev L8 := List UInt8
def dl (s : ByteArray) : L8 := s.data.toList
def mkB (l : L8) : ByteArray := ⟨l.toArray⟩
theorem mk_dl (s : ByteArray) : mkB (dl s) = s := by unfold mkB dl; simp
theorem dl_mk (l : L8) : dl (mkB l) = l := by unfold mkB dl; simp
theorem dl_inj {s t : ByteArray} (h : dl s = dl t) : s = t := by rw [← mk_dl s, ← mk_dl t, h]
theorem bytesLess_lt : ∀ (x y : List UInt8), Op.bytesLess x y = decide (x < y)
  | [], [] => by simp [Op.bytesLess]
  | _ :: _, [] => by simp [Op.bytesLess]
  | [], _ :: _ => by simp [Op.bytesLess]
  | a :: x, b :: y => by
    rw [Op.bytesLess, bytesLess_lt x y]
    simp only [List.cons_lt_cons_iff]
    by_cases h1 : a < b <;> by_cases h2 : a = b <;> by_cases h3 : x < y <;> simp [h1, h2, h3]
theorem bl_iff (x y : ByteArray) : bl x y = true ↔ dl x < dl y := by
  unfold bl
  rw [bytesLess_lt, Lib.toList_data, Lib.toList_data, decide_eq_true_eq]; rfl
theorem bl_irr (x : ByteArray) : bl x x = false := by
  cases h : bl x x with
  | false => rfl
  | true => exact absurd ((bl_iff x x).1 h) (List.lt_irrefl _)
theorem bl_trans {x y z : ByteArray} (h1 : bl x y = true) (h2 : bl y z = true) : bl x z = true := (bl_iff x z).2 (List.lt_trans ((bl_iff x y).1 h1) ((bl_iff y z).1 h2))
theorem bl_tot {x y : ByteArray} (h1 : bl x y = false) (h2 : x ≠ y) : bl y x = true := by
  rw [bl_iff]
  have h3 : ¬ dl x < dl y := fun h => by rw [(bl_iff x y).2 h] at h1; cases h1
  rcases List.le_total (dl x) (dl y) with h | h
  · by_cases e : dl y < dl x
    · exact e
    · exact absurd (dl_inj (List.le_antisymm h (List.not_lt.1 h3))) h2
  · by_cases e : dl y < dl x
    · exact e
    · exact absurd (dl_inj (List.le_antisymm (List.not_lt.1 e) h)) h2

/-- the last value of a name -/
def lastV (L : List P2) (k : ByteArray) : Option ByteArray := L.foldl (fun o p => if p.1 = k then some p.2 else o) none
theorem lastV_snoc (L : List P2) (p : P2) (k : ByteArray) : lastV (L ++ [p]) k = if p.1 = k then some p.2 else lastV L k := by
  unfold lastV; rw [List.foldl_append]; rfl
abbrev Srt (F : List P2) : Prop := F.Pairwise (fun p q => bl p.1 q.1 = true)
theorem ins_keys (p : P2) : ∀ (F : List P2), (∀ k, k ∈ (ins p F).map (·.1) ↔ k = p.1 ∨ k ∈ F.map (·.1))
  | [] => fun k => by simp [ins]
  | q :: r => fun k => by
    have ih := ins_keys p r
    unfold ins
    by_cases h1 : bl q.1 p.1 = true
    · rw [if_pos h1, List.map_cons, List.mem_cons, ih k, List.map_cons, List.mem_cons]
      constructor
      · rintro (h | h | h) <;> simp [h]
      · rintro (h | h | h) <;> simp [h]
    · rw [if_neg h1]
      by_cases h2 : eqS q.1 p.1 = true
      · rw [if_pos h2]
        have := (eqS_iff _ _).1 h2
        simp only [List.map_cons, List.mem_cons, this]
        constructor
        · rintro (h | h) <;> simp [h]
        · rintro (h | h | h) <;> simp [h]
      · rw [if_neg h2]; simp
theorem ins_srt (p : P2) : ∀ {F : List P2}, Srt F → Srt (ins p F)
  | [], _ => by simp [ins, Srt]
  | q :: r, h => by
    rw [Srt, List.pairwise_cons] at h
    unfold ins
    by_cases h1 : bl q.1 p.1 = true
    · rw [if_pos h1, Srt, List.pairwise_cons]
      refine ⟨fun x hx => ?_, ins_srt p h.2⟩
      have hk := (ins_keys p r x.1).1 (List.mem_map.2 ⟨x, hx, rfl⟩)
      rcases hk with hk | hk
      · rw [hk]; exact h1
      · obtain ⟨y, hy, he⟩ := List.mem_map.1 hk
        rw [← he]; exact h.1 y hy
    · rw [if_neg h1]
      by_cases h2 : eqS q.1 p.1 = true
      · rw [if_pos h2, Srt, List.pairwise_cons]
        exact ⟨fun x hx => h.1 x hx, h.2⟩
      · rw [if_neg h2, Srt, List.pairwise_cons, List.pairwise_cons]
        have hpq : bl p.1 q.1 = true := bl_tot (by simpa using h1) (fun e => h2 ((eqS_iff _ _).2 e))
        refine ⟨fun x hx => ?_, h.1, h.2⟩
        rcases List.mem_cons.1 hx with rfl | hx
        · exact hpq
        · exact bl_trans hpq (h.1 x hx)
theorem ins_mem (p : P2) : ∀ {F : List P2}, Srt F → ∀ q, q ∈ ins p F ↔ q = p ∨ (q ∈ F ∧ q.1 ≠ p.1)
  | [], _, q => by simp [ins]
  | x :: r, h, q => by
    rw [Srt, List.pairwise_cons] at h
    have ih := ins_mem p h.2 q
    unfold ins
    by_cases h1 : bl x.1 p.1 = true
    · have hx : x.1 ≠ p.1 := fun e => by rw [e, bl_irr] at h1; cases h1
      rw [if_pos h1, List.mem_cons, ih, List.mem_cons]
      constructor
      · rintro (h | h | h)
        · exact Or.inr ⟨Or.inl h, by rw [h]; exact hx⟩
        · exact Or.inl h
        · exact Or.inr ⟨Or.inr h.1, h.2⟩
      · rintro (h | ⟨h | h, h'⟩)
        · exact Or.inr (Or.inl h)
        · exact Or.inl h
        · exact Or.inr (Or.inr ⟨h, h'⟩)
    · rw [if_neg h1]
      by_cases h2 : eqS x.1 p.1 = true
      · have e := (eqS_iff _ _).1 h2
        rw [if_pos h2, List.mem_cons, List.mem_cons]
        have hp : (x.1, p.2) = p := by rw [e]
        rw [hp]
        constructor
        · rintro (h3 | h3)
          · exact Or.inl h3
          · refine Or.inr ⟨Or.inr h3, fun e2 => ?_⟩
            have := h.1 q h3
            rw [e2, e, bl_irr] at this
            cases this
        · rintro (h3 | ⟨h3 | h3, h4⟩)
          · exact Or.inl h3
          · exact absurd (by rw [h3]; exact e) h4
          · exact Or.inr h3
      · rw [if_neg h2, List.mem_cons]
        have hpx : bl p.1 x.1 = true := bl_tot (by simpa using h1) (fun e => h2 ((eqS_iff _ _).2 e))
        constructor
        · rintro (h3 | h3)
          · exact Or.inl h3
          · refine Or.inr ⟨h3, fun e2 => ?_⟩
            have h5 : bl p.1 q.1 = true := by
              rcases List.mem_cons.1 h3 with rfl | h3
              · exact hpx
              · exact bl_trans hpx (h.1 q h3)
            rw [e2, bl_irr] at h5
            cases h5
        · rintro (h3 | ⟨h3, _⟩)
          · exact Or.inl h3
          · exact Or.inr h3
theorem snoc_ind {α : Type} {P : List α → Prop} (h0 : P []) (hs : ∀ L p, P L → P (L ++ [p])) (L : List α) : P L := by
  have gen : ∀ (n : Nat) (L : List α), L.length = n → P L := by
    intro n
    induction n with
    | zero => intro L h; rw [List.length_eq_zero_iff.1 h]; exact h0
    | succ n ih =>
      intro L h
      have hne : L ≠ [] := by intro e; rw [e] at h; simp at h
      rw [← List.dropLast_concat_getLast hne]
      exact hs _ _ (ih _ (by simp; omega))
  exact gen _ L rfl
theorem fit_srt (L : List P2) : Srt (fit L) := by
  refine snoc_ind (P := fun L => Srt (fit L)) (by simp [fit, Srt]) (fun L p h => ?_) L
  show Srt (fit (L ++ [p]))
  rw [fit_snoc]; exact ins_srt p h
theorem mem_fit (L : List P2) : ∀ q, q ∈ fit L ↔ lastV L q.1 = some q.2 := by
  refine snoc_ind (P := fun L => ∀ q, q ∈ fit L ↔ lastV L q.1 = some q.2) (by intro q; simp [fit, lastV]) (fun L p h q => ?_) L
  rw [fit_snoc, ins_mem p (fit_srt L), lastV_snoc, h q]
  by_cases e : p.1 = q.1
  · rw [if_pos e]
    constructor
    · rintro (h1 | h1)
      · rw [h1]
      · exact absurd e.symm h1.2
    · intro h1
      injection h1 with h1
      left
      obtain ⟨a, b⟩ := q
      obtain ⟨c, d⟩ := p
      simp only at e h1
      rw [e, h1]
  · rw [if_neg e]
    constructor
    · rintro (h1 | h1)
      · exact absurd (by rw [h1]) e
      · exact h1.1
    · intro h1
      exact Or.inr ⟨h1, fun e2 => e e2.symm⟩
theorem fit_key (L : List P2) (k : ByteArray) : k ∈ (fit L).map (·.1) ↔ (lastV L k).isSome = true := by
  rw [List.mem_map, Option.isSome_iff_exists]
  constructor
  · rintro ⟨q, hq, rfl⟩
    exact ⟨q.2, (mem_fit L q).1 hq⟩
  · rintro ⟨v, hv⟩
    exact ⟨(k, v), (mem_fit L (k, v)).2 hv, rfl⟩
theorem srt_nodup {F : List P2} (h : Srt F) : (F.map (·.1)).Nodup := by
  rw [List.nodup_iff_pairwise_ne, List.pairwise_map]
  refine h.imp fun h e => ?_
  rw [e, bl_irr] at h
  cases h

/-- texts, sorted -/
def sortB (ks : List ByteArray) : List ByteArray := ((ks.map dl).mergeSort leB).map mkB
theorem sortB_len (ks : List ByteArray) : (sortB ks).length = ks.length := by unfold sortB; simp
theorem sortB_perm (ks : List ByteArray) : (sortB ks).Perm ks := by
  unfold sortB
  have h := (List.mergeSort_perm (ks.map dl) leB).map mkB
  have e : (ks.map dl).map mkB = ks := by
    rw [List.map_map]
    conv => rhs; rw [← List.map_id ks]
    exact List.map_congr_left (fun s _ => mk_dl s)
  rw [e] at h
  exact h
theorem sortB_eq {ks ks' : List ByteArray} (h : ks.Perm ks') : sortB ks = sortB ks' := by
  unfold sortB
  rw [mergeSort_of_perm (h.map dl)]
theorem leB_tr (a b c : L8) (h1 : leB a b = true) (h2 : leB b c = true) : leB a c = true := by simp only [leB, decide_eq_true_eq] at *; exact List.le_trans h1 h2
theorem leB_to (a b : L8) : (leB a b || leB b a) = true := by simp only [leB, Bool.or_eq_true, decide_eq_true_eq]; exact List.le_total a b
/-- a strictly rising list is its own sorted list -/
theorem sortB_self {ks : List ByteArray} (h : ks.Pairwise (fun a b => bl a b = true)) : sortB ks = ks := by
  unfold sortB
  have h1 : (ks.map dl).Pairwise (fun a b => leB a b = true) := by
    rw [List.pairwise_map]
    refine h.imp fun h => ?_
    simp only [leB, decide_eq_true_eq]
    exact List.le_of_lt ((bl_iff _ _).1 h)
  rw [List.mergeSort_of_pairwise h1, List.map_map]
  conv => rhs; rw [← List.map_id ks]
  exact List.map_congr_left (fun s _ => mk_dl s)
/-- the map's keys, in any order, sorted: the fitted pairs' names -/
theorem sort_keys {L : List P2} {ks : List ByteArray} (hn : ks.Nodup) (hk : ∀ k, k ∈ ks ↔ (lastV L k).isSome = true) : sortB ks = (fit L).map (·.1) := by
  have hp : ks.Perm ((fit L).map (·.1)) := (List.perm_ext_iff_of_nodup hn (srt_nodup (fit_srt L))).2 fun k => by rw [hk, fit_key]
  rw [sortB_eq hp]
  exact sortB_self (List.pairwise_map.2 (fit_srt L))

/-- texts, each closed by the separator -/
def seps (l : List ByteArray) : L8 := l.flatMap fun x => dl x ++ [255]
def idOf (nm : ByteArray) (F : List P2) : L8 := seps (nm :: F.map (·.2))
def dollar (v : ByteArray) : ByteArray := mkB (36 :: dl v)
def dimOf (hp un : ByteArray) (V : List ByteArray) (F : List P2) : L8 := dl hp ++ [255] ++ (dl un ++ [255]) ++ seps (sortB (F.map (·.1) ++ V.map dollar))
theorem seps_app (a b : List ByteArray) : seps (a ++ b) = seps a ++ seps b := by unfold seps; rw [List.flatMap_append]
theorem seps_cons (x : ByteArray) (l : List ByteArray) : seps (x :: l) = dl x ++ 255 :: seps l := by unfold seps; rw [List.flatMap_cons]; simp
theorem seps_take_le (l : List ByteArray) (k : Nat) : (seps (l.take k)).length ≤ (seps l).length := by
  have h : seps l = seps (l.take k) ++ seps (l.drop k) := by rw [← seps_app, List.take_append_drop]
  rw [h, List.length_append]
  omega
theorem seps_snoc (l : List ByteArray) (x : ByteArray) : seps (l ++ [x]) = seps l ++ dl x ++ [255] := by rw [seps_app]; simp [seps]
def Clean (l : List ByteArray) : Prop := ∀ x ∈ l, (255 : UInt8) ∉ dl x
theorem cut_at : ∀ (a b : L8) (s t : L8), (255 : UInt8) ∉ a → (255 : UInt8) ∉ b → a ++ 255 :: s = b ++ 255 :: t → a = b ∧ s = t
  | [], [], s, t, _, _, h => by simp at h; exact ⟨rfl, h⟩
  | [], y :: b, s, t, _, hb, h => by
    simp at h
    exact absurd (by rw [h.1]; simp) hb
  | x :: a, [], s, t, ha, _, h => by
    simp at h
    exact absurd (by rw [← h.1]; simp) ha
  | x :: a, y :: b, s, t, ha, hb, h => by
    simp only [List.cons_append, List.cons.injEq] at h
    have := cut_at a b s t (fun h => ha (by simp [h])) (fun h => hb (by simp [h])) h.2
    exact ⟨by rw [h.1, this.1], this.2⟩
theorem seps_inj : ∀ {a b : List ByteArray}, Clean a → Clean b → seps a = seps b → a = b
  | [], [], _, _, _ => rfl
  | [], y :: b, _, _, h => by rw [seps_cons] at h; simp [seps] at h
  | x :: a, [], _, _, h => by rw [seps_cons] at h; simp [seps] at h
  | x :: a, y :: b, ha, hb, h => by
    rw [seps_cons, seps_cons] at h
    obtain ⟨h1, h2⟩ := cut_at _ _ _ _ (ha x (by simp)) (hb y (by simp)) h
    rw [dl_inj h1, seps_inj (fun z hz => ha z (by simp [hz])) (fun z hz => hb z (by simp [hz])) h2]
theorem id_iff {n1 n2 : ByteArray} {F1 F2 : List P2} (h1 : Clean (n1 :: F1.map (·.2))) (h2 : Clean (n2 :: F2.map (·.2))) : idOf n1 F1 = idOf n2 F2 ↔ n1 = n2 ∧ F1.map (·.2) = F2.map (·.2) := by
  unfold idOf
  constructor
  · intro h
    have := seps_inj h1 h2 h
    simp only [List.cons.injEq] at this
    exact this
  · rintro ⟨rfl, h⟩
    rw [h]

end Go.Proofs.YtlolomodcbkblaaGreatDoor.Nd
