/- Descriptors: pairs converted (laws.pairsTo); labels from pairs (impl.labels): walked. -/
import Derived.Test.YtlolomodcbkblaaGreatDoorMg4
import Derived.Maps.Own
import Derived.Maps.OwnSet
import Derived.Maps.StringElems
set_option linter.unusedVariables false
set_option linter.unusedSimpArgs false
namespace Go.Proofs.YtlolomodcbkblaaGreatDoor.Nd
open Go.RowKit Go.Maps Go.WideMaps Go.ChangeShapes Go.WideShapes Go.Deep Fp

theorem infoIP : (Tryz.prog.info? 211).map (fun i => (i.zero, i.size, i.bytes)) = some (some (.agg #[.string ByteArray.empty, .string ByteArray.empty]), 2, 32) := by kernel_rfl
def GotT (e B n : Nat) (acc : List P2) (u : Value) (w w' : World) : Prop :=
  acc.length ≤ n ∧ w'.ownsRow B e 2 u acc.length (acc.flatMap pc) ∧ Below B w w'
theorem GotT.below {e B n : Nat} {acc : List P2} {u : Value} {w W W' : World} (h : GotT e B n acc u w W) (hs : B ≤ W.heap.size) (hb : Below W.heap.size W W') : GotT e B n acc u w W' :=
  ⟨h.1, h.2.1.kept (row := none) ⟨hb.os, hb.tape, hb.output, hb.size, fun i hi _ => hb.block i hi⟩ (by cases u.ownBlock <;> simp), h.2.2.trans (hb.mono hs)⟩
theorem GotT.app {e B n : Nat} {acc : List P2} {u v : Value} {p : P2} {w w' wy : World} {o : Obj} (h : GotT e B n acc u w w') (hs : B ≤ w'.heap.size) (ho : wy.ownsRow B e 2 v (acc.length + 1) (acc.flatMap pc ++ pc p)) (hg : (w'.alloc o).grownBy wy u.ownBlock) : GotT e B (n + 1) (acc ++ [p]) v w wy := by
  refine ⟨by have := h.1; simp; omega, ?_, (h.2.2.alloc hs o).grown hg (by simp; omega) (fun j hj => (h.2.1.lt j hj).1)⟩
  rw [List.length_append, List.flatMap_append]
  simpa using ho
theorem pair_of {w : World} {a : Option Addr} {n cap : Nat} {L : List P2} (h : Ss.Of 2 pc w (.slice a n cap) L) {k : Nat} (hk : k < L.length) :
    ∃ b off, a = some ⟨b, off, none⟩ ∧ b < w.heap.size ∧ w.cell? ⟨b, off + k * 2, none⟩ = some (.string (L[k]).1) ∧ w.cell? ⟨b, off + k * 2 + 1, none⟩ = some (.string (L[k]).2) := by
  rcases h with ⟨rfl, _⟩ | ⟨b, off, cap, h, h0, hcap, hm, hbb, hcell⟩
  · simp at hk
  · injection h with h1 h2 h3
    exact ⟨b, off, h1, hbb, hcell k hk 0 _ rfl, by rw [Nat.add_assoc]; exact hcell k hk 1 _ rfl⟩
/-- a row of pairs of the call's own is handed back -/
def ListOwn (L : List P2) (w : World) (e : Ending) (w' : World) : Prop := ∃ v, e = .returned v ∧ w'.ownsRow w.heap.size 211 2 v L.length (L.flatMap pc) ∧ Below w.heap.size w w'
def ListOut (L : List P2) (w : World) (e : Ending) (w' : World) : Prop := ∃ v, e = .returned v ∧ Ss.Of 2 pc w' v L ∧ Below w.heap.size w w'
set_option maxHeartbeats 1000000 in
set_option maxRecDepth 100000 in
theorem pairTo_any (x y : ByteArray) (w : World) :
    Calls Tryz.prog 110 #[.agg #[.string x, .string y]] w fun e w' => e = .returned (.agg #[.string x, .string y]) ∧ Below w.heap.size w w' := by
  go_enter Tryz.func110, Tryz.ntmps110
  go_wp2
  exact bodyPost_ret (v := .agg #[.string x, .string y]) (by simp [results, Tryz.results110, go_sem]) rfl ⟨rfl, ((Below.refl _ _).alloc (Nat.le_refl _) _).alloc (by simp) _⟩

set_option maxHeartbeats 4000000 in
set_option maxRecDepth 100000 in
theorem pairsTo_own (L : List P2) (v : Value) (w : World) (hof : Ss.Of 2 pc w v L) (hL : L.length ≤ 2147483647) :
    Calls Tryz.prog 68 #[v] w (ListOwn L w) := by
  obtain ⟨i0, hi, hz0, hz1, hz2⟩ := info_parts infoIP
  obtain ⟨av, cv, rfl, _, _⟩ := hof.slice
  have HOf := Lib.hid hof
  have HG0 : Hid (GotT 211 w.heap.size 0 [] (.slice none 0 0) w w) := ⟨Nat.le_refl _, World.ownsRow_nil _ _ _ _, Below.refl _ _⟩
  clear hof
  go_enter Tryz.func68, Tryz.ntmps68
  go_wp2_with fail
  go_loopw [3, 4] (fun vu vk wr => ∃ (k : Nat) (u : Value), k ≤ L.length ∧ u = vu ∧ vk = .int .i64 (k : Int) ∧ Hid (GotT 211 w.heap.size k (L.take k) u w wr)) (fun _ k _ => L.length - (intOf k).toNat)
  case atStart => exact ⟨0, _, Nat.zero_le _, rfl, rfl, HG0.out⟩
  case round =>
    obtain ⟨k, u, hk, rfl, rfl, hgot⟩ := hrel
    by_cases hlt : k < L.length
    · obtain ⟨b, off, hav, hb, d0, d1⟩ := pair_of HOf.out hlt
      have htk : L.take (k + 1) = L.take k ++ [L[k]] := List.take_succ_eq_append_getElem hlt
      subst hav
      obtain ⟨x, y, hxy⟩ : ∃ x y, L[k] = (x, y) := ⟨_, _, rfl⟩
      obtain ⟨acc, hacc⟩ : ∃ acc, L.take k = acc := ⟨_, rfl⟩
      rw [hxy] at d0 d1 htk
      rw [hacc] at hgot htk
      have hbw := hgot.out.2.2
      have hal := hgot.out.1
      have hsz : w.heap.size ≤ wr.heap.size := hbw.size
      have c0 : wr.cell? ⟨b, off + k * 2, none⟩ = some (.string x) := by rw [hbw.cell (p := ⟨b, off + k * 2, none⟩) hb]; exact d0
      have c1 : wr.cell? ⟨b, off + k * 2 + 1, none⟩ = some (.string y) := by rw [hbw.cell (p := ⟨b, off + k * 2 + 1, none⟩) hb]; exact d1
      have z1 : (0 : Int) ≤ (k : Int) := by omega
      have z2 : (k : Int) < (L.length : Int) := by omega
      obtain ⟨au, cu, rfl⟩ := row_slice2 hgot.out.2.1
      have HTk := Lib.hid htk
      clear d0 d1 hxy hbw htk hacc
      go_wp2_with fail
      refine (pairTo_any x y wr).mono ?_
      rintro e w1 ⟨rfl, hb1⟩
      have hg1 : Hid (GotT 211 w.heap.size k acc (.slice au acc.length cu) w w1) := hgot.out.below hsz hb1
      have hs1 : w.heap.size ≤ w1.heap.size := Nat.le_trans hsz hb1.size
      have HNews := Lib.hid (Ss.news_one w1 #[.string x, .string y] 211)
      clear hb1 hgot c0 c1
      go_wp2_with (first
        | (at_builtin; refine wpList_append_own_at _ rfl _ _ 28 rfl w.heap.size 211 i0 (.agg #[.string ByteArray.empty, .string ByteArray.empty]) 2 32 Tryz.underlying28 hi hz0 hz1 hz2 rfl (by decide) _ _ _ rfl (hg1.out.2.1.alloc _) ⟨w1.heap.size, 0, none⟩ 1 1 [.string x, .string y] rfl rfl (by simpa using HNews.out) (ones2 [(x, y)]) (by unfold maxLen; omega) (by omega) (by simp; omega) ?_; intro v2 W4 hown2 hgrow2 hnil2 hloc2; have hg3 : Hid (GotT 211 w.heap.size (k + 1) (L.take (k + 1)) v2 w W4) := (by show GotT 211 _ _ _ _ _ _; rw [HTk.out]; exact hg1.out.app hs1 hown2 hgrow2); clear hown2 hgrow2 hnil2 hloc2))
      go_roundw
      case rel => exact ⟨k + 1, _, by omega, rfl, by go_num, hg3.out⟩
      case measure => simp [intOf]; omega
    · obtain rfl : k = L.length := by omega
      have hg2 := hgot.out
      rw [List.take_length] at hg2
      have hfin : Hid (ListOwn L w (.returned u) wr) := ⟨u, rfl, hg2.2.1, hg2.2.2⟩
      clear hg2 hgot
      go_wp2_with fail
      go_ret
      exact hfin.out
theorem pairsTo_any (L : List P2) (v : Value) (w : World) (hof : Ss.Of 2 pc w v L) (hL : L.length ≤ 2147483647) :
    Calls Tryz.prog 68 #[v] w (ListOut L w) := (pairsTo_own L v w hof hL).mono fun e w' ⟨v, he, ho, hb⟩ => ⟨v, he, Ss.Of.own pc_len ho, hb⟩

def sl (s : ByteArray) : Lit := .string (dl s)
theorem sl_inj {s t : ByteArray} (h : sl s = sl t) : s = t := by
  unfold sl at h
  injection h with h
  exact dl_inj h
theorem key_lit (s : ByteArray) : WideAt.IsKeyLit (sl s) := by unfold sl; trivial
theorem lawS : Keyed Tryz.prog 9 := string_keyed Tryz.underlying9
theorem zeroStr (w : World) : (zeroValue 9).run Tryz.prog w = .ok (.string ByteArray.empty) w := by kernel_rfl
abbrev AtV (D : DataW Unit) (L : List P2) : Prop := ∀ s z, D.atKey (sl s) z = (match lastV L s with | some v => .lit (sl v) | none => z)
/-- the map in block b holds the values of the names in L -/
def Mp (w : World) (b : Nat) (L : List P2) : Prop :=
  ∃ (k : Nat) (D : DataW Unit), k ≤ L.length ∧ w.ownsMap Tryz.prog 9 (plainElem Tryz.prog 9) b k D ∧ AtV D L
theorem Mp.kept {w w' : World} {b : Nat} {L : List P2} {r : Option Nat} (h : Mp w b L) (k : w.grownBy w' r) (hb : some b ≠ r) : Mp w' b L := by
  obtain ⟨n, D, h1, h2, h3⟩ := h
  exact ⟨n, D, h1, h2.kept k hb, h3⟩
theorem Mp.made (w : World) : Mp (w.alloc (.map #[] 0)) w.heap.size [] := ⟨0, .map [], Nat.le_refl _, World.ownsMap_made _ _ _ _, fun s z => rfl⟩
theorem Mp.lt {w : World} {b : Nat} {L : List P2} (h : Mp w b L) : b < w.heap.size := by
  obtain ⟨n, D, h1, h2, h3⟩ := h
  exact h2.lt
theorem Mp.below {w w' : World} {b : Nat} {L : List P2} (h : Mp w b L) (k : Below w.heap.size w w') : Mp w' b L :=
  h.kept (r := none) ⟨k.os, k.tape, k.output, k.size, fun i hi _ => k.block i hi⟩ (by simp)
theorem Mp.next {w wy : World} {b n : Nat} {L : List P2} {D : DataW Unit} {p : P2} (hn : n ≤ L.length) (hown : w.ownsMap Tryz.prog 9 (plainElem Tryz.prog 9) b n D) (hat : AtV D L)
    (ho : wy.ownsMap Tryz.prog 9 (plainElem Tryz.prog 9) b (n + 1) (D.put (sl p.1) (.lit (sl p.2)))) : Mp wy b (L ++ [p]) := by
  refine ⟨n + 1, _, by simp; omega, ho, fun s z => ?_⟩
  rw [lastV_snoc]
  by_cases e : p.1 = s
  · rw [if_pos e]
    subst e
    rw [atKey_put_same hown.isMap (key_lit p.1)]
  · rw [if_neg e, atKey_put_other (fun e2 => e (sl_inj e2).symm), hat s z]
/-- labels: a map that may be nil -/
def Ms (w : World) (m : Option Nat) (L : List P2) : Prop := (m = none ∧ L = []) ∨ ∃ b, m = some b ∧ True ∧ Mp w b L
theorem Ms.below {w w' : World} {m : Option Nat} {L : List P2} (h : Ms w m L) (k : Below w.heap.size w w') : Ms w' m L := by
  rcases h with h | ⟨b, h1, h2, h3⟩
  · exact Or.inl h
  · exact Or.inr ⟨b, h1, h2, h3.below k⟩
def MapOut (L : List P2) (w : World) (e : Ending) (w' : World) : Prop := ∃ m, e = .returned (.map m) ∧ Ms w' m L ∧ Below w.heap.size w w'
def MQ (L : List P2) (w : World) (k : Nat) (m : Option Nat) (wr : World) : Prop := ((m = none ∧ k = 0) ∨ ∃ b, m = some b ∧ 0 < k ∧ w.heap.size ≤ b ∧ Mp wr b (L.take k)) ∧ Below w.heap.size w wr

set_option maxHeartbeats 8000000 in
set_option maxRecDepth 100000 in
theorem labels_any (L : List P2) (v : Value) (w : World) (hof : Ss.Of 2 pc w v L) (hL : L.length ≤ 2147483647) (hr : ∀ p ∈ L, p.1.size ≤ 2147483647 ∧ p.2.size ≤ 2147483647) :
    Calls Tryz.prog 59 #[v] w (MapOut L w) := by
  obtain ⟨av, cv, rfl, _, _⟩ := hof.slice
  have hmm := @run_makeMap Tryz.prog
  have em1 := fun (w : World) => run_eql_map_nil (P := Tryz.prog) w 105 _ _ none Tryz.underlying105
  have em2 := fun (w : World) (b : Nat) => run_eql_map_nil (P := Tryz.prog) w 105 _ _ (some b) Tryz.underlying105
  simp only [Option.isNone_none, Option.isNone_some] at em1 em2
  have HOf := Lib.hid hof
  have HL := Lib.hid hr
  have hq0 : Hid (MQ L w 0 none w) := ⟨Or.inl ⟨rfl, rfl⟩, Below.refl _ _⟩
  clear hof hr
  go_enter Tryz.func59, Tryz.ntmps59
  go_wp2_with fail
  go_loopw [3, 8] (fun vm vk wr => ∃ (k : Nat) (m : Option Nat), k ≤ L.length ∧ vk = .int .i64 (k : Int) ∧ vm = .map m ∧ Hid (MQ L w k m wr)) (fun _ k _ => L.length - (intOf k).toNat)
  case atStart => exact ⟨0, none, Nat.zero_le _, rfl, rfl, hq0.out⟩
  case round =>
    clear hq0
    obtain ⟨k, m, hk, rfl, rfl, hq⟩ := hrel
    by_cases hlt : k < L.length
    · obtain ⟨b, off, hav, hb, d0, d1⟩ := pair_of HOf.out hlt
      obtain ⟨s1, s2⟩ := HL.out _ (List.getElem_mem hlt)
      have htk : L.take (k + 1) = L.take k ++ [L[k]] := List.take_succ_eq_append_getElem hlt
      have hbw := hq.out.2
      subst hav
      obtain ⟨x, y, hxy⟩ : ∃ x y, L[k] = (x, y) := ⟨_, _, rfl⟩
      rw [hxy] at d0 d1 s1 s2 htk
      have s1 : x.size ≤ 2147483647 := s1
      have s2 : y.size ≤ 2147483647 := s2
      have c0 : wr.cell? ⟨b, off + k * 2, none⟩ = some (.string x) := by rw [hbw.cell (p := ⟨b, off + k * 2, none⟩) hb]; exact d0
      have c1 : wr.cell? ⟨b, off + k * 2 + 1, none⟩ = some (.string y) := by rw [hbw.cell (p := ⟨b, off + k * 2 + 1, none⟩) hb]; exact d1
      have hsz : w.heap.size ≤ wr.heap.size := hbw.size
      have HKey : Hid (keyOf Tryz.prog 9 (.string x) = some (sl x)) := keyOf_string_mk Tryz.underlying9 (s := x) (by unfold maxLen; omega)
      have z1 : (0 : Int) ≤ (k : Int) := by omega
      have z2 : (k : Int) < (L.length : Int) := by omega
      rcases hq.out.1 with ⟨rfl, hk0⟩ | ⟨b2, rfl, hk0, hB2, hm⟩
      · have hown : (((wr.alloc (.cells #[.string x, .string y] 211)).alloc (.map #[] 0))).ownsMap Tryz.prog 9 (plainElem (H := Unit) Tryz.prog 9) (wr.heap.size + 1) 0 (.map []) := by
          have := World.ownsMap_made (wr.alloc (.cells #[.string x, .string y] 211)) Tryz.prog 9 (plainElem (H := Unit) Tryz.prog 9)
          simpa using this
        have HOwn := Lib.hid hown
        have HStep : Hid (∀ wy : World, wy.ownsMap Tryz.prog 9 (plainElem Tryz.prog 9) (wr.heap.size + 1) (0 + 1) ((DataW.map ([] : List (Lit × DataW Unit))).put (sl x) (.lit (sl y))) → ((wr.alloc (.cells #[.string x, .string y] 211)).alloc (.map #[] 0)).grownBy wy (some (wr.heap.size + 1)) → MQ L w (k + 1) (some (wr.heap.size + 1)) wy) := by
          intro wy ho hgr
          refine ⟨Or.inr ⟨_, rfl, by omega, by omega, ?_⟩, ((hbw.alloc hsz _).alloc (by simp; omega) _).grown hgr (by simp; omega) (fun j hj => by injection hj with hj; omega)⟩
          rw [htk, hk0]
          exact Mp.next (L := []) (p := (x, y)) (Nat.le_refl _) hown (fun s z => rfl) ho
        clear d0 d1 hxy hbw htk hown hq hk0
        go_wp2_with (at_mapUpdate; refine wpList_mapUpdate_own _ rfl _ _ _ 105 rfl 9 9 lawS Tryz.underlying105 (plainElem Tryz.prog 9) (wr.heap.size + 1) 0 (.map []) rfl HOwn.out (by unfold maxLen; omega) _ _ _ rfl rfl HKey.out _ [] (plainElem_string Tryz.underlying9 (by unfold maxLen; omega)) ?_; intro w2 hown2 hgrow2; have hq2 := Lib.hid (HStep.out w2 hown2 hgrow2); clear hown2 hgrow2)
        go_roundw
        case rel => exact ⟨k + 1, _, by omega, by go_num, rfl, hq2.out⟩
        case measure => simp [intOf]; omega
      · have hm2 : Mp (wr.alloc (.cells #[.string x, .string y] 211)) b2 (L.take k) := hm.kept (World.grownBy_alloc wr _ none) (by simp)
        obtain ⟨n, D, hn, hown, hat⟩ := hm2
        have hn2 : n ≤ 2147483647 := by
          have : (L.take k).length ≤ L.length := by rw [List.length_take]; omega
          omega
        have HOwn := Lib.hid hown
        have HStep : Hid (∀ wy : World, wy.ownsMap Tryz.prog 9 (plainElem Tryz.prog 9) b2 (n + 1) (D.put (sl x) (.lit (sl y))) → (wr.alloc (.cells #[.string x, .string y] 211)).grownBy wy (some b2) → MQ L w (k + 1) (some b2) wy) := by
          intro wy ho hgr
          refine ⟨Or.inr ⟨_, rfl, by omega, hB2, ?_⟩, (hbw.alloc hsz _).grown hgr (by simp; omega) (fun j hj => by injection hj with hj; omega)⟩
          rw [htk]
          exact Mp.next (p := (x, y)) hn hown hat ho
        clear d0 d1 hxy hbw htk hown hat hq hm
        go_wp2_with (at_mapUpdate; refine wpList_mapUpdate_own _ rfl _ _ _ 105 rfl 9 9 lawS Tryz.underlying105 (plainElem Tryz.prog 9) b2 n D rfl HOwn.out (by unfold maxLen; omega) _ _ _ rfl rfl HKey.out _ [] (plainElem_string Tryz.underlying9 (by unfold maxLen; omega)) ?_; intro w2 hown2 hgrow2; have hq2 := Lib.hid (HStep.out w2 hown2 hgrow2); clear hown2 hgrow2)
        go_roundw
        case rel => exact ⟨k + 1, _, by omega, by go_num, rfl, hq2.out⟩
        case measure => simp [intOf]; omega
    · obtain rfl : k = L.length := by omega
      have hfin : Hid (MapOut L w (.returned (.map m)) wr) := by
        refine ⟨m, rfl, ?_, hq.out.2⟩
        rcases hq.out.1 with ⟨h1, h2⟩ | ⟨b, h1, h2, h3, h4⟩
        · exact Or.inl ⟨h1, List.length_eq_zero_iff.1 h2⟩
        · rw [List.take_length] at h4
          exact Or.inr ⟨b, h1, trivial, h4⟩
      clear hq
      go_wp2_with fail
      go_ret
      exact hfin.out

end Go.Proofs.YtlolomodcbkblaaGreatDoor.Nd
