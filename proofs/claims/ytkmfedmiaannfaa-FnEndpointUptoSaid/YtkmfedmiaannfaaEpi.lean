/- Endpoints: the thin package's Endpoint walked. -/
import Derived.Test.YtkmfedmiaannfaaEpu
set_option linter.unusedVariables false
set_option linter.unusedSimpArgs false
namespace Go.Proofs.Ytkmfedmiaannfaa.Ep
open Go.RowKit Go.Maps Go.WideMaps Go.ChangeShapes Go.WideShapes Go.Deep Fp

def NewOut (s : ByteArray) (w : World) (e : Ending) (w' : World) : Prop :=
  ∃ g, e = .returned (.pointer (some ⟨g, 0, none⟩)) ∧ g < w'.heap.size ∧ w'.cell? ⟨g, 0, none⟩ = some (.string s) ∧ Below w.heap.size w w'

set_option maxHeartbeats 4000000 in
set_option maxRecDepth 100000 in
theorem client_any (s : ByteArray) (hs : s.size ≤ 2147483647) (hl : ∀ h : 0 < s.size, ((s[s.size - 1]'(by omega)).toNat : Int) ≠ 47) (w : World) :
    Calls Try.prog 58 #[.string s] w (NewOut s w) := by
  have CT := Lib.hid (trim_any s hs hl w)
  clear hl
  go_enter Try.func58, Try.ntmps58
  go_wp2_with fail
  refine CT.out.mono ?_
  rintro e W ⟨rfl, hb⟩
  have hfin : Hid (NewOut s w (.returned (.pointer (some ⟨W.heap.size, 0, none⟩))) (W.alloc (.cells #[.string s] 148))) :=
    ⟨W.heap.size, rfl, by simp, by rw [cell_new]; rfl, hb.alloc hb.size _⟩
  clear hb
  go_wp2_with fail
  go_ret
  exact hfin.out

def IQ (L : List P2) (w : World) (k : Nat) (wr : World) : Prop := Mp wr w.heap.size (L.take k) ∧ Below w.heap.size w wr
def IOut (L : List P2) (base ep : ByteArray) (w : World) (e : Ending) (w' : World) : Prop :=
  e = .returned (.string (mk (([47] : List UInt8).intercalate ((Lib.Pa.els (Lib.Pa.join [base.data.toList, ep.data.toList])).map (put L))))) ∧ Below w.heap.size w w'

set_option maxHeartbeats 8000000 in
set_option maxRecDepth 100000 in
theorem impl_any (L : List P2) (base ep : ByteArray) (v : Value) (w : World) (hof : Ss.Of 2 pc w v L) (hL : Fit1 L) (h1 : base.size ≤ 4194304) (h2 : ep.size ≤ 4194304) (hl : ∀ h : 0 < base.size, ((base[base.size - 1]'(by omega)).toNat : Int) ≠ 47) :
    Calls Try.prog 30 #[.string base, .string ep, v] w (IOut L base ep w) := by
  obtain ⟨av, cv, rfl, _, _⟩ := hof.slice
  have hmm := @run_makeMap Try.prog
  have HOf := Lib.hid hof
  have HL := Lib.hid hL
  have hll := hL.1
  have CC := Lib.hid (fun W => client_any base (by omega) hl W)
  have hq0 : Hid (IQ L w 0 (w.alloc (.map #[] 0))) := ⟨by rw [List.take_zero]; exact Mp.made w, (Below.refl _ _).alloc (Nat.le_refl _) _⟩
  clear hof hL hl
  go_enter Try.func30, Try.ntmps30
  go_wp2_with fail
  go_loopw [13] (fun vk wr => ∃ k : Nat, k ≤ L.length ∧ vk = .int .i64 (k : Int) ∧ Hid (IQ L w k wr)) (fun k _ => L.length - (intOf k).toNat)
  case atStart => exact ⟨0, Nat.zero_le _, rfl, hq0.out⟩
  case round =>
    clear hq0
    obtain ⟨k, hk, rfl, hq⟩ := hrel
    by_cases hlt : k < L.length
    · obtain ⟨b, off, hav, hb, d0, d1⟩ := pair_at HOf.out hlt
      obtain ⟨s1, s2⟩ := HL.out.2 _ (List.getElem_mem hlt)
      have htk : L.take (k + 1) = L.take k ++ [L[k]] := List.take_succ_eq_append_getElem hlt
      have hbw := hq.out.2
      subst hav
      obtain ⟨x, y, hxy⟩ : ∃ x y, L[k] = (x, y) := ⟨_, _, rfl⟩
      rw [hxy] at d0 d1 s1 s2 htk
      have s1 : x.size ≤ 1048576 := s1
      have s2 : y.size ≤ 1048576 := s2
      have c0 : wr.cell? ⟨b, off + k * 2, none⟩ = some (.string x) := by rw [hbw.cell (p := ⟨b, off + k * 2, none⟩) hb]; exact d0
      have c1 : wr.cell? ⟨b, off + k * 2 + 1, none⟩ = some (.string y) := by rw [hbw.cell (p := ⟨b, off + k * 2 + 1, none⟩) hb]; exact d1
      have hsz : w.heap.size ≤ wr.heap.size := hbw.size
      have hm2 : Mp (wr.alloc (.cells #[.string x, .string y] 109)) w.heap.size (L.take k) := hq.out.1.kept (World.grownBy_alloc wr _ none) (by simp)
      obtain ⟨n, D, hn, hown, hat⟩ := hm2
      have hn2 : n ≤ 1048576 := by
        have : (L.take k).length ≤ L.length := by rw [List.length_take]; omega
        omega
      have HOwn := Lib.hid hown
      have HKey : Hid (keyOf Try.prog 9 (.string x) = some (sl x)) := keyOf_string_mk Try.underlying9 (s := x) (by unfold maxLen; omega)
      have HStep : Hid (∀ wy : World, wy.ownsMap Try.prog 9 (plainElem Try.prog 9) w.heap.size (n + 1) (D.put (sl x) (.lit (sl y))) → (wr.alloc (.cells #[.string x, .string y] 109)).grownBy wy (some w.heap.size) → IQ L w (k + 1) wy) := by
        intro wy ho hgr
        refine ⟨?_, (hbw.alloc hsz _).grown hgr (by simp; omega) (fun j hj => by injection hj with hj; omega)⟩
        rw [htk]
        exact Mp.next (p := (x, y)) hn hown hat ho
      have z1 : (0 : Int) ≤ (k : Int) := by omega
      have z2 : (k : Int) < (L.length : Int) := by omega
      clear d0 d1 hxy hbw htk hown hat hq
      go_wp2_with (at_mapUpdate; refine wpList_mapUpdate_own _ rfl _ _ _ 108 rfl 9 9 lawS Try.underlying108 (plainElem Try.prog 9) w.heap.size n D rfl HOwn.out (by unfold maxLen; omega) _ _ _ rfl rfl HKey.out _ [] (plainElem_string Try.underlying9 (by unfold maxLen; omega)) ?_; intro w2 hown2 hgrow2; have hq2 := Lib.hid (HStep.out w2 hown2 hgrow2); clear hown2 hgrow2)
      go_roundw
      case rel => exact ⟨k + 1, by omega, by go_num, hq2.out⟩
      case measure => simp [intOf]; omega
    · obtain rfl : k = L.length := by omega
      have hm : Hid (Mp wr w.heap.size L) := by
        have := hq.out.1
        rw [List.take_length] at this
        exact this
      have hB := Lib.hid hq.out.2
      clear hq
      go_wp2_with fail
      refine (CC.out wr).mono ?_
      rintro e W1 ⟨g, rfl, hg, hc, hb1⟩
      have CU := Lib.hid (url_any L w.heap.size g base ep W1 (hm.out.below hb1) (fun p hp => (HL.out.2 p hp).2) hg hc h1 h2)
      have hB1 : Hid (Below w.heap.size w W1) := hB.out.trans (hb1.mono hB.out.size)
      clear hm hB hb1 hc CC
      go_wp2_with fail
      refine CU.out.mono ?_
      rintro e W2 ⟨rfl, hb2⟩
      have hfin : Hid (IOut L base ep w (.returned (.string (mk (([47] : List UInt8).intercalate ((Lib.Pa.els (Lib.Pa.join [base.data.toList, ep.data.toList])).map (put L)))))) W2) := ⟨rfl, hB1.out.trans (hb2.mono hB1.out.size)⟩
      clear hb2 CU
      generalize (([47] : List UInt8).intercalate ((Lib.Pa.els (Lib.Pa.join [base.data.toList, ep.data.toList])).map (put L))) = T at *
      go_wp2_with fail
      first | exact hfin.out | (go_ret; exact hfin.out)

end Go.Proofs.Ytkmfedmiaannfaa.Ep
