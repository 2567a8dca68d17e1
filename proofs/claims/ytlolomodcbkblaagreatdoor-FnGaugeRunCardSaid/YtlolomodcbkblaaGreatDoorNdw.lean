/- Descriptors: the globals; small functions walked: which names are valid; the option; the labels compiled. -/
import Derived.Test.YtlolomodcbkblaaGreatDoorNdp
import Derived.Test.YtlolomodcbkblaaGreatDoorShNd
import Derived.Shelf.Unicode.DecodeSlow
import Derived.Lib.ValidAsc
import Derived.Deep.QuietTactic
import Derived.BigQuiet
import Derived.Below
set_option linter.unusedVariables false
set_option linter.unusedSimpArgs false
namespace Go.Proofs.YtlolomodcbkblaaGreatDoor.Nd
open Go.RowKit Go.ChangeShapes Go.WideShapes Go.Deep Fp

theorem bch {w0 w w' : World} (h : Below w0.heap.size w0 w) (k : Below w.heap.size w w') : Below w0.heap.size w0 w' := h.trans (k.mono h.size)
theorem bdr {B : Nat} {a w : World} (h : Below B a w) (n : Nat) : Below B a (w.drewN n) := h.trans ⟨rfl, rfl, rfl, Nat.le_refl _, fun _ _ => rfl⟩
/-- the separator, as its initialiser lays it -/
def Sep (w : World) : Prop := ∃ b off cap, w.cell? ⟨1, 0, none⟩ = some (.slice (some ⟨b, off, none⟩) 1 cap) ∧ w.cell? ⟨b, off, none⟩ = some (.int .u8 255) ∧ b < w.heap.size ∧ 1 < w.heap.size
structure Glob (w : World) : Prop where
  tabs : Lib.Utf8Tabs 3 4 w
  sep : Sep w
theorem Sep.below {w w' : World} (h : Sep w) (k : Below w.heap.size w w') : Sep w' := by
  obtain ⟨b, off, cap, h1, h2, h3, h4⟩ := h
  exact ⟨b, off, cap, by rw [k.cell (p := ⟨1, 0, none⟩) h4]; exact h1, by rw [k.cell (p := ⟨b, off, none⟩) h3]; exact h2, Nat.lt_of_lt_of_le h3 k.size, Nat.lt_of_lt_of_le h4 k.size⟩
theorem Glob.below {w w' : World} (h : Glob w) (k : Below w.heap.size w w') : Glob w' := ⟨Utf8Tabs_below h.tabs k, h.sep.below k⟩

def Asc (s : ByteArray) : Prop := ∀ b ∈ dl s, b.toNat < 128
theorem asc_valid {s : ByteArray} (h : Asc s) : Lib.validD s.data.toList = true := by
  have h1 : Lib.Asc s s.size := fun b hb => h b (List.mem_of_mem_take hb)
  rw [← Lib.valid_skip s s.size h1, Lib.ext_list, List.drop_of_length_le (by rw [Lib.size_eq]; exact Nat.le_refl _)]
  rfl
theorem valid_any (s : ByteArray) (w : World) (hG : Glob w) (hs : s.size ≤ 9223372036854775807) (ha : Asc s) :
    Calls Tryz.prog 133 #[.string s] w fun e w' => e = .returned (.bool true) ∧ Below w.heap.size w w' := by
  refine (Sh.utf8_ValidString s w hs hG.tabs).mono ?_
  rintro e w' ⟨rfl, hb⟩
  exact ⟨by rw [asc_valid ha], hb⟩

/-- a name that is valid, whatever it is used for -/
structure NameOk (s : ByteArray) : Prop where
  pos : 0 < s.size
  le : s.size ≤ 2147483647
  asc : Asc s
  free : Lib.hasPrefix s.data.toList [95, 95] = false

set_option maxHeartbeats 2000000 in
set_option maxRecDepth 100000 in
theorem metric_any (s : ByteArray) (w : World) (hG : Glob w) (hs : s.size ≤ 2147483647) (h0 : 0 < s.size) (ha : Asc s) :
    Calls Tryz.prog 118 #[.string s] w fun e w' => e = .returned (.bool true) ∧ Below w.heap.size w w' := by
  have C := Lib.hid (valid_any s w hG (by omega) ha)
  have z : (0 : Int) < (s.size : Int) := by omega
  clear hG ha
  go_enter Tryz.func118, Tryz.ntmps118
  go_wp2_with (go_at_call 133; refine C.out.mono ?_; rintro e w' ⟨rfl, hb⟩; have HB := Lib.hid hb; clear hb)
  go_ret
  exact ⟨rfl, HB.out⟩
set_option maxHeartbeats 2000000 in
set_option maxRecDepth 100000 in
theorem label_any (s : ByteArray) (w : World) (hG : Glob w) (hs : s.size ≤ 2147483647) (h0 : 0 < s.size) (ha : Asc s) :
    Calls Tryz.prog 139 #[.string s] w fun e w' => e = .returned (.bool true) ∧ Below w.heap.size w w' := by
  have C := Lib.hid (valid_any s w hG (by omega) ha)
  have z : (0 : Int) < (s.size : Int) := by omega
  clear hG ha
  go_enter Tryz.func139, Tryz.ntmps139
  go_wp2_with (go_at_call 133; refine C.out.mono ?_; rintro e w' ⟨rfl, hb⟩; have HB := Lib.hid hb; clear hb)
  go_ret
  exact ⟨rfl, HB.out⟩
set_option maxHeartbeats 2000000 in
set_option maxRecDepth 100000 in
theorem check_any (s : ByteArray) (w : World) (hG : Glob w) (h : NameOk s) :
    Calls Tryz.prog 119 #[.string s] w fun e w' => e = .returned (.bool true) ∧ Below w.heap.size w w' := by
  have C := Lib.hid (label_any s w hG h.le h.pos h.asc)
  have HP : Hid (Lib.hasPrefix s.data.toList (ByteArray.mk #[95, 95]).data.toList = false) := h.free
  clear hG h
  go_enter Tryz.func119, Tryz.ntmps119
  go_wp2_with (first
    | (go_at_call 139; refine C.out.mono ?_; rintro e w' ⟨rfl, hb⟩; have HB := Lib.hid hb; clear hb)
    | (go_at_call 140; refine (Sh.strings_HasPrefix _ _ _).mono ?_; rintro e w2 ⟨rfl, rfl⟩; rw [HP.out]))
  go_ret
  exact ⟨rfl, HB.out⟩

set_option maxHeartbeats 4000000 in
set_option maxRecDepth 100000 in
theorem values_any (vs : List ByteArray) (v : Value) (w : World) (hv : Sl.Of Value.string w v vs) (hG : Glob w) (hl : vs.length ≤ 9223372036854775806) (ha : ∀ s ∈ vs, Asc s ∧ s.size ≤ 9223372036854775807) :
    Calls Tryz.prog 101 #[v, .int .i64 vs.length] w fun e w' => e = .returned .nilIface ∧ Below w.heap.size w w' := by
  obtain ⟨a, cap, rfl⟩ : ∃ a cap, v = .slice a vs.length cap := by
    rcases hv with ⟨rfl, a, cap, rfl, _⟩ | ⟨b, off, cap, rfl, _⟩
    · exact ⟨_, _, rfl⟩
    · exact ⟨_, _, rfl⟩
  have HV := Lib.hid hv
  have HG := Lib.hid hG
  have HA := Lib.hid ha
  clear hv hG ha
  go_enter Tryz.func101, Tryz.ntmps101
  go_wp2
  go_loopw [14] (fun i wr => ∃ k : Nat, k ≤ vs.length ∧ i = .int .i64 (k : Int) ∧ Hid (Below w.heap.size w wr)) (fun i _ => vs.length - (intOf i).toNat)
  case atStart => exact ⟨0, Nat.zero_le _, rfl, Below.refl _ _⟩
  case round =>
    obtain ⟨k, hk, rfl, hbw⟩ := hrel
    by_cases hlt : k < vs.length
    · obtain ⟨b, off, haq, hbb, hc⟩ : ∃ b off, a = some ⟨b, off, none⟩ ∧ b < w.heap.size ∧ w.cell? ⟨b, off + k, none⟩ = some (.string vs[k]) := by
        rcases HV.out with ⟨h, _⟩ | ⟨b, off, cap, h, h0, hcap, hm, hbb, hcell⟩
        · rw [h] at hlt; simp at hlt
        · injection h with h1 h2 h3
          exact ⟨b, off, h1, hbb, hcell k hlt⟩
      subst haq
      have hok := HA.out _ (List.getElem_mem hlt)
      obtain ⟨s, hs⟩ : ∃ s, vs[k] = s := ⟨_, rfl⟩
      rw [hs] at hok hc
      have c0 : wr.cell? ⟨b, off + k, none⟩ = some (.string s) := by rw [hbw.out.cell (p := ⟨b, off + k, none⟩) hbb]; exact hc
      have C := Lib.hid (valid_any s wr (HG.out.below hbw.out) hok.2 hok.1)
      have z1 : (0 : Int) ≤ (k : Int) := by omega
      have z2 : (k : Int) < (vs.length : Int) := by omega
      clear hs hok hc
      go_wp2_with (go_at_call 133; refine C.out.mono ?_; rintro e w' ⟨rfl, hb⟩; have HB := Lib.hid (bch hbw.out hb); clear hb)
      go_roundw
      case rel => exact ⟨k + 1, by omega, by go_num, HB.out⟩
      case measure => simp [intOf]; omega
    · obtain rfl : k = vs.length := by omega
      go_wp2
      go_ret
      exact ⟨rfl, hbw.out⟩

set_option maxRecDepth 100000 in
theorem text_any (s : ByteArray) (w : World) : Calls Tryz.prog 121 #[.string s] w fun e w' => e = .returned (.pointer (some ⟨w.heap.size, 0, none⟩)) ∧ w' = w.alloc (.cells #[.string s] 9) := by
  go_enter Tryz.func121, Tryz.ntmps121
  go_wp2_with fail
  go_ret
  exact ⟨rfl, rfl⟩
set_option maxRecDepth 100000 in
theorem unit_any (s : ByteArray) (w : World) : Calls Tryz.prog 84 #[.string s] w fun e w' => e = .returned (.func (.func 126) #[] #[.pointer (some ⟨w.heap.size, 0, none⟩)]) ∧ w' = w.alloc (.cells #[.string s] 9) := by
  go_enter Tryz.func84, Tryz.ntmps84
  go_wp2_with fail
  go_ret
  exact ⟨rfl, rfl⟩
set_option maxRecDepth 100000 in
theorem compile_any (v : Value) (w : World) (hv : ∃ a n c, v = .slice a n c) : Calls Tryz.prog 247 #[v] w fun e w' => e = .returned (.pointer (some ⟨w.heap.size, 0, none⟩)) ∧ w' = w.alloc (.cells #[v, .map none] 229) := by
  obtain ⟨a, n, c, rfl⟩ := hv
  go_enter Tryz.func247, Tryz.ntmps247
  go_wp2_with fail
  go_ret
  exact ⟨rfl, rfl⟩

end Go.Proofs.YtlolomodcbkblaaGreatDoor.Nd
