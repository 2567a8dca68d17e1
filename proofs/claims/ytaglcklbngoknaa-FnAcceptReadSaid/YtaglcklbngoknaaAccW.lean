/- The walks of spec's AcceptLine and AcceptAll. -/
import Derived.Test.YtaglcklbngoknaaAccV
import Derived.Test.YtaglcklbngoknaaSs
import Derived.Laws.Concat
set_option linter.unusedVariables false
set_option linter.unusedSimpArgs false
namespace Go.Proofs.Ytaglcklbngoknaa.Acc
open Go.RowKit Plf Oct

/-- an entry in memory: value and digits -/
abbrev B2 := ByteArray × ByteArray
def cells2 (z : B2) : List Value := [.string z.1, .string z.2]
theorem cells2_len (z : B2) : (cells2 z).length = 2 := rfl
def toQ (z : B2) : Q := (z.1.data.toList, z.2.data.toList)

theorem line_snoc (gap : List UInt8) (l : List Q) (e : Q) : line gap (l ++ [e]) = if l = [] then seg e else line gap l ++ ([44] ++ gap ++ seg e) := by
  cases l with
  | nil => rw [if_pos rfl]; show seg e ++ [] = _; rw [List.append_nil]
  | cons a l =>
    rw [if_neg (by simp)]
    show seg a ++ lineTail gap (l ++ [e]) = (seg a ++ lineTail gap l) ++ _
    unfold lineTail
    rw [List.flatMap_append, List.append_assoc]
    simp

theorem data_append (a b : ByteArray) : (a ++ b).data.toList = a.data.toList ++ b.data.toList := by simp

set_option maxHeartbeats 4000000 in
set_option maxRecDepth 100000 in
theorem line_any (v : Value) (zs : List B2) (gap : ByteArray) (w : World) (hv : Ss.Of 2 cells2 w v zs) (hg : gap.size ≤ 1) (hn : zs.length ≤ 2147483647)
    (h1 : ∀ z ∈ zs, z.1.size ≤ 2147483647) (h2 : ∀ z ∈ zs, z.2.size ≤ 5) :
    Calls Try.prog 43 #[v, .string gap] w fun e w' => e = .returned (.string ⟨(line gap.data.toList (zs.map toQ)).toArray⟩) ∧ w = w' := by
  rcases hv with ⟨rfl, a, cap, rfl, hcap⟩ | ⟨b, off, cap, rfl, h0, hcap, hm, hb, hcell⟩
  · clear h1 h2
    go_enter Try.func43, Try.ntmps43
    go_wp2
    go_loopw [5, 6] (fun t i wr => t = .string ⟨#[]⟩ ∧ i = .int .i64 0 ∧ w = wr) (fun _ _ _ => 0)
    case atStart => exact ⟨rfl, rfl, rfl⟩
    case round =>
      obtain ⟨rfl, rfl, rfl⟩ := hrel
      go_wp2
      go_ret
      exact ⟨rfl, rfl⟩
  · have Hcell := Lib.hid hcell
    have H1 := Lib.hid h1
    have H2 := Lib.hid h2
    clear hcell h1 h2
    go_enter Try.func43, Try.ntmps43
    go_wp2
    go_loopw [5, 6] (fun t i wr => ∃ (k : Nat) (x : ByteArray), k ≤ zs.length ∧ i = .int .i64 k ∧ t = .string x ∧ w = wr ∧ x.size ≤ k * 2147483667 ∧ Hid (x.data.toList = line gap.data.toList ((zs.take k).map toQ))) (fun _ i _ => zs.length - (intOf i).toNat)
    case atStart => exact ⟨0, ⟨#[]⟩, Nat.zero_le _, rfl, rfl, rfl, (by show 0 ≤ _; exact Nat.zero_le _), by rw [List.take_zero]; rfl⟩
    case round =>
      obtain ⟨k, x, hk, rfl, rfl, rfl, hxs, hx⟩ := hrel
      by_cases hlt : k < zs.length
      · have hsnoc : (zs.take (k + 1)).map toQ = (zs.take k).map toQ ++ [toQ zs[k]] := by
          rw [List.take_succ_eq_append_getElem hlt, List.map_append]; rfl
        have hnil : (zs.take k).map toQ = [] ↔ k = 0 := by
          rw [List.map_eq_nil_iff, List.take_eq_nil_iff]
          constructor
          · rintro (h | h)
            · exact h
            · rw [h] at hlt; simp at hlt
          · exact Or.inl
        have hl1 := H1.out _ (List.getElem_mem hlt)
        have hl2 := H2.out _ (List.getElem_mem hlt)
        have c0 : w.cell? ⟨b, off + k * 2, none⟩ = some (.string zs[k].1) := Hcell.out k hlt 0 _ rfl
        have c1 : w.cell? ⟨b, off + k * 2 + 1, none⟩ = some (.string zs[k].2) := by rw [Nat.add_assoc]; exact Hcell.out k hlt 1 _ rfl
        obtain ⟨y, hy⟩ : ∃ y, zs[k].1 = y := ⟨_, rfl⟩
        obtain ⟨d, hd⟩ : ∃ d, zs[k].2 = d := ⟨_, rfl⟩
        rw [hy] at c0 hl1
        rw [hd] at c1 hl2
        have hseg : toQ zs[k] = (y.data.toList, d.data.toList) := by unfold toQ; rw [hy, hd]
        rw [hseg] at hsnoc
        have HS := Lib.hid hsnoc
        have HNil := Lib.hid hnil
        clear hsnoc hnil hy hd hseg
        by_cases hde : d.data.toList = []
        · have e1 : d.toList = [] := by rw [Lib.toList_data, hde]
          have e2 : (!d.toList.isEmpty) = false := by rw [e1]; rfl
          have hsg : seg (y.data.toList, d.data.toList) = y.data.toList := by unfold seg; rw [if_pos hde, List.append_nil]
          have HSg := Lib.hid hsg
          have E1 := Lib.hid e1
          clear hde hsg e1
          by_cases hk0 : k = 0
          · have hfin : Hid ((x ++ y).data.toList = line gap.data.toList ((zs.take (k + 1)).map toQ)) := by
              show _ = _
              rw [data_append, HS.out, line_snoc, if_pos (HNil.out.2 hk0), hx.out, HNil.out.2 hk0, HSg.out]; rfl
            have hsz : (x ++ y).size = x.size + y.size := ByteArray.size_append
            subst hk0
            have hb1 : x.size + y.size ≤ 9223372036854775807 := by omega
            have HSz := Lib.hid (show (x ++ y : ByteArray).size ≤ 1 * 2147483667 by rw [hsz]; omega)
            clear HNil HS hx hxs hsz hl1 hl2
            rw [Nat.zero_mul, Nat.add_zero] at c0 c1
            go_wp2
            go_roundw
            case rel => exact ⟨1, x ++ y, by omega, by first | rfl | go_num, rfl, by first | rfl | trivial, HSz.out, hfin⟩
            case measure => simp [intOf]; omega
          · have hfin : Hid ((x ++ ⟨#[44]⟩ ++ gap ++ y).data.toList = line gap.data.toList ((zs.take (k + 1)).map toQ)) := by
              show _ = _
              rw [data_append, data_append, data_append, HS.out, line_snoc, if_neg (fun h => hk0 (HNil.out.1 h)), hx.out, HSg.out]
              simp
            have s1 : (x ++ ⟨#[44]⟩ : ByteArray).size = x.size + 1 := ByteArray.size_append
            have s2 : (x ++ ⟨#[44]⟩ ++ gap : ByteArray).size = x.size + 1 + gap.size := by rw [ByteArray.size_append, s1]
            have hsz : (x ++ ⟨#[44]⟩ ++ gap ++ y : ByteArray).size = x.size + 1 + gap.size + y.size := by rw [ByteArray.size_append, s2]
            have hp : (0 : Int) < (k : Int) := by omega
            clear HNil HS hx hk0
            have hb1 : x.size + 1 ≤ 9223372036854775807 := by omega
            have hb2 : x.size + 1 + gap.size ≤ 9223372036854775807 := by omega
            have hb3 : x.size + 1 + gap.size + y.size ≤ 9223372036854775807 := by omega
            have HSz := Lib.hid (show (x ++ ⟨#[44]⟩ ++ gap ++ y : ByteArray).size ≤ (k + 1) * 2147483667 by rw [hsz]; omega)
            clear hxs s1 s2 hsz hl1 hl2
            go_wp2
            go_roundw
            case rel => exact ⟨k + 1, x ++ ⟨#[44]⟩ ++ gap ++ y, by omega, by first | rfl | go_num, rfl, by first | rfl | trivial, HSz.out, hfin⟩
            case measure => simp [intOf]; omega
        · have e1 : d.toList ≠ [] := by rw [Lib.toList_data]; exact hde
          have e2 : (!d.toList.isEmpty) = true := by cases h : d.toList with | nil => exact absurd h e1 | cons _ _ => rfl
          have e3 : d.toList.isEmpty = false := by cases h : d.toList with | nil => exact absurd h e1 | cons _ _ => rfl
          have hsg : seg (y.data.toList, d.data.toList) = y.data.toList ++ ([59, 113, 61] ++ d.data.toList) := by unfold seg; rw [if_neg hde]
          have HSg := Lib.hid hsg
          clear hde hsg e1
          by_cases hk0 : k = 0
          · have hfin : Hid ((x ++ y ++ ⟨#[59, 113, 61]⟩ ++ d).data.toList = line gap.data.toList ((zs.take (k + 1)).map toQ)) := by
              show _ = _
              rw [data_append, data_append, data_append, HS.out, line_snoc, if_pos (HNil.out.2 hk0), hx.out, HNil.out.2 hk0, HSg.out]
              show [] ++ _ ++ _ ++ _ = _
              simp
            have s1 : (x ++ y : ByteArray).size = x.size + y.size := ByteArray.size_append
            have s2 : (x ++ y ++ ⟨#[59, 113, 61]⟩ : ByteArray).size = x.size + y.size + 3 := by rw [ByteArray.size_append, s1]; rfl
            have hsz : (x ++ y ++ ⟨#[59, 113, 61]⟩ ++ d : ByteArray).size = x.size + y.size + 3 + d.size := by rw [ByteArray.size_append, s2]
            subst hk0
            have hb1 : x.size + y.size ≤ 9223372036854775807 := by omega
            have hb2 : x.size + y.size + 3 ≤ 9223372036854775807 := by omega
            have hb3 : x.size + y.size + 3 + d.size ≤ 9223372036854775807 := by omega
            have HSz := Lib.hid (show (x ++ y ++ ⟨#[59, 113, 61]⟩ ++ d : ByteArray).size ≤ 1 * 2147483667 by rw [hsz]; omega)
            clear HNil HS hx hxs hsz s1 s2 hl1 hl2
            rw [Nat.zero_mul, Nat.add_zero] at c0 c1
            go_wp2
            go_roundw
            case rel => exact ⟨1, x ++ y ++ ⟨#[59, 113, 61]⟩ ++ d, by omega, by first | rfl | go_num, rfl, by first | rfl | trivial, HSz.out, hfin⟩
            case measure => simp [intOf]; omega
          · have hfin : Hid ((x ++ ⟨#[44]⟩ ++ gap ++ y ++ ⟨#[59, 113, 61]⟩ ++ d).data.toList = line gap.data.toList ((zs.take (k + 1)).map toQ)) := by
              show _ = _
              rw [data_append, data_append, data_append, data_append, data_append, HS.out, line_snoc, if_neg (fun h => hk0 (HNil.out.1 h)), hx.out, HSg.out]
              simp
            have s1 : (x ++ ⟨#[44]⟩ : ByteArray).size = x.size + 1 := ByteArray.size_append
            have s2 : (x ++ ⟨#[44]⟩ ++ gap : ByteArray).size = x.size + 1 + gap.size := by rw [ByteArray.size_append, s1]
            have s3 : (x ++ ⟨#[44]⟩ ++ gap ++ y : ByteArray).size = x.size + 1 + gap.size + y.size := by rw [ByteArray.size_append, s2]
            have s4 : (x ++ ⟨#[44]⟩ ++ gap ++ y ++ ⟨#[59, 113, 61]⟩ : ByteArray).size = x.size + 1 + gap.size + y.size + 3 := by rw [ByteArray.size_append, s3]; rfl
            have hsz : (x ++ ⟨#[44]⟩ ++ gap ++ y ++ ⟨#[59, 113, 61]⟩ ++ d : ByteArray).size = x.size + 1 + gap.size + y.size + 3 + d.size := by rw [ByteArray.size_append, s4]
            have hp : (0 : Int) < (k : Int) := by omega
            have hb1 : x.size + 1 ≤ 9223372036854775807 := by omega
            have hb2 : x.size + 1 + gap.size ≤ 9223372036854775807 := by omega
            have hb3 : x.size + 1 + gap.size + y.size ≤ 9223372036854775807 := by omega
            have hb4 : x.size + 1 + gap.size + y.size + 3 ≤ 9223372036854775807 := by omega
            have hb5 : x.size + 1 + gap.size + y.size + 3 + d.size ≤ 9223372036854775807 := by omega
            have HSz := Lib.hid (show (x ++ ⟨#[44]⟩ ++ gap ++ y ++ ⟨#[59, 113, 61]⟩ ++ d : ByteArray).size ≤ (k + 1) * 2147483667 by rw [hsz]; omega)
            clear HNil HS hx hk0 hxs s1 s2 s3 s4 hsz hl1 hl2
            go_wp2
            go_roundw
            case rel =>
              refine ⟨k + 1, _, by omega, by first | rfl | go_num, rfl, by first | rfl | trivial, ?_, ?_⟩
              · exact HSz.out
              · exact hfin
            case measure => simp [intOf]; omega
      · have hfin : Hid (x = ⟨(line gap.data.toList (zs.map toQ)).toArray⟩) := by
          show _ = _
          have := hx.out
          rw [List.take_of_length_le (by omega)] at this
          exact of_data this
        clear hxs hx
        go_wp2
        go_ret
        exact ⟨by rw [← hfin.out]; rfl, rfl⟩

end Go.Proofs.Ytaglcklbngoknaa.Acc
