/- The library's texts, by the shelf's contracts: strconv.Quote at printable texts, strings.Join by commas. -/
import Derived.Test.YtfcpapbokefdmaaGreatDoorTxz
import Derived.Test.YtfcpapbokefdmaaGreatDoorShQu
import Derived.Test.YtfcpapbokefdmaaGreatDoorNdd
import Derived.Test.YtfcpapbokefdmaaGreatDoorNdo
import Derived.Lib.Quote
import Derived.Lib.Join
set_option linter.unusedVariables false
set_option linter.unusedSimpArgs false
namespace Go.Proofs.YtfcpapbokefdmaaGreatDoor.Tx
open Go.RowKit Go.Maps Go.WideMaps Go.ChangeShapes Go.WideShapes Go.Deep Fp Obs _root_.Go.Proofs.YtfcpapbokefdmaaGreatDoor.Nd

structure GlobQ (w : World) : Prop where
  glob : Glob w
  tabs : ∃ T, Lib.PrintTabsAt 6 7 8 9 T w
theorem GlobQ.below {w w' : World} (h : GlobQ w) (k : Below w.heap.size w w') : GlobQ w' := by
  obtain ⟨T, hT⟩ := h.tabs
  exact ⟨h.glob.below k, T, printTabs_below hT k⟩
theorem quote_any (s : ByteArray) (w : World) (hG : GlobQ w) (ha : asciiB s = true) (hs : s.size ≤ 1073741824) :
    Calls Tryz.prog 80 #[.string s] w fun e w' => e = .returned (.string (mkB (qz (dl s)))) ∧ Below w.heap.size w w' := by
  obtain ⟨T, hT⟩ := hG.tabs
  refine (Sh.strconv_Quote T s w (by omega) hT hG.glob.tabs).mono fun e w' ⟨he, hb⟩ => ⟨?_, hb⟩
  rw [he, quote_ascii T s ha]
theorem jn_join : ∀ l : List L8, Lib.join l [44] = jn l
  | [] => rfl
  | [a] => by simp [Lib.join, jn]
  | a :: b :: r => by
    have h := jn_join (b :: r)
    show _ = a ++ 44 :: jn (b :: r)
    rw [← h]
    simp [Lib.join, List.intercalate]
theorem join_any (xs : List ByteArray) (v : Value) (w : World) (hv : Sl.Of Value.string w v xs) (hl : (jn (xs.map dl)).length ≤ 140737488355328) (hn : xs.length ≤ 140737488355328) :
    Calls Tryz.prog 81 #[v, .string ⟨#[44]⟩] w fun e w' => e = .returned (.string (mkB (jn (xs.map dl)))) ∧ Below w.heap.size w w' := by
  have e : (xs.map fun x : ByteArray => x.data.toList) = xs.map dl := rfl
  rcases hv with ⟨rfl, a, cap, rfl, hc⟩ | ⟨b, off, cap, rfl, h1, h2, h3, h4, h5⟩
  · exact (Any.strings_Join_none Sh.lays156 Sh.Builder_Extra_156 a cap ⟨#[44]⟩ w).mono fun e w' ⟨he, hw⟩ => ⟨he, hw ▸ Below.refl _ _⟩
  · refine (Sh.strings_Join b off cap xs ⟨#[44]⟩ w (fun j x hj => ?_) h4 hn h2 (by rw [e]; show (Lib.join (xs.map dl) [44]).length ≤ _; rw [jn_join]; exact hl)).mono fun e' w' ⟨he, hb⟩ => ⟨?_, hb⟩
    · obtain ⟨hj2, hx⟩ := List.getElem?_eq_some_iff.1 hj
      rw [h5 j hj2, hx]
    · rw [he, e]
      show Ending.returned (.string ⟨(Lib.join (xs.map dl) [44]).toArray⟩) = _
      rw [jn_join]
      rfl
end Go.Proofs.YtfcpapbokefdmaaGreatDoor.Tx
