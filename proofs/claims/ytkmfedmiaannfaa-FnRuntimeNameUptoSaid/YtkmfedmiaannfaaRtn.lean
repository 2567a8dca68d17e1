/- Names of runtime metrics: the walk of the thin package's RuntimeName. -/
import Derived.Test.YtkmfedmiaannfaaRtm
set_option linter.unusedVariables false
set_option linter.unusedSimpArgs false
namespace Go.Proofs.Ytkmfedmiaannfaa.Rt
open Go.RowKit Zix

set_option maxHeartbeats 4000000 in
set_option maxRecDepth 100000 in
theorem impl_any (A us : List (List UInt8)) (x : List UInt8) (h : Ok A us x) (cum : Bool) (kind : Int) (s : ByteArray) (w : World) (hs : s.data.toList = nameOf A us x) (hl : (nameOf A us x).length ≤ 16777216) :
    Calls Try.prog 16 #[.string s, .bool cum, .int .i64 kind] w (Prom A us x cum kind w) := by
  have hsz : s.size ≤ 16777216 := by rw [size_of hs]; exact hl
  have hn : nameOf A us x = 47 :: (J [47] (A ++ [x]) ++ 58 :: J [47] us) := rfl
  have h0 : 0 < s.size := by rw [size_of hs, hn]; simp
  have hat : s[0] = 47 := by
    have e := Lib.Pa.at_eq s 0 h0
    rw [hs, hn] at e
    exact (Option.some.inj e).symm
  have hne : ((s[0].toNat : Int) != 47) = false := by rw [hat]; rfl
  have hz0 : ((s.size : Int) == 0) = false := beq_eq_false_iff_ne.2 (by omega)
  have hj : (key A x).length < s.size := by
    rw [size_of hs]; unfold nameOf; rw [List.length_append, List.length_cons]; omega
  have hc : s[(key A x).length] = 58 := by
    have e := Lib.Pa.at_eq s _ hj
    rw [hs] at e
    unfold nameOf at e
    rw [List.getElem?_append_right (Nat.le_refl _), Nat.sub_self] at e
    exact (Option.some.inj e).symm
  have CC := fun w => colon_any s (by omega) _ hj hc w
  have hcell : ∀ W : World, (W.alloc (.cells #[.string s, .int .i64 kind, .bool cum] 87)).cell? ⟨W.heap.size, 0, none⟩ = some (.string ⟨(nameOf A us x).toArray⟩) := by
    intro W
    rw [Sl.cell_new, of_list hs]; rfl
  have CP := fun W : World => prom_any A us x h cum kind W.heap.size (W.alloc (.cells #[.string s, .int .i64 kind, .bool cum] 87)) (by simp) hl (hcell W) (Sl.cell_new _ _ _ _) (Sl.cell_new _ _ _ _)
  have HCC := Lib.hid CC
  have HCP := Lib.hid CP
  clear CC CP hcell hc hat hs h hl hj hn
  go_enter Try.func16, Try.ntmps16
  go_wp2_with fail
  refine (HCC.out _).mono ?_
  rintro e w1 ⟨rfl, rfl⟩
  go_wp2_with fail
  refine (HCP.out _).mono ?_
  rintro e w2 ⟨rfl, hb⟩
  have hb2 : Below w.heap.size w w2 := ((Below.refl w.heap.size w).alloc (Nat.le_refl _) _).trans (hb.mono (by simp))
  have HB := Lib.hid hb2
  clear hb hb2
  go_wp2
  exact bodyPost_ret (v := .tuple #[.string ⟨#[103, 111]⟩, .string ⟨(J [95] (A.map line)).toArray⟩, .string ⟨(rest x us ++ tl cum kind).toArray⟩, .bool (okB kind)]) (by simp [results, Try.results16, go_sem]) rfl ⟨rfl, HB.out⟩

end Go.Proofs.Ytkmfedmiaannfaa.Rt
