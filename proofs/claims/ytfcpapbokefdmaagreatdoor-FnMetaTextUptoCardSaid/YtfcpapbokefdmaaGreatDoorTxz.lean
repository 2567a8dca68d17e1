/- strconv.Quote at a printable text. -/
import Derived.Test.YtfcpapbokefdmaaGreatDoorTxq
import Derived.Lib.QuoteLoop
import Derived.Laws.BytesArg
import Derived.Laws.RangeString
set_option linter.unusedVariables false
set_option linter.unusedSimpArgs false
namespace Go.Proofs.YtfcpapbokefdmaaGreatDoor.Tx
open Go.RowKit _root_.Go.Proofs.YtfcpapbokefdmaaGreatDoor.Nd

def num (l : List Int) : Tx.L8 := l.map fun n => UInt8.ofNat n.toNat
theorem num_app (a b : List Int) : num (a ++ b) = num a ++ num b := by simp [num]
theorem esc_rune (T : Lib.PrintTabs) (c : UInt8) (h1 : 32 ≤ c.toNat) (h2 : c.toNat ≤ 126) : num (Lib.escRune T (c.toNat : Int)) = esc c := by
  have hc : UInt8.ofNat c.toNat = c := UInt8.ofNat_toNat
  unfold Lib.escRune esc
  by_cases h : c = 34 ∨ c = 92
  · rw [if_pos h, if_pos (by rcases h with rfl | rfl <;> simp)]
    simp [num, hc]
  · have hn : ¬ ((c.toNat : Int) = 34 ∨ (c.toNat : Int) = 92) := by
      intro e
      apply h
      rcases e with e | e
      · left; apply UInt8.toNat_inj.1; show c.toNat = 34; omega
      · right; apply UInt8.toNat_inj.1; show c.toNat = 92; omega
    rw [if_neg h, if_neg hn]
    have hp : Lib.isPrintR T (c.toNat : Int) = true := by
      unfold Lib.isPrintR
      rw [if_pos (by omega)]
      unfold Lib.isPrintLatin
      simp
      left
      omega
    rw [if_pos hp]
    unfold Lib.encodeRuneZ
    rw [if_pos (by omega)]
    simp [num, hc]
theorem dl_extract (s : ByteArray) : dl (s.extract 1 s.size) = (dl s).tail := by
  unfold dl
  rw [ByteArray.data_extract, Array.toList_extract]
  rw [← List.drop_one]
  simp [List.extract]
  rw [List.take_of_length_le (by simp)]
theorem quote_from (T : Lib.PrintTabs) : ∀ (f : Nat) (s : ByteArray), s.size ≤ f → asciiB s = true → num (Lib.quoteFrom T f s) = (dl s).flatMap esc
  | 0, s, h, _ => by
    have hd : dl s = [] := List.eq_nil_of_length_eq_zero (by have := Lib.size_eq s; unfold dl; omega)
    rw [hd]; rfl
  | f + 1, s, h, ha => by
    rw [Lib.quoteFrom]
    by_cases h0 : 0 < s.size
    · rw [if_pos h0]
      have hl : (dl s).length = s.size := by unfold dl; exact (Lib.size_eq s).symm
      have hp : ∀ c ∈ dl s, printable c = true := by unfold asciiB at ha; exact List.all_eq_true.1 ha
      obtain ⟨c, r, hcr⟩ : ∃ c r, dl s = c :: r := by
        cases hd : dl s with
        | nil => rw [hd] at hl; simp at hl; omega
        | cons c r => exact ⟨c, r, rfl⟩
      have hc0 : s[0] = c := by
        have h5 := dl_get s 0 h0
        rw [hcr] at h5
        simpa using h5.symm
      have hpc := hp c (by rw [hcr]; simp)
      unfold printable at hpc
      simp only [Bool.and_eq_true, decide_eq_true_eq] at hpc
      have hd : Utf8.decode s 0 = (c.toNat, 1) := by
        have h6 := decode_ascii s 0 h0 (by rw [hc0]; omega)
        rw [hc0] at h6
        exact h6
      have hs : Lib.quoteStep T s = Lib.escRune T (c.toNat : Int) := by
        unfold Lib.quoteStep
        rw [hd]
        simp only
        rw [if_neg (by omega)]
      rw [hs, hd]
      dsimp only
      have hr : dl (s.extract 1 s.size) = r := by rw [dl_extract, hcr]; rfl
      have hrs : (s.extract 1 s.size).size = s.size - 1 := Lib.size_rest s 1
      rw [num_app, esc_rune T c hpc.1 hpc.2, quote_from T f _ (by omega) (by unfold asciiB; rw [hr]; exact List.all_eq_true.2 fun x hx => hp x (by rw [hcr]; simp [hx])), hr, hcr, List.flatMap_cons]
    · rw [if_neg h0]
      have hd : dl s = [] := List.eq_nil_of_length_eq_zero (by have := Lib.size_eq s; unfold dl; omega)
      rw [hd]; rfl
theorem quote_ascii (T : Lib.PrintTabs) (s : ByteArray) (h : asciiB s = true) : strOfNums (Lib.quoteZ T s) = mkB (qz (dl s)) := by
  unfold Lib.quoteZ strOfNums mkB qz
  have e := quote_from T s.size s (Nat.le_refl _) h
  unfold num at e
  congr 2
  simp only [List.map_cons, List.map_append, List.map_nil]
  rw [e]
  rfl
end Go.Proofs.YtfcpapbokefdmaaGreatDoor.Tx
