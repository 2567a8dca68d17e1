/- The kinds of bytes; leading spaces and tokens. The walks of octetTypeOf, skipSpace and expectTokenSlash. -/
import Derived.Test.YtkmfedmiaannfaaOct
set_option linter.unusedVariables false
set_option linter.unusedSimpArgs false
namespace Go.Proofs.Ytkmfedmiaannfaa.Oct
open Go.RowKit

def sps : List UInt8 := [32, 9, 13, 10]
def seps : List UInt8 := [32, 9, 34, 40, 41, 44, 47, 58, 59, 60, 61, 62, 63, 64, 91, 93, 92, 123, 125]
def isSp (c : Nat) : Bool := sps.any (fun x => x.toNat == c)
def isSep (c : Nat) : Bool := seps.any (fun x => x.toNat == c)
def isTk (c : Nat) : Bool := decide (c ≤ 127) && !(decide (c ≤ 31) || decide (c = 127)) && !isSep c
def oct (c : Nat) : Nat := if isSp c then 2 else if isTk c then 1 else 0

theorem sp_not_tk : (List.range 256).all (fun c => !(isSp c && isTk c)) = true := by decide +kernel
theorem tk_false {c : Nat} (hc : c < 256) (h : isSp c = true) : isTk c = false := by
  have := List.all_eq_true.1 sp_not_tk c (List.mem_range.2 hc)
  rw [h] at this
  simpa using this

theorem sps_all : sps.all (fun c => decide (c.toNat < 128)) = true := by decide
theorem sps_ascii : ∀ i (h : i < (ByteArray.mk sps.toArray).size), ((ByteArray.mk sps.toArray)[i]'h).toNat < 128 := by
  intro i h
  have hm : (ByteArray.mk sps.toArray)[i]'h ∈ sps := List.getElem_mem (l := sps) (n := i) (by rw [Lib.size_eq] at h; exact h)
  have := List.all_eq_true.1 sps_all _ hm
  simpa using this
theorem seps_all : seps.all (fun c => decide (c.toNat < 128)) = true := by decide
theorem seps_ascii : ∀ i (h : i < (ByteArray.mk seps.toArray).size), ((ByteArray.mk seps.toArray)[i]'h).toNat < 128 := by
  intro i h
  have hm : (ByteArray.mk seps.toArray)[i]'h ∈ seps := List.getElem_mem (l := seps) (n := i) (by rw [Lib.size_eq] at h; exact h)
  have := List.all_eq_true.1 seps_all _ hm
  simpa using this

set_option maxHeartbeats 4000000 in
set_option maxRecDepth 100000 in
theorem oct_any (c : Nat) (hc : c < 256) (r : Nat) (hr : oct c = r) (w : World) :
    Calls Try.prog 87 #[.int .u8 c] w fun e w' => e = .returned (.int .u8 r) ∧ Below w.heap.size w w' := by
  obtain ⟨sp, hsp⟩ : ∃ sp, isSp c = sp := ⟨_, rfl⟩
  obtain ⟨se, hse⟩ : ∃ se, isSep c = se := ⟨_, rfl⟩
  have H1 := fun W => contains_any ⟨seps.toArray⟩ seps_ascii c hc se hse (by decide) W
  have H2 := fun W => contains_any ⟨sps.toArray⟩ sps_ascii c hc sp hsp (by decide) W
  have htk := tk_false hc
  have htk2 : isTk c = (decide (c ≤ 127) && !(decide (c ≤ 31) || decide (c = 127)) && !se) := by unfold isTk; rw [hse]
  unfold oct at hr
  rw [hsp] at hr htk
  have K1 := Lib.hid H1
  have K2 := Lib.hid H2
  have hr0 : r ≤ 2 := by rw [← hr]; split <;> (try split) <;> omega
  have Hr := Lib.hid hr
  have Htk := Lib.hid htk
  have Htk2 := Lib.hid htk2
  clear hr hsp hse H1 H2 htk htk2
  have three : (c ≤ 31) ∨ (32 ≤ c ∧ c ≤ 126) ∨ c = 127 ∨ 128 ≤ c := by omega
  have z0 : (0 : Int) ≤ c := by omega
  rcases three with h | ⟨h, h'⟩ | h | h
  · have tk : isTk c = false := by rw [Htk2.out, decide_eq_true h]; simp
    have d1 : decide ((c : Int) ≤ 31) = true := by simp; omega
    have d2 : decide ((c : Int) ≤ 127) = true := by simp; omega
    have e := Hr.out
    rw [tk] at e
    have E := Lib.hid e
    clear e tk Hr Htk Htk2 h
    cases sp <;> cases se
    all_goals
      go_enter Try.func87, Try.ntmps87
      go_wp2_with fail
      refine (K1.out _).mono ?_
      rintro e w1 ⟨rfl, b1⟩
      go_wp2_with fail
      refine (K2.out _).mono ?_
      rintro e w2 ⟨rfl, b2⟩
      go_wp2_with fail
      go_ret
      exact ⟨ret_int (by rw [← E.out]; rfl), b1.trans (b2.mono b1.size)⟩
  · have hn : ((c : Int) == 127) = false := beq_eq_false_iff_ne.2 (by omega)
    have tk : isTk c = !se := by rw [Htk2.out, decide_eq_true (show c ≤ 127 by omega), decide_eq_false (show ¬ c ≤ 31 by omega), decide_eq_false (show ¬ c = 127 by omega)]; simp
    have d1 : decide ((c : Int) ≤ 31) = false := by simp; omega
    have d2 : decide ((c : Int) ≤ 127) = true := by simp; omega
    have e := Hr.out
    have e2 := Htk.out
    rw [tk] at e e2
    have E := Lib.hid e
    have E2 := Lib.hid e2
    clear e e2 tk Hr Htk Htk2
    cases sp <;> cases se <;> first | (exfalso; have := E2.out rfl; cases this; done) | skip
    all_goals
      go_enter Try.func87, Try.ntmps87
      go_wp2_with fail
      refine (K1.out _).mono ?_
      rintro e w1 ⟨rfl, b1⟩
      go_wp2_with fail
      refine (K2.out _).mono ?_
      rintro e w2 ⟨rfl, b2⟩
      go_wp2_with fail
      go_ret
      exact ⟨ret_int (by rw [← E.out]; rfl), b1.trans (b2.mono b1.size)⟩
  · have hn : ((c : Int) == 127) = true := beq_iff_eq.2 (by omega)
    have tk : isTk c = false := by rw [Htk2.out, decide_eq_true h]; simp
    have d1 : decide ((c : Int) ≤ 31) = false := by simp; omega
    have d2 : decide ((c : Int) ≤ 127) = true := by simp; omega
    have e := Hr.out
    rw [tk] at e
    have E := Lib.hid e
    clear e tk Hr Htk Htk2 h
    cases sp <;> cases se
    all_goals
      go_enter Try.func87, Try.ntmps87
      go_wp2_with fail
      refine (K1.out _).mono ?_
      rintro e w1 ⟨rfl, b1⟩
      go_wp2_with fail
      refine (K2.out _).mono ?_
      rintro e w2 ⟨rfl, b2⟩
      go_wp2_with fail
      go_ret
      exact ⟨ret_int (by rw [← E.out]; rfl), b1.trans (b2.mono b1.size)⟩
  · have hn : ((c : Int) == 127) = false := beq_eq_false_iff_ne.2 (by omega)
    have tk : isTk c = false := by rw [Htk2.out, decide_eq_false (show ¬ c ≤ 127 by omega)]; simp
    have d1 : decide ((c : Int) ≤ 31) = false := by simp; omega
    have d2 : decide ((c : Int) ≤ 127) = false := by simp; omega
    have e := Hr.out
    rw [tk] at e
    have E := Lib.hid e
    clear e tk Hr Htk Htk2 h
    cases sp <;> cases se
    all_goals
      go_enter Try.func87, Try.ntmps87
      go_wp2_with fail
      refine (K1.out _).mono ?_
      rintro e w1 ⟨rfl, b1⟩
      go_wp2_with fail
      refine (K2.out _).mono ?_
      rintro e w2 ⟨rfl, b2⟩
      go_wp2_with fail
      go_ret
      exact ⟨ret_int (by rw [← E.out]; rfl), b1.trans (b2.mono b1.size)⟩

end Go.Proofs.Ytkmfedmiaannfaa.Oct
