/- Regions that draw their order: a call that hands back one value and leaves the world as it is may be taken first, wherever it may come up. Descriptors: how much the data hold (plain Lean). -/
import Derived.Test.YtlolomodcbkblaaGreatDoorProg
import Derived.Deep.RegionHeld3
import Derived.Test.YtlolomodcbkblaaGreatDoorNsb
set_option linter.unusedVariables false
set_option linter.unusedSimpArgs false
namespace Go.Proofs.YtlolomodcbkblaaGreatDoor.Calm

section
variable {P : Program} {ops : Array Oper} {Q : Exit → Act → World → Prop} {md : Region.Mode} {S : World → Prop}

/-- in every world that meets S the operation enters a function that returns v and leaves that world -/
def Is (P : Program) (ops : Array Oper) (S : World → Prop) (o : Oper) (v : Value) (a : Act) : Prop :=
  Region.wanted o (yielded ops a.tmps) = true ∧ ∀ w, S w → ∃ f args, (execOp a.eval o).run P w = .ok (.enter f args) w ∧ Calls P f args w fun e w' => e = .returned v ∧ w = w'
theorem Is.goes {i : Nat} {o : Oper} {v : Value} {a : Act} (hi : ops[i]? = some o) (h : Is P ops S o v a) {K : Act → World → Prop} {w : World} (hS : S w) (hK : K (a.put o.dst v) w) : wpOp P ops Q i K a w := by
  obtain ⟨f, args, hr, hc⟩ := h.2 w hS
  unfold wpOp
  simp only [hi, h.1, if_true]
  left
  unfold Oper.wp
  rw [hr]
  simp only [Oper.upon]
  exact hc.mono fun e w' ⟨he, hw⟩ => by subst he; subst hw; exact hK
theorem Is.same {o : Oper} {v : Value} {a a' : Act} (h : Is P ops S o v a) (he : execOp a'.eval o = execOp a.eval o) (hw : Region.wanted o (yielded ops a'.tmps) = Region.wanted o (yielded ops a.tmps)) : Is P ops S o v a' := by
  unfold Is at *
  rw [he, hw]
  exact h
/-- what comes up apart from it may as well come up before it -/
theorem ahead {j : Nat} {oi oj : Oper} {v : Value} (hj : ops[j]? = some oj) (hap : oi.apart ops oj = true) (hsi : ∀ cs b, oi.op ≠ .select cs b) (hsj : ∀ cs b, oj.op ≠ .select cs b)
    (hQ : ∀ c a w, Q (.panic c) (a.put oi.dst v) w → Q (.panic c) a w) {K : Act → World → Prop} {a : Act} {w : World} (hy : Is P ops S oi v a) (h : wpOp P ops Q j K (a.put oi.dst v) w) :
    wpOp P ops Q j (fun a' w' => Is P ops S oi v a' ∧ K (a'.put oi.dst v) w') a w := by
  obtain ⟨h1, h2, h3⟩ := Oper.apart_spec hap
  have kp : ∀ (b : Act), Is P ops S oi v b → ∀ u, Is P ops S oi v (b.put oj.dst u) := fun b hb u => hb.same (execOp_put oi hsi b oj.dst u h3) (wanted_put oi b oj.dst u h3)
  have kd : ∀ d, Is P ops S oi v { a with defers := d :: a.defers } := fun d => hy.same rfl rfl
  unfold wpOp at *
  simp only [hj] at *
  rw [wanted_put oj a oi.dst v h1] at h
  by_cases hw : Region.wanted oj (yielded ops a.tmps) = true
  · simp only [hw, if_true] at h ⊢
    rcases h with h | ⟨ha, hl⟩
    · left
      unfold Oper.wp at *
      rw [execOp_put oj hsj a oi.dst v h1] at h
      revert h
      cases (execOp a.eval oj).run P w with
      | halt x w' =>
        cases x <;> simp only [Oper.upon] <;> intro h
        all_goals first
          | exact hQ _ _ _ h
          | exact h
      | ok n w' =>
        cases n <;> simp only [Oper.upon] <;> intro h
        case value u => exact ⟨kp a hy u, by rw [← Act.put_comm a v u h2]; exact h⟩
        case skip => exact ⟨kp a hy _, by rw [← Act.put_comm a v undef h2]; exact h⟩
        case defer d =>
          refine ⟨kp _ (kd d) _, ?_⟩
          rw [← Act.put_comm _ v undef h2, ← Act.put_defers]
          exact h
        case enter f args =>
          refine Calls.mono h fun e w'' he => ?_
          cases e with
          | returned u => exact ⟨kp a hy u, by rw [← Act.put_comm a v u h2]; exact he⟩
          | panicked c => exact hQ _ _ _ he
          | outgrown => exact he
        case row r l => exact Rows.mono h fun u w'' he => ⟨kp a hy u, by rw [← Act.put_comm a v u h2]; exact he⟩
        all_goals exact h
    · right
      refine ⟨?_, hl⟩
      unfold Oper.asks at *
      rw [execOp_put oj hsj a oi.dst v h1] at ha
      exact ha
  · simp only [hw] at h ⊢
    exact ⟨kp a hy _, by rw [← Act.put_comm a v undef h2]; exact h⟩
theorem first {i : Nat} {oi : Oper} {v : Value} (hi : ops[i]? = some oi) (hsel : ∀ (j : Nat) (o : Oper) cs b, ops[j]? = some o → o.op ≠ .select cs b) (hQ : ∀ c a w, Q (.panic c) (a.put oi.dst v) w → Q (.panic c) a w) :
    ∀ (fuel : Nat) (listed : Array Bool) (a : Act) (w : World),
      (∀ j oj, ops[j]? = some oj → j ≠ i → listed.getD j true = false → (∀ e ∈ oj.after, Region.binds md e = true → e.on ≠ i) → oi.apart ops oj = true) →
      i ∈ Region.ready md ops listed → Is P ops S oi v a → S w → wpAnyH P md ops Q S fuel (listed.setIfInBounds i true) (a.put oi.dst v) w → wpAnyH P md ops Q S (fuel + 1) listed a w := by
  intro fuel
  induction fuel with
  | zero =>
    intro listed a w _ hr hy hS H
    refine ⟨fun h => (by rw [h] at hr; cases hr), fun j hj => ?_⟩
    by_cases e : j = i
    · rw [e]; exact hy.goes hi hS ⟨hS, H⟩
    · have := ready_mono hj e
      rw [H.1] at this
      cases this
  | succ fuel ih =>
    intro listed a w hfree hr hy hS H
    refine ⟨fun h => (by rw [h] at hr; cases hr), fun j hj => ?_⟩
    by_cases e : j = i
    · rw [e]; exact hy.goes hi hS ⟨hS, H⟩
    · obtain ⟨hun, oj, hoj, hall⟩ := mem_ready.1 hj
      have hnot : ∀ d ∈ oj.after, Region.binds md d = true → d.on ≠ i := fun d hd hb heq => by
        have h1 := hall d hd hb
        have h0 := (mem_ready.1 hr).1
        rw [heq] at h1
        rcases Nat.lt_or_ge i listed.size with h' | h'
        · simp [h'] at h0 h1; rw [h0] at h1; cases h1
        · simp [Array.getElem?_eq_none h'] at h1
      have h2 := ahead hoj (hfree j oj hoj e hun hnot) (fun cs b => hsel i oi cs b hi) (fun cs b => hsel j oj cs b hoj) hQ hy (H.2 j (ready_mono hj e))
      refine wpOp_mono (fun a' w' h3 => ⟨h3.2.1, ih (listed.setIfInBounds j true) a' w' (fun k ok hk hki hu hno => hfree k ok hk hki ?_ hno) (ready_mono hr (Ne.symm e)) h3.1 h3.2.1 ?_⟩) h2
      · by_cases hjk : j = k
        · rw [← hjk]; exact hun
        · rw [getD_set_ne true hjk] at hu; exact hu
      · rw [Array.setIfInBounds_comm _ _ e]
        exact h3.2.2
/-- such a call is taken first -/
theorem take {i : Nat} {oi : Oper} {v : Value} {fuel : Nat} {listed : Array Bool} {a : Act} {w : World} (hi : ops[i]? = some oi) (hs : Region.noSelect ops = true) (hf : Region.free md ops listed i = true) (hr : (Region.ready md ops listed).contains i = true)
    (hQ : ∀ c a w, Q (.panic c) (a.put oi.dst v) w → Q (.panic c) a w) (hy : Is P ops S oi v a) (hS : S w) (h : wpAnyH P md ops Q S fuel (listed.setIfInBounds i true) (a.put oi.dst v) w) : wpAnyH P md ops Q S (fuel + 1) listed a w :=
  first hi (Region.noSelect_spec hs) hQ fuel listed a w (Region.free_spec hi hf) (by simpa using hr) hy hS h
end
end Go.Proofs.YtlolomodcbkblaaGreatDoor.Calm

set_option linter.unusedVariables false
set_option linter.unusedSimpArgs false
namespace Go.Proofs.YtlolomodcbkblaaGreatDoor.Nd
open Go.RowKit Go.ChangeShapes Go.WideShapes Go.Deep Fp

/-- how much a list of strings, of pairs holds -/
def wt (l : List ByteArray) : Nat := (l.map fun x => x.size + 1).sum
def wp (L : List P2) : Nat := (L.map fun p => (p.1.size + 1) + (p.2.size + 1)).sum
theorem wp_cons (p : P2) (L : List P2) : wp (p :: L) = (p.1.size + 1) + (p.2.size + 1) + wp L := by unfold wp; simp
theorem wp_app (a b : List P2) : wp (a ++ b) = wp a + wp b := by unfold wp; simp
theorem wt_cons (x : ByteArray) (l : List ByteArray) : wt (x :: l) = x.size + 1 + wt l := by unfold wt; simp
theorem wt_app (a b : List ByteArray) : wt (a ++ b) = wt a + wt b := by unfold wt; simp
theorem ins_wp (p : P2) : ∀ F : List P2, wp (ins p F) ≤ wp F + ((p.1.size + 1) + (p.2.size + 1))
  | [] => by simp [ins, wp]
  | q :: F => by
    have ih := ins_wp p F
    unfold ins
    split
    · simp only [wp_cons]; omega
    · split
      · simp only [wp_cons]; omega
      · simp only [wp_cons]; omega
theorem fit_wp (L : List P2) : wp (fit L) ≤ wp L := by
  refine snoc_ind (P := fun L => wp (fit L) ≤ wp L) (by simp [fit, wp]) (fun L p ih => ?_) L
  rw [fit_snoc, wp_app]
  have h := ins_wp p (fit L)
  have e : wp [p] = (p.1.size + 1) + (p.2.size + 1) := by simp [wp]
  omega
theorem wt_vals (F : List P2) : wt (F.map (·.2)) ≤ wp F := by
  induction F with
  | nil => exact Nat.le_refl _
  | cons p F ih => rw [List.map_cons, wt_cons, wp_cons]; omega
theorem wt_keys (F : List P2) : wt (F.map (·.1)) ≤ wp F := by
  induction F with
  | nil => exact Nat.le_refl _
  | cons p F ih => rw [List.map_cons, wt_cons, wp_cons]; omega
theorem seps_wt (l : List ByteArray) : (seps l).length = wt l := by
  induction l with
  | nil => rfl
  | cons x l ih => rw [seps_cons, List.length_append, List.length_cons, ih, wt_cons, dl_len]; omega
theorem wt_perm {a b : List ByteArray} (h : a.Perm b) : wt a = wt b := by
  unfold wt
  exact (h.map _).sum_nat
theorem wt_dollar (V : List ByteArray) : wt (V.map dollar) = wt V + V.length := by
  induction V with
  | nil => rfl
  | cons x l ih =>
    have e : (dollar x).size = x.size + 1 := by rw [← dl_len]; unfold dollar; rw [dl_mk, List.length_cons, dl_len]
    rw [List.map_cons, wt_cons, wt_cons, ih, e, List.length_cons]; omega
theorem mem_wt {x : ByteArray} {l : List ByteArray} (h : x ∈ l) : x.size ≤ wt l := by
  induction l with
  | nil => cases h
  | cons y l ih =>
    rw [wt_cons]
    rcases List.mem_cons.1 h with rfl | h
    · omega
    · have := ih h; omega
theorem mem_wp {p : P2} {L : List P2} (h : p ∈ L) : p.1.size + p.2.size ≤ wp L := by
  induction L with
  | nil => cases h
  | cons q l ih =>
    rw [wp_cons]
    rcases List.mem_cons.1 h with rfl | h
    · omega
    · have := ih h; omega
/-- the data are small -/
structure Small (nm hp un : ByteArray) (V : List ByteArray) (L : List P2) : Prop where
  all : nm.size + hp.size + un.size + wt V + wp L ≤ 67108864
  lenV : V.length ≤ 1048576
  lenL : L.length ≤ 1048576

end Go.Proofs.YtlolomodcbkblaaGreatDoor.Nd
