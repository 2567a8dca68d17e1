/- Descriptors: 'append' inside a region that draws. -/
import Derived.Test.YtlolomodcbkblaaGreatDoorNsb
import Derived.Deep.RegionHeld3
set_option linter.unusedVariables false
set_option linter.unusedSimpArgs false
namespace Go.Proofs.YtlolomodcbkblaaGreatDoor.Nd
open Go.RowKit Go.Maps Go.WideMaps Go.ChangeShapes Go.WideShapes Go.Deep Fp

section
variable {P : Program} {w : World}
/-- 'append' to a row of the call's own of whatever slice is read as a list, inside a region that draws -/
theorem step_of {α : Type} {ops : Array Oper} {o : Oper} {a : Act} {K : Act → World → Prop} {Q : Exit → Act → World → Prop} {E : Prop} (hgd : o.guard = none) (s x : Operand) (t : TypeId)
    (ho : o.op = .call { callee := .builtin .append, args := #[s, x], argTypes := #[t, t] })
    (base : Nat) (e : TypeId) (i : TypeInfo) (z : Value) (size bytes : Nat) (ht : P.underlying t = some (.slice e)) (hi : P.info? e = some i) (hz : i.zero = some z)
    (hsize : i.size = size) (hby : i.bytes = bytes) (hzs : z.cells.size = size) (hsz : 0 < size)
    (v : Value) (n : Nat) (xs : List Value) (hs : a.eval s = v) (hown : w.ownsRow base e size v n xs)
    {c : α → List Value} (hc : ∀ z, (c z).length = size) (h1 : ∀ z, ∀ u ∈ c z, u.oneCell' = true) (zs : List α) (vx : Value) (hx : a.eval x = vx) (hof : Ss.Of size c w vx zs)
    (h63 : n + zs.length ≤ maxLen) (hbytes : (n + zs.length) * bytes ≤ 140737488355328) (hbase : base ≤ w.heap.size)
    (h : ∀ v' w', w'.ownsRow base e size v' (n + zs.length) (xs ++ zs.flatMap c) → w.grownBy w' v.ownBlock → (v'.ownBlock = v.ownBlock ∨ v'.ownBlock = some w.heap.size) → K (a.put o.dst v') w') :
    if Region.wanted o (yielded ops a.tmps) = true then Oper.wp P o a w K Q else E := by
  have hw : Region.wanted o (yielded ops a.tmps) = true := by simp [Region.wanted, hgd]
  rw [if_pos hw]
  have hrun : ∃ v' w', (Builtin.append_ #[t, t] o.type #[v, vx]).run P w = .ok v' w' ∧ w'.ownsRow base e size v' (n + zs.length) (xs ++ zs.flatMap c) ∧ w.grownBy w' v.ownBlock ∧ (v'.ownBlock = v.ownBlock ∨ v'.ownBlock = some w.heap.size) := by
    rcases hof with ⟨rfl, ax, cx, rfl, hcx⟩ | ⟨b, off, cap, rfl, h0, hcap, hm, hb, hcell⟩
    · obtain ⟨av, cv, hv, hn⟩ : ∃ av cv, v = .slice av n cv ∧ n ≤ cv := by
        rcases hown.2 with ⟨rfl, rfl⟩ | ⟨g, cap, cur, rfl, hbg, hg, hn, hcm, hcs, htake⟩
        · exact ⟨none, 0, rfl, Nat.le_refl _⟩
        · exact ⟨_, cap, rfl, hn⟩
      subst hv
      refine ⟨_, _, ?_, by simpa using hown, ⟨rfl, rfl, rfl, Nat.le_refl _, fun _ _ _ => rfl⟩, Or.inl rfl⟩
      refine run_append_nothing w t t o.type e i ht hi av n cv hn _ ⟨Or.inl ⟨e, ht⟩, fun w' => ?_, ?_, ?_, by simp, by simp⟩
      all_goals cases ax <;> simp [Builtin.lenOf, Builtin.firstCells, loadCells, loadCellsFrom]
    · obtain ⟨v', w', hr, h2, h3, h4, h5⟩ := run_append_own_at (P := P) w base t o.type e i z size bytes ht hi hz hsize hby hzs hsz v n xs hown ⟨b, off, none⟩ zs.length cap (zs.flatMap c) (Ss.flat_len hc zs)
        (fun j u hu => by
          obtain ⟨q, hq, r, rfl, hur⟩ := flat_at hsz hc zs j u hu
          rw [Addr.add_lit]
          exact hcell q hq r u hur)
        (fun u hu => by
          obtain ⟨z, _, hz⟩ := List.mem_flatMap.1 hu
          exact h1 z u hz) h63 hbytes hbase
      exact ⟨v', w', hr, h2, h3, h5⟩
  obtain ⟨v', w', hr, h2, h3, h5⟩ := hrun
  unfold Oper.wp execOp
  simp only [ho, resolve, invoke, builtin, Sem.run_bind, Sem.run_pure, Result.andThen_ok, List.map_toArray, List.map_cons, List.map_nil, hs, hx, hr]
  exact h v' w' h2 h3 h5
end

end Go.Proofs.YtlolomodcbkblaaGreatDoor.Nd
