/- Groups of edits: the walk of GetGroupedOpCodes. -/
import Derived.Test.YtkmfedmiaannfaaDoorGh
import Derived.Test.YtkmfedmiaannfaaDoorDfe
import Derived.Deep.RegionHeld3
import Derived.Deep.DrawnRows
import Derived.Deep.AppendLies
import Derived.Deep.DeepCutAuto
import Derived.Deep.QuietTactic
import Derived.BigQuiet
import Derived.StillTailTactics
import Derived.IntWalk
set_option linter.unusedVariables false
set_option linter.unusedSimpArgs false
namespace Go.Proofs.YtkmfedmiaannfaaDoor.Df
open Go.RowKit Go.Maps Go.WideMaps Go.ChangeShapes
attribute [local go_sem ↓] Go.wp_at_zero Go.wp_at_succ

def Small (M : Nat) (L : List E5) : Prop := ∀ c ∈ L, c.1 ≤ 255 ∧ c.2.1 ≤ M ∧ c.2.2.1 ≤ M ∧ c.2.2.2.1 ≤ M ∧ c.2.2.2.2 ≤ M
theorem opc_small {X Y M : Nat} (hX : X ≤ M) (hY : Y ≤ M) : ∀ (L : List M3) (i j : Nat), (∀ m ∈ L, m.1 + m.2.2 ≤ X ∧ m.2.1 + m.2.2 ≤ Y) → i ≤ X → j ≤ Y → Small M (opc L i j)
  | [], i, j, _, _, _ => fun c hc => absurd hc (by simp [opc])
  | m :: r, i, j, hm, hi, hj => by
    have h0 := hm m (by simp)
    have ih := opc_small hX hY r (m.1 + m.2.2) (m.2.1 + m.2.2) (fun x hx => hm x (by simp [hx])) h0.1 h0.2
    intro c hc
    have hc : c ∈ chg i j m ++ (eqe m ++ opc r (m.1 + m.2.2) (m.2.1 + m.2.2)) := hc
    rcases List.mem_append.1 hc with hc | hc
    · unfold chg at hc
      split at hc
      · rw [List.mem_singleton.1 hc]; simp only; omega
      · split at hc
        · rw [List.mem_singleton.1 hc]; simp only; omega
        · split at hc
          · rw [List.mem_singleton.1 hc]; simp only; omega
          · simp at hc
    · rcases List.mem_append.1 hc with hc | hc
      · unfold eqe at hc
        split at hc
        · rw [List.mem_singleton.1 hc]; simp only; omega
        · simp at hc
      · exact ih c hc
theorem ops_small {xs ys : List ByteArray} {M : Nat} (hx : xs.length ≤ M) (hy : ys.length ≤ M) : Small M (ops xs ys) := by
  unfold ops
  exact opc_small hx hy _ 0 0 blocks_mem (Nat.zero_le _) (Nat.zero_le _)
theorem small_tF {M n : Nat} {c : E5} (h : c.1 ≤ 255 ∧ c.2.1 ≤ M ∧ c.2.2.1 ≤ M ∧ c.2.2.2.1 ≤ M ∧ c.2.2.2.2 ≤ M) : (tF n c).1 ≤ 255 ∧ (tF n c).2.1 ≤ M ∧ (tF n c).2.2.1 ≤ M ∧ (tF n c).2.2.2.1 ≤ M ∧ (tF n c).2.2.2.2 ≤ M := by
  unfold tF
  split
  · unfold endE
    simp only
    omega
  · exact h
theorem small_tB {M n : Nat} {c : E5} (h : c.1 ≤ 255 ∧ c.2.1 ≤ M ∧ c.2.2.1 ≤ M ∧ c.2.2.2.1 ≤ M ∧ c.2.2.2.2 ≤ M) : (tB n c).1 ≤ 255 ∧ (tB n c).2.1 ≤ M ∧ (tB n c).2.2.1 ≤ M ∧ (tB n c).2.2.2.1 ≤ M ∧ (tB n c).2.2.2.2 ≤ M := by
  unfold tB
  split
  · unfold cutE
    simp only
    omega
  · exact h
theorem small_trimF {M n : Nat} {L : List E5} (h : Small M L) : Small M (trimF n L) := by
  cases L with
  | nil => exact h
  | cons c r =>
    intro d hd
    rcases List.mem_cons.1 hd with rfl | hd
    · exact small_tF (h c (by simp))
    · exact h d (by simp [hd])
theorem trimB_set (n : Nat) : ∀ (L : List E5) (h : L.length - 1 < L.length), trimB n L = L.set (L.length - 1) (tB n (L[L.length - 1]))
  | [], h => absurd h (by simp)
  | [c], _ => rfl
  | c :: d :: r, h => by
    show c :: trimB n (d :: r) = _
    rw [trimB_set n (d :: r) (by simp)]
    simp
theorem trimB_len (n : Nat) : ∀ (L : List E5), (trimB n L).length = L.length
  | [] => rfl
  | [c] => rfl
  | c :: d :: r => by
    show (trimB n (d :: r)).length + 1 = _
    rw [trimB_len n (d :: r)]
    simp
theorem trimF_len (n : Nat) (L : List E5) : (trimF n L).length = L.length := by cases L <;> rfl
theorem small_trimB {M n : Nat} : ∀ {L : List E5}, Small M L → Small M (trimB n L)
  | [], h => h
  | [c], h => by
    intro d hd
    have hd : d ∈ [tB n c] := hd
    rw [List.mem_singleton.1 hd]
    exact small_tB (h c (by simp))
  | c :: d :: r, h => by
    intro x hx
    have hx : x ∈ c :: trimB n (d :: r) := hx
    rcases List.mem_cons.1 hx with rfl | hx
    · exact h _ (by simp)
    · exact small_trimB (L := d :: r) (fun y hy => h y (by simp [hy])) x hx

/-- the codes, in a row of our own; of what was there the matcher's block alone is changed -/
def CR (w0 : World) (g : Nat) (L : List E5) (v : Value) (wx : World) : Prop :=
  wx.ownsRow w0.heap.size 64 5 v L.length (L.flatMap ecells) ∧ w0.grownBy wx (some g)

theorem CR.alloc {w0 wx : World} {g : Nat} {L : List E5} {v : Value} (h : CR w0 g L v wx) (o : Obj) : CR w0 g L v (wx.alloc o) := ⟨h.1.alloc o, only_alloc h.2 o⟩
theorem CR.drew {w0 wx : World} {g : Nat} {L : List E5} {v : Value} (h : CR w0 g L v wx) : CR w0 g L v wx.drew := ⟨h.1.drew, only_drew h.2⟩
theorem CR.drewN {w0 wx : World} {g : Nat} {L : List E5} {v : Value} (h : CR w0 g L v wx) (n : Nat) : CR w0 g L v (wx.drewN n) :=
  ⟨h.1.kept (only_below (below_drewN (Below.refl _ _) n) none) (by cases v.ownBlock <;> simp), only_then h.2 (below_drewN (Below.refl _ _) n)⟩

theorem flat_set5 : ∀ (L : List E5) (i : Nat) (h : i < L.length) (c : E5), ((((((L.flatMap ecells).set (i * 5) (.int .u8 c.1)).set (i * 5 + 1) (.int .i64 c.2.1)).set (i * 5 + 2) (.int .i64 c.2.2.1)).set (i * 5 + 3) (.int .i64 c.2.2.2.1)).set (i * 5 + 4) (.int .i64 c.2.2.2.2)) = (L.set i c).flatMap ecells
  | [], i, h, _ => absurd h (by simp)
  | x :: r, 0, _, c => by
    rw [List.flatMap_cons, List.set_cons_zero, List.flatMap_cons]
    rfl
  | x :: r, i + 1, h, c => by
    have ih := flat_set5 r i (by simpa using h) c
    rw [List.flatMap_cons, List.set_cons_succ, List.flatMap_cons, ← ih]
    rw [show (i + 1) * 5 = i * 5 + 5 by omega, show i * 5 + 5 + 1 = i * 5 + 1 + 5 by omega, show i * 5 + 5 + 2 = i * 5 + 2 + 5 by omega, show i * 5 + 5 + 3 = i * 5 + 3 + 5 by omega, show i * 5 + 5 + 4 = i * 5 + 4 + 5 by omega]
    rfl
theorem CR.put5 {w0 wx : World} {g b n cap : Nat} {L : List E5} (h : CR w0 g L (.slice (some ⟨b, 0, none⟩) n cap) wx) (hn : n = L.length) (i : Nat) (hi : i < L.length) (c : E5) :
    CR w0 g (L.set i c) (.slice (some ⟨b, 0, none⟩) n cap) (((((wx.setCell ⟨b, i * 5, none⟩ (.int .u8 c.1)).setCell ⟨b, i * 5 + 1, none⟩ (.int .i64 c.2.1)).setCell ⟨b, i * 5 + 2, none⟩ (.int .i64 c.2.2.1)).setCell ⟨b, i * 5 + 3, none⟩ (.int .i64 c.2.2.2.1)).setCell ⟨b, i * 5 + 4, none⟩ (.int .i64 c.2.2.2.2)) := by
  subst hn
  obtain ⟨h1, h2⟩ := h
  have hb := h1.lt b rfl
  have s1 := h1.stored (i * 5) (.int .u8 c.1)
  have s2 := s1.1.stored (i * 5 + 1) (.int .i64 c.2.1)
  have s3 := s2.1.stored (i * 5 + 2) (.int .i64 c.2.2.1)
  have s4 := s3.1.stored (i * 5 + 3) (.int .i64 c.2.2.2.1)
  have s5 := s4.1.stored (i * 5 + 4) (.int .i64 c.2.2.2.2)
  refine ⟨?_, ?_⟩
  · rw [List.length_set, ← flat_set5 L i hi c]
    exact s5.1
  · have k : ∀ j, some b = some j → w0.heap.size ≤ j ∨ some g = some j := fun j hj => by cases hj; exact Or.inl hb.1
    exact ((((h2.andThen s1.2 k).andThen s2.2 k).andThen s3.2 k).andThen s4.2 k).andThen s5.2 k

def GroupsOut (gs : List (List E5)) (g : Nat) (w : World) (e : Ending) (w' : World) : Prop :=
  ∃ v, e = .returned v ∧ Of2 5 ecells w' v gs ∧ w.grownBy w' (some g)

set_option maxHeartbeats 16000000 in
set_option maxRecDepth 100000 in
theorem grouped_any (xs ys : List ByteArray) (g n : Nat) (fv : Value) (w : World) (hm : Mat w g xs ys (.slice none 0 0) fv (.slice none 0 0)) (hx : xs.length ≤ 2147483647) (hy : ys.length ≤ 2147483647) (hsx : ∀ s ∈ xs, s.size ≤ 2147483647) (hsy : ∀ s ∈ ys, s.size ≤ 2147483647) (hn : n ≤ 255) :
    Calls Tryd.prog 13 #[.pointer (some ⟨g, 0, none⟩), .int .i64 (n : Int)] w (GroupsOut (grps n (ops xs ys)) g w) := by
  obtain ⟨i0, hi, hz0, hz1, hz2⟩ := info_parts infoO
  obtain ⟨i1, hi1, hy0, hy1, hy2⟩ := info_parts infoOs
  have CO := Lib.hid (ops_any xs ys g fv w hm hx hy hsx hsy)
  have hol := ops_len xs ys
  have hsm := ops_small (M := 2147483647) hx hy
  obtain ⟨L, hL⟩ : ∃ L, ops xs ys = L := ⟨_, rfl⟩
  unfold OpsOut at CO
  rw [hL] at CO hol hsm ⊢
  have HSm := Lib.hid hsm
  obtain ⟨R, hR⟩ : ∃ R, grps n L = R := ⟨_, rfl⟩
  rw [hR]
  have HR : Hid (grp n (trimB n (trimF n (some1 L))) [] [] = R) := hR
  clear hR
  have hol2 : L.length ≤ 4294967296 := by omega
  have z0 : (0 : Int) ≤ (n : Int) := by omega
  clear hL hm hsx hsy hsm hol
  go_enter Tryd.func13, Tryd.ntmps13
  go_wp2_with fail
  refine CO.out.mono ?_
  rintro e W2 ⟨v, mv, rfl, hm2, hg2, hown⟩
  clear hm2
  have hsl := row_slice hown
  obtain ⟨av, cv, rfl⟩ := hsl
  have HCR : Hid (CR w g L (.slice av L.length cv) W2) := ⟨hown, hg2⟩
  have hws := hg2.size
  clear hown hg2
  go_upto_if 31 with fail
  go_cut [5] (fun s5 wx => Hid (CR w g (some1 L) s5 wx))
  case first =>
    by_cases h0 : L.length = 0
    · have hb : ((L.length : Int) == 0) = true := beq_iff_eq.2 (by omega)
      have hLn : L = [] := List.length_eq_zero_iff.1 h0
      have hfin : Hid (CR w g (some1 L) (.slice (some ⟨W2.heap.size, 0, none⟩) 1 1) (W2.alloc (.cells #[.int .u8 101, .int .i64 0, .int .i64 1, .int .i64 0, .int .i64 1] 64))) := by
        subst hLn
        exact ⟨World.ownsRow_lit W2 _ 1 hws (by decide) rfl, only_alloc HCR.out.2 _⟩
      clear hLn
      go_wp2
      go_meet
      exact hfin
    · have hb : ((L.length : Int) == 0) = false := beq_eq_false_iff_ne.2 (by omega)
      have hLn : L ≠ [] := by intro e; rw [e] at h0; exact h0 rfl
      have hfin : Hid (CR w g (some1 L) (.slice av L.length cv) W2) := by
        show CR _ _ _ _ _
        unfold some1
        rw [if_neg hLn]
        exact HCR.out
      clear hLn
      go_wp2
      go_meet
      exact hfin
  case rest =>
    have hsm1 : Small 2147483647 (some1 L) := by
      unfold some1
      split
      · intro c hc; rw [List.mem_singleton.1 hc]; simp
      · exact HSm.out
    have hne1 : some1 L ≠ [] := by unfold some1; split <;> simp_all
    have hl1 : (some1 L).length ≤ 4294967296 := by unfold some1; split <;> simp_all
    clear HSm HCR hol2
    generalize some1 L = L1 at *
    obtain ⟨c, r, rfl⟩ := List.exists_cons_of_ne_nil hne1
    obtain ⟨t0, p1, p2, q1, q2⟩ := c
    have hcr := hcut.out
    obtain ⟨b, cap, hs5⟩ : ∃ b cap, u5 = .slice (some ⟨b, 0, none⟩) (r.length + 1) cap := by
      rcases hcr.1.2 with ⟨_, h⟩ | ⟨b, cap, cur, h, _⟩
      · simp at h
      · exact ⟨b, cap, h⟩
    subst hs5
    have hc := hcr.1.cellAt
    have c0 : wc.cell? ⟨b, 0, none⟩ = some (.int .u8 t0) := hc 0 (by show _ < (r.length + 1) * 5; omega)
    have c1 : wc.cell? ⟨b, 1, none⟩ = some (.int .i64 p1) := hc 1 (by show _ < (r.length + 1) * 5; omega)
    have c2 : wc.cell? ⟨b, 2, none⟩ = some (.int .i64 p2) := hc 2 (by show _ < (r.length + 1) * 5; omega)
    have c3 : wc.cell? ⟨b, 3, none⟩ = some (.int .i64 q1) := hc 3 (by show _ < (r.length + 1) * 5; omega)
    have c4 : wc.cell? ⟨b, 4, none⟩ = some (.int .i64 q2) := hc 4 (by show _ < (r.length + 1) * 5; omega)
    have hbz := hcr.1.lt b rfl
    have hfr := hcr.1.frozenAt
    have f0 := hfr 0
    have f1 := hfr 1
    have f2 := hfr 2
    have f3 := hfr 3
    have f4 := hfr 4
    have HSm1 := Lib.hid hsm1
    obtain ⟨s0, s1, s2, s3, s4⟩ := hsm1 _ (List.mem_cons_self ..)
    have HCR := Lib.hid hcr
    have y1 : (0 : Int) < (r.length : Int) + 1 := by omega
    clear hcr hc hcut hne1 hfr hsm1
    go_upto_if 38 with fail
    go_cut [5] (fun s5 wx => s5 = .slice (some ⟨b, 0, none⟩) (r.length + 1) cap ∧ Hid (CR w g (trimF n ((t0, p1, p2, q1, q2) :: r)) s5 wx))
    case first =>
      by_cases ht : t0 = 101
      · have hb : ((t0 : Int) == 101) = true := beq_iff_eq.2 (by omega)
        go_wp2
        go_quiet (fail)
        have hcr2 := (HCR.out.alloc (.cells #[.int .u8 101, .int .i64 p1, .int .i64 p2, .int .i64 q1, .int .i64 q2] 64)).drewN nq
        have k0 : ((wc.alloc (.cells #[.int .u8 101, .int .i64 p1, .int .i64 p2, .int .i64 q1, .int .i64 q2] 64)).drewN nq).cell? ⟨wc.heap.size, 0, none⟩ = some (.int .u8 101) := Sl.cell_new _ _ _ 0
        have HCR2 := Lib.hid hcr2
        clear hcr2
        go_wp2_with fail
        generalize (wc.alloc (.cells #[.int .u8 101, .int .i64 p1, .int .i64 p2, .int .i64 q1, .int .i64 q2] 64)).drewN nq = Wa at *
        have hfa := HCR2.out.1.frozenAt
        have e0 := hfa 0
        have e1 := hfa 1
        have e2 := hfa 2
        have e3 := hfa 3
        have e4 := hfa 4
        have hca := HCR2.out.1.cellAt
        have d0 : Wa.cell? ⟨b, 0, none⟩ = some (.int .u8 101) := by rw [hca 0 (by show _ < (r.length + 1) * 5; omega), ht]; rfl
        have d1 : Wa.cell? ⟨b, 1, none⟩ = some (.int .i64 p1) := hca 1 (by show _ < (r.length + 1) * 5; omega)
        have d2 : Wa.cell? ⟨b, 2, none⟩ = some (.int .i64 p2) := hca 2 (by show _ < (r.length + 1) * 5; omega)
        have d3 : Wa.cell? ⟨b, 3, none⟩ = some (.int .i64 q1) := hca 3 (by show _ < (r.length + 1) * 5; omega)
        have d4 : Wa.cell? ⟨b, 4, none⟩ = some (.int .i64 q2) := hca 4 (by show _ < (r.length + 1) * 5; omega)
        have CM1 := Lib.hid (max_any p1 p2 n Wa.drew (by omega) (by omega) (by omega))
        have CM2 := Lib.hid (max_any q1 q2 n Wa.drew (by omega) (by omega) (by omega))
        have x1 : IntKind.i64.wrap ((p2 : Int) - (n : Int)) = (p2 : Int) - (n : Int) := IntWalk.i64_in _ (by omega)
        have x2 : IntKind.i64.wrap ((q2 : Int) - (n : Int)) = (q2 : Int) - (n : Int) := IntWalk.i64_in _ (by omega)
        clear hfa hca c0 c1 c2 c3 c4 f0 f1 f2 f3 f4
        refine wp_region_still_tail 17 (by kernel_rfl) (by kernel_rfl) ?_
        simp only [List.take_succ_cons, List.take_zero, List.drop_succ_cons, List.drop_zero]
        repeat still_step
        still_call CM1.out
        repeat still_step
        still_call CM2.out
        repeat still_step
        refine wpStill_nil ?_
        change wpList _ _ _ _ _ (World.drew _)
        clear x1 x2
        go_wp2_with fail
        go_meet
        refine ⟨rfl, ?_⟩
        have h9 := (HCR2.out.put5 rfl 0 (by simp) (endE n (t0, p1, p2, q1, q2))).drew
        have e9 : trimF n ((t0, p1, p2, q1, q2) :: r) = ((t0, p1, p2, q1, q2) :: r).set 0 (endE n (t0, p1, p2, q1, q2)) := by
          show tF n _ :: r = endE n _ :: r
          unfold tF
          rw [if_pos ht]
        rw [← e9] at h9
        subst ht
        exact h9
      · have hb : ((t0 : Int) == 101) = false := beq_eq_false_iff_ne.2 (by omega)
        have h9 : Hid (CR w g (trimF n ((t0, p1, p2, q1, q2) :: r)) (.slice (some ⟨b, 0, none⟩) (r.length + 1) cap) wc) := by
          show CR _ _ (tF n _ :: r) _ _
          unfold tF
          rw [if_neg ht]
          exact HCR.out
        go_wp2
        go_meet
        exact ⟨rfl, h9⟩
    case rest =>
      obtain ⟨rfl, hcr⟩ := hcut
      have hsm2 := small_trimF (n := n) HSm1.out
      have hlen := trimF_len n ((t0, p1, p2, q1, q2) :: r)
      rw [List.length_cons] at hlen
      clear c0 c1 c2 c3 c4 f0 f1 f2 f3 f4 HCR HSm1 s0 s1 s2 s3 s4 y1
      generalize trimF n ((t0, p1, p2, q1, q2) :: r) = L2 at *
      rw [List.length_cons] at hl1
      generalize hm : r.length + 1 = m at *
      have hm1 : 1 ≤ m := by omega
      have hlt : m - 1 < L2.length := by omega
      obtain ⟨t, p1', p2', q1', q2', hel⟩ : ∃ t p1 p2 q1 q2, L2[m - 1] = (t, p1, p2, q1, q2) := ⟨_, _, _, _, _, rfl⟩
      have hor := hcr.out.1
      rw [hlen] at hor
      have hc := fun j (hj : j < 5) => hor.cellAt ((m - 1) * 5 + j) (by omega)
      have hfg := fun j (hj : j < 5) => Ss.flat_get ecells_len L2 (m - 1) hlt j hj
      rw [hel] at hfg
      have c0 : wc.cell? ⟨b, (m - 1) * 5, none⟩ = some (.int .u8 t) := (hc 0 (by omega)).trans (hfg 0 (by omega))
      have c1 : wc.cell? ⟨b, (m - 1) * 5 + 1, none⟩ = some (.int .i64 p1') := (hc 1 (by omega)).trans (hfg 1 (by omega))
      have c2 : wc.cell? ⟨b, (m - 1) * 5 + 2, none⟩ = some (.int .i64 p2') := (hc 2 (by omega)).trans (hfg 2 (by omega))
      have c3 : wc.cell? ⟨b, (m - 1) * 5 + 3, none⟩ = some (.int .i64 q1') := (hc 3 (by omega)).trans (hfg 3 (by omega))
      have c4 : wc.cell? ⟨b, (m - 1) * 5 + 4, none⟩ = some (.int .i64 q2') := (hc 4 (by omega)).trans (hfg 4 (by omega))
      have hbz2 := hcr.out.1.lt b rfl
      obtain ⟨s0, s1, s2, s3, s4⟩ := hsm2 _ (List.getElem_mem hlt)
      rw [hel] at s0 s1 s2 s3 s4
      simp only at s0 s1 s2 s3 s4
      have y1 : (0 : Int) ≤ (m : Int) - 1 := by omega
      have y2 : (m : Int) - 1 < (m : Int) := by omega
      have HSm2 := Lib.hid hsm2
      have HFg := Lib.hid hfg
      have HEl := Lib.hid hel
      have HLen := Lib.hid hlen
      clear hc hfg hel hsm2 hlen hm hor
      go_upto_if 74 with fail
      go_cut [5] (fun s5 wx => s5 = .slice (some ⟨b, 0, none⟩) m cap ∧ Hid (CR w g (trimB n L2) s5 wx))
      case first =>
        by_cases ht : t = 101
        · have hb : ((t : Int) == 101) = true := beq_iff_eq.2 (by omega)
          go_wp2
          go_quiet (fail)
          have hcr2 := (hcr.out.alloc (.cells #[.int .u8 101, .int .i64 p1', .int .i64 p2', .int .i64 q1', .int .i64 q2'] 64)).drewN nq
          have k0 : ((wc.alloc (.cells #[.int .u8 101, .int .i64 p1', .int .i64 p2', .int .i64 q1', .int .i64 q2'] 64)).drewN nq).cell? ⟨wc.heap.size, 0, none⟩ = some (.int .u8 101) := Sl.cell_new _ _ _ 0
          have HCR2 := Lib.hid hcr2
          clear hcr2
          go_wp2_with fail
          generalize (wc.alloc (.cells #[.int .u8 101, .int .i64 p1', .int .i64 p2', .int .i64 q1', .int .i64 q2'] 64)).drewN nq = Wa at *
          have hor := HCR2.out.1
          rw [HLen.out] at hor
          have hfa := hor.frozenAt
          have e0 := hfa ((m - 1) * 5)
          have e1 := hfa ((m - 1) * 5 + 1)
          have e2 := hfa ((m - 1) * 5 + 2)
          have e3 := hfa ((m - 1) * 5 + 3)
          have e4 := hfa ((m - 1) * 5 + 4)
          have hca := fun j (hj : j < 5) => hor.cellAt ((m - 1) * 5 + j) (by omega)
          have d0 : Wa.cell? ⟨b, (m - 1) * 5, none⟩ = some (.int .u8 101) := (hca 0 (by omega)).trans ((HFg.out 0 (by omega)).trans (by rw [ht]; rfl))
          have d1 : Wa.cell? ⟨b, (m - 1) * 5 + 1, none⟩ = some (.int .i64 p1') := (hca 1 (by omega)).trans (HFg.out 1 (by omega))
          have d2 : Wa.cell? ⟨b, (m - 1) * 5 + 2, none⟩ = some (.int .i64 p2') := (hca 2 (by omega)).trans (HFg.out 2 (by omega))
          have d3 : Wa.cell? ⟨b, (m - 1) * 5 + 3, none⟩ = some (.int .i64 q1') := (hca 3 (by omega)).trans (HFg.out 3 (by omega))
          have d4 : Wa.cell? ⟨b, (m - 1) * 5 + 4, none⟩ = some (.int .i64 q2') := (hca 4 (by omega)).trans (HFg.out 4 (by omega))
          have CM1 := Lib.hid (min_any p2' p1' n Wa.drew (by omega) (by omega))
          have CM2 := Lib.hid (min_any q2' q1' n Wa.drew (by omega) (by omega))
          have x1 : IntKind.i64.wrap ((p1' : Int) + (n : Int)) = (p1' : Int) + (n : Int) := IntWalk.i64_in _ (by omega)
          have x2 : IntKind.i64.wrap ((q1' : Int) + (n : Int)) = (q1' : Int) + (n : Int) := IntWalk.i64_in _ (by omega)
          have x3 : IntKind.i64.wrap ((m : Int) - 1) = (m : Int) - 1 := IntWalk.i64_in _ (by omega)
          clear hfa hca hor c0 c1 c2 c3 c4
          refine wp_region_still_tail 19 (by kernel_rfl) (by kernel_rfl) ?_
          simp only [List.take_succ_cons, List.take_zero, List.drop_succ_cons, List.drop_zero]
          repeat still_step
          still_call CM1.out
          repeat still_step
          still_call CM2.out
          repeat still_step
          refine wpStill_nil ?_
          change wpList _ _ _ _ _ (World.drew _)
          clear x1 x2 x3
          go_wp2_with fail
          go_meet
          refine ⟨rfl, ?_⟩
          have h9 := (HCR2.out.put5 HLen.out.symm (m - 1) hlt (cutE n (t, p1', p2', q1', q2'))).drew
          have e9 : trimB n L2 = L2.set (m - 1) (cutE n (t, p1', p2', q1', q2')) := by
            rw [trimB_set n L2 (by rw [HLen.out]; omega)]
            unfold tB
            simp only [HLen.out]
            rw [HEl.out, if_pos ht]
          rw [← e9] at h9
          subst ht
          exact h9
        · have hb : ((t : Int) == 101) = false := beq_eq_false_iff_ne.2 (by omega)
          have h9 : Hid (CR w g (trimB n L2) (.slice (some ⟨b, 0, none⟩) m cap) wc) := by
            show CR _ _ _ _ _
            rw [trimB_set n L2 (by rw [HLen.out]; omega)]
            unfold tB
            simp only [HLen.out]
            rw [HEl.out, if_neg ht, ← HEl.out, List.set_getElem_self]
            exact hcr.out
          go_wp2
          go_meet
          exact ⟨rfl, h9⟩
      case rest =>
        obtain ⟨rfl, hcr3⟩ := hcut
        have hsm3 := small_trimB (n := n) HSm2.out
        have hlen3 := trimB_len n L2
        rw [HLen.out] at hlen3
        clear hcr HEl HFg HLen HSm2 c0 c1 c2 c3 c4 s0 s1 s2 s3 s4 hlt y1 y2 hbz2 hbz
        generalize trimB n L2 = C at *
        have hst : Hid (GG w g b m cap C [] [] (.slice (some ⟨wc.heap.size, 0, none⟩) 0 0) (.slice (some ⟨wc.heap.size + 1, 0, none⟩) 0 0) ((wc.alloc (.cells #[] 37)).alloc (.cells #[] 64))) :=
          GG.start hcr3.out.2 (by have := hcr3.out.1; rw [hlen3] at this; exact this)
        have HSm3 := Lib.hid hsm3
        have hm9 : m ≤ 4294967296 := by omega
        clear hcr3 hsm3 hl1
        go_wp2_with fail
        go_loopw [17, 18, 116] (fun vg vu vk wr => ∃ (k : Nat) (gs : List (List E5)) (gr : List E5) (gv uv : Value), k ≤ m ∧ gv = vg ∧ uv = vu ∧ vk = .int .i64 (k : Int) ∧ gs.length ≤ k ∧ gr.length ≤ k ∧ Hid (grp n (C.drop k) gs gr = R) ∧ Hid (GG w g b m cap C gs gr gv uv wr)) (fun _ _ k _ => m - (intOf k).toNat)
        case atStart => exact ⟨0, [], [], _, _, Nat.zero_le _, rfl, rfl, rfl, Nat.le_refl _, Nat.le_refl _, HR.out, hst.out⟩
        case round =>
          obtain ⟨k, gs, gr, gv, uv, hk, rfl, rfl, rfl, hgl, hgrl, hgr, hgg⟩ := hrel
          obtain ⟨agv, cgv, rfl⟩ : ∃ a c, gv = .slice a gs.length c := by
            obtain ⟨vs, h1, _⟩ := hgg.out.grps
            exact row_slice h1
          obtain ⟨auv, cuv, rfl⟩ := row_slice hgg.out.cur
          by_cases hlt : k < m
          · have hltC : k < C.length := by omega
            obtain ⟨t, p1, p2, q1, q2, hel⟩ : ∃ t p1 p2 q1 q2, C[k] = (t, p1, p2, q1, q2) := ⟨_, _, _, _, _, rfl⟩
            have hc := fun j (hj : j < 5) => hgg.out.codes.cellAt (k * 5 + j) (by omega)
            have hfg := fun j (hj : j < 5) => Ss.flat_get ecells_len C k hltC j hj
            rw [hel] at hfg
            have c0 : wr.cell? ⟨b, k * 5, none⟩ = some (.int .u8 t) := (hc 0 (by omega)).trans (hfg 0 (by omega))
            have c1 : wr.cell? ⟨b, k * 5 + 1, none⟩ = some (.int .i64 p1) := (hc 1 (by omega)).trans (hfg 1 (by omega))
            have c2 : wr.cell? ⟨b, k * 5 + 2, none⟩ = some (.int .i64 p2) := (hc 2 (by omega)).trans (hfg 2 (by omega))
            have c3 : wr.cell? ⟨b, k * 5 + 3, none⟩ = some (.int .i64 q1) := (hc 3 (by omega)).trans (hfg 3 (by omega))
            have c4 : wr.cell? ⟨b, k * 5 + 4, none⟩ = some (.int .i64 q2) := (hc 4 (by omega)).trans (hfg 4 (by omega))
            obtain ⟨s0, s1, s2, s3, s4⟩ := HSm3.out _ (List.getElem_mem hltC)
            rw [hel] at s0 s1 s2 s3 s4
            simp only at s0 s1 s2 s3 s4
            have hdr : C.drop k = (t, p1, p2, q1, q2) :: C.drop (k + 1) := by rw [← hel]; exact List.drop_eq_getElem_cons hltC
            have hst1 := hgr.out
            rw [hdr] at hst1
            have hst1 : (if far n (t, p1, p2, q1, q2) then grp n (C.drop (k + 1)) (gs ++ [gr ++ [cutE n (t, p1, p2, q1, q2)]]) [endE n (t, p1, p2, q1, q2)] else grp n (C.drop (k + 1)) gs (gr ++ [(t, p1, p2, q1, q2)])) = R := hst1
            have y1 : (0 : Int) ≤ (k : Int) := by omega
            have y2 : (k : Int) < (m : Int) := by omega
            have hg1 := (hgg.out.alloc (.cells #[.int .u8 t, .int .i64 p1, .int .i64 p2, .int .i64 q1, .int .i64 q2] 64))
            have HGG := Lib.hid (fun nq => hg1.drewN nq)
            have hfr1 : Hid (∀ x, Value.ownBlock (.slice auv gr.length cuv) = some x → x < wr.heap.size) := fun x hx => (hgg.out.cur.lt x hx).2
            have hfr2 : Hid (∀ x, Value.ownBlock (.slice agv gs.length cgv) = some x → x < wr.heap.size) := fun x hx => by
              obtain ⟨vs, h1, _⟩ := hgg.out.grps
              exact (h1.lt x hx).2
            clear hc hfg hel hdr hgr hgg hg1
            go_wp2
            go_quiet (fail)
            have k0 : ((wr.alloc (.cells #[.int .u8 t, .int .i64 p1, .int .i64 p2, .int .i64 q1, .int .i64 q2] 64)).drewN nq).cell? ⟨wr.heap.size, 0, none⟩ = some (.int .u8 t) := Sl.cell_new _ _ _ 0
            have hgg := Lib.hid (HGG.out nq)
            have hzz : wr.heap.size < ((wr.alloc (.cells #[.int .u8 t, .int .i64 p1, .int .i64 p2, .int .i64 q1, .int .i64 q2] 64)).drewN nq).heap.size := by simp
            clear HGG c0 c1 c2 c3 c4
            generalize (wr.alloc (.cells #[.int .u8 t, .int .i64 p1, .int .i64 p2, .int .i64 q1, .int .i64 q2] 64)).drewN nq = Wa at *
            generalize wr.heap.size = cb at *
            cases hf : far n (t, p1, p2, q1, q2) with
            | true =>
              rw [hf, if_pos rfl] at hst1
              unfold far at hf
              simp only [Bool.and_eq_true, decide_eq_true_eq] at hf
              obtain ⟨rfl, hf2⟩ := hf
              have hd : decide ((n : Int) + (n : Int) < (p2 : Int) - (p1 : Int)) = true := by rw [decide_eq_true_eq]; omega
              have HSt := Lib.hid hst1
              clear hst1
              go_upto_region 22 with fail
              go_cut [18] (fun s18 wx => (∃ a5 c5, s18 = .slice a5 (gr.length + 1) c5) ∧ wx.cell? ⟨cb, 0, none⟩ = some (.int .u8 101) ∧ cb < wx.heap.size ∧ Hid (GG w g b m cap C gs (gr ++ [cutE n (101, p1, p2, q1, q2)]) (.slice agv gs.length cgv) s18 wx))
              case first =>
                have HD : Hid (GG w g b m cap C gs gr (.slice agv gs.length cgv) (.slice auv gr.length cuv) Wa.drew) := hgg.out.drew
                have HNews := Lib.hid (Ss.news_one Wa.drew #[.int .u8 101, .int .i64 p1, .int .i64 (min p2 (p1 + n) : Nat), .int .i64 q1, .int .i64 (min q2 (q1 + n) : Nat)] 64)
                have hws2 : w.heap.size ≤ Wa.drew.heap.size := hgg.out.frame.size
                have HFar : Hid (∀ (o : Obj) (W5 : World), (Wa.drew.alloc o).grownBy W5 (Value.ownBlock (.slice auv gr.length cuv)) → W5.cell? ⟨cb, 0, none⟩ = some (.int .u8 101) ∧ cb < W5.heap.size) := fun o W5 hg => by
                  have h1 : cb < (Wa.drew.alloc o).heap.size := by simp; exact Nat.lt_succ_of_lt hzz
                  refine ⟨?_, Nat.lt_of_lt_of_le h1 hg.size⟩
                  rw [hg.cell_far ⟨cb, 0, none⟩ h1 (fun e => Nat.lt_irrefl _ (hfr1.out cb e.symm))]
                  exact (Sl.cell_old _ o _ _ hzz).trans k0
                have HBase : Hid (∀ o : Obj, w.heap.size ≤ (Wa.drew.alloc o).heap.size) := fun o => Nat.le_trans hws2 (by simp)
                have CM1 := Lib.hid (min_any p2 p1 n Wa.drew (by omega) (by omega))
                have CM2 := Lib.hid (min_any q2 q1 n Wa.drew (by omega) (by omega))
                have x1 : IntKind.i64.wrap ((p1 : Int) + (n : Int)) = (p1 : Int) + (n : Int) := IntWalk.i64_in _ (by omega)
                have x2 : IntKind.i64.wrap ((q1 : Int) + (n : Int)) = (q1 : Int) + (n : Int) := IntWalk.i64_in _ (by omega)
                have k1 : Wa.drew.cell? ⟨cb, 0, none⟩ = some (.int .u8 101) := k0
                have HKeep : Hid (∀ o : Obj, (Wa.drew.alloc o).cell? ⟨cb, 0, none⟩ = some (.int .u8 101)) := fun o => (Sl.cell_old _ o _ _ hzz).trans k0
                have H63 : Hid (gr.length + 1 ≤ maxLen) := by show _ ≤ _; unfold maxLen; omega
                have HBy : Hid ((gr.length + 1) * 40 ≤ 140737488355328) := by show _ ≤ _; omega
                clear hgg CM1 CM2 k1
                go_region_held3 (fun w' => w'.cell? ⟨cb, 0, none⟩ = some (.int .u8 101)) (first | exact k0 | exact HKeep.out _ | exact z5)
                  (first
                    | (go_at_call 20; refine (min_any _ _ n _ (by omega) (by omega)).mono ?_; rintro e w' ⟨rfl, rfl⟩)
                    | (refine step_append_lies _ (by rfl) (.tmp 138) (.tmp 154) 37 (by rfl) w.heap.size 64 i0 (.agg #[.int .u8 0, .int .i64 0, .int .i64 0, .int .i64 0, .int .i64 0]) 5 40 Tryd.underlying37 hi hz0 hz1 hz2 rfl (by decide) _ _ _ (by rfl) (HD.out.cur.alloc _) ⟨Wa.drew.heap.size, 0, none⟩ 1 1 [.int .u8 101, .int .i64 p1, .int .i64 (min p2 (p1 + n) : Nat), .int .i64 q1, .int .i64 (min q2 (q1 + n) : Nat)] (by rfl) (by rfl) HNews.out (one5 _ _ _ _ _) (by decide) H63.out HBy.out (HBase.out _) _ rfl ?_; intro g5 cu5 W5 hown5 hgrow5 hat5 hlt5; have hG5 : Hid (GG w g b m cap C gs (gr ++ [cutE n (101, p1, p2, q1, q2)]) (.slice agv gs.length cgv) (.slice (some ⟨g5, 0, none⟩) (gr.length + 1) cu5) W5) := (HD.out.alloc _).push hown5 hgrow5 (by rcases hat5 with h | h; exact Or.inl h.symm; exact Or.inr (by rw [h]; rfl)); obtain ⟨z5, zz5⟩ := HFar.out _ W5 hgrow5; clear hown5 hgrow5 hat5 hlt5))
                clear x1 x2 k0 HKeep H63 HBy hzz hf2
                go_wp2_with fail
                go_meet
                exact ⟨⟨_, _, rfl⟩, z5, zz5, hG5⟩
              case rest =>
                clear k0 hzz hgg
                obtain ⟨⟨a5, c5, rfl⟩, z5, zz5, hG5⟩ := hcut
                obtain ⟨W5, rfl⟩ : ∃ W5, W5 = wc := ⟨_, rfl⟩
                have hG6 := hG5.out.alloc (.cells #[.slice a5 (gr.length + 1) c5] 37)
                have hG6g := hG6.grps
                obtain ⟨vs, hvs, hall⟩ := hG6g
                have HG6 := Lib.hid hG6
                have HVs := Lib.hid hvs
                have HAll := Lib.hid hall
                have HNews6 := Lib.hid (Ss.news_one W5 #[.slice a5 (gr.length + 1) c5] 37)
                have HOne6 : Hid (∀ u ∈ [Value.slice a5 (gr.length + 1) c5], u.oneCell' = true) := by
                  show ∀ u ∈ _, _
                  intro u hu; simp at hu; subst hu; rfl
                have HBase6 : Hid (w.heap.size ≤ (W5.alloc (.cells #[.slice a5 (gr.length + 1) c5] 37)).heap.size) := Nat.le_trans hG5.out.frame.size (by simp)
                have HFar6 : Hid (∀ W6 : World, (W5.alloc (.cells #[.slice a5 (gr.length + 1) c5] 37)).grownBy W6 (Value.ownBlock (.slice agv gs.length cgv)) → W6.cell? ⟨cb, 0, none⟩ = some (.int .u8 101) ∧ cb < W6.heap.size) := fun W6 hg => by
                  have h1 : cb < (W5.alloc (.cells #[.slice a5 (gr.length + 1) c5] 37)).heap.size := by simp; exact Nat.lt_succ_of_lt zz5
                  refine ⟨?_, Nat.lt_of_lt_of_le h1 hg.size⟩
                  rw [hg.cell_far ⟨cb, 0, none⟩ h1 (fun e => Nat.lt_irrefl _ (hfr2.out cb e.symm))]
                  exact (Sl.cell_old _ _ _ _ zz5).trans z5
                have hgb : ∀ j, Value.ownBlock (.slice agv gs.length cgv) = some j → w.heap.size ≤ j := fun j hj => (hvs.lt j hj).1
                have HGb := Lib.hid hgb
                clear hG6 hvs hall hgb hG5
                go_upto_region 24 with (at_builtin; refine wpList_append_own_at _ rfl _ _ 35 rfl w.heap.size 37 i1 (.slice none 0 0) 1 24 Tryd.underlying35 hi1 hy0 hy1 hy2 rfl (by decide) _ _ _ rfl HVs.out ⟨W5.heap.size, 0, none⟩ 1 1 [.slice a5 (gr.length + 1) c5] rfl rfl (by simpa using HNews6.out) HOne6.out (by unfold maxLen; omega) (by omega) HBase6.out ?_; intro v6 W6 hown6 hgrow6 hnil6 hat6; have hG7 := Lib.hid (GG.done HG6.out HAll.out hown6 hgrow6 HGb.out hat6); obtain ⟨z6, zz6⟩ := HFar6.out W6 hgrow6; clear hown6 hgrow6 hnil6 hat6)
                obtain ⟨a6, c6, rfl⟩ : ∃ a c, v6 = .slice a (gs.length + 1) c := by
                  obtain ⟨_, _, ⟨vs, h1, _⟩, _⟩ := hG7.out
                  have := row_slice h1
                  rwa [List.length_append] at this
                have HG8 := Lib.hid (GG.close hG7.out)
                have z7 : (W6.alloc (.cells #[] 64)).cell? ⟨cb, 0, none⟩ = some (.int .u8 101) := (Sl.cell_old _ _ _ _ zz6).trans z6
                have HBase7 : Hid (w.heap.size ≤ (W6.alloc (.cells #[] 64)).heap.size) := HG8.out.frame.size
                clear HG6 HVs HAll HNews6 HOne6 HBase6 HFar6 HGb hG7 z5 zz5 z6 zz6
                go_upto_region 25 with fail
                generalize W6.alloc (.cells #[] 64) = W7 at *
                generalize W6.heap.size = g7 at *
                go_upto_region 26 with (go_at_call 22; refine (max_any _ _ n _ (by omega) (by omega) (by omega)).mono ?_; rintro e w' ⟨rfl, hw⟩; have hw := hw.symm; subst hw)
                have HNews8 := Lib.hid (Ss.news_one W7 #[.int .u8 101, .int .i64 (max p1 (p2 - n) : Nat), .int .i64 p2, .int .i64 (max q1 (q2 - n) : Nat), .int .i64 q2] 64)
                have HBase8 : Hid (∀ o : Obj, w.heap.size ≤ (W7.alloc o).heap.size) := fun o => Nat.le_trans HBase7.out (by simp)
                go_wp2_with (at_builtin; refine wpList_append_own_at _ rfl _ _ 37 rfl w.heap.size 64 i0 (.agg #[.int .u8 0, .int .i64 0, .int .i64 0, .int .i64 0, .int .i64 0]) 5 40 Tryd.underlying37 hi hz0 hz1 hz2 rfl (by decide) _ _ _ rfl (HG8.out.cur.alloc _) ⟨W7.heap.size, 0, none⟩ 1 1 [.int .u8 101, .int .i64 (max p1 (p2 - n) : Nat), .int .i64 p2, .int .i64 (max q1 (q2 - n) : Nat), .int .i64 q2] rfl rfl (by simpa using HNews8.out) (one5 _ _ _ _ _) (by decide) (by decide) (HBase8.out _) ?_; intro v9 W9 hown9 hgrow9 hnil9 hat9; have hG9 : Hid (GG w g b m cap C (gs ++ [gr ++ [cutE n (101, p1, p2, q1, q2)]]) [endE n (101, p1, p2, q1, q2)] (.slice a6 (gs.length + 1) c6) v9 W9) := (HG8.out.alloc _).push hown9 hgrow9 hat9; clear hown9 hgrow9 hnil9 hat9)
                go_roundw
                case rel => exact ⟨k + 1, _, _, _, _, by omega, rfl, rfl, by go_num, by simp; omega, by simp, HSt.out, hG9.out⟩
                case measure => simp [intOf]; omega
            | false =>
              rw [hf, if_neg (by simp)] at hst1
              unfold far at hf
              have HNews := Lib.hid (Ss.news_one Wa #[.int .u8 t, .int .i64 p1, .int .i64 p2, .int .i64 q1, .int .i64 q2] 64)
              have HBase : Hid (∀ o : Obj, w.heap.size ≤ (Wa.alloc o).heap.size) := fun o => Nat.le_trans hgg.out.frame.size (by simp)
              have HSt := Lib.hid hst1
              clear hst1
              by_cases ht : t = 101
              · have hb : ((t : Int) == 101) = true := beq_iff_eq.2 (by omega)
                simp only [ht, decide_true, Bool.true_and, decide_eq_false_iff_not] at hf
                have hd : decide ((n : Int) + (n : Int) < (p2 : Int) - (p1 : Int)) = false := by rw [decide_eq_false_iff_not]; omega
                clear hf ht
                go_wp2_with (at_builtin; refine wpList_append_own_at _ rfl _ _ 37 rfl w.heap.size 64 i0 (.agg #[.int .u8 0, .int .i64 0, .int .i64 0, .int .i64 0, .int .i64 0]) 5 40 Tryd.underlying37 hi hz0 hz1 hz2 rfl (by decide) _ _ _ rfl (hgg.out.cur.alloc _) ⟨Wa.heap.size, 0, none⟩ 1 1 [.int .u8 t, .int .i64 p1, .int .i64 p2, .int .i64 q1, .int .i64 q2] rfl rfl (by simpa using HNews.out) (one5 _ _ _ _ _) (by unfold maxLen; omega) (by omega) (HBase.out _) ?_; intro v9 W9 hown9 hgrow9 hnil9 hat9; have hG9 : Hid (GG w g b m cap C gs (gr ++ [(t, p1, p2, q1, q2)]) (.slice agv gs.length cgv) v9 W9) := (hgg.out.alloc _).push hown9 hgrow9 hat9; clear hown9 hgrow9 hnil9 hat9)
                go_roundw
                case rel => exact ⟨k + 1, _, _, _, _, by omega, rfl, rfl, by go_num, by omega, by simp; omega, HSt.out, hG9.out⟩
                case measure => simp [intOf]; omega
              · have hb : ((t : Int) == 101) = false := beq_eq_false_iff_ne.2 (by omega)
                clear hf ht
                go_wp2_with (at_builtin; refine wpList_append_own_at _ rfl _ _ 37 rfl w.heap.size 64 i0 (.agg #[.int .u8 0, .int .i64 0, .int .i64 0, .int .i64 0, .int .i64 0]) 5 40 Tryd.underlying37 hi hz0 hz1 hz2 rfl (by decide) _ _ _ rfl (hgg.out.cur.alloc _) ⟨Wa.heap.size, 0, none⟩ 1 1 [.int .u8 t, .int .i64 p1, .int .i64 p2, .int .i64 q1, .int .i64 q2] rfl rfl (by simpa using HNews.out) (one5 _ _ _ _ _) (by unfold maxLen; omega) (by omega) (HBase.out _) ?_; intro v9 W9 hown9 hgrow9 hnil9 hat9; have hG9 : Hid (GG w g b m cap C gs (gr ++ [(t, p1, p2, q1, q2)]) (.slice agv gs.length cgv) v9 W9) := (hgg.out.alloc _).push hown9 hgrow9 hat9; clear hown9 hgrow9 hnil9 hat9)
                go_roundw
                case rel => exact ⟨k + 1, _, _, _, _, by omega, rfl, rfl, by go_num, by omega, by simp; omega, HSt.out, hG9.out⟩
                case measure => simp [intOf]; omega
          · obtain rfl : k = m := by omega
            have hfin0 := hgr.out
            rw [← hlen3, List.drop_length] at hfin0
            have hfin0 : (if lone gr then gs else gs ++ [gr]) = R := hfin0
            have HFin := Lib.hid hfin0
            have hGb := hgg.out.alloc (.cells #[.slice auv gr.length cuv] 37)
            obtain ⟨vs, hvs, hall⟩ := hGb.grps
            have HVs := Lib.hid hvs
            have HAll := Lib.hid hall
            have hgb : ∀ j, Value.ownBlock (.slice agv gs.length cgv) = some j → w.heap.size ≤ j := fun j hj => (hvs.lt j hj).1
            have HGb := Lib.hid hgb
            have HGB := Lib.hid hGb
            have HNews6 := Lib.hid (Ss.news_one wr #[.slice auv gr.length cuv] 37)
            have HOne6 : Hid (∀ u ∈ [Value.slice auv gr.length cuv], u.oneCell' = true) := by
              show ∀ u ∈ _, _
              intro u hu; simp at hu; subst hu; rfl
            have HBase6 : Hid (w.heap.size ≤ (wr.alloc (.cells #[.slice auv gr.length cuv] 37)).heap.size) := Nat.le_trans hgg.out.frame.size (by simp)
            have hlone : (lone gr = true → R = gs) ∧ (lone gr = false → R = gs ++ [gr]) := by
              refine ⟨fun h => ?_, fun h => ?_⟩
              · rw [← HFin.out, h]; rfl
              · rw [← HFin.out, h]; rfl
            have HDone : Hid (lone gr = true → GroupsOut R g w (.returned (.slice agv gs.length cgv)) wr) := fun h => by
              rw [hlone.1 h]
              exact ⟨_, rfl, Of2.own hgg.out.grps, hgg.out.frame⟩
            have HDone2 : Hid (lone gr = false → ∀ v6 W6, w.grownBy W6 (some g) ∧ W6.ownsRow w.heap.size 64 5 (.slice (some ⟨b, 0, none⟩) k cap) k (C.flatMap ecells) ∧ Grps 37 5 ecells w.heap.size (fun x => x < W6.heap.size ∧ some x ≠ v6.ownBlock) (gs ++ [gr]) v6 W6 ∧ some b ≠ v6.ownBlock → GroupsOut R g w (.returned v6) W6) := fun h v6 W6 hh => by
              rw [hlone.2 h]
              exact ⟨_, rfl, Of2.own hh.2.2.1, hh.1⟩
            have hcell0 : Hid (∀ c, gr = [c] → ∃ ub, auv = some ⟨ub, 0, none⟩ ∧ wr.cell? ⟨ub, 0, none⟩ = some (.int .u8 c.1)) := fun c hc => by
              subst hc
              rcases hgg.out.cur.2 with ⟨h, _⟩ | ⟨ub, cap', cur, h, _⟩
              · simp at h
              · injection h with h1 _ _
                subst h1
                exact ⟨ub, rfl, hgg.out.cur.cellAt 0 (by simp)⟩
            have hN2 : gr.length = 0 → gr = [] := List.length_eq_zero_iff.1
            have hN3 : gr.length = 1 → ∃ c, gr = [c] := fun h => List.length_eq_one_iff.1 h
            have hN4 : 2 ≤ gr.length → lone gr = false := fun h => by
              match gr, h with
              | _ :: _ :: _, _ => rfl
            clear hfin0 hGb hvs hall hgb hgr hlone HFin hgg
            rcases Nat.lt_or_ge gr.length 2 with hN | hN
            · by_cases hN0 : gr.length = 0
              · have hd := HDone.out (by rw [hN2 hN0]; rfl)
                have z1 : (gr.length : Int) ≤ 0 := by omega
                have HD := Lib.hid hd
                clear hd hN2 hN3 hN4 hN hN0 HDone HDone2 hcell0
                go_wp2_with fail
                go_ret
                exact HD.out
              · obtain ⟨c, hc⟩ := hN3 (by omega)
                obtain ⟨ub, hub, hcl⟩ := hcell0.out c hc
                have z1 : (0 : Int) < (gr.length : Int) := by omega
                have z2 : ((gr.length : Int) != 1) = false := by rw [bne_eq_false_iff_eq]; omega
                subst hub
                by_cases hct : c.1 = 101
                · have HD := Lib.hid (HDone.out (by rw [hc]; show (c.1 == 101) = true; rw [hct]; rfl))
                  have z3 : ((c.1 : Int) != 101) = false := by rw [bne_eq_false_iff_eq]; omega
                  generalize c.1 = tt at *
                  clear hc hN2 hN3 hN4 HDone HDone2 hcell0 hct
                  go_wp2_with fail
                  go_ret
                  exact HD.out
                · have HD2 := Lib.hid (HDone2.out (by rw [hc]; show (c.1 == 101) = false; exact beq_eq_false_iff_ne.2 hct))
                  have z3 : ((c.1 : Int) != 101) = true := by rw [bne_iff_ne]; omega
                  generalize c.1 = tt at *
                  clear hc hN2 hN3 hN4 HDone HDone2 hcell0 hct
                  go_wp2_with (at_builtin; refine wpList_append_own_at _ rfl _ _ 35 rfl w.heap.size 37 i1 (.slice none 0 0) 1 24 Tryd.underlying35 hi1 hy0 hy1 hy2 rfl (by decide) _ _ _ rfl HVs.out ⟨wr.heap.size, 0, none⟩ 1 1 [.slice (some ⟨ub, 0, none⟩) gr.length cuv] rfl rfl (by simpa using HNews6.out) HOne6.out (by unfold maxLen; omega) (by omega) HBase6.out ?_; intro v6 W6 hown6 hgrow6 hnil6 hat6; have hG7 := Lib.hid (HD2.out _ _ (GG.done HGB.out HAll.out hown6 hgrow6 HGb.out hat6)); clear hown6 hgrow6 hnil6 hat6)
                  go_ret
                  exact hG7.out
            · have HD2 := Lib.hid (HDone2.out (hN4 hN))
              have z1 : (0 : Int) < (gr.length : Int) := by omega
              have z2 : ((gr.length : Int) != 1) = true := by rw [bne_iff_ne]; omega
              clear hN2 hN3 hN4 HDone HDone2 hcell0
              go_wp2_with (at_builtin; refine wpList_append_own_at _ rfl _ _ 35 rfl w.heap.size 37 i1 (.slice none 0 0) 1 24 Tryd.underlying35 hi1 hy0 hy1 hy2 rfl (by decide) _ _ _ rfl HVs.out ⟨wr.heap.size, 0, none⟩ 1 1 [.slice auv gr.length cuv] rfl rfl (by simpa using HNews6.out) HOne6.out (by unfold maxLen; omega) (by omega) HBase6.out ?_; intro v6 W6 hown6 hgrow6 hnil6 hat6; have hG7 := Lib.hid (HD2.out _ _ (GG.done HGB.out HAll.out hown6 hgrow6 HGb.out hat6)); clear hown6 hgrow6 hnil6 hat6)
              go_ret
              exact hG7.out

end Go.Proofs.YtkmfedmiaannfaaDoor.Df
