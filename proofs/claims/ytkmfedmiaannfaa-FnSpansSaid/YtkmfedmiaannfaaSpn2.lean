/- Spans: the closure appendDelta walked. -/
import Derived.Test.YtkmfedmiaannfaaSpm
set_option linter.unusedVariables false
set_option linter.unusedSimpArgs false
namespace Go.Proofs.Ytkmfedmiaannfaa.Sp
open Go.RowKit Go.ChangeShapes Go.WideShapes Go.Deep Fp

theorem row_addr3 {w : World} {B e n : Nat} {v : Value} {cells : List Value} (h : w.ownsRow B e 1 v n cells) (hn : 0 < n) : ∃ gb cap, v = .slice (some ⟨gb, 0, none⟩) n cap ∧ B ≤ gb := by
  rcases h.2 with ⟨rfl, h0⟩ | ⟨g', cap', cur, rfl, hb, _⟩
  · omega
  · exact ⟨g', cap', rfl, hb⟩
theorem cell_box (w : World) (x : Value) (T : TypeId) : ∀ j u, [x][j]? = some u → (w.alloc (.cells #[x] T)).cell? ((⟨w.heap.size, 0, none⟩ : Addr).add j) = some u := by
  intro j u h
  rcases j with _ | j
  · injection h with h
    rw [← h, Addr.add_lit]
    exact Sl.cell_new w #[x] T 0
  · simp at h
theorem St.push_cell {B sb db pb : Nat} {R : List N2} {Ds : List Int} {prev : Int} {qs : List Q3} {vs vd : Value} {w0 w w2 : World} (h : St B sb db pb R Ds prev qs vs vd w0 w) (k : w.grownBy w2 vd.ownBlock) : w2.cell? ⟨db, 0, none⟩ = some vd ∧ w2.frozen? ⟨db, 0, none⟩ = false := by
  have nd := h.nd
  unfold blocks at nd
  rw [List.nodup_append, List.nodup_append] at nd
  obtain ⟨⟨_, _, d5⟩, _⟩ := nd
  have hd : some db ≠ vd.ownBlock := fun e => d5 db (by simp) db (by rw [← e]; simp) rfl
  have hl : db < w.heap.size := (h.ge db (by simp [blocks])).2
  exact ⟨by rw [cell_kept k hl hd]; exact h.cd, by rw [frozen_kept k hl hd]; exact h.fd⟩
def DeltaOut (B sb db pb : Nat) (R0 : List N2) (o n : Int) (Ds : List Int) (d c : Int) (qs : List Q3) (vs : Value) (w0 : World) (e : Ending) (w' : World) : Prop :=
  e = .returned (.tuple #[]) ∧ ∃ vd2, St B sb db pb (R0 ++ [(o, n + 1)]) (Ds ++ [d]) c qs vs vd2 w0 w'

set_option maxHeartbeats 4000000 in
set_option maxRecDepth 100000 in
theorem delta_any (B sb db pb : Nat) (R0 : List N2) (o n : Int) (Ds : List Int) (prev c : Int) (q0 : List Q3) (q : Q3) (vs vd : Value) (w0 w : World) (h : St B sb db pb (R0 ++ [(o, n)]) Ds prev (q0 ++ [q]) vs vd w0 w) (hB : B ≤ w.heap.size)
    (hn : 0 ≤ n ∧ n ≤ 4294967294) (hR : R0.length ≤ 2147483648) (hD : Ds.length ≤ 8589934592) :
    Calls Try.prog 104 #[.int .i64 c, .pointer (some ⟨sb, 0, none⟩), .pointer (some ⟨db, 0, none⟩), .pointer (some ⟨pb, 0, none⟩)] w (DeltaOut B sb db pb R0 o n Ds (wr2 (c - prev)) c (q0 ++ [q]) vs w0) := by
  obtain ⟨i0, hi, hz0, hz1, hz2⟩ := info_parts infoI
  have c1 := h.cs
  have c2 := h.cd
  have c3 := h.cp
  obtain ⟨gs, cap, rfl, hgs⟩ := row_addr3 h.rs (by simp)
  have hql := h.ql
  have hlen : R0.length = q0.length := by simp at hql; exact hql.symm
  have hsp := h.at_ q0.length (by simp) (by simp [hlen])
  rw [List.getElem_concat_length rfl] at hsp
  have hq : (R0 ++ [(o, n)])[q0.length]'(by simp [hlen]) = (o, n) := by simp [← hlen]
  rw [hq] at hsp
  have c4 : w.cell? ⟨gs, R0.length, none⟩ = some (.pointer (some ⟨q.1, 0, none⟩)) := by
    have h1 := h.rs.cellAt (g := gs) R0.length (by simp)
    rw [h1, hlen]
    simp [pv]
  have c5 := hsp.len
  have c6 := hsp.l
  have f6 := h.fl q (by simp)
  simp only at c6
  have H1 := Lib.hid (h.setLen (m := n + 1))
  have d2 := H1.out.cd
  have d3 := H1.out.cp
  have hsz1 : B ≤ (w.setCell ⟨q.2.2, 0, none⟩ (.int .u32 (n + 1))).heap.size := by simp [World.setCell]; exact hB
  obtain ⟨av, cv, rfl⟩ : ∃ a c, vd = .slice a Ds.length c := by
    rcases h.rd.2 with ⟨h1, h2⟩ | ⟨g', cap', cur, h1, _⟩
    · exact ⟨none, 0, by rw [h1]; simp at h2; rw [h2]; rfl⟩
    · exact ⟨_, _, h1⟩
  obtain ⟨d, hd⟩ : ∃ d, IntKind.i64.wrap (c - prev) = d := ⟨_, rfl⟩
  have x1 : IntKind.u32.wrap (n + 1) = n + 1 := by rw [IntKind.wrap_u32]; omega
  have hwd : wr2 (c - prev) = d := hd
  rw [hwd]
  obtain ⟨n1, n2⟩ := hn
  clear h hql hsp hq hwd hgs hlen
  generalize hw1 : w.setCell ⟨q.2.2, 0, none⟩ (.int .u32 (n + 1)) = w1 at *
  have HW1 := Lib.hid hw1
  have HNews := Lib.hid (Sp.cell_box w1 (.int .i64 d) 2)
  have H2 : Hid (St B sb db pb (R0 ++ [(o, n + 1)]) Ds prev (q0 ++ [q]) (.slice (some ⟨gs, 0, none⟩) (R0 ++ [(o, n)]).length cap) (.slice av Ds.length cv) w0 (w1.alloc (.cells #[.int .i64 d] 2))) :=
    H1.out.kept (World.grownBy_alloc w1 _ none) (fun b e => by cases e) (H1.out.bel.alloc hsz1 _)
  have HOne : Hid (∀ u ∈ [Value.int .i64 d], u.oneCell' = true) := by
    show ∀ u ∈ _, _
    intro u hu; simp at hu; rw [hu]; rfl
  have hszb : B ≤ (w1.alloc (.cells #[.int .i64 d] 2)).heap.size := Nat.le_trans hsz1 (by simp)
  have hlR : (R0 ++ [(o, n)]).length = (R0 ++ [(o, n + 1)]).length := by simp
  have HlR := Lib.hid hlR
  clear hlR
  go_enter Try.func104, Try.ntmps104
  go_wp2_with (first
    | (at_builtin; refine wpList_append_own_at _ rfl _ _ 66 rfl B 2 i0 (.int .i64 0) 1 8 Try.underlying66 hi hz0 hz1 hz2 rfl (by decide) _ _ _ rfl H2.out.rd ⟨w1.heap.size, 0, none⟩ 1 1 [.int .i64 d] rfl rfl HNews.out HOne.out (by unfold maxLen; omega) (by omega) hszb ?_; intro v2 W4 hown2 hgrow2 hnil2 hloc2; obtain ⟨a2, cp2, rfl⟩ := row_slice2 hown2; have e5 := (H2.out.push_cell hgrow2).1; have e6 := (H2.out.push_cell hgrow2).2; have H3 := Lib.hid (H2.out.push hgrow2 hown2 hloc2 hszb); have d5 := H3.out.cp; have f5 := H3.out.fp; clear hown2 hgrow2 hnil2 hloc2))
  go_end0
  exact ⟨rfl, _, H3.out.setPrev c⟩

end Go.Proofs.Ytkmfedmiaannfaa.Sp
