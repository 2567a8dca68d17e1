/- Spans: the closure appendDelta walked. Spans: dto.Of walked; a span pushed. -/
import Derived.Test.YtlolomodcbkblaaGreatDoorSpm
set_option linter.unusedVariables false
set_option linter.unusedSimpArgs false
namespace Go.Proofs.YtlolomodcbkblaaGreatDoor.Sp
open Go.RowKit Go.ChangeShapes Go.WideShapes Go.Deep Fp

theorem row_addr3 {w : World} {B e n : Nat} {v : Value} {cells : List Value} (h : w.ownsRow B e 1 v n cells) (hn : 0 < n) : ∃ gb cap, v = .slice (some ⟨gb, 0, none⟩) n cap ∧ B ≤ gb := by
  rcases h.2 with ⟨rfl, h0⟩ | ⟨g', cap', cur, rfl, hb, _⟩
  · omega
  · exact ⟨g', cap', rfl, hb⟩
theorem cell_box (w : World) (x : Value) (T : TypeId) : ∀ j u, [x][j]? = some u → (w.alloc (.cells #[x] T)).cell? ((⟨w.heap.size, 0, none⟩ : Addr).add j) = some u := by
  intro j u h
  rcases j with _ | j
  · injection h with h
    rw [← h, Addr.add_lit]
    exact Sl.cell_new w #[x] T 0
  · simp at h
theorem St.push_cell {B sb db pb : Nat} {R : List N2} {Ds : List Int} {prev : Int} {qs : List Q3} {vs vd : Value} {w0 w w2 : World} (h : St B sb db pb R Ds prev qs vs vd w0 w) (k : w.grownBy w2 vd.ownBlock) : w2.cell? ⟨db, 0, none⟩ = some vd ∧ w2.frozen? ⟨db, 0, none⟩ = false := by
  have nd := h.nd
  unfold blocks at nd
  rw [List.nodup_append, List.nodup_append] at nd
  obtain ⟨⟨_, _, d5⟩, _⟩ := nd
  have hd : some db ≠ vd.ownBlock := fun e => d5 db (by simp) db (by rw [← e]; simp) rfl
  have hl : db < w.heap.size := (h.ge db (by simp [blocks])).2
  exact ⟨by rw [cell_kept k hl hd]; exact h.cd, by rw [frozen_kept k hl hd]; exact h.fd⟩
def DeltaOut (B sb db pb : Nat) (R0 : List N2) (o n : Int) (Ds : List Int) (d c : Int) (qs : List Q3) (vs : Value) (w0 : World) (e : Ending) (w' : World) : Prop :=
  e = .returned (.tuple #[]) ∧ ∃ vd2, St B sb db pb (R0 ++ [(o, n + 1)]) (Ds ++ [d]) c qs vs vd2 w0 w'

set_option maxHeartbeats 4000000 in
set_option maxRecDepth 100000 in
theorem delta_any (B sb db pb : Nat) (R0 : List N2) (o n : Int) (Ds : List Int) (prev c : Int) (q0 : List Q3) (q : Q3) (vs vd : Value) (w0 w : World) (h : St B sb db pb (R0 ++ [(o, n)]) Ds prev (q0 ++ [q]) vs vd w0 w) (hB : B ≤ w.heap.size)
    (hn : 0 ≤ n ∧ n ≤ 4294967294) (hR : R0.length ≤ 2147483648) (hD : Ds.length ≤ 8589934592) :
    Calls Tryz.prog 136 #[.int .i64 c, .pointer (some ⟨sb, 0, none⟩), .pointer (some ⟨db, 0, none⟩), .pointer (some ⟨pb, 0, none⟩)] w (DeltaOut B sb db pb R0 o n Ds (wr2 (c - prev)) c (q0 ++ [q]) vs w0) := by
  obtain ⟨i0, hi, hz0, hz1, hz2⟩ := info_parts infoI
  have c1 := h.cs
  have c2 := h.cd
  have c3 := h.cp
  obtain ⟨gs, cap, rfl, hgs⟩ := row_addr3 h.rs (by simp)
  have hql := h.ql
  have hlen : R0.length = q0.length := by simp at hql; exact hql.symm
  have hsp := h.at_ q0.length (by simp) (by simp [hlen])
  rw [List.getElem_concat_length rfl] at hsp
  have hq : (R0 ++ [(o, n)])[q0.length]'(by simp [hlen]) = (o, n) := by simp [← hlen]
  rw [hq] at hsp
  have c4 : w.cell? ⟨gs, R0.length, none⟩ = some (.pointer (some ⟨q.1, 0, none⟩)) := by
    have h1 := h.rs.cellAt (g := gs) R0.length (by simp)
    rw [h1, hlen]
    simp [pv]
  have c5 := hsp.len
  have c6 := hsp.l
  have f6 := h.fl q (by simp)
  simp only at c6
  have H1 := Lib.hid (h.setLen (m := n + 1))
  have d2 := H1.out.cd
  have d3 := H1.out.cp
  have hsz1 : B ≤ (w.setCell ⟨q.2.2, 0, none⟩ (.int .u32 (n + 1))).heap.size := by simp [World.setCell]; exact hB
  obtain ⟨av, cv, rfl⟩ : ∃ a c, vd = .slice a Ds.length c := by
    rcases h.rd.2 with ⟨h1, h2⟩ | ⟨g', cap', cur, h1, _⟩
    · exact ⟨none, 0, by rw [h1]; simp at h2; rw [h2]; rfl⟩
    · exact ⟨_, _, h1⟩
  obtain ⟨d, hd⟩ : ∃ d, IntKind.i64.wrap (c - prev) = d := ⟨_, rfl⟩
  have x1 : IntKind.u32.wrap (n + 1) = n + 1 := by rw [IntKind.wrap_u32]; omega
  have hwd : wr2 (c - prev) = d := hd
  rw [hwd]
  obtain ⟨n1, n2⟩ := hn
  clear h hql hsp hq hwd hgs hlen
  generalize hw1 : w.setCell ⟨q.2.2, 0, none⟩ (.int .u32 (n + 1)) = w1 at *
  have HW1 := Lib.hid hw1
  have HNews := Lib.hid (Sp.cell_box w1 (.int .i64 d) 2)
  have H2 : Hid (St B sb db pb (R0 ++ [(o, n + 1)]) Ds prev (q0 ++ [q]) (.slice (some ⟨gs, 0, none⟩) (R0 ++ [(o, n)]).length cap) (.slice av Ds.length cv) w0 (w1.alloc (.cells #[.int .i64 d] 2))) :=
    H1.out.kept (World.grownBy_alloc w1 _ none) (fun b e => by cases e) (H1.out.bel.alloc hsz1 _)
  have HOne : Hid (∀ u ∈ [Value.int .i64 d], u.oneCell' = true) := by
    show ∀ u ∈ _, _
    intro u hu; simp at hu; rw [hu]; rfl
  have hszb : B ≤ (w1.alloc (.cells #[.int .i64 d] 2)).heap.size := Nat.le_trans hsz1 (by simp)
  have hlR : (R0 ++ [(o, n)]).length = (R0 ++ [(o, n + 1)]).length := by simp
  have HlR := Lib.hid hlR
  clear hlR
  go_enter Tryz.func136, Tryz.ntmps136
  go_wp2_with (first
    | (at_builtin; refine wpList_append_own_at _ rfl _ _ 34 rfl B 2 i0 (.int .i64 0) 1 8 Tryz.underlying34 hi hz0 hz1 hz2 rfl (by decide) _ _ _ rfl H2.out.rd ⟨w1.heap.size, 0, none⟩ 1 1 [.int .i64 d] rfl rfl HNews.out HOne.out (by unfold maxLen; omega) (by omega) hszb ?_; intro v2 W4 hown2 hgrow2 hnil2 hloc2; obtain ⟨a2, cp2, rfl⟩ := row_slice2 hown2; have e5 := (H2.out.push_cell hgrow2).1; have e6 := (H2.out.push_cell hgrow2).2; have H3 := Lib.hid (H2.out.push hgrow2 hown2 hloc2 hszb); have d5 := H3.out.cp; have f5 := H3.out.fp; clear hown2 hgrow2 hnil2 hloc2))
  go_end0
  exact ⟨rfl, _, H3.out.setPrev c⟩

end Go.Proofs.YtlolomodcbkblaaGreatDoor.Sp

set_option linter.unusedVariables false
set_option linter.unusedSimpArgs false
namespace Go.Proofs.YtlolomodcbkblaaGreatDoor.Sp
open Go.RowKit Go.ChangeShapes Go.WideShapes Go.Deep Fp

set_option maxRecDepth 100000 in
theorem of32_any (x : Int) (w : World) : Calls Tryz.prog 107 #[.int .i32 x] w fun e w' => e = .returned (.pointer (some ⟨w.heap.size, 0, none⟩)) ∧ w' = w.alloc (.cells #[.int .i32 x] 21) := by
  go_enter Tryz.func107, Tryz.ntmps107
  go_wp2_with fail
  go_ret
  exact ⟨rfl, rfl⟩
set_option maxRecDepth 100000 in
theorem ofu32_any (x : Int) (w : World) : Calls Tryz.prog 108 #[.int .u32 x] w fun e w' => e = .returned (.pointer (some ⟨w.heap.size, 0, none⟩)) ∧ w' = w.alloc (.cells #[.int .u32 x] 254) := by
  go_enter Tryz.func108, Tryz.ntmps108
  go_wp2_with fail
  go_ret
  exact ⟨rfl, rfl⟩

theorem St.span {B sb db pb : Nat} {R : List N2} {Ds : List Int} {prev : Int} {qs : List Q3} {vs vd vs2 : Value} {w0 w w1 w2 : World} {q : Q3} {r : N2} (h : St B sb db pb R Ds prev qs vs vd w0 w) (hB : B ≤ w.heap.size) (hb : Below w.heap.size w w1) (hsp : SpanAt w1 q r) (hf : w1.frozen? ⟨q.2.2, 0, none⟩ = false)
    (hq : w.heap.size ≤ q.1 ∧ w.heap.size ≤ q.2.1 ∧ w.heap.size ≤ q.2.2) (hqd : q.1 ≠ q.2.1 ∧ q.1 ≠ q.2.2 ∧ q.2.1 ≠ q.2.2)
    (k : w1.grownBy w2 vs.ownBlock) (ho : w2.ownsRow B 250 1 vs2 (R.length + 1) (qs.map pv ++ [pv q])) (hloc : vs2.ownBlock = vs.ownBlock ∨ vs2.ownBlock = some w1.heap.size) :
    St B sb db pb (R ++ [r]) Ds prev (qs ++ [q]) vs2 vd w0 (w2.setCell ⟨sb, 0, none⟩ vs2) := by
  have k0 : w.grownBy w1 none := ⟨hb.os, hb.tape, hb.output, hb.size, fun i hi _ => hb.block i hi⟩
  have h1 := h.kept k0 (fun b e => by cases e) (h.bel.trans (hb.mono hB))
  have k2 : w2.grownBy (w2.setCell ⟨sb, 0, none⟩ vs2) (some sb) := ⟨rfl, rfl, rfl, by simp [World.setCell], fun j hj hne => Below.heap_setCell w2 ⟨sb, 0, none⟩ _ j (by rintro rfl; exact hne rfl)⟩
  have old : ∀ b ∈ blocks sb db pb vs vd qs, b < w.heap.size := fun b hb => (h.ge b hb).2
  have nd := h.nd
  have e : blocks sb db pb vs vd qs = sb :: db :: pb :: (vs.ownBlock.toList ++ (vd.ownBlock.toList ++ qblocks qs)) := by simp [blocks]
  rw [e] at nd
  simp only [List.nodup_cons, List.mem_cons, not_or] at nd
  obtain ⟨⟨n1, n2, n3⟩, ⟨n4, n5⟩, n6, n7⟩ := nd
  rw [List.nodup_append] at n7
  obtain ⟨o1, o2, o3⟩ := n7
  -- the blocks that stay: db, pb, the deltas' row, the old spans
  have stay : ∀ b, b = db ∨ b = pb ∨ b ∈ vd.ownBlock.toList ++ qblocks qs → b < w.heap.size ∧ some b ≠ vs.ownBlock ∧ some b ≠ some sb := by
    intro b hb
    refine ⟨old b (by rw [e]; rcases hb with rfl | rfl | hb <;> simp_all), ?_, ?_⟩
    · intro e2
      have hv : b ∈ vs.ownBlock.toList := by rw [← e2]; simp
      rcases hb with rfl | rfl | hb
      · exact n5 (List.mem_append.2 (Or.inl hv))
      · exact n6 (List.mem_append.2 (Or.inl hv))
      · exact o3 b hv b hb rfl
    · intro e2
      injection e2 with e2
      subst e2
      rcases hb with hb | hb | hb
      · exact n1 hb
      · exact n2 hb
      · exact n3 (List.mem_append.2 (Or.inr hb))
  have msb : sb < w.heap.size ∧ some sb ≠ vs.ownBlock := ⟨old sb (by rw [e]; simp), fun e2 => n3 (List.mem_append.2 (Or.inl (by rw [← e2]; simp)))⟩
  have l1 : ∀ b, b < w.heap.size → b < w1.heap.size := fun b hb2 => Nat.lt_of_lt_of_le hb2 hb.size
  have l2 : ∀ b, b < w.heap.size → b < w2.heap.size := fun b hb2 => Nat.lt_of_lt_of_le (l1 b hb2) k.size
  have vlt : ∀ b, vs.ownBlock = some b → b < w.heap.size := fun b hb2 => old b (by rw [e, hb2]; simp)
  -- the new blocks
  have fresh : ∀ b, w.heap.size ≤ b → b < w1.heap.size → some b ≠ vs.ownBlock ∧ some b ≠ some sb ∧ some b ≠ vs2.ownBlock := by
    intro b hb1 hb2
    refine ⟨fun e2 => ?_, fun e2 => ?_, fun e2 => ?_⟩
    · have := vlt b e2.symm; omega
    · injection e2 with e2; have := msb.1; omega
    · rcases hloc with hl | hl
      · rw [hl] at e2; have := vlt b e2.symm; omega
      · rw [hl] at e2; injection e2 with e2; omega
  have hqs := hsp.lt
  have g1 := fresh q.1 hq.1 hqs.1
  have g2 := fresh q.2.1 hq.2.1 hqs.2.1
  have g3 := fresh q.2.2 hq.2.2 hqs.2.2
  have v2 : ∀ b, vs2.ownBlock = some b → (B ≤ b ∧ b < w2.heap.size) ∧ b ≠ sb ∧ b ≠ db ∧ b ≠ pb ∧ b ∉ vd.ownBlock.toList ++ qblocks qs := by
    intro b hb2
    refine ⟨ho.lt b hb2, ?_⟩
    rcases hloc with hl | hl
    · rw [hb2] at hl
      refine ⟨fun e2 => msb.2 (by rw [← e2]; exact hl), fun e2 => (stay b (Or.inl e2)).2.1 hl, fun e2 => (stay b (Or.inr (Or.inl e2))).2.1 hl, fun e2 => (stay b (Or.inr (Or.inr e2))).2.1 hl⟩
    · rw [hb2] at hl
      injection hl with hl
      have hz := hb.size
      refine ⟨fun e2 => by have := msb.1; omega, fun e2 => by have := (stay b (Or.inl e2)).1; omega, fun e2 => by have := (stay b (Or.inr (Or.inl e2))).1; omega, fun e2 => by have := (stay b (Or.inr (Or.inr e2))).1; omega⟩
  have sdb := stay db (Or.inl rfl)
  have spb := stay pb (Or.inr (Or.inl rfl))
  have sq : ∀ b ∈ qblocks qs, _ := fun b hb => stay b (Or.inr (Or.inr (List.mem_append.2 (Or.inr hb))))
  have ql := h.ql
  have e' : blocks sb db pb vs2 vd (qs ++ [q]) = sb :: db :: pb :: (vs2.ownBlock.toList ++ ((vd.ownBlock.toList ++ qblocks qs) ++ [q.1, q.2.1, q.2.2])) := by simp [blocks, qblocks]
  have newN : ∀ b ∈ [q.1, q.2.1, q.2.2], w.heap.size ≤ b ∧ b < w1.heap.size ∧ some b ≠ vs2.ownBlock := by
    intro b hb2
    simp only [List.mem_cons, List.not_mem_nil, or_false] at hb2
    rcases hb2 with rfl | rfl | rfl
    · exact ⟨hq.1, hqs.1, g1.2.2⟩
    · exact ⟨hq.2.1, hqs.2.1, g2.2.2⟩
    · exact ⟨hq.2.2, hqs.2.2, g3.2.2⟩
  refine ⟨?_, ?_, ?_, ?_, ?_, ?_, ?_, ?_, ?_, by simp [ql], ?_, ?_, ?_, ?_⟩
  · exact World.cell?_setCell_same w2 ⟨sb, 0, none⟩ _ (by rw [cell_kept k (l1 _ msb.1) msb.2]; exact h1.cs)
  · rw [cell_kept k2 (l2 _ sdb.1) sdb.2.2, cell_kept k (l1 _ sdb.1) sdb.2.1]; exact h1.cd
  · rw [cell_kept k2 (l2 _ spb.1) spb.2.2, cell_kept k (l1 _ spb.1) spb.2.1]; exact h1.cp
  · rw [World.frozen?_setCell, frozen_kept k (l1 _ msb.1) msb.2]; exact h1.fs
  · rw [World.frozen?_setCell, frozen_kept k (l1 _ sdb.1) sdb.2.1]; exact h1.fd
  · rw [World.frozen?_setCell, frozen_kept k (l1 _ spb.1) spb.2.1]; exact h1.fp
  · intro x hx
    rcases List.mem_append.1 hx with hx | hx
    · have m := sq _ (mem_q hx).2.2
      rw [World.frozen?_setCell, frozen_kept k (l1 _ m.1) m.2.1]; exact h1.fl x hx
    · rw [List.mem_singleton.1 hx, World.frozen?_setCell, frozen_kept k hqs.2.2 g3.1]; exact hf
  · rw [List.length_append, List.map_append]
    refine ho.kept k2 ?_
    cases e3 : vs2.ownBlock with
    | none => exact Or.inl rfl
    | some b => exact Or.inr (fun e4 => by injection e4 with e4; exact (v2 b e3).2.1 e4)
  · have h3 : w2.ownsRow B 2 1 vd Ds.length (Ds.map (.int .i64)) := by
      refine h1.rd.kept k ?_
      cases e3 : vd.ownBlock with
      | none => exact Or.inl rfl
      | some b => exact Or.inr (stay b (Or.inr (Or.inr (by rw [e3]; simp)))).2.1
    refine h3.kept k2 ?_
    cases e3 : vd.ownBlock with
    | none => exact Or.inl rfl
    | some b => exact Or.inr (stay b (Or.inr (Or.inr (by rw [e3]; simp)))).2.2
  · intro i hi hi2
    by_cases hl : i < qs.length
    · have h3 := h1.at_ i hl (by omega)
      rw [List.getElem_append_left hl, List.getElem_append_left (by omega)]
      have hm := mem_q (List.getElem_mem hl)
      exact (h3.kept k (sq _ hm.1).2.1 (sq _ hm.2.1).2.1 (sq _ hm.2.2).2.1).kept k2 (sq _ hm.1).2.2 (sq _ hm.2.1).2.2 (sq _ hm.2.2).2.2
    · obtain rfl : i = qs.length := by simp at hi; omega
      rw [List.getElem_concat_length rfl]
      have hr : (R ++ [r])[qs.length]'hi2 = r := by simp [ql]
      rw [hr]
      exact (hsp.kept k g1.1 g2.1 g3.1).kept k2 g1.2.1 g2.2.1 g3.2.1
  · rw [e']
    refine List.nodup_cons.2 ⟨fun hm => ?_, List.nodup_cons.2 ⟨fun hm => ?_, List.nodup_cons.2 ⟨fun hm => ?_, List.nodup_append.2 ⟨?_, List.nodup_append.2 ⟨o2, by simp [hqd.1, hqd.2.1, hqd.2.2], ?_⟩, ?_⟩⟩⟩⟩
    · rcases List.mem_cons.1 hm with hm | hm
      · exact n1 hm
      rcases List.mem_cons.1 hm with hm | hm
      · exact n2 hm
      rcases List.mem_append.1 hm with hm | hm
      · exact (v2 _ (Option.mem_toList.1 hm)).2.1 rfl
      rcases List.mem_append.1 hm with hm | hm
      · exact n3 (List.mem_append.2 (Or.inr hm))
      · have := (newN _ hm).1; have := msb.1; omega
    · rcases List.mem_cons.1 hm with hm | hm
      · exact n4 hm
      rcases List.mem_append.1 hm with hm | hm
      · exact (v2 _ (Option.mem_toList.1 hm)).2.2.1 rfl
      rcases List.mem_append.1 hm with hm | hm
      · exact n5 (List.mem_append.2 (Or.inr hm))
      · have := (newN _ hm).1; have := sdb.1; omega
    · rcases List.mem_append.1 hm with hm | hm
      · exact (v2 _ (Option.mem_toList.1 hm)).2.2.2.1 rfl
      rcases List.mem_append.1 hm with hm | hm
      · exact n6 (List.mem_append.2 (Or.inr hm))
      · have := (newN _ hm).1; have := spb.1; omega
    · cases vs2.ownBlock <;> simp
    · intro a ha b hb2 e2
      subst e2
      have := (stay a (Or.inr (Or.inr ha))).1
      have := (newN a hb2).1
      omega
    · intro a ha b hb2 e2
      subst e2
      have hv := Option.mem_toList.1 ha
      rcases List.mem_append.1 hb2 with hm | hm
      · exact (v2 a hv).2.2.2.2 hm
      · exact (newN a hm).2.2 (by rw [hv])
  · intro b hb2
    rw [e'] at hb2
    have sz : (w2.setCell ⟨sb, 0, none⟩ vs2).heap.size = w2.heap.size := by simp [World.setCell]
    rw [sz]
    have oldge : ∀ b ∈ blocks sb db pb vs vd qs, B ≤ b ∧ b < w2.heap.size := fun b hb => ⟨(h.ge b hb).1, l2 b (h.ge b hb).2⟩
    rcases List.mem_cons.1 hb2 with hm | hm
    · exact oldge b (by rw [e, hm]; simp)
    rcases List.mem_cons.1 hm with hm | hm
    · exact oldge b (by rw [e, hm]; simp)
    rcases List.mem_cons.1 hm with hm | hm
    · exact oldge b (by rw [e, hm]; simp)
    rcases List.mem_append.1 hm with hm | hm
    · exact (v2 b (Option.mem_toList.1 hm)).1
    rcases List.mem_append.1 hm with hm | hm
    · exact oldge b (by rw [e]; exact List.mem_cons_of_mem _ (List.mem_cons_of_mem _ (List.mem_cons_of_mem _ (List.mem_append.2 (Or.inr hm)))))
    · exact ⟨Nat.le_trans hB (newN b hm).1, Nat.lt_of_lt_of_le (newN b hm).2.1 k.size⟩
  · have h3 : Below B w0 w2 := h1.bel.grown k (Nat.le_trans hB hb.size) (fun j hj => (h.ge j (by rw [e, hj]; simp)).1)
    exact h3.setCell (h.ge sb (by rw [e]; simp)).1 _

end Go.Proofs.YtlolomodcbkblaaGreatDoor.Sp
