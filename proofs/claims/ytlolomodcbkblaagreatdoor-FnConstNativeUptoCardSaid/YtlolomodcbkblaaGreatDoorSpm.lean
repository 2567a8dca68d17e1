/- Spans: makeBucketsFromMap: the state of its second loop, and what each store does to it. -/
import Derived.Test.YtlolomodcbkblaaGreatDoorMg8
set_option linter.unusedVariables false
set_option linter.unusedSimpArgs false
namespace Go.Proofs.YtlolomodcbkblaaGreatDoor.Sp
open Go.RowKit Go.ChangeShapes Go.WideShapes Go.Deep Fp

theorem infoI : (Tryz.prog.info? 2).map (fun i => (i.zero, i.size, i.bytes)) = some (some (.int .i64 0), 1, 8) := by kernel_rfl
theorem infoP : (Tryz.prog.info? 250).map (fun i => (i.zero, i.size, i.bytes)) = some (some (.pointer none), 1, 8) := by kernel_rfl
def qblocks (qs : List Q3) : List Nat := qs.flatMap fun q => [q.1, q.2.1, q.2.2]
/-- all blocks of the state -/
def blocks (sb db pb : Nat) (vs vd : Value) (qs : List Q3) : List Nat := [sb, db, pb] ++ vs.ownBlock.toList ++ vd.ownBlock.toList ++ qblocks qs
/-- spans R, deltas Ds, the count before -/
structure St (B sb db pb : Nat) (R : List N2) (Ds : List Int) (prev : Int) (qs : List Q3) (vs vd : Value) (w0 w : World) : Prop where
  cs : w.cell? ⟨sb, 0, none⟩ = some vs
  cd : w.cell? ⟨db, 0, none⟩ = some vd
  cp : w.cell? ⟨pb, 0, none⟩ = some (.int .i64 prev)
  fs : w.frozen? ⟨sb, 0, none⟩ = false
  fd : w.frozen? ⟨db, 0, none⟩ = false
  fp : w.frozen? ⟨pb, 0, none⟩ = false
  fl : ∀ q ∈ qs, w.frozen? ⟨q.2.2, 0, none⟩ = false
  rs : w.ownsRow B 250 1 vs R.length (qs.map pv)
  rd : w.ownsRow B 2 1 vd Ds.length (Ds.map (.int .i64))
  ql : qs.length = R.length
  at_ : ∀ i (h : i < qs.length) (h2 : i < R.length), SpanAt w qs[i] R[i]
  nd : (blocks sb db pb vs vd qs).Nodup
  ge : ∀ b ∈ blocks sb db pb vs vd qs, B ≤ b ∧ b < w.heap.size
  bel : Below B w0 w
section
variable {B sb db pb : Nat} {R : List N2} {Ds : List Int} {prev : Int} {qs : List Q3} {vs vd : Value} {w0 w w' : World}
theorem cell_kept {b : Nat} {row : Option Nat} {j : Nat} (k : w.grownBy w' row) (hb : b < w.heap.size) (hne : some b ≠ row) : w'.cell? ⟨b, j, none⟩ = w.cell? ⟨b, j, none⟩ := World.cell?_of_block (w := w) (k.block b hb hne)
theorem frozen_kept {b : Nat} {row : Option Nat} {j : Nat} (k : w.grownBy w' row) (hb : b < w.heap.size) (hne : some b ≠ row) : w'.frozen? ⟨b, j, none⟩ = w.frozen? ⟨b, j, none⟩ := World.frozen?_of_block (w := w) (k.block b hb hne)
theorem SpanAt.kept {q : Q3} {r : N2} {row : Option Nat} (h : SpanAt w q r) (k : w.grownBy w' row) (h1 : some q.1 ≠ row) (h2 : some q.2.1 ≠ row) (h3 : some q.2.2 ≠ row) : SpanAt w' q r :=
  ⟨by rw [cell_kept k h.lt.1 h1]; exact h.off, by rw [cell_kept k h.lt.1 h1]; exact h.len, by rw [cell_kept k h.lt.2.1 h2]; exact h.o, by rw [cell_kept k h.lt.2.2 h3]; exact h.l,
    Nat.lt_of_lt_of_le h.lt.1 k.size, Nat.lt_of_lt_of_le h.lt.2.1 k.size, Nat.lt_of_lt_of_le h.lt.2.2 k.size⟩
theorem mem_q {q : Q3} (h : q ∈ qs) : q.1 ∈ qblocks qs ∧ q.2.1 ∈ qblocks qs ∧ q.2.2 ∈ qblocks qs :=
  ⟨List.mem_flatMap.2 ⟨q, h, by simp⟩, List.mem_flatMap.2 ⟨q, h, by simp⟩, List.mem_flatMap.2 ⟨q, h, by simp⟩⟩
theorem own_mem {v : Value} {b : Nat} (h : v.ownBlock = some b) : b ∈ v.ownBlock.toList := by rw [h]; simp
/-- what turns no block of the state keeps it -/
theorem St.kept {row : Option Nat} (h : St B sb db pb R Ds prev qs vs vd w0 w) (k : w.grownBy w' row) (hr : ∀ b, row = some b → b ∉ blocks sb db pb vs vd qs) (hb : Below B w0 w') : St B sb db pb R Ds prev qs vs vd w0 w' := by
  have ne : ∀ b ∈ blocks sb db pb vs vd qs, some b ≠ row := fun b hm e => hr b e.symm hm
  have m1 : sb ∈ blocks sb db pb vs vd qs := by simp [blocks]
  have m2 : db ∈ blocks sb db pb vs vd qs := by simp [blocks]
  have m3 : pb ∈ blocks sb db pb vs vd qs := by simp [blocks]
  have mq : ∀ b ∈ qblocks qs, b ∈ blocks sb db pb vs vd qs := fun b hb => by simp [blocks, hb]
  have lt : ∀ b ∈ blocks sb db pb vs vd qs, b < w.heap.size := fun b hb => (h.ge b hb).2
  refine ⟨?_, ?_, ?_, ?_, ?_, ?_, ?_, ?_, ?_, h.ql, ?_, h.nd, fun b hb => ⟨(h.ge b hb).1, Nat.lt_of_lt_of_le (h.ge b hb).2 k.size⟩, hb⟩
  · rw [cell_kept k (lt _ m1) (ne _ m1)]; exact h.cs
  · rw [cell_kept k (lt _ m2) (ne _ m2)]; exact h.cd
  · rw [cell_kept k (lt _ m3) (ne _ m3)]; exact h.cp
  · rw [frozen_kept k (lt _ m1) (ne _ m1)]; exact h.fs
  · rw [frozen_kept k (lt _ m2) (ne _ m2)]; exact h.fd
  · rw [frozen_kept k (lt _ m3) (ne _ m3)]; exact h.fp
  · intro q hq
    have m := mq _ (mem_q hq).2.2
    rw [frozen_kept k (lt _ m) (ne _ m)]; exact h.fl q hq
  · refine h.rs.kept k ?_
    cases e : vs.ownBlock with
    | none => exact Or.inl rfl
    | some b => exact Or.inr (ne b (by simp [blocks, e]))
  · refine h.rd.kept k ?_
    cases e : vd.ownBlock with
    | none => exact Or.inl rfl
    | some b => exact Or.inr (ne b (by simp [blocks, e]))
  · intro i hi h2
    have hm := mem_q (List.getElem_mem hi)
    exact (h.at_ i hi h2).kept k (ne _ (mq _ hm.1)) (ne _ (mq _ hm.2.1)) (ne _ (mq _ hm.2.2))
/-- what the closure's last store does -/
theorem St.setPrev (h : St B sb db pb R Ds prev qs vs vd w0 w) (c : Int) : St B sb db pb R Ds c qs vs vd w0 (w.setCell ⟨pb, 0, none⟩ (.int .i64 c)) := by
  have k : w.grownBy (w.setCell ⟨pb, 0, none⟩ (.int .i64 c)) (some pb) := ⟨rfl, rfl, rfl, by simp [World.setCell], fun j hj hne => Below.heap_setCell w ⟨pb, 0, none⟩ _ j (by rintro rfl; exact hne rfl)⟩
  have nd := h.nd
  have e : blocks sb db pb vs vd qs = sb :: db :: pb :: (vs.ownBlock.toList ++ (vd.ownBlock.toList ++ qblocks qs)) := by simp [blocks]
  rw [e] at nd
  simp only [List.nodup_cons, List.mem_cons, not_or] at nd
  obtain ⟨⟨n1, n2, _⟩, ⟨n3, _⟩, n4, _⟩ := nd
  have out : ∀ b ∈ vs.ownBlock.toList ++ (vd.ownBlock.toList ++ qblocks qs), some b ≠ some pb := fun b hb e => by injection e with e; subst e; exact n4 hb
  have m1 : sb ∈ blocks sb db pb vs vd qs := by simp [blocks]
  have m2 : db ∈ blocks sb db pb vs vd qs := by simp [blocks]
  have m3 : pb ∈ blocks sb db pb vs vd qs := by simp [blocks]
  have mq : ∀ b ∈ qblocks qs, b ∈ vs.ownBlock.toList ++ (vd.ownBlock.toList ++ qblocks qs) := fun b hb => by simp [hb]
  have mqb : ∀ b ∈ qblocks qs, b ∈ blocks sb db pb vs vd qs := fun b hb => by simp [blocks, hb]
  have lt : ∀ b ∈ blocks sb db pb vs vd qs, b < w.heap.size := fun b hb => (h.ge b hb).2
  have s1 : some sb ≠ some pb := fun e => by injection e with e; exact n2 e
  have s2 : some db ≠ some pb := fun e => by injection e with e; exact n3 e
  refine ⟨?_, ?_, ?_, ?_, ?_, ?_, ?_, ?_, ?_, h.ql, ?_, h.nd, fun b hb => ⟨(h.ge b hb).1, Nat.lt_of_lt_of_le (h.ge b hb).2 k.size⟩, ?_⟩
  · rw [cell_kept k (lt _ m1) s1]; exact h.cs
  · rw [cell_kept k (lt _ m2) s2]; exact h.cd
  · exact World.cell?_setCell_same w ⟨pb, 0, none⟩ _ h.cp
  · rw [frozen_kept k (lt _ m1) s1]; exact h.fs
  · rw [frozen_kept k (lt _ m2) s2]; exact h.fd
  · rw [World.frozen?_setCell]; exact h.fp
  · intro q hq
    have m := (mem_q hq).2.2
    rw [frozen_kept k (lt _ (mqb _ m)) (out _ (mq _ m))]; exact h.fl q hq
  · refine h.rs.kept k ?_
    cases e : vs.ownBlock with
    | none => exact Or.inl rfl
    | some b => exact Or.inr (out b (by simp [e]))
  · refine h.rd.kept k ?_
    cases e : vd.ownBlock with
    | none => exact Or.inl rfl
    | some b => exact Or.inr (out b (by simp [e]))
  · intro i hi h2
    have hm := mem_q (List.getElem_mem hi)
    exact (h.at_ i hi h2).kept k (out _ (mq _ hm.1)) (out _ (mq _ hm.2.1)) (out _ (mq _ hm.2.2))
  · exact h.bel.setCell (h.ge _ m3).1 _
/-- '*spans[len(spans)-1].Length++' -/
theorem St.setLen {R0 : List N2} {q0 : List Q3} {q : Q3} {o n m : Int} (h : St B sb db pb (R0 ++ [(o, n)]) Ds prev (q0 ++ [q]) vs vd w0 w) : St B sb db pb (R0 ++ [(o, m)]) Ds prev (q0 ++ [q]) vs vd w0 (w.setCell ⟨q.2.2, 0, none⟩ (.int .u32 m)) := by
  have k : w.grownBy (w.setCell ⟨q.2.2, 0, none⟩ (.int .u32 m)) (some q.2.2) := ⟨rfl, rfl, rfl, by simp [World.setCell], fun j hj hne => Below.heap_setCell w ⟨q.2.2, 0, none⟩ _ j (by rintro rfl; exact hne rfl)⟩
  have nd := h.nd
  have e : blocks sb db pb vs vd (q0 ++ [q]) = ([sb, db, pb] ++ vs.ownBlock.toList ++ vd.ownBlock.toList ++ qblocks q0 ++ [q.1, q.2.1]) ++ [q.2.2] := by simp [blocks, qblocks]
  rw [e, List.nodup_append] at nd
  have out : ∀ b ∈ [sb, db, pb] ++ vs.ownBlock.toList ++ vd.ownBlock.toList ++ qblocks q0 ++ [q.1, q.2.1], some b ≠ some q.2.2 := fun b hb e => by injection e with e; exact nd.2.2 b hb q.2.2 (by simp) e
  have lt : ∀ b ∈ [sb, db, pb] ++ vs.ownBlock.toList ++ vd.ownBlock.toList ++ qblocks q0 ++ [q.1, q.2.1], b < w.heap.size := fun b hb => (h.ge b (by rw [e]; exact List.mem_append.2 (Or.inl hb))).2
  have m1 : sb ∈ [sb, db, pb] ++ vs.ownBlock.toList ++ vd.ownBlock.toList ++ qblocks q0 ++ [q.1, q.2.1] := by simp
  have m2 : db ∈ [sb, db, pb] ++ vs.ownBlock.toList ++ vd.ownBlock.toList ++ qblocks q0 ++ [q.1, q.2.1] := by simp
  have m3 : pb ∈ [sb, db, pb] ++ vs.ownBlock.toList ++ vd.ownBlock.toList ++ qblocks q0 ++ [q.1, q.2.1] := by simp
  have m4 : q.1 ∈ [sb, db, pb] ++ vs.ownBlock.toList ++ vd.ownBlock.toList ++ qblocks q0 ++ [q.1, q.2.1] := by simp
  have m5 : q.2.1 ∈ [sb, db, pb] ++ vs.ownBlock.toList ++ vd.ownBlock.toList ++ qblocks q0 ++ [q.1, q.2.1] := by simp
  have mq : ∀ b ∈ qblocks q0, b ∈ [sb, db, pb] ++ vs.ownBlock.toList ++ vd.ownBlock.toList ++ qblocks q0 ++ [q.1, q.2.1] := fun b hb => by simp [hb]
  have ql := h.ql
  have hlen : R0.length = q0.length := by simp at ql; exact ql.symm
  have hlast := h.at_ q0.length (by simp) (by simp [hlen])
  rw [List.getElem_concat_length rfl] at hlast
  refine ⟨?_, ?_, ?_, ?_, ?_, ?_, ?_, ?_, ?_, by simp [hlen], ?_, h.nd, fun b hb => ⟨(h.ge b hb).1, Nat.lt_of_lt_of_le (h.ge b hb).2 k.size⟩, ?_⟩
  · rw [cell_kept k (lt _ m1) (out _ m1)]; exact h.cs
  · rw [cell_kept k (lt _ m2) (out _ m2)]; exact h.cd
  · rw [cell_kept k (lt _ m3) (out _ m3)]; exact h.cp
  · rw [World.frozen?_setCell]; exact h.fs
  · rw [World.frozen?_setCell]; exact h.fd
  · rw [World.frozen?_setCell]; exact h.fp
  · intro x hx
    rw [World.frozen?_setCell]; exact h.fl x hx
  · have := h.rs
    rw [List.length_append] at this ⊢
    refine this.kept k ?_
    cases e : vs.ownBlock with
    | none => exact Or.inl rfl
    | some b => exact Or.inr (out b (by simp [e]))
  · refine h.rd.kept k ?_
    cases e : vd.ownBlock with
    | none => exact Or.inl rfl
    | some b => exact Or.inr (out b (by simp [e]))
  · intro i hi h2
    by_cases hl : i < q0.length
    · have h3 := h.at_ i hi (by simp; omega)
      rw [List.getElem_append_left hl, List.getElem_append_left (by omega)] at h3
      rw [List.getElem_append_left hl, List.getElem_append_left (by omega)]
      have hm := mem_q (List.getElem_mem hl)
      exact h3.kept k (out _ (mq _ hm.1)) (out _ (mq _ hm.2.1)) (out _ (mq _ hm.2.2))
    · obtain rfl : i = q0.length := by simp at hi; omega
      have hq : (R0 ++ [(o, n)])[q0.length]'(by simp [hlen]) = (o, n) := by simp [← hlen]
      have hm : (R0 ++ [(o, m)])[q0.length]'(by simp [hlen]) = (o, m) := by simp [← hlen]
      rw [hq] at hlast
      rw [List.getElem_concat_length rfl, hm]
      refine ⟨?_, ?_, ?_, ?_, Nat.lt_of_lt_of_le hlast.lt.1 k.size, Nat.lt_of_lt_of_le hlast.lt.2.1 k.size, Nat.lt_of_lt_of_le hlast.lt.2.2 k.size⟩
      · rw [cell_kept k (lt _ m4) (out _ m4)]; exact hlast.off
      · rw [cell_kept k (lt _ m4) (out _ m4)]; exact hlast.len
      · rw [cell_kept k (lt _ m5) (out _ m5)]; exact hlast.o
      · exact World.cell?_setCell_same w ⟨q.2.2, 0, none⟩ _ hlast.l
  · exact h.bel.setCell (h.ge q.2.2 (by rw [e]; simp)).1 _
/-- 'deltas = append(deltas, d)', the variable a captured one -/
theorem St.push {d : Int} {vd2 : Value} {w2 : World} (h : St B sb db pb R Ds prev qs vs vd w0 w) (k : w.grownBy w2 vd.ownBlock) (ho : w2.ownsRow B 2 1 vd2 (Ds.length + 1) (Ds.map (.int .i64) ++ [.int .i64 d])) (hloc : vd2.ownBlock = vd.ownBlock ∨ vd2.ownBlock = some w.heap.size) (hB : B ≤ w.heap.size) :
    St B sb db pb R (Ds ++ [d]) prev qs vs vd2 w0 (w2.setCell ⟨db, 0, none⟩ vd2) := by
  have k2 : w2.grownBy (w2.setCell ⟨db, 0, none⟩ vd2) (some db) := ⟨rfl, rfl, rfl, by simp [World.setCell], fun j hj hne => Below.heap_setCell w2 ⟨db, 0, none⟩ _ j (by rintro rfl; exact hne rfl)⟩
  have nd := h.nd
  unfold blocks at nd
  rw [List.nodup_append, List.nodup_append, List.nodup_append] at nd
  obtain ⟨⟨⟨d1, d2, d3⟩, d4, d5⟩, d6, d7⟩ := nd
  simp only [List.nodup_cons, List.mem_cons, List.not_mem_nil, or_false, not_or] at d1
  obtain ⟨⟨n1, n2⟩, n3, _⟩ := d1
  have bl : ∀ b ∈ [sb, db, pb] ++ vs.ownBlock.toList, b ∈ blocks sb db pb vs vd qs := fun b hb => by unfold blocks; exact List.mem_append.2 (Or.inl (List.mem_append.2 (Or.inl hb)))
  have bq : ∀ b ∈ qblocks qs, b ∈ blocks sb db pb vs vd qs := fun b hb => by simp [blocks, hb]
  have e1 : ∀ b ∈ [sb, db, pb] ++ vs.ownBlock.toList, some b ≠ vd.ownBlock := fun b hb e => d5 b hb b (by rw [← e]; simp) rfl
  have e2 : ∀ b ∈ qblocks qs, some b ≠ vd.ownBlock := fun b hb e => d7 b (List.mem_append.2 (Or.inr (by rw [← e]; simp))) b hb rfl
  have f1 : ∀ b ∈ vs.ownBlock.toList, some b ≠ some db := fun b hb e => by injection e with e; exact d3 db (by simp) b hb e.symm
  have f2 : ∀ b ∈ qblocks qs, some b ≠ some db := fun b hb e => by injection e with e; exact d7 db (by simp) b hb e.symm
  have m1 : sb ∈ [sb, db, pb] ++ vs.ownBlock.toList := by simp
  have m2 : db ∈ [sb, db, pb] ++ vs.ownBlock.toList := by simp
  have m3 : pb ∈ [sb, db, pb] ++ vs.ownBlock.toList := by simp
  have mv : ∀ b ∈ vs.ownBlock.toList, b ∈ [sb, db, pb] ++ vs.ownBlock.toList := fun b hb => List.mem_append.2 (Or.inr hb)
  have lt : ∀ b ∈ blocks sb db pb vs vd qs, b < w.heap.size := fun b hb => (h.ge b hb).2
  have lt2 : ∀ b ∈ blocks sb db pb vs vd qs, b < w2.heap.size := fun b hb => Nat.lt_of_lt_of_le (lt b hb) k.size
  have s1 : some sb ≠ some db := fun e => by injection e with e; exact n1 e
  have s3 : some pb ≠ some db := fun e => by injection e with e; exact n3 e.symm
  have vlt : ∀ b, vd2.ownBlock = some b → B ≤ b ∧ b < w2.heap.size := fun b hb => ho.lt b hb
  have vne : ∀ b, vd2.ownBlock = some b → b ∉ [sb, db, pb] ++ vs.ownBlock.toList ∧ b ∉ qblocks qs := fun b hb => by
    rcases hloc with hl | hl
    · rw [hb] at hl
      exact ⟨fun hm => e1 b hm hl, fun hm => e2 b hm hl⟩
    · rw [hb] at hl
      injection hl with hl
      exact ⟨fun hm => by have := lt b (bl b hm); omega, fun hm => by have := lt b (bq b hm); omega⟩
  refine ⟨?_, ?_, ?_, ?_, ?_, ?_, ?_, ?_, ?_, h.ql, ?_, ?_, ?_, ?_⟩
  · rw [cell_kept k2 (lt2 _ (bl _ m1)) s1, cell_kept k (lt _ (bl _ m1)) (e1 _ m1)]; exact h.cs
  · exact World.cell?_setCell_same w2 ⟨db, 0, none⟩ _ (by rw [cell_kept k (lt _ (bl _ m2)) (e1 _ m2)]; exact h.cd)
  · rw [cell_kept k2 (lt2 _ (bl _ m3)) s3, cell_kept k (lt _ (bl _ m3)) (e1 _ m3)]; exact h.cp
  · rw [World.frozen?_setCell, frozen_kept k (lt _ (bl _ m1)) (e1 _ m1)]; exact h.fs
  · rw [World.frozen?_setCell, frozen_kept k (lt _ (bl _ m2)) (e1 _ m2)]; exact h.fd
  · rw [World.frozen?_setCell, frozen_kept k (lt _ (bl _ m3)) (e1 _ m3)]; exact h.fp
  · intro q hq
    have m := (mem_q hq).2.2
    rw [World.frozen?_setCell, frozen_kept k (lt _ (bq _ m)) (e2 _ m)]; exact h.fl q hq
  · have h1 : w2.ownsRow B 250 1 vs R.length (qs.map pv) := by
      refine h.rs.kept k ?_
      cases e : vs.ownBlock with
      | none => exact Or.inl rfl
      | some b => exact Or.inr (e1 b (mv b (by simp [e])))
    refine h1.kept k2 ?_
    cases e : vs.ownBlock with
    | none => exact Or.inl rfl
    | some b => exact Or.inr (f1 b (by simp [e]))
  · rw [List.length_append, List.map_append]
    refine ho.kept k2 ?_
    cases e : vd2.ownBlock with
    | none => exact Or.inl rfl
    | some b => exact Or.inr (fun e3 => by injection e3 with e3; exact (vne b e).1 (by rw [e3]; exact m2))
  · intro i hi h2
    have hm := mem_q (List.getElem_mem hi)
    exact ((h.at_ i hi h2).kept k (e2 _ hm.1) (e2 _ hm.2.1) (e2 _ hm.2.2)).kept k2 (f2 _ hm.1) (f2 _ hm.2.1) (f2 _ hm.2.2)
  · unfold blocks
    rw [List.nodup_append, List.nodup_append, List.nodup_append]
    refine ⟨⟨⟨by simp [n1, n2, n3], d2, d3⟩, ?_, ?_⟩, d6, ?_⟩
    · cases vd2.ownBlock <;> simp
    · intro a ha b hb e
      subst e
      exact (vne a (Option.mem_toList.1 hb)).1 ha
    · intro a ha b hb e
      subst e
      rcases List.mem_append.1 ha with ha | ha
      · exact d7 a (List.mem_append.2 (Or.inl ha)) a hb rfl
      · exact (vne a (Option.mem_toList.1 ha)).2 hb
  · intro b hb
    have sz : (w2.setCell ⟨db, 0, none⟩ vd2).heap.size = w2.heap.size := by simp [World.setCell]
    rw [sz]
    unfold blocks at hb
    rcases List.mem_append.1 hb with hb | hb
    · rcases List.mem_append.1 hb with hb | hb
      · exact ⟨(h.ge b (bl b hb)).1, lt2 b (bl b hb)⟩
      · exact vlt b (Option.mem_toList.1 hb)
    · exact ⟨(h.ge b (bq b hb)).1, lt2 b (bq b hb)⟩
  · have h1 : Below B w0 w2 := h.bel.grown k hB (fun j hj => (h.ge j (by unfold blocks; rw [hj]; simp)).1)
    exact h1.setCell (h.ge db (bl _ m2)).1 _
end

end Go.Proofs.YtlolomodcbkblaaGreatDoor.Sp
