/- Descriptors: a label pair pushed; the pairs sorted. Descriptors: the label pairs sorted by sort.Sort. Descriptors: sort.Sort of a row of label pairs: the same pairs, rising by name. -/
import Derived.Test.YtlolomodcbkblaaGreatDoorMg6
import Derived.RegionTactic
import Derived.Shelf.GgSortMore.SortSort
set_option linter.unusedVariables false
set_option linter.unusedSimpArgs false
namespace Go.Proofs.YtlolomodcbkblaaGreatDoor.Nd
open Go.RowKit Go.Maps Go.WideMaps Go.ChangeShapes Go.WideShapes Go.Deep Fp Obs

theorem new_four (W : World) (x1 x2 : Value) (C3 : Array Value) (x4 : Value) (T1 T2 T3 T4 : TypeId) :
    let V := (((W.alloc (.cells #[x1] T1)).alloc (.cells #[x2] T2)).alloc (.cells C3 T3)).alloc (.cells #[x4] T4)
    V.cell? ⟨W.heap.size, 0, none⟩ = some x1 ∧ V.cell? ⟨W.heap.size + 1, 0, none⟩ = some x2 ∧ (∀ j, V.cell? ⟨W.heap.size + 1 + 1, j, none⟩ = C3[j]?) ∧ (∀ j u, [x4][j]? = some u → V.cell? ((⟨W.heap.size + 1 + 1 + 1, 0, none⟩ : Addr).add j) = some u) ∧
      Below W.heap.size W V ∧ V.heap.size = W.heap.size + 1 + 1 + 1 + 1 := by
  intro V
  have s1 : (W.alloc (.cells #[x1] T1)).heap.size = W.heap.size + 1 := by simp
  have s2 : ((W.alloc (.cells #[x1] T1)).alloc (.cells #[x2] T2)).heap.size = W.heap.size + 1 + 1 := by simp
  have s3 : (((W.alloc (.cells #[x1] T1)).alloc (.cells #[x2] T2)).alloc (.cells C3 T3)).heap.size = W.heap.size + 1 + 1 + 1 := by simp
  have s4 : V.heap.size = W.heap.size + 1 + 1 + 1 + 1 := by simp [V]
  have c1 := Sl.cell_new W #[x1] T1 0
  have c2 := Sl.cell_new (W.alloc (.cells #[x1] T1)) #[x2] T2 0
  have c3 := fun j => Sl.cell_new ((W.alloc (.cells #[x1] T1)).alloc (.cells #[x2] T2)) C3 T3 j
  have c4 := cell_box (((W.alloc (.cells #[x1] T1)).alloc (.cells #[x2] T2)).alloc (.cells C3 T3)) x4 T4
  rw [s1] at c2
  simp only [s2] at c3
  rw [s3] at c4
  have o2 : ∀ (b j : Nat), b < W.heap.size + 1 → V.cell? ⟨b, j, none⟩ = (W.alloc (.cells #[x1] T1)).cell? ⟨b, j, none⟩ := fun b j hb => (Sl.cell_old _ _ _ _ (by rw [s3]; omega)).trans ((Sl.cell_old _ _ _ _ (by rw [s2]; omega)).trans (Sl.cell_old _ _ _ _ (by rw [s1]; omega)))
  have o3 : ∀ (b j : Nat), b < W.heap.size + 1 + 1 → V.cell? ⟨b, j, none⟩ = ((W.alloc (.cells #[x1] T1)).alloc (.cells #[x2] T2)).cell? ⟨b, j, none⟩ := fun b j hb => (Sl.cell_old _ _ _ _ (by rw [s3]; omega)).trans (Sl.cell_old _ _ _ _ (by rw [s2]; omega))
  refine ⟨(o2 _ _ (by omega)).trans c1, (o3 _ _ (by omega)).trans c2, fun j => (Sl.cell_old _ _ _ _ (by rw [s3]; omega)).trans (c3 j), c4, ?_, s4⟩
  exact ((((Below.refl _ _).alloc (Nat.le_refl _) _).alloc (by simp) _).alloc (by simp; omega) _).alloc (by simp; omega) _
/-- a new label pair: its own blocks, whatever their order -/
structure NewPair (W W1 : World) (q : Q3) (p : P2) : Prop where
  at_ : PairAt W1 q p
  bel : Below W.heap.size W W1
  sz : W1.heap.size = W.heap.size + 1 + 1 + 1 + 1
  ge : W.heap.size ≤ q.1 ∧ W.heap.size ≤ q.2.1 ∧ W.heap.size ≤ q.2.2
  ne : q.1 ≠ q.2.1 ∧ q.1 ≠ q.2.2 ∧ q.2.1 ≠ q.2.2
def pairA (W : World) (x y : ByteArray) : World := (((W.alloc (.cells #[.string x] 9)).alloc (.cells #[.string y] 9)).alloc (.cells #[.pointer (some ⟨W.heap.size, 0, none⟩), .pointer (some ⟨W.heap.size + 1, 0, none⟩)] 304)).alloc (.cells #[.pointer (some ⟨W.heap.size + 1 + 1, 0, none⟩)] 300)
def pairB (W : World) (x y : ByteArray) : World := (((W.alloc (.cells #[.string y] 9)).alloc (.cells #[.string x] 9)).alloc (.cells #[.pointer (some ⟨W.heap.size + 1, 0, none⟩), .pointer (some ⟨W.heap.size, 0, none⟩)] 304)).alloc (.cells #[.pointer (some ⟨W.heap.size + 1 + 1, 0, none⟩)] 300)
theorem newA (W : World) (x y : ByteArray) : NewPair W (pairA W x y) (W.heap.size + 1 + 1, W.heap.size, W.heap.size + 1) (x, y) := by
  obtain ⟨h1, h2, h3, h4, h7, h8⟩ := new_four W (.string x) (.string y) #[.pointer (some ⟨W.heap.size, 0, none⟩), .pointer (some ⟨W.heap.size + 1, 0, none⟩)] (.pointer (some ⟨W.heap.size + 1 + 1, 0, none⟩)) 9 9 304 300
  refine ⟨⟨h3 0, h3 1, h1, h2, ?_⟩, h7, h8, ?_, ?_⟩
  · unfold pairA; rw [h8]; simp only; omega
  · simp only; omega
  · simp only; omega
theorem newB (W : World) (x y : ByteArray) : NewPair W (pairB W x y) (W.heap.size + 1 + 1, W.heap.size + 1, W.heap.size) (x, y) := by
  obtain ⟨h1, h2, h3, h4, h7, h8⟩ := new_four W (.string y) (.string x) #[.pointer (some ⟨W.heap.size + 1, 0, none⟩), .pointer (some ⟨W.heap.size, 0, none⟩)] (.pointer (some ⟨W.heap.size + 1 + 1, 0, none⟩)) 9 9 304 300
  refine ⟨⟨h3 0, h3 1, h2, h1, ?_⟩, h7, h8, ?_, ?_⟩
  · unfold pairB; rw [h8]; simp only; omega
  · simp only; omega
  · simp only; omega
section
variable {B r : Nat} {w0 w w1 w2 : World} {l rr : List Ob} {m : Option Nat} {L : List P2} {ks : List ByteArray} {cnt : Nat}
/-- the pairs' row grown by one -/
theorem Lp.pair {v v' : Value} {qs : List Q3} {ps : List P2} {q : Q3} {p : P2} (h : Lp B w0 (l ++ PairsOb B v qs ps :: rr) r m L ks cnt w) (hm : ∀ b, m = some b → b < B) (hn : NewPair w w1 q p) (k : w1.grownBy w2 v.ownBlock)
    (ho : w2.ownsRow B 300 1 v' (ps.length + 1) (qs.map pv ++ [pv q])) (hloc : v'.ownBlock = v.ownBlock ∨ v'.ownBlock = some w1.heap.size) :
    Lp B w0 (l ++ PairsOb B v' (qs ++ [q]) (ps ++ [p]) :: rr) r m L ks cnt w2 := by
  have hP : (PairsOb B v qs ps).P w := h.here
  obtain ⟨p1, p2, p3⟩ := hP
  have k2 : w.grownBy w2 v.ownBlock := ((grown_below hn.bel).but v.ownBlock).trans k
  have hst : Sts B w0 (l ++ PairsOb B v qs ps :: (rr ++ [obApart r])) w := by have := h.st; simpa using this
  have nd := hst.nd
  rw [blocks_mid, List.nodup_append, List.nodup_append] at nd
  have nd2 : (v.ownBlock.toList ++ qblocks qs).Nodup := nd.2.1.1
  rw [List.nodup_append] at nd2
  have lt : ∀ b ∈ (PairsOb B v qs ps).bs, b < w.heap.size := fun b hb => (hst.ge b (by rw [blocks_mid]; exact List.mem_append.2 (Or.inr (List.mem_append.2 (Or.inl hb))))).2
  have vlt : ∀ b, v.ownBlock = some b → b < w.heap.size := fun b hb => lt b (List.mem_append.2 (Or.inl (by rw [hb]; simp)))
  have qlt : ∀ b ∈ qblocks qs, b < w.heap.size := fun b hb => lt b (List.mem_append.2 (Or.inr hb))
  have far : ∀ b ∈ qblocks qs, some b ≠ v.ownBlock := fun b hb e => nd2.2.2 b (by rw [← e]; simp) b hb rfl
  have new : ∀ b, w.heap.size ≤ b → some b ≠ v.ownBlock := fun b hb e => by have := vlt b e.symm; omega
  have hz := hn.bel.size
  have hqlt := hn.at_.lt
  have hsz2 := k.size
  refine h.set hm k2 (fun b e => List.mem_append.2 (Or.inl (by rw [e]; simp))) (o' := PairsOb B v' (qs ++ [q]) (ps ++ [p])) ⟨?_, by simp [p2], fun i hi h2 => ?_⟩ (fun b hb => ?_) ?_
  · rw [List.length_append, List.map_append]; exact ho
  · by_cases hl : i < qs.length
    · have h3 := p3 i hl (by omega)
      rw [List.getElem_append_left hl, List.getElem_append_left (by omega)]
      have m3 := mem_q (List.getElem_mem hl)
      exact h3.kept k2 (far _ m3.1) (far _ m3.2.1) (far _ m3.2.2)
    · obtain rfl : i = qs.length := by simp at hi; omega
      rw [List.getElem_concat_length rfl]
      have hr : (ps ++ [p])[qs.length]'h2 = p := by simp [p2]
      rw [hr]
      exact hn.at_.kept k (new _ hn.ge.1) (new _ hn.ge.2.1) (new _ hn.ge.2.2)
  · rcases List.mem_append.1 hb with hb | hb
    · have hb' : v'.ownBlock = some b := Option.mem_toList.1 hb
      rcases hloc with hl | hl
      · exact Or.inl (List.mem_append.2 (Or.inl (by rw [← hl, hb']; simp)))
      · right
        rw [hl] at hb'
        injection hb' with hb'
        have := (ho.lt b (by rw [hl, hb'])).2
        omega
    · have e : qblocks (qs ++ [q]) = qblocks qs ++ [q.1, q.2.1, q.2.2] := by simp [qblocks]
      rw [e] at hb
      rcases List.mem_append.1 hb with hb | hb
      · exact Or.inl (List.mem_append.2 (Or.inr hb))
      · right
        simp only [List.mem_cons, List.not_mem_nil, or_false] at hb
        rcases hb with rfl | rfl | rfl
        · exact ⟨hn.ge.1, by omega⟩
        · exact ⟨hn.ge.2.1, by omega⟩
        · exact ⟨hn.ge.2.2, by omega⟩
  · have e : qblocks (qs ++ [q]) = qblocks qs ++ [q.1, q.2.1, q.2.2] := by simp [qblocks]
    show (v'.ownBlock.toList ++ qblocks (qs ++ [q])).Nodup
    rw [e, List.nodup_append, List.nodup_append]
    have vn : ∀ b, v'.ownBlock = some b → b ∉ qblocks qs ∧ b ≠ q.1 ∧ b ≠ q.2.1 ∧ b ≠ q.2.2 := fun b hb => by
      rcases hloc with hl | hl
      · rw [hb] at hl
        have h5 := vlt b hl.symm
        exact ⟨fun hm => far b hm hl, by have := hn.ge; omega, by have := hn.ge; omega, by have := hn.ge; omega⟩
      · rw [hb] at hl
        injection hl with hl
        exact ⟨fun hm => by have := qlt b hm; omega, by omega, by omega, by omega⟩
    refine ⟨row_nodup v', ⟨nd2.2.1, by simp [hn.ne.1, hn.ne.2.1, hn.ne.2.2], fun a ha b hb e2 => ?_⟩, fun a ha b hb e2 => ?_⟩
    · subst e2
      have := qlt a ha
      simp only [List.mem_cons, List.not_mem_nil, or_false] at hb
      have := hn.ge
      omega
    · subst e2
      have hv := vn a (Option.mem_toList.1 ha)
      rcases List.mem_append.1 hb with hb | hb
      · exact hv.1 hb
      · simp only [List.mem_cons, List.not_mem_nil, or_false] at hb
        rcases hb with hb | hb | hb
        · exact hv.2.1 hb
        · exact hv.2.2.1 hb
        · exact hv.2.2.2 hb
theorem Lp.put {g : Nat} {T : TypeId} {cells : Array Value} (h : Lp B w0 (l ++ obBlock g T cells :: rr) r m L ks cnt w) (hm : ∀ b, m = some b → b < B) (i : Nat) (u : Value) : Lp B w0 (l ++ obBlock g T (cells.setIfInBounds i u) :: rr) r m L ks cnt (w.setCell ⟨g, i, none⟩ u) := by
  have hh : Whole w g T cells := h.here
  exact h.set hm (put_grown w g i u) (fun b e => by injection e with e; subst e; exact List.mem_singleton.2 rfl) (o' := obBlock g T (cells.setIfInBounds i u)) (hh.put i u) (fun b hb => Or.inl hb) (by simp [obBlock])
end

end Go.Proofs.YtlolomodcbkblaaGreatDoor.Nd

set_option linter.unusedVariables false
set_option linter.unusedSimpArgs false
namespace Go.Proofs.YtlolomodcbkblaaGreatDoor.Nd
open Go.RowKit Go.Maps Go.WideMaps Go.ChangeShapes Go.WideShapes Go.Deep Fp Obs
open Go.Sort (Holds putRow putCells mapBlock onCells PermIn SortedIn SWO grow heap_grow_old)
open Go.Shelf

/-- two strictly rising lists with the same pairs are one -/
theorem srt_eq : ∀ {A B : List P2}, Srt A → Srt B → (∀ q, q ∈ A ↔ q ∈ B) → A = B
  | [], [], _, _, _ => rfl
  | [], b :: B, _, _, h => absurd ((h b).2 (by simp)) (by simp)
  | a :: A, [], _, _, h => absurd ((h a).1 (by simp)) (by simp)
  | a :: A, b :: B, hA, hB, h => by
    rw [Srt, List.pairwise_cons] at hA hB
    have e : a = b := by
      rcases List.mem_cons.1 ((h a).1 (by simp)) with h1 | h1
      · exact h1
      · rcases List.mem_cons.1 ((h b).2 (by simp)) with h2 | h2
        · exact h2.symm
        · have := bl_trans (hB.1 a h1) (hA.1 b h2)
          rw [bl_irr] at this
          cases this
    subst e
    congr 1
    refine srt_eq hA.2 hB.2 fun q => ?_
    constructor
    · intro hq
      rcases List.mem_cons.1 ((h q).1 (List.mem_cons_of_mem _ hq)) with h1 | h1
      · subst h1
        have := hA.1 q hq
        rw [bl_irr] at this
        cases this
      · exact h1
    · intro hq
      rcases List.mem_cons.1 ((h q).2 (List.mem_cons_of_mem _ hq)) with h1 | h1
      · subst h1
        have := hB.1 q hq
        rw [bl_irr] at this
        cases this
      · exact h1

section
variable {α : Type} [Inhabited α] {enc : α → Value}
theorem holds_row {w : World} {g : Nat} {cur : Array Value} {e : TypeId} {ss : List α} (hb : w.heap[g]? = some (.cells cur e (0, 0))) (ht : cur.toList.take ss.length = ss.map enc) : Holds enc w g 0 ss.toArray := by
  intro j hj
  have hj' : j < ss.length := by simpa using hj
  refine ⟨?_, by simp [World.frozen?, hb]⟩
  have h1 : (cur.toList.take ss.length)[j]? = (ss.map enc)[j]? := by rw [ht]
  rw [List.getElem?_take_of_lt hj'] at h1
  simp only [World.cell?, hb, Nat.zero_add]
  simp only [Option.isSome_none, Bool.false_eq_true, if_false]
  rw [← Array.getElem?_toList, h1]
  simp [hj']
theorem heap_row {w : World} {g n : Nat} {os : Array Obj} {cur : Array Value} {e : TypeId} {fr : Nat × Nat} (d : Array α) (hb : w.heap[g]? = some (.cells cur e fr)) :
    (grow (putRow enc (Sort.ahead w n) g 0 d) os).heap[g]? = some (.cells (putCells enc 0 d cur) e fr) := by
  have hg : g < w.heap.size := (Array.getElem?_eq_some_iff.1 hb).1
  rw [heap_grow_old _ _ (by simpa using hg)]
  simp [putRow, mapBlock, Sort.ahead, Array.getElem?_modify, hb, onCells]
theorem grown_row {w : World} {g n : Nat} {os : Array Obj} (d : Array α) : w.grownBy (grow (putRow enc (Sort.ahead w n) g 0 d) os) (some g) := by
  refine ⟨rfl, rfl, rfl, by simp, fun k hk hne => ?_⟩
  rw [heap_grow_old _ _ (by simpa using hk)]
  have : g ≠ k := fun e => hne (by rw [e])
  simp [putRow, mapBlock, Sort.ahead, Array.getElem?_modify, this]
theorem take_row (cur : Array Value) (ts : List α) (h : ts.length ≤ cur.size) : (putCells enc 0 ts.toArray cur).toList.take ts.length = ts.map enc := by
  apply List.ext_getElem?
  intro j
  by_cases hj : j < ts.length
  · rw [List.getElem?_take_of_lt hj, Array.getElem?_toList]
    simp [putCells, hj, show j < cur.size by omega]
  · rw [List.getElem?_take_eq_none (by omega), List.getElem?_eq_none (by simp; omega)]
theorem owns_row {w : World} {base g cap n : Nat} {e : TypeId} {os : Array Obj} {cur : Array Value} {ss ts : List α} (hl : ts.length = ss.length) (hbase : base ≤ g) (hb : w.heap[g]? = some (.cells cur e (0, 0)))
    (h1 : ss.length ≤ cap) (h2 : cap ≤ maxLen) (h3 : cur.size = cap * 1) :
    (grow (putRow enc (Sort.ahead w n) g 0 ts.toArray) os).ownsRow base e 1 (.slice (some ⟨g, 0, none⟩) ss.length cap) ss.length (ts.map enc) :=
  ⟨by simp [hl], .inr ⟨g, cap, _, rfl, hbase, heap_row _ hb, h1, h2, by simp [putCells, h3], by rw [Nat.mul_one, ← hl]; exact take_row cur ts (by omega)⟩⟩
end

set_option maxHeartbeats 2000000 in
set_option maxRecDepth 100000 in
theorem getName_any (q a : Nat) (s : ByteArray) (w : World) (h1 : w.cell? ⟨q, 0, none⟩ = some (.pointer (some ⟨a, 0, none⟩))) (h2 : w.cell? ⟨a, 0, none⟩ = some (.string s)) :
    Calls Tryz.prog 146 #[.pointer (some ⟨q, 0, none⟩)] w fun e w' => e = .returned (.string s) ∧ w' = w := by
  go_enter Tryz.func146, Tryz.ntmps146
  go_wp2_with fail
  go_ret
  exact ⟨rfl, rfl⟩
set_option maxHeartbeats 2000000 in
set_option maxRecDepth 100000 in
theorem getValue_any (q a : Nat) (s : ByteArray) (w : World) (h1 : w.cell? ⟨q, 1, none⟩ = some (.pointer (some ⟨a, 0, none⟩))) (h2 : w.cell? ⟨a, 0, none⟩ = some (.string s)) :
    Calls Tryz.prog 147 #[.pointer (some ⟨q, 0, none⟩)] w fun e w' => e = .returned (.string s) ∧ w' = w := by
  go_enter Tryz.func147, Tryz.ntmps147
  go_wp2_with fail
  go_ret
  exact ⟨rfl, rfl⟩

theorem len_reached (p : Option Addr) (n c : Nat) : Reaches Tryz.prog 306 (.slice p n c) "Len" 276 := ⟨fun _ => by kernel_rfl, enters_of Tryz.func276 (by kernel_rfl) rfl⟩
theorem less_reached (p : Option Addr) (n c : Nat) : Reaches Tryz.prog 306 (.slice p n c) "Less" 277 := ⟨fun _ => by kernel_rfl, enters_of Tryz.func277 (by kernel_rfl) rfl⟩
theorem swap_reached (p : Option Addr) (n c : Nat) : Reaches Tryz.prog 306 (.slice p n c) "Swap" 278 := ⟨fun _ => by kernel_rfl, enters_of Tryz.func278 (by kernel_rfl) rfl⟩
theorem pair_Len (p : Option Addr) (n c : Nat) (W : World) : LenM Tryz.prog 276 (.slice p n c) n W := by
  unfold LenM
  go_enter Tryz.func276, Tryz.ntmps276
  go_wp2
  go_ret
  exact ⟨rfl, 0, rfl⟩
set_option maxHeartbeats 4000000 in
set_option maxRecDepth 100000 in
theorem pair_Less (blk c size : Nat) (W : World) (i j : Nat) (hi : i < size) (hj : j < size) (hsz : size < 4611686018427387904) (q1 a1 q2 a2 : Nat) (s1 s2 : ByteArray)
    (ci : W.cell? ⟨blk, 0 + i, none⟩ = some (.pointer (some ⟨q1, 0, none⟩))) (cj : W.cell? ⟨blk, 0 + j, none⟩ = some (.pointer (some ⟨q2, 0, none⟩)))
    (h1 : W.cell? ⟨q1, 0, none⟩ = some (.pointer (some ⟨a1, 0, none⟩))) (h2 : W.cell? ⟨a1, 0, none⟩ = some (.string s1)) (h3 : W.cell? ⟨q2, 0, none⟩ = some (.pointer (some ⟨a2, 0, none⟩))) (h4 : W.cell? ⟨a2, 0, none⟩ = some (.string s2)) :
    Calls Tryz.prog 277 #[.slice (some ⟨blk, 0, none⟩) size c, .int .i64 i, .int .i64 j] W fun e w' => e = .returned (.bool (bl s1 s2)) ∧ ∃ q, w' = W.drewN q := by
  rw [Nat.zero_add] at ci cj
  have z1 : (0 : Int) ≤ (i : Int) := by omega
  have z2 : (i : Int) < (size : Int) := by omega
  have z3 : (0 : Int) ≤ (j : Int) := by omega
  have z4 : (j : Int) < (size : Int) := by omega
  go_enter Tryz.func277, Tryz.ntmps277
  go_wp2_with fail
  go_quiet ((go_at_call 146; exact Calls.quiet_of_same (getName_any _ _ _ _ (by first | exact h1 | exact h3) (by first | exact h2 | exact h4))))
  go_wp2_with fail
  go_ret
  exact ⟨rfl, nq, rfl⟩
set_option maxHeartbeats 4000000 in
set_option maxRecDepth 100000 in
theorem pair_Swap (blk c size : Nat) (W : World) (qx qy : Addr) (i j : Nat) (hi : i < size) (hj : j < size) (hsz : size < 4611686018427387904)
    (ci : W.cell? ⟨blk, 0 + i, none⟩ = some (.pointer (some qx))) (cj : W.cell? ⟨blk, 0 + j, none⟩ = some (.pointer (some qy))) (fi : W.frozen? ⟨blk, 0 + i, none⟩ = false) (fj : W.frozen? ⟨blk, 0 + j, none⟩ = false) :
    Calls Tryz.prog 278 #[.slice (some ⟨blk, 0, none⟩) size c, .int .i64 i, .int .i64 j] W fun e w' => e = .returned (.tuple #[]) ∧ ∃ q, w' = ((W.setCell ⟨blk, 0 + i, none⟩ (.pointer (some qy))).setCell ⟨blk, 0 + j, none⟩ (.pointer (some qx))).drewN q := by
  rw [Nat.zero_add] at ci cj fi fj
  rw [Nat.zero_add, Nat.zero_add]
  obtain ⟨v', hy'⟩ := cell?_setCell_some (w := W) (p := ⟨blk, i, none⟩) (x := .pointer (some qy)) (q := ⟨blk, j, none⟩) cj
  go_enter Tryz.func278, Tryz.ntmps278
  go_wp2
  go_region
  all_goals (try go_wp2)
  all_goals go_end0
  all_goals exact ⟨rfl, 1, rfl⟩

end Go.Proofs.YtlolomodcbkblaaGreatDoor.Nd

set_option linter.unusedVariables false
set_option linter.unusedSimpArgs false
namespace Go.Proofs.YtlolomodcbkblaaGreatDoor.Nd
open Go.RowKit Go.Maps Go.WideMaps Go.ChangeShapes Go.WideShapes Go.Deep Fp Obs
open Go.Sort (Holds putRow PermIn SortedIn SWO grow heap_grow_old cell?_grow)
open Go.Shelf

/-- a label pair in memory, apart from block g -/
structure El (w : World) (g : Nat) where
  q : Q3
  p : P2
  at_ : PairAt w q p
  n1 : q.1 ≠ g
  n2 : q.2.1 ≠ g
  n3 : q.2.2 ≠ g
def encE {w : World} {g : Nat} (x : El w g) : Value := pv x.q
def ltE {w : World} {g : Nat} (x y : El w g) : Bool := bl x.p.1 y.p.1
theorem swoE (w : World) (g : Nat) : SWO (ltE (w := w) (g := g)) where
  irrefl x := bl_irr _
  trans x y z h1 h2 := bl_trans h1 h2
  ntrans x y z h1 h2 := by
    unfold ltE at *
    cases h : bl x.p.1 z.p.1 with
    | false => rfl
    | true =>
      exfalso
      by_cases e : x.p.1 = y.p.1
      · rw [e, h2] at h; cases h
      · have h3 := bl_tot h1 e
        have h4 := bl_trans h3 h
        rw [h2] at h4; cases h4
section
variable {w : World} {g : Nat} [Inhabited (El w g)]
theorem cell_sorted (m : Nat) (dk : Array (El w g)) (os : Array Obj) {b j : Nat} (hb : b < w.heap.size) (hne : b ≠ g) : (sortWorld (encE (w := w) (g := g)) w g 0 m dk os).cell? ⟨b, j, none⟩ = w.cell? ⟨b, j, none⟩ := by
  have k : w.grownBy (sortWorld (encE (w := w) (g := g)) w g 0 m dk os) (some g) := grown_row (enc := encE (w := w) (g := g)) dk
  exact cell_kept k hb (fun e => by injection e with e; exact hne e)
theorem pairs_LessM (c : Nat) (d : Array (El w g)) (hH : Holds (encE (w := w) (g := g)) w g 0 d) (hblk : g < w.heap.size) (hsz : d.size < 4611686018427387904) :
    LessM Tryz.prog 277 (.slice (some ⟨g, 0, none⟩) d.size c) (encE (w := w) (g := g)) ltE g 0 d.size w := fun m os dk hs i j hi hj => by
  have hh := holds_sortWorld (encE (w := w) (g := g)) w g 0 m d dk os hblk hH hs
  have ci := (hh i (by omega)).1
  have cj := (hh j (by omega)).1
  have e1 := dk[i]!.at_
  have e2 := dk[j]!.at_
  exact pair_Less g c d.size _ i j hi hj hsz dk[i]!.q.1 dk[i]!.q.2.1 dk[j]!.q.1 dk[j]!.q.2.1 dk[i]!.p.1 dk[j]!.p.1 ci cj
    (by rw [cell_sorted m dk os e1.lt.1 dk[i]!.n1]; exact e1.nm) (by rw [cell_sorted m dk os e1.lt.2.1 dk[i]!.n2]; exact e1.n)
    (by rw [cell_sorted m dk os e2.lt.1 dk[j]!.n1]; exact e2.nm) (by rw [cell_sorted m dk os e2.lt.2.1 dk[j]!.n2]; exact e2.n)
theorem pairs_SwapM (c size : Nat) (hsz : size < 4611686018427387904) : SwapM Tryz.prog 278 (.slice (some ⟨g, 0, none⟩) size c) (encE (w := w) (g := g)) g 0 size := fun W dk hH hs i j hi hj =>
  pair_Swap g c size W ⟨dk[i]!.q.1, 0, none⟩ ⟨dk[j]!.q.1, 0, none⟩ i j hi hj hsz (hH i (by omega)).1 (hH j (by omega)).1 (hH i (by omega)).2 (hH j (by omega)).2
end

theorem pairs_sort {B : Nat} {v : Value} {qs : List Q3} {ps : List P2} {w : World} (hrow : w.ownsRow B 300 1 v ps.length (qs.map pv)) (hl : qs.length = ps.length) (hat : ∀ i (h : i < qs.length) (h2 : i < ps.length), PairAt w qs[i] ps[i])
    (hne : ∀ q ∈ qs, some q.1 ≠ v.ownBlock ∧ some q.2.1 ≠ v.ownBlock ∧ some q.2.2 ≠ v.ownBlock) (hn : (ps.map (·.1)).Nodup) (hsz : ps.length < 4611686018427387904) :
    Calls Tryz.prog 122 #[.iface 306 v] w fun e w' => e = .returned (.tuple #[]) ∧ ∃ (qs' : List Q3) (ps' : List P2), w'.ownsRow B 300 1 v ps.length (qs'.map pv) ∧ qs'.length = ps'.length ∧ ps'.Perm ps ∧ Srt ps' ∧
      (∀ i (h : i < qs'.length) (h2 : i < ps'.length), PairAt w' qs'[i] ps'[i]) ∧ w.grownBy w' v.ownBlock := by
  obtain ⟨a, c, hv⟩ := row_slice2 hrow
  by_cases h1 : ps.length ≤ 1
  · subst hv
    refine (Sh.sort_Sort_tiny (α := Nat) 306 (.slice a ps.length c) _ (len_reached _ _ _) ps.length h1 w (pair_Len _ _ _ _)).mono ?_
    rintro e w' ⟨rfl, q, rfl⟩
    refine ⟨rfl, qs, ps, hrow, hl, List.Perm.refl _, ?_, fun i h h2 => (hat i h h2).below (bdr (Below.refl _ _) q), ?_⟩
    · match ps, h1 with
      | [], _ => simp [Srt]
      | [p], _ => simp [Srt]
      | _ :: _ :: _, h1 => simp at h1
    · have := bdr (Below.refl w.heap.size w) q
      exact (grown_below this).but _
  · rcases hrow.2 with ⟨_, h0⟩ | ⟨g, cap, cur, hv2, hB, hcur, hnc, hcap, hcs, ht⟩
    · omega
    · subst hv2
      have hg : g < w.heap.size := (Array.getElem?_eq_some_iff.1 hcur).1
      have hx : ∀ i, i < ps.length → ∃ x : El w g, qs[i]? = some x.q ∧ ps[i]? = some x.p := fun i hi => by
        have hi2 : i < qs.length := by omega
        have m := hne _ (List.getElem_mem hi2)
        exact ⟨⟨qs[i], ps[i], hat i hi2 hi, fun e => m.1 (by rw [e]; rfl), fun e => m.2.1 (by rw [e]; rfl), fun e => m.2.2 (by rw [e]; rfl)⟩, List.getElem?_eq_getElem hi2, List.getElem?_eq_getElem hi⟩
      -- the elements
      have hes : ∀ n, n ≤ ps.length → ∃ xs : List (El w g), xs.map (·.q) = qs.take n ∧ xs.map (·.p) = ps.take n := by
        intro n
        induction n with
        | zero => intro _; exact ⟨[], by simp, by simp⟩
        | succ n ih =>
          intro hn
          obtain ⟨xs, e1, e2⟩ := ih (by omega)
          obtain ⟨x, e3, e4⟩ := hx n (by omega)
          refine ⟨xs ++ [x], ?_, ?_⟩
          · rw [List.map_append, e1, List.take_add_one, e3]; rfl
          · rw [List.map_append, e2, List.take_add_one, e4]; rfl
      obtain ⟨xs, e1, e2⟩ := hes ps.length (Nat.le_refl _)
      rw [← hl, List.take_length] at e1
      rw [List.take_length] at e2
      have hlx : xs.length = ps.length := by rw [← e2, List.length_map]
      haveI : Inhabited (El w g) := ⟨xs[0]'(by omega)⟩
      have hH : Holds (encE (w := w) (g := g)) w g 0 xs.toArray := holds_row hcur (by
        rw [hlx]
        have := ht
        rw [Nat.mul_one] at this
        rw [this, ← e1, List.map_map]
        rfl)
      have hsize : xs.toArray.size = ps.length := by simpa using hlx
      have hS := Sh.sort_Sort_sorted 306 (.slice (some ⟨g, 0, none⟩) xs.toArray.size cap) _ _ _ (len_reached _ _ _) (less_reached _ _ _) (swap_reached _ _ _) (encE (w := w) (g := g)) ltE (swoE w g) g 0 xs.toArray (by omega) (by omega) w
        (pair_Len _ _ _ _) (pairs_LessM cap xs.toArray hH hg (by omega)) (pairs_SwapM cap _ (by omega)) hH hg
      rw [hsize] at hS
      refine hS.mono ?_
      rintro e w' ⟨rfl, d', n, os, ⟨hp1, _, hp3⟩, hso, rfl⟩
      have hd : d'.size = ps.length := by rw [hp1]; exact hsize
      have hperm : d'.toList.Perm xs := by
        rw [← hsize, ← hp1] at hp3
        rw [Array.extract_size, hp1, Array.extract_size] at hp3
        simpa using hp3
      have hget : ∀ i (h : i < d'.size), d'[i]! = d'.toList[i]'(by simpa using h) := fun i h => by simp [h]
      have k : w.grownBy (grow (putRow (encE (w := w) (g := g)) (Sort.ahead w n) g 0 d') os) (some g) := grown_row d'
      refine ⟨rfl, d'.toList.map (·.q), d'.toList.map (·.p), ?_, by simp, ?_, ?_, ?_, k⟩
      · have h5 := owns_row (enc := encE (w := w) (g := g)) (n := n) (os := os) (ss := xs) (ts := d'.toList) (e := 300) (by rw [hlx]; simpa using hd) hB hcur (by rw [hlx]; exact hnc) hcap hcs
        rw [hlx] at h5
        have e5 : (d'.toList.map (·.q)).map pv = d'.toList.map (encE (w := w) (g := g)) := by rw [List.map_map]; rfl
        rw [e5]
        simpa using h5
      · have := hperm.map (·.p)
        rw [e2] at this
        exact this
      · rw [Srt, List.pairwise_map, List.pairwise_iff_getElem]
        intro i j hi hj hij
        have hi' : i < d'.size := by simpa using hi
        have hj' : j < d'.size := by simpa using hj
        have h6 := hso i j (Nat.zero_le _) hij (by rw [← hd]; exact hj')
        rw [hget i hi', hget j hj'] at h6
        refine bl_tot h6 (fun e7 => ?_)
        have hnd : ((d'.toList.map (·.p)).map (·.1)).Nodup := by
          have hp5 := (hperm.map (·.p)).map (·.1)
          rw [e2] at hp5
          exact hp5.nodup_iff.2 hn
        rw [List.nodup_iff_pairwise_ne, List.map_map, List.pairwise_map, List.pairwise_iff_getElem] at hnd
        exact hnd i j hi hj hij e7.symm
      · intro i h h2
        have hi : i < d'.toList.length := by simpa using h
        have h6 := d'.toList[i].at_
        have e8 : (d'.toList.map (·.q))[i] = d'.toList[i].q := by simp
        have e9 : (d'.toList.map (·.p))[i] = d'.toList[i].p := by simp
        rw [e8, e9]
        exact h6.kept k (fun e => by injection e with e; exact d'.toList[i].n1 e) (fun e => by injection e with e; exact d'.toList[i].n2 e) (fun e => by injection e with e; exact d'.toList[i].n3 e)

theorem sorted_fit {ps ps' L : List P2} {kn : List ByteArray} (hp : ps'.Perm ps) (hs : Srt ps') (h1 : ps.map (·.1) = kn) (h2 : ∀ p ∈ ps, p ∈ fit L) (hd : ∀ k, k ∈ kn ↔ (lastV L k).isSome = true) : ps' = fit L := by
  refine srt_eq hs (fit_srt L) fun q => ?_
  rw [hp.mem_iff]
  refine ⟨h2 q, fun hq => ?_⟩
  have hq2 := (mem_fit L q).1 hq
  have hk : q.1 ∈ kn := (hd q.1).2 (by rw [hq2]; rfl)
  rw [← h1] at hk
  obtain ⟨r, hr, e⟩ := List.mem_map.1 hk
  have hr2 := (mem_fit L r).1 (h2 r hr)
  have e2 : q.1 = r.1 := e.symm
  rw [e2, hr2] at hq2
  injection hq2 with hq2
  have : q = r := by
    obtain ⟨a, b⟩ := q
    obtain ⟨a', b'⟩ := r
    simp only at e2 hq2
    rw [e2, hq2]
  rw [this]; exact hr
/-- what NewDesc leaves -/
theorem desc_out {B d c : Nat} {w wr wz : World} {nm hp un ID DM : ByteArray} {V : List ByteArray} {L : List P2} {v vn : Value} {qs qs' : List Q3} {ps ps' : List P2}
    (hB : w.heap.size = B) (h : Sts B w [obBlock d 188 #[.string nm, .string hp, .string un, v, .pointer (some ⟨c, 0, none⟩), .string ID, .string DM, .nilIface], obBlock c 229 #[vn, .map none], PairsOb B v qs ps] wr)
    (hID : ID = mkB (idOf nm (fit L))) (hDM : DM = mkB (dimOf hp un V (fit L))) (hV : Sl.Of Value.string w vn V) (hl : qs'.length = ps'.length) (hrow : wz.ownsRow B 300 1 v ps.length (qs'.map pv)) (hperm : ps'.Perm ps)
    (hat : ∀ i (h : i < qs'.length) (h2 : i < ps'.length), PairAt wz qs'[i] ps'[i]) (hg : wr.grownBy wz v.ownBlock) (hf : ps' = fit L) :
    DescAt wz d nm hp un V (fit L) v c vn ∧ Below w.heap.size w wz := by
  have hbel : Below B w wz := h.bel.grown hg (by have := h.bel.size; omega) (fun j hj => (h.ge j (by simp [blocks, PairsOb, hj])).1)
  have hD : Whole wr d 188 _ := Sts.here (l := []) h
  have hC : Whole wr c 229 _ := Sts.here (l := [_]) h
  have nd : some d ≠ v.ownBlock := fun e => Sts.apart (l := []) (m := [_]) (r := []) h (b := d) (b' := d) (by simp [obBlock]) (by simp [PairsOb, ← e]) rfl
  have nc : some c ≠ v.ownBlock := fun e => Sts.apart (l := [_]) (m := []) (r := []) h (b := c) (b' := c) (by simp [obBlock]) (by simp [PairsOb, ← e]) rfl
  have hD2 : Whole wz d 188 _ := (hg.block d hD.lt nd).trans hD
  have hC2 : Whole wz c 229 _ := (hg.block c hC.lt nc).trans hC
  have hlen : qs'.length = ps.length := by rw [hl]; exact hperm.length_eq
  subst hID hDM
  rw [hB]
  refine ⟨⟨hD2.cell 0, hD2.cell 1, hD2.cell 2, hD2.cell 3, hD2.cell 4, hD2.cell 5, hD2.cell 6, hD2.cell 7, hC2.cell 0, hC2.cell 1, ?_, ⟨qs', by rw [hl, hf], Sl.Of.own (by rw [hlen]; exact hrow), fun i h1 h2 => ?_⟩, ⟨hD2.lt, hC2.lt⟩⟩, hbel⟩
  · rw [← hB] at hbel
    exact hV.below hbel
  · have h3 := hat i h1 (by rw [← hl]; exact h1)
    subst hf
    exact h3

end Go.Proofs.YtlolomodcbkblaaGreatDoor.Nd
