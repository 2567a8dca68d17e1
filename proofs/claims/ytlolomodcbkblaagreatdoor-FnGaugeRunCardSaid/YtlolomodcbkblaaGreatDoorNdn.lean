/- Descriptors: a label pair pushed; the pairs sorted. -/
import Derived.Test.YtlolomodcbkblaaGreatDoorNdl
set_option linter.unusedVariables false
set_option linter.unusedSimpArgs false
namespace Go.Proofs.YtlolomodcbkblaaGreatDoor.Nd
open Go.RowKit Go.Maps Go.WideMaps Go.ChangeShapes Go.WideShapes Go.Deep Fp Obs

theorem new_four (W : World) (x1 x2 : Value) (C3 : Array Value) (x4 : Value) (T1 T2 T3 T4 : TypeId) :
    let V := (((W.alloc (.cells #[x1] T1)).alloc (.cells #[x2] T2)).alloc (.cells C3 T3)).alloc (.cells #[x4] T4)
    V.cell? ⟨W.heap.size, 0, none⟩ = some x1 ∧ V.cell? ⟨W.heap.size + 1, 0, none⟩ = some x2 ∧ (∀ j, V.cell? ⟨W.heap.size + 1 + 1, j, none⟩ = C3[j]?) ∧ (∀ j u, [x4][j]? = some u → V.cell? ((⟨W.heap.size + 1 + 1 + 1, 0, none⟩ : Addr).add j) = some u) ∧
      Below W.heap.size W V ∧ V.heap.size = W.heap.size + 1 + 1 + 1 + 1 := by
  intro V
  have s1 : (W.alloc (.cells #[x1] T1)).heap.size = W.heap.size + 1 := by simp
  have s2 : ((W.alloc (.cells #[x1] T1)).alloc (.cells #[x2] T2)).heap.size = W.heap.size + 1 + 1 := by simp
  have s3 : (((W.alloc (.cells #[x1] T1)).alloc (.cells #[x2] T2)).alloc (.cells C3 T3)).heap.size = W.heap.size + 1 + 1 + 1 := by simp
  have s4 : V.heap.size = W.heap.size + 1 + 1 + 1 + 1 := by simp [V]
  have c1 := Sl.cell_new W #[x1] T1 0
  have c2 := Sl.cell_new (W.alloc (.cells #[x1] T1)) #[x2] T2 0
  have c3 := fun j => Sl.cell_new ((W.alloc (.cells #[x1] T1)).alloc (.cells #[x2] T2)) C3 T3 j
  have c4 := cell_box (((W.alloc (.cells #[x1] T1)).alloc (.cells #[x2] T2)).alloc (.cells C3 T3)) x4 T4
  rw [s1] at c2
  simp only [s2] at c3
  rw [s3] at c4
  have o2 : ∀ (b j : Nat), b < W.heap.size + 1 → V.cell? ⟨b, j, none⟩ = (W.alloc (.cells #[x1] T1)).cell? ⟨b, j, none⟩ := fun b j hb => (Sl.cell_old _ _ _ _ (by rw [s3]; omega)).trans ((Sl.cell_old _ _ _ _ (by rw [s2]; omega)).trans (Sl.cell_old _ _ _ _ (by rw [s1]; omega)))
  have o3 : ∀ (b j : Nat), b < W.heap.size + 1 + 1 → V.cell? ⟨b, j, none⟩ = ((W.alloc (.cells #[x1] T1)).alloc (.cells #[x2] T2)).cell? ⟨b, j, none⟩ := fun b j hb => (Sl.cell_old _ _ _ _ (by rw [s3]; omega)).trans (Sl.cell_old _ _ _ _ (by rw [s2]; omega))
  refine ⟨(o2 _ _ (by omega)).trans c1, (o3 _ _ (by omega)).trans c2, fun j => (Sl.cell_old _ _ _ _ (by rw [s3]; omega)).trans (c3 j), c4, ?_, s4⟩
  exact ((((Below.refl _ _).alloc (Nat.le_refl _) _).alloc (by simp) _).alloc (by simp; omega) _).alloc (by simp; omega) _
/-- a new label pair: its own blocks, whatever their order -/
structure NewPair (W W1 : World) (q : Q3) (p : P2) : Prop where
  at_ : PairAt W1 q p
  bel : Below W.heap.size W W1
  sz : W1.heap.size = W.heap.size + 1 + 1 + 1 + 1
  ge : W.heap.size ≤ q.1 ∧ W.heap.size ≤ q.2.1 ∧ W.heap.size ≤ q.2.2
  ne : q.1 ≠ q.2.1 ∧ q.1 ≠ q.2.2 ∧ q.2.1 ≠ q.2.2
def pairA (W : World) (x y : ByteArray) : World := (((W.alloc (.cells #[.string x] 9)).alloc (.cells #[.string y] 9)).alloc (.cells #[.pointer (some ⟨W.heap.size, 0, none⟩), .pointer (some ⟨W.heap.size + 1, 0, none⟩)] 304)).alloc (.cells #[.pointer (some ⟨W.heap.size + 1 + 1, 0, none⟩)] 300)
def pairB (W : World) (x y : ByteArray) : World := (((W.alloc (.cells #[.string y] 9)).alloc (.cells #[.string x] 9)).alloc (.cells #[.pointer (some ⟨W.heap.size + 1, 0, none⟩), .pointer (some ⟨W.heap.size, 0, none⟩)] 304)).alloc (.cells #[.pointer (some ⟨W.heap.size + 1 + 1, 0, none⟩)] 300)
theorem newA (W : World) (x y : ByteArray) : NewPair W (pairA W x y) (W.heap.size + 1 + 1, W.heap.size, W.heap.size + 1) (x, y) := by
  obtain ⟨h1, h2, h3, h4, h7, h8⟩ := new_four W (.string x) (.string y) #[.pointer (some ⟨W.heap.size, 0, none⟩), .pointer (some ⟨W.heap.size + 1, 0, none⟩)] (.pointer (some ⟨W.heap.size + 1 + 1, 0, none⟩)) 9 9 304 300
  refine ⟨⟨h3 0, h3 1, h1, h2, ?_⟩, h7, h8, ?_, ?_⟩
  · unfold pairA; rw [h8]; simp only; omega
  · simp only; omega
  · simp only; omega
theorem newB (W : World) (x y : ByteArray) : NewPair W (pairB W x y) (W.heap.size + 1 + 1, W.heap.size + 1, W.heap.size) (x, y) := by
  obtain ⟨h1, h2, h3, h4, h7, h8⟩ := new_four W (.string y) (.string x) #[.pointer (some ⟨W.heap.size + 1, 0, none⟩), .pointer (some ⟨W.heap.size, 0, none⟩)] (.pointer (some ⟨W.heap.size + 1 + 1, 0, none⟩)) 9 9 304 300
  refine ⟨⟨h3 0, h3 1, h2, h1, ?_⟩, h7, h8, ?_, ?_⟩
  · unfold pairB; rw [h8]; simp only; omega
  · simp only; omega
  · simp only; omega
section
variable {B r : Nat} {w0 w w1 w2 : World} {l rr : List Ob} {m : Option Nat} {L : List P2} {ks : List ByteArray} {cnt : Nat}
/-- the pairs' row grown by one -/
theorem Lp.pair {v v' : Value} {qs : List Q3} {ps : List P2} {q : Q3} {p : P2} (h : Lp B w0 (l ++ PairsOb B v qs ps :: rr) r m L ks cnt w) (hm : ∀ b, m = some b → b < B) (hn : NewPair w w1 q p) (k : w1.grownBy w2 v.ownBlock)
    (ho : w2.ownsRow B 300 1 v' (ps.length + 1) (qs.map pv ++ [pv q])) (hloc : v'.ownBlock = v.ownBlock ∨ v'.ownBlock = some w1.heap.size) :
    Lp B w0 (l ++ PairsOb B v' (qs ++ [q]) (ps ++ [p]) :: rr) r m L ks cnt w2 := by
  have hP : (PairsOb B v qs ps).P w := h.here
  obtain ⟨p1, p2, p3⟩ := hP
  have k2 : w.grownBy w2 v.ownBlock := ((grown_below hn.bel).but v.ownBlock).trans k
  have hst : Sts B w0 (l ++ PairsOb B v qs ps :: (rr ++ [obApart r])) w := by have := h.st; simpa using this
  have nd := hst.nd
  rw [blocks_mid, List.nodup_append, List.nodup_append] at nd
  have nd2 : (v.ownBlock.toList ++ qblocks qs).Nodup := nd.2.1.1
  rw [List.nodup_append] at nd2
  have lt : ∀ b ∈ (PairsOb B v qs ps).bs, b < w.heap.size := fun b hb => (hst.ge b (by rw [blocks_mid]; exact List.mem_append.2 (Or.inr (List.mem_append.2 (Or.inl hb))))).2
  have vlt : ∀ b, v.ownBlock = some b → b < w.heap.size := fun b hb => lt b (List.mem_append.2 (Or.inl (by rw [hb]; simp)))
  have qlt : ∀ b ∈ qblocks qs, b < w.heap.size := fun b hb => lt b (List.mem_append.2 (Or.inr hb))
  have far : ∀ b ∈ qblocks qs, some b ≠ v.ownBlock := fun b hb e => nd2.2.2 b (by rw [← e]; simp) b hb rfl
  have new : ∀ b, w.heap.size ≤ b → some b ≠ v.ownBlock := fun b hb e => by have := vlt b e.symm; omega
  have hz := hn.bel.size
  have hqlt := hn.at_.lt
  have hsz2 := k.size
  refine h.set hm k2 (fun b e => List.mem_append.2 (Or.inl (by rw [e]; simp))) (o' := PairsOb B v' (qs ++ [q]) (ps ++ [p])) ⟨?_, by simp [p2], fun i hi h2 => ?_⟩ (fun b hb => ?_) ?_
  · rw [List.length_append, List.map_append]; exact ho
  · by_cases hl : i < qs.length
    · have h3 := p3 i hl (by omega)
      rw [List.getElem_append_left hl, List.getElem_append_left (by omega)]
      have m3 := mem_q (List.getElem_mem hl)
      exact h3.kept k2 (far _ m3.1) (far _ m3.2.1) (far _ m3.2.2)
    · obtain rfl : i = qs.length := by simp at hi; omega
      rw [List.getElem_concat_length rfl]
      have hr : (ps ++ [p])[qs.length]'h2 = p := by simp [p2]
      rw [hr]
      exact hn.at_.kept k (new _ hn.ge.1) (new _ hn.ge.2.1) (new _ hn.ge.2.2)
  · rcases List.mem_append.1 hb with hb | hb
    · have hb' : v'.ownBlock = some b := Option.mem_toList.1 hb
      rcases hloc with hl | hl
      · exact Or.inl (List.mem_append.2 (Or.inl (by rw [← hl, hb']; simp)))
      · right
        rw [hl] at hb'
        injection hb' with hb'
        have := (ho.lt b (by rw [hl, hb'])).2
        omega
    · have e : qblocks (qs ++ [q]) = qblocks qs ++ [q.1, q.2.1, q.2.2] := by simp [qblocks]
      rw [e] at hb
      rcases List.mem_append.1 hb with hb | hb
      · exact Or.inl (List.mem_append.2 (Or.inr hb))
      · right
        simp only [List.mem_cons, List.not_mem_nil, or_false] at hb
        rcases hb with rfl | rfl | rfl
        · exact ⟨hn.ge.1, by omega⟩
        · exact ⟨hn.ge.2.1, by omega⟩
        · exact ⟨hn.ge.2.2, by omega⟩
  · have e : qblocks (qs ++ [q]) = qblocks qs ++ [q.1, q.2.1, q.2.2] := by simp [qblocks]
    show (v'.ownBlock.toList ++ qblocks (qs ++ [q])).Nodup
    rw [e, List.nodup_append, List.nodup_append]
    have vn : ∀ b, v'.ownBlock = some b → b ∉ qblocks qs ∧ b ≠ q.1 ∧ b ≠ q.2.1 ∧ b ≠ q.2.2 := fun b hb => by
      rcases hloc with hl | hl
      · rw [hb] at hl
        have h5 := vlt b hl.symm
        exact ⟨fun hm => far b hm hl, by have := hn.ge; omega, by have := hn.ge; omega, by have := hn.ge; omega⟩
      · rw [hb] at hl
        injection hl with hl
        exact ⟨fun hm => by have := qlt b hm; omega, by omega, by omega, by omega⟩
    refine ⟨row_nodup v', ⟨nd2.2.1, by simp [hn.ne.1, hn.ne.2.1, hn.ne.2.2], fun a ha b hb e2 => ?_⟩, fun a ha b hb e2 => ?_⟩
    · subst e2
      have := qlt a ha
      simp only [List.mem_cons, List.not_mem_nil, or_false] at hb
      have := hn.ge
      omega
    · subst e2
      have hv := vn a (Option.mem_toList.1 ha)
      rcases List.mem_append.1 hb with hb | hb
      · exact hv.1 hb
      · simp only [List.mem_cons, List.not_mem_nil, or_false] at hb
        rcases hb with hb | hb | hb
        · exact hv.2.1 hb
        · exact hv.2.2.1 hb
        · exact hv.2.2.2 hb
theorem Lp.put {g : Nat} {T : TypeId} {cells : Array Value} (h : Lp B w0 (l ++ obBlock g T cells :: rr) r m L ks cnt w) (hm : ∀ b, m = some b → b < B) (i : Nat) (u : Value) : Lp B w0 (l ++ obBlock g T (cells.setIfInBounds i u) :: rr) r m L ks cnt (w.setCell ⟨g, i, none⟩ u) := by
  have hh : Whole w g T cells := h.here
  exact h.set hm (put_grown w g i u) (fun b e => by injection e with e; subst e; exact List.mem_singleton.2 rfl) (o' := obBlock g T (cells.setIfInBounds i u)) (hh.put i u) (fun b hb => Or.inl hb) (by simp [obBlock])
end

end Go.Proofs.YtlolomodcbkblaaGreatDoor.Nd
