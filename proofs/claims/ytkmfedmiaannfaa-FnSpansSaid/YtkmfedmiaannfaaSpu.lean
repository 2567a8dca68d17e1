/- Spans: the state of the second loop, said of segments. -/
import Derived.Test.YtkmfedmiaannfaaSpt
set_option linter.unusedVariables false
set_option linter.unusedSimpArgs false
namespace Go.Proofs.Ytkmfedmiaannfaa.Sp
open Go.RowKit Go.Maps Go.WideMaps Go.ChangeShapes Go.WideShapes Go.Deep Fp

def StX (B : Nat) (X : List Seg) (w0 w : World) : Prop := ∃ qs vs vd, St B B (B + 1) (B + 2) (runsOf 0 X) (deltasOf 0 (counts X)) (lastC 0 (counts X)) qs vs vd w0 w
theorem StX.size {B : Nat} {X : List Seg} {w0 w : World} (h : StX B X w0 w) : B + 2 < w.heap.size := by
  obtain ⟨qs, vs, vd, h⟩ := h
  exact (h.ge (B + 2) (by simp [blocks])).2
theorem StX.bel {B : Nat} {X : List Seg} {w0 w : World} (h : StX B X w0 w) : Below B w0 w := by
  obtain ⟨qs, vs, vd, h⟩ := h
  exact h.bel
theorem lastC_app (p : Int) (A : List Int) (c : Int) : lastC p (A ++ [c]) = c := lastC_snoc p A c
theorem counts_add (D : List Seg) (s : Seg) (c : Int) : counts (D ++ [(s.1, s.2 ++ [c])]) = counts (D ++ [s]) ++ [c] := by
  rw [counts_snoc, counts_snoc, List.append_assoc]
theorem counts_new (X : List Seg) (i : Int) : counts (X ++ [(i, [])]) = counts X := by rw [counts_snoc]; simp
theorem runs_last (D : List Seg) (s : Seg) : runsOf 0 (D ++ [s]) = runsOf 0 D ++ [(s.1 - nxt 0 D, (s.2.length : Int))] := by rw [runsOf_app]; rfl
theorem deltas_last (A : List Int) (c : Int) : deltasOf 0 (A ++ [c]) = deltasOf 0 A ++ [wr2 (c - lastC 0 A)] := by rw [deltasOf_app]; rfl

/-- the closure, said of segments -/
theorem delta_X (B : Nat) (D : List Seg) (s : Seg) (c : Int) (w0 w : World) (h : StX B (D ++ [s]) w0 w) (hs : s.2.length ≤ 4294967294) (hD : D.length ≤ 2147483648) (hc : (counts (D ++ [s])).length ≤ 8589934592) :
    Calls Try.prog 104 #[.int .i64 c, .pointer (some ⟨B, 0, none⟩), .pointer (some ⟨B + 1, 0, none⟩), .pointer (some ⟨B + 2, 0, none⟩)] w fun e w' => e = .returned (.tuple #[]) ∧ StX B (D ++ [(s.1, s.2 ++ [c])]) w0 w' := by
  have hsz := h.size
  obtain ⟨qs, vs, vd, h⟩ := h
  rw [runs_last] at h
  have hql := h.ql
  rw [List.length_append, runsOf_len] at hql
  have hne : qs ≠ [] := by intro e; rw [e] at hql; simp at hql
  obtain ⟨q0, q, rfl⟩ : ∃ q0 q, qs = q0 ++ [q] := ⟨qs.dropLast, qs.getLast hne, (List.dropLast_concat_getLast hne).symm⟩
  refine (delta_any B B (B + 1) (B + 2) (runsOf 0 D) (s.1 - nxt 0 D) s.2.length (deltasOf 0 (counts (D ++ [s]))) (lastC 0 (counts (D ++ [s]))) c q0 q vs vd w0 w h (by omega) (by omega) (by rw [runsOf_len]; exact hD) (by rw [deltasOf_len]; exact hc)).mono ?_
  rintro e w' ⟨rfl, vd2, h2⟩
  refine ⟨rfl, q0 ++ [q], vs, vd2, ?_⟩
  rw [counts_add, deltas_last, lastC_app, runs_last]
  have e : (((s.2 ++ [c]).length : Nat) : Int) = (s.2.length : Int) + 1 := by simp
  rw [e]
  exact h2

theorem StX.start (w0 : World) : StX w0.heap.size [] w0 (((w0.alloc (.cells #[.slice none 0 0] 114)).alloc (.cells #[.slice none 0 0] 66)).alloc (.cells #[.int .i64 0] 2)) := by
  refine ⟨[], .slice none 0 0, .slice none 0 0, ?_⟩
  have s1 : (w0.alloc (.cells #[.slice none 0 0] 114)).heap.size = w0.heap.size + 1 := by simp
  have s2 : ((w0.alloc (.cells #[.slice none 0 0] 114)).alloc (.cells #[.slice none 0 0] 66)).heap.size = w0.heap.size + 2 := by simp
  have c1 := Sl.cell_new w0 #[Value.slice none 0 0] 114 0
  have c2 := Sl.cell_new (w0.alloc (.cells #[.slice none 0 0] 114)) #[Value.slice none 0 0] 66 0
  have c3 := Sl.cell_new ((w0.alloc (.cells #[.slice none 0 0] 114)).alloc (.cells #[.slice none 0 0] 66)) #[Value.int .i64 0] 2 0
  rw [s1] at c2
  rw [s2] at c3
  refine ⟨?_, ?_, c3, ?_, ?_, ?_, fun q h => by simp at h, World.ownsRow_nil _ _ _ _, World.ownsRow_nil _ _ _ _, rfl, fun i h => by simp at h, ?_, ?_, ?_⟩
  · exact (Sl.cell_old _ _ _ _ (by rw [s2]; omega)).trans ((Sl.cell_old _ _ _ _ (by rw [s1]; omega)).trans c1)
  · exact (Sl.cell_old _ _ _ _ (by rw [s2]; omega)).trans c2
  · rw [World.frozen?_alloc_past _ _ _ (by rw [s2]; omega), World.frozen?_alloc_past _ _ _ (by rw [s1]; omega)]
    exact World.frozen?_alloc_at _ _ _ _ rfl
  · rw [World.frozen?_alloc_past _ _ _ (by rw [s2]; omega)]
    exact World.frozen?_alloc_at _ _ _ _ s1.symm
  · exact World.frozen?_alloc_at _ _ _ _ s2.symm
  · simp [blocks, qblocks, Value.ownBlock]
  · intro b hb
    simp [blocks, qblocks, Value.ownBlock] at hb
    rcases hb with rfl | rfl | rfl <;> simp <;> omega
  · exact (((Below.refl _ _).alloc (Nat.le_refl _) _).alloc (by simp) _).alloc (by simp; omega) _

/-- what one step makes, ahead of the last count -/
theorem step_new (X : List Seg) (p : N2) (h : X = [] ∨ 2 < p.1 - nxt 0 X) : stepX X p = X ++ [(p.1, [] ++ [p.2])] := by
  unfold stepX
  rcases h with rfl | h
  · rfl
  · cases X.getLast? with
    | none => rfl
    | some s => show (if _ then _ else _) = _; rw [if_pos h]; rfl
theorem step_gap (D : List Seg) (s : Seg) (p : N2) (h : ¬ 2 < p.1 - nxt 0 (D ++ [s])) : stepX (D ++ [s]) p = D ++ [(s.1, s.2 ++ List.replicate (p.1 - nxt 0 (D ++ [s])).toNat 0 ++ [p.2])] := by
  unfold stepX
  rw [List.getLast?_concat]
  show (if _ then _ else _) = _
  rw [if_neg h, List.dropLast_concat]

theorem St.old {B sb db pb : Nat} {R : List N2} {Ds : List Int} {prev : Int} {qs : List Q3} {vs vd : Value} {w0 w w1 w2 : World} (h : St B sb db pb R Ds prev qs vs vd w0 w) (hb : Below w.heap.size w w1) (k : w1.grownBy w2 vs.ownBlock) : w2.cell? ⟨sb, 0, none⟩ = some vs ∧ w2.frozen? ⟨sb, 0, none⟩ = false := by
  have nd := h.nd
  unfold blocks at nd
  rw [List.nodup_append, List.nodup_append, List.nodup_append] at nd
  obtain ⟨⟨⟨_, _, d3⟩, _⟩, _⟩ := nd
  have hd : some sb ≠ vs.ownBlock := fun e => d3 sb (by simp) sb (by rw [← e]; simp) rfl
  have hl : sb < w.heap.size := (h.ge sb (by simp [blocks])).2
  have hl1 : sb < w1.heap.size := Nat.lt_of_lt_of_le hl hb.size
  exact ⟨by rw [cell_kept k hl1 hd, hb.cell (p := ⟨sb, 0, none⟩) hl]; exact h.cs, by rw [frozen_kept k hl1 hd, hb.frozen (p := ⟨sb, 0, none⟩) hl]; exact h.fs⟩
/-- a new span: its own blocks, whatever their order -/
def NewSpan (W W1 : World) (q : Q3) (d : Int) : Prop :=
  SpanAt W1 q (d, 0) ∧ W1.frozen? ⟨q.2.2, 0, none⟩ = false ∧ Below W.heap.size W W1 ∧ W1.heap.size = W.heap.size + 1 + 1 + 1 + 1 ∧ (W.heap.size ≤ q.1 ∧ W.heap.size ≤ q.2.1 ∧ W.heap.size ≤ q.2.2) ∧ (q.1 ≠ q.2.1 ∧ q.1 ≠ q.2.2 ∧ q.2.1 ≠ q.2.2)
def spanA (W : World) (d : Int) : World := (((W.alloc (.cells #[.int .i32 d] 21)).alloc (.cells #[.int .u32 0] 121)).alloc (.cells #[.pointer (some ⟨W.heap.size, 0, none⟩), .pointer (some ⟨W.heap.size + 1, 0, none⟩)] 155)).alloc (.cells #[.pointer (some ⟨W.heap.size + 1 + 1, 0, none⟩)] 151)
def spanB (W : World) (d : Int) : World := (((W.alloc (.cells #[.int .u32 0] 121)).alloc (.cells #[.int .i32 d] 21)).alloc (.cells #[.pointer (some ⟨W.heap.size + 1, 0, none⟩), .pointer (some ⟨W.heap.size, 0, none⟩)] 155)).alloc (.cells #[.pointer (some ⟨W.heap.size + 1 + 1, 0, none⟩)] 151)
theorem new_four (W : World) (x1 x2 : Value) (C3 : Array Value) (x4 : Value) (T1 T2 T3 T4 : TypeId) :
    let V := (((W.alloc (.cells #[x1] T1)).alloc (.cells #[x2] T2)).alloc (.cells C3 T3)).alloc (.cells #[x4] T4)
    V.cell? ⟨W.heap.size, 0, none⟩ = some x1 ∧ V.cell? ⟨W.heap.size + 1, 0, none⟩ = some x2 ∧ (∀ j, V.cell? ⟨W.heap.size + 1 + 1, j, none⟩ = C3[j]?) ∧ (∀ j u, [x4][j]? = some u → V.cell? ((⟨W.heap.size + 1 + 1 + 1, 0, none⟩ : Addr).add j) = some u) ∧
      V.frozen? ⟨W.heap.size, 0, none⟩ = false ∧ V.frozen? ⟨W.heap.size + 1, 0, none⟩ = false ∧ Below W.heap.size W V ∧ V.heap.size = W.heap.size + 1 + 1 + 1 + 1 := by
  intro V
  have s1 : (W.alloc (.cells #[x1] T1)).heap.size = W.heap.size + 1 := by simp
  have s2 : ((W.alloc (.cells #[x1] T1)).alloc (.cells #[x2] T2)).heap.size = W.heap.size + 1 + 1 := by simp
  have s3 : (((W.alloc (.cells #[x1] T1)).alloc (.cells #[x2] T2)).alloc (.cells C3 T3)).heap.size = W.heap.size + 1 + 1 + 1 := by simp
  have s4 : V.heap.size = W.heap.size + 1 + 1 + 1 + 1 := by simp [V]
  have c1 := Sl.cell_new W #[x1] T1 0
  have c2 := Sl.cell_new (W.alloc (.cells #[x1] T1)) #[x2] T2 0
  have c3 := fun j => Sl.cell_new ((W.alloc (.cells #[x1] T1)).alloc (.cells #[x2] T2)) C3 T3 j
  have c4 := Sp.cell_box (((W.alloc (.cells #[x1] T1)).alloc (.cells #[x2] T2)).alloc (.cells C3 T3)) x4 T4
  rw [s1] at c2
  simp only [s2] at c3
  rw [s3] at c4
  have o2 : ∀ (b j : Nat), b < W.heap.size + 1 → V.cell? ⟨b, j, none⟩ = (W.alloc (.cells #[x1] T1)).cell? ⟨b, j, none⟩ := fun b j hb => (Sl.cell_old _ _ _ _ (by rw [s3]; omega)).trans ((Sl.cell_old _ _ _ _ (by rw [s2]; omega)).trans (Sl.cell_old _ _ _ _ (by rw [s1]; omega)))
  have o3 : ∀ (b j : Nat), b < W.heap.size + 1 + 1 → V.cell? ⟨b, j, none⟩ = ((W.alloc (.cells #[x1] T1)).alloc (.cells #[x2] T2)).cell? ⟨b, j, none⟩ := fun b j hb => (Sl.cell_old _ _ _ _ (by rw [s3]; omega)).trans (Sl.cell_old _ _ _ _ (by rw [s2]; omega))
  refine ⟨(o2 _ _ (by omega)).trans c1, (o3 _ _ (by omega)).trans c2, fun j => (Sl.cell_old _ _ _ _ (by rw [s3]; omega)).trans (c3 j), c4, ?_, ?_, ?_, s4⟩
  · exact (Sl.frozen_old _ _ _ _ (by rw [s3]; omega)).trans ((Sl.frozen_old _ _ _ _ (by rw [s2]; omega)).trans ((Sl.frozen_old _ _ _ _ (by rw [s1]; omega)).trans (Sl.frozen_new _ _ _ _)))
  · have := Sl.frozen_new (W.alloc (.cells #[x1] T1)) #[x2] T2 0
    rw [s1] at this
    exact (Sl.frozen_old _ _ _ _ (by rw [s3]; omega)).trans ((Sl.frozen_old _ _ _ _ (by rw [s2]; omega)).trans this)
  · exact ((((Below.refl _ _).alloc (Nat.le_refl _) _).alloc (by simp) _).alloc (by simp; omega) _).alloc (by simp; omega) _
theorem new_a (W : World) (d : Int) : NewSpan W (spanA W d) (W.heap.size + 1 + 1, W.heap.size, W.heap.size + 1) d := by
  obtain ⟨h1, h2, h3, h4, h5, h6, h7, h8⟩ := new_four W (.int .i32 d) (.int .u32 0) #[.pointer (some ⟨W.heap.size, 0, none⟩), .pointer (some ⟨W.heap.size + 1, 0, none⟩)] (.pointer (some ⟨W.heap.size + 1 + 1, 0, none⟩)) 21 121 155 151
  refine ⟨⟨h3 0, h3 1, h1, h2, ?_⟩, h6, h7, h8, ?_, ?_⟩
  · unfold spanA; rw [h8]; simp only; omega
  · simp only; omega
  · simp only; omega
theorem new_b (W : World) (d : Int) : NewSpan W (spanB W d) (W.heap.size + 1 + 1, W.heap.size + 1, W.heap.size) d := by
  obtain ⟨h1, h2, h3, h4, h5, h6, h7, h8⟩ := new_four W (.int .u32 0) (.int .i32 d) #[.pointer (some ⟨W.heap.size + 1, 0, none⟩), .pointer (some ⟨W.heap.size, 0, none⟩)] (.pointer (some ⟨W.heap.size + 1 + 1, 0, none⟩)) 121 21 155 151
  refine ⟨⟨h3 0, h3 1, h2, h1, ?_⟩, h5, h7, h8, ?_, ?_⟩
  · unfold spanB; rw [h8]; simp only; omega
  · simp only; omega
  · simp only; omega
/-- what the region leaves, whatever the order -/
theorem St.spanned {B : Nat} {X : List Seg} {i nx : Int} {qs : List Q3} {vs vd : Value} {q : Q3} {w0 w w1 : World} (h : St B B (B + 1) (B + 2) (runsOf 0 X) (deltasOf 0 (counts X)) (lastC 0 (counts X)) qs vs vd w0 w) (hB : B ≤ w.heap.size) (hnx : nxt 0 X = nx) (hn : NewSpan w w1 q (i - nx)) :
    ∀ g cap w2, w2.ownsRow B 151 1 (.slice (some ⟨g, 0, none⟩) ((runsOf 0 X).length + 1) cap) ((runsOf 0 X).length + 1) (qs.map pv ++ [pv q]) → w1.grownBy w2 vs.ownBlock → (vs.ownBlock = some g ∨ g = w.heap.size + 1 + 1 + 1 + 1) →
      (w2.cell? ⟨B, 0, none⟩ = some vs ∧ w2.frozen? ⟨B, 0, none⟩ = false) ∧ StX B (X ++ [(i, [])]) w0 (w2.setCell ⟨B, 0, none⟩ (.slice (some ⟨g, 0, none⟩) ((runsOf 0 X).length + 1) cap)) := by
  intro g cap w2 ho hk hloc
  obtain ⟨h1, h2, h3, h4, h5, h6⟩ := hn
  refine ⟨h.old h3 hk, qs ++ [q], .slice (some ⟨g, 0, none⟩) ((runsOf 0 X).length + 1) cap, vd, ?_⟩
  rw [runs_last, counts_new, hnx]
  refine h.span hB h3 h1 h2 h5 h6 hk ho ?_
  rcases hloc with hl | hl
  · exact Or.inl hl.symm
  · right
    rw [h4, ← hl]; rfl

/-- what a round of the second loop knows -/
structure Rnd (M : List N2) (k : Nat) (i c nx : Int) (X : List Seg) : Prop where
  i1 : -1073741824 < i
  i2 : i < 1073741824
  n1 : -1073741824 < nx
  n2 : nx ≤ 1073741824
  nxt : nxt 0 X = nx
  here : buildX (M.take k) = X
  next : buildX (M.take (k + 1)) = stepX X (i, c)
  nxt2 : Sp.nxt 0 (stepX X (i, c)) = i + 1
  few : X.length ≤ 2147483647
  sum : (counts X).length ≤ 6442450941
  each : ∀ s ∈ X, s.2.length ≤ 2147483648
  way : (k = 0 ∧ X = []) ∨ (0 < k ∧ X ≠ [] ∧ nx ≤ i)
theorem rise_take {M : List N2} : ∀ (k : Nat), Rise M → Rise (M.take k) := by
  induction M with
  | nil => intro k h; simp; trivial
  | cons a M ih =>
    intro k h
    cases k with
    | zero => trivial
    | succ k => exact ⟨fun q hq => h.1 q (List.mem_of_mem_take hq), ih k h.2⟩
theorem rnd {M : List N2} {k : Nat} {i c : Int} (hR : Rise M) (hN : Near M) (hl : M.length ≤ 2147483647) (hk : k < M.length) (hp : M[k] = (i, c)) : Rnd M k i c (nxt 0 (buildX (M.take k))) (buildX (M.take k)) := by
  have htk : M.take (k + 1) = M.take k ++ [(i, c)] := by rw [List.take_succ_eq_append_getElem hk, hp]
  have hN2 : Near (M.take k) := fun q hq => hN q (List.mem_of_mem_take hq)
  have hm := made _ (M.take k) rfl (rise_take k hR) hN2
  have hlt : ∀ q ∈ M.take k, q.1 < i := (rise_snoc (p := (i, c)) (by rw [← htk]; exact rise_take (k + 1) hR)).2
  have hi := hN (i, c) (by rw [← hp]; exact List.getElem_mem hk)
  have hi1 : -1073741824 < i := hi.1
  have hi2 : i < 1073741824 := hi.2
  have hnn := nxt_near hm
  have hlen : (M.take k).length ≤ M.length := by rw [List.length_take]; omega
  have hle : buildX (M.take k) ≠ [] → nxt 0 (buildX (M.take k)) ≤ i := fun hX => hm.next i hlt (fun e => hX (hm.none.2 e))
  have hst := stepX_cells (buildX (M.take k)) (i, c) hle
  have hfew := hm.few
  have hsum := hm.sum
  have hkl : (M.take k).length = k := by rw [List.length_take]; omega
  refine ⟨hi1, hi2, hnn.1, hnn.2, rfl, rfl, by rw [htk, buildX_snoc], hst.2.1, by omega, by omega, fun s hs => ?_, ?_⟩
  · have := hm.near s hs
    omega
  · by_cases hk0 : k = 0
    · left
      refine ⟨hk0, ?_⟩
      rw [hk0]; rfl
    · right
      have hne : buildX (M.take k) ≠ [] := fun e => by
        have := hm.none.1 e
        rw [this] at hkl
        simp at hkl
        omega
      exact ⟨by omega, hne, hle hne⟩

end Go.Proofs.Ytkmfedmiaannfaa.Sp
