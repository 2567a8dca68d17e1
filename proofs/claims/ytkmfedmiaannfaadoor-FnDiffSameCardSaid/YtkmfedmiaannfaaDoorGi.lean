/- Groups of edits: rows of edits, and the slices of slices of them (impl.edits, laws.editFrom, laws.editsFrom, impl.Groups, laws.diffGroups); printed by wip/gen_gi.py. -/
import Derived.Test.YtkmfedmiaannfaaDoorGw
set_option linter.unusedVariables false
set_option linter.unusedSimpArgs false
namespace Go.Proofs.YtkmfedmiaannfaaDoor.Df
open Go.RowKit Go.Maps Go.WideMaps Go.ChangeShapes

/-- a row of its own, of elements of type T -/
def RowOut (T : Nat) (L : List E5) (w : World) (e : Ending) (w' : World) : Prop :=
  ∃ v, e = .returned v ∧ w'.ownsRow w.heap.size T 5 v L.length (L.flatMap ecells) ∧ Below w.heap.size w w'
def Rows2Out (gs : List (List E5)) (w : World) (e : Ending) (w' : World) : Prop :=
  ∃ v, e = .returned v ∧ Of2 5 ecells w' v gs ∧ Below w.heap.size w w'
theorem infoIEs : (Tryd.prog.info? 38).map (fun i => (i.zero, i.size, i.bytes)) = some (some (.slice none 0 0), 1, 24) := by kernel_rfl

/-- a row of edits so far -/
def GotT (T B n : Nat) (acc : List E5) (u : Value) (w w' : World) : Prop :=
  acc.length ≤ n ∧ w'.ownsRow B T 5 u acc.length (acc.flatMap ecells) ∧ Below B w w'
section
variable {T B n : Nat} {acc : List E5} {u v : Value} {w w' wy : World}
theorem GotT.then (h : GotT T B n acc u w w') (hs : B ≤ w'.heap.size) (hb : Below w'.heap.size w' wy) : GotT T B n acc u w wy :=
  ⟨h.1, h.2.1.kept (only_below hb none) (by cases u.ownBlock <;> simp), h.2.2.trans (hb.mono hs)⟩
theorem GotT.app {m : E5} {o : Obj} (h : GotT T B n acc u w w') (hs : B ≤ w'.heap.size) (ho : wy.ownsRow B T 5 v (acc.length + 1) (acc.flatMap ecells ++ ecells m)) (hg : (w'.alloc o).grownBy wy u.ownBlock) : GotT T B (n + 1) (acc ++ [m]) v w wy := by
  refine ⟨by have := h.1; simp; omega, ?_, (h.2.2.alloc hs o).grown hg (by simp; omega) (fun j hj => (h.2.1.lt j hj).1)⟩
  rw [List.length_append, List.flatMap_append]
  simpa using ho
end

/-- the groups so far: headers whose blocks are none of the row's -/
def GO (T B : Nat) (gs : List (List E5)) (gv : Value) (w wr : World) : Prop := Grps T 5 ecells B (fun x => some x ≠ gv.ownBlock) gs gv wr ∧ Below B w wr
section
variable {T e B : Nat} {gs : List (List E5)} {gv v v' : Value} {w wr w1 wy : World} {g : List E5}
theorem GO.then (h : GO T B gs gv w wr) (hs : B ≤ wr.heap.size) (hb : Below wr.heap.size wr w1) : GO T B gs gv w w1 := ⟨h.1.below hb, h.2.trans (hb.mono hs)⟩
theorem GO.hdr (h : GO T B gs gv w wr) (hb : Below wr.heap.size wr w1) (ho : w1.ownsRow wr.heap.size e 5 v g.length (g.flatMap ecells)) : Hdr 5 ecells (fun x => some x ≠ gv.ownBlock) w1 v g := by
  refine ⟨Ss.Of.own ecells_len ho, ?_, fun b hb2 => ⟨(ho.lt b hb2).2, ?_⟩⟩
  · obtain ⟨a, c, rfl⟩ := row_slice ho
    rfl
  · intro e
    obtain ⟨vs, h1, _⟩ := h.1
    have := (h1.lt b e.symm).2
    have := (ho.lt b hb2).1
    omega
theorem GO.app (h : GO T B gs gv w w1) (hv : Hdr 5 ecells (fun x => some x ≠ gv.ownBlock) w1 v g) (hs : B ≤ w1.heap.size) {o : Obj} {vs : List Value} (hall : All2 (Hdr 5 ecells (fun x => some x ≠ gv.ownBlock) w1) vs gs)
    (ho : wy.ownsRow B T 1 v' (gs.length + 1) (vs ++ [v])) (hg : (w1.alloc o).grownBy wy gv.ownBlock) (hgv : ∀ j, gv.ownBlock = some j → B ≤ j) (hl : v'.ownBlock = gv.ownBlock ∨ v'.ownBlock = some (w1.alloc o).heap.size) : GO T B (gs ++ [g]) v' w wy := by
  refine ⟨Grps.app hall hv hg ho (fun b _ hx => hx) (fun b hb hx => ?_), (h.2.alloc hs o).grown hg (by simp; omega) hgv⟩
  rcases hl with e | e <;> rw [e]
  · exact hx
  · intro e2; injection e2 with e2; simp at e2; omega
theorem GO.start (w : World) (B : Nat) (hB : B ≤ w.heap.size) : GO T B [] (.slice none 0 0) w w := ⟨⟨[], World.ownsRow_nil _ _ _ _, trivial⟩, Below.refl _ _⟩
end

set_option maxHeartbeats 16000000 in
set_option maxRecDepth 100000 in
theorem editsRow_any (T : List E5) (v : Value) (W2 : World) (hof : Ss.Of 5 ecells W2 v T) (hTl : T.length ≤ 4294967300) :
    Calls Tryd.prog 14 #[v] W2 (RowOut 48 T W2) := by
  obtain ⟨i0, hi, hz0, hz1, hz2⟩ := info_parts infoE
  obtain ⟨av, cv, rfl, _, _⟩ := hof.slice
  have HOf := Lib.hid hof
  have HG0 : Hid (GotT 48 W2.heap.size 0 [] (.slice none 0 0) W2 W2) := ⟨Nat.le_refl _, World.ownsRow_nil _ _ _ _, Below.refl _ _⟩
  clear hof
  go_enter Tryd.func14, Tryd.ntmps14
  go_wp2_with fail
  go_loopw [3, 8] (fun vu vn wr => ∃ (n : Nat) (u : Value), n ≤ T.length ∧ u = vu ∧ vn = .int .i64 (n : Int) ∧ Hid (GotT 48 W2.heap.size n (T.take n) u W2 wr)) (fun _ n _ => T.length - (intOf n).toNat)
  case atStart =>
    exact ⟨0, _, Nat.zero_le _, rfl, rfl, HG0.out⟩
  case round =>
    obtain ⟨n, u, hn, rfl, rfl, hgot⟩ := hrel
    by_cases hlt : n < T.length
    · obtain ⟨t, i1, i2, j1, j2, hb⟩ : ∃ t i1 i2 j1 j2, T[n] = (t, i1, i2, j1, j2) := ⟨_, _, _, _, _, rfl⟩
      have htk : T.take (n + 1) = T.take n ++ [(t, i1, i2, j1, j2)] := by
        rw [← hb, List.take_succ_eq_append_getElem hlt]
      obtain ⟨acc, hacc⟩ : ∃ acc, T.take n = acc := ⟨_, rfl⟩
      rw [hacc] at hgot htk
      obtain ⟨bq, oq, hav, hbq, d0, d1, d2, d3, d4⟩ : ∃ b off, av = some ⟨b, off, none⟩ ∧ b < W2.heap.size ∧ W2.cell? ⟨b, off + n * 5, none⟩ = some (.int .u8 t) ∧ W2.cell? ⟨b, off + n * 5 + 1, none⟩ = some (.int .i64 i1) ∧ W2.cell? ⟨b, off + n * 5 + 2, none⟩ = some (.int .i64 i2) ∧ W2.cell? ⟨b, off + n * 5 + 3, none⟩ = some (.int .i64 j1) ∧ W2.cell? ⟨b, off + n * 5 + 4, none⟩ = some (.int .i64 j2) := by
        rcases HOf.out with ⟨h, _⟩ | ⟨b, off, cap, h, h0, hcap, hm, hbb, hcell⟩
        · rw [h] at hlt; simp at hlt
        · injection h with h1 h2 h3
          exact ⟨b, off, h1, hbb, hcell n hlt 0 _ (by rw [hb]; rfl), by rw [Nat.add_assoc]; exact hcell n hlt 1 _ (by rw [hb]; rfl), by rw [Nat.add_assoc]; exact hcell n hlt 2 _ (by rw [hb]; rfl), by rw [Nat.add_assoc]; exact hcell n hlt 3 _ (by rw [hb]; rfl), by rw [Nat.add_assoc]; exact hcell n hlt 4 _ (by rw [hb]; rfl)⟩
      subst hav
      have hbw := hgot.out.2.2
      have c0 : wr.cell? ⟨bq, oq + n * 5, none⟩ = some (.int .u8 t) := by rw [hbw.cell (p := ⟨bq, oq + n * 5, none⟩) hbq]; exact d0
      have c1 : wr.cell? ⟨bq, oq + n * 5 + 1, none⟩ = some (.int .i64 i1) := by rw [hbw.cell (p := ⟨bq, oq + n * 5 + 1, none⟩) hbq]; exact d1
      have c2 : wr.cell? ⟨bq, oq + n * 5 + 2, none⟩ = some (.int .i64 i2) := by rw [hbw.cell (p := ⟨bq, oq + n * 5 + 2, none⟩) hbq]; exact d2
      have c3 : wr.cell? ⟨bq, oq + n * 5 + 3, none⟩ = some (.int .i64 j1) := by rw [hbw.cell (p := ⟨bq, oq + n * 5 + 3, none⟩) hbq]; exact d3
      have c4 : wr.cell? ⟨bq, oq + n * 5 + 4, none⟩ = some (.int .i64 j2) := by rw [hbw.cell (p := ⟨bq, oq + n * 5 + 4, none⟩) hbq]; exact d4
      have hsz : W2.heap.size ≤ wr.heap.size := hbw.size
      have z1 : (0 : Int) ≤ (n : Int) := by omega
      have z2 : (n : Int) < (T.length : Int) := by omega
      have HTk := Lib.hid htk
      have hal := hgot.out.1
      have hg2 : Hid (GotT 48 W2.heap.size n acc u W2 (wr.alloc (.cells #[.int .u8 t, .int .i64 i1, .int .i64 i2, .int .i64 j1, .int .i64 j2] 64))) := hgot.out.then hsz ((Below.refl _ _).alloc (Nat.le_refl _) _)
      have HNews := Lib.hid (Ss.news_one (wr.alloc (.cells #[.int .u8 t, .int .i64 i1, .int .i64 i2, .int .i64 j1, .int .i64 j2] 64)) #[.int .u8 t, .int .i64 i1, .int .i64 i2, .int .i64 j1, .int .i64 j2] 48)
      obtain ⟨au, cu, rfl⟩ := row_slice hgot.out.2.1
      have hsa : W2.heap.size ≤ (wr.alloc (.cells #[.int .u8 t, .int .i64 i1, .int .i64 i2, .int .i64 j1, .int .i64 j2] 64)).heap.size := hg2.out.2.2.size
      clear d0 d1 d2 d3 d4 hbw hb htk hgot hacc
      go_wp2_with (first
        | (at_builtin; refine wpList_append_own_at _ rfl _ _ 38 rfl W2.heap.size 48 i0 (.agg #[.int .u8 0, .int .i64 0, .int .i64 0, .int .i64 0, .int .i64 0]) 5 40 Tryd.underlying38 hi hz0 hz1 hz2 rfl (by decide) _ _ _ rfl (hg2.out.2.1.alloc _) ⟨wr.heap.size + 1, 0, none⟩ 1 1 [.int .u8 t, .int .i64 i1, .int .i64 i2, .int .i64 j1, .int .i64 j2] rfl rfl (by simpa using HNews.out) (one5 _ _ _ _ _) (by unfold maxLen; omega) (by omega) (by simp; omega) ?_; intro v2 W4 hown2 hgrow2 hnil2 hloc2; have hg3 : Hid (GotT 48 W2.heap.size (n + 1) (T.take (n + 1)) v2 W2 W4) := (by show GotT _ _ _ _ _ _ _; rw [HTk.out]; exact hg2.out.app hsa hown2 hgrow2); clear hown2 hgrow2 hnil2 hloc2))
      go_roundw
      case rel => exact ⟨n + 1, _, by omega, rfl, by go_num, hg3⟩
      case measure => simp [intOf]; omega
    · obtain rfl : n = T.length := by omega
      have hg2 := hgot.out
      rw [List.take_length] at hg2
      have hfin : Hid (RowOut 48 T W2 (.returned u) wr) := ⟨u, rfl, hg2.2.1, hg2.2.2⟩
      clear hg2 hgot
      go_wp2_with fail
      go_ret
      exact hfin.out

theorem grp_len (n : Nat) : ∀ (C : List E5) (gs : List (List E5)) (g : List E5), (grp n C gs g).length ≤ gs.length + C.length + 1
  | [], gs, g => by unfold grp; split <;> simp
  | c :: r, gs, g => by
    unfold grp
    split
    · have := grp_len n r (gs ++ [g ++ [cutE n c]]) [endE n c]
      simp only [List.length_append, List.length_cons, List.length_nil] at this ⊢
      omega
    · have := grp_len n r gs (g ++ [c])
      simp only [List.length_cons]
      omega
theorem grp_mem (n : Nat) : ∀ (C : List E5) (gs : List (List E5)) (g : List E5) (M : Nat), (∀ x ∈ gs, x.length ≤ M) → g.length + C.length + 1 ≤ M → ∀ x ∈ grp n C gs g, x.length ≤ M
  | [], gs, g, M, h1, h2, x, hx => by
    unfold grp at hx
    split at hx
    · exact h1 x hx
    · rcases List.mem_append.1 hx with hx | hx
      · exact h1 x hx
      · rw [List.mem_singleton.1 hx]; simp at h2; omega
  | c :: r, gs, g, M, h1, h2, x, hx => by
    unfold grp at hx
    simp only [List.length_cons] at h2
    split at hx
    · refine grp_mem n r _ _ M (fun y hy => ?_) (by simp; omega) x hx
      rcases List.mem_append.1 hy with hy | hy
      · exact h1 y hy
      · rw [List.mem_singleton.1 hy]; simp; omega
    · exact grp_mem n r _ _ M h1 (by simp; omega) x hx
theorem cds_len (n : Nat) (L : List E5) : (cds n L).length ≤ L.length + 1 := by
  unfold cds
  rw [trimB_len, trimF_len]
  unfold some1
  split <;> simp
theorem grps_len (n : Nat) (L : List E5) : (grps n L).length ≤ L.length + 2 := by
  have := grp_len n (cds n L) [] []
  have := cds_len n L
  unfold grps
  simp only [List.length_nil] at *
  omega
theorem grps_mem (n : Nat) (L : List E5) : ∀ x ∈ grps n L, x.length ≤ L.length + 2 := by
  have := cds_len n L
  exact grp_mem n (cds n L) [] [] _ (fun x hx => absurd hx (by simp)) (by simp; omega)

set_option maxHeartbeats 16000000 in
set_option maxRecDepth 100000 in
theorem implGroups_any (xs ys : List ByteArray) (n : Nat) (va vb : Value) (w : World) (hv : Sl.Of Value.string w va xs) (hv1 : Sl.Of Value.string w vb ys) (hx : xs.length ≤ 2147483647) (hy : ys.length ≤ 2147483647) (hsx : ∀ s ∈ xs, s.size ≤ 2147483647) (hsy : ∀ s ∈ ys, s.size ≤ 2147483647) (hn : n ≤ 255) :
    Calls Tryd.prog 6 #[va, vb, .int .i64 (n : Int)] w (Rows2Out (grps n (ops xs ys)) w) := by
  obtain ⟨i0, hi, hz0, hz1, hz2⟩ := info_parts infoIEs
  have CN := new_any xs ys va vb w hv hv1 hy hsy
  have CM := fun (w1 : World) (hm : Mat w1 w.heap.size xs ys (.slice none 0 0) (.map none) (.slice none 0 0)) => grouped_any xs ys w.heap.size n _ w1 hm hx hy hsx hsy hn
  have HCN := Lib.hid CN
  have HCM := Lib.hid CM
  have hol := ops_len xs ys
  have hgl := grps_len n (ops xs ys)
  have hgm := grps_mem n (ops xs ys)
  obtain ⟨G, hG⟩ : ∃ G, grps n (ops xs ys) = G := ⟨_, rfl⟩
  rw [hG] at HCM hgl hgm ⊢
  have HGm : Hid (∀ x ∈ G, x.length ≤ 4294967300) := fun x hx => by have := hgm x hx; omega
  have hGl : G.length ≤ 4294967300 := by omega
  clear CN CM hv hv1 hsx hsy hG hol hgl hgm
  go_enter Tryd.func6, Tryd.ntmps6
  go_wp2_with fail
  refine HCN.out.mono ?_
  rintro e W1 ⟨rfl, hm1, hb1⟩
  have HCM1 := Lib.hid (HCM.out W1 hm1)
  have HB1 := Lib.hid hb1
  clear hm1 hb1
  go_wp2_with fail
  refine HCM1.out.mono ?_
  rintro e W2 ⟨v, rfl, hof, hg2⟩
  have hb2 : Below w.heap.size w W2 := HB1.out.grown hg2 HB1.out.size (fun j hj => by cases hj; exact Nat.le_refl _)
  obtain ⟨av, cv, rfl, _, _⟩ := hof.slice
  have HOf := Lib.hid hof
  have HB2 := Lib.hid hb2
  have HG0 : Hid (GO 38 W2.heap.size [] (.slice none 0 0) W2 W2) := GO.start W2 _ (Nat.le_refl _)
  clear hof hg2 hb2 HCM HCM1 HCN
  go_wp2_with fail
  go_loopw [7, 16] (fun vu vk wr => ∃ (k : Nat) (u : Value), k ≤ G.length ∧ u = vu ∧ vk = .int .i64 (k : Int) ∧ Hid (GO 38 W2.heap.size (G.take k) u W2 wr)) (fun _ k _ => G.length - (intOf k).toNat)
  case atStart => exact ⟨0, _, Nat.zero_le _, rfl, rfl, HG0.out⟩
  case round =>
    obtain ⟨k, u, hk, rfl, rfl, hgot⟩ := hrel
    by_cases hlt : k < G.length
    · have htk : G.take (k + 1) = G.take k ++ [G[k]] := List.take_succ_eq_append_getElem hlt
      have hmem := HGm.out _ (List.getElem_mem hlt)
      obtain ⟨bq, oq, hv, hav, hbq, d0, hrd⟩ := HOf.out.at_ hlt
      obtain ⟨gk, hgk⟩ : ∃ gk, G[k] = gk := ⟨_, rfl⟩
      obtain ⟨acc, hacc⟩ : ∃ acc, G.take k = acc := ⟨_, rfl⟩
      have hal : acc.length = k := by rw [← hacc, List.length_take]; omega
      rw [hgk] at htk hmem hrd
      rw [hacc] at hgot htk
      subst hav
      have hbw := hgot.out.2
      have hsz : W2.heap.size ≤ wr.heap.size := hbw.size
      have c0 : wr.cell? ⟨bq, oq + k, none⟩ = some hv := by rw [hbw.cell (p := ⟨bq, oq + k, none⟩) hbq]; exact d0
      have CE := Lib.hid (editsRow_any gk hv wr (hrd.below hbw) hmem)
      obtain ⟨ah, ch, rfl, _, _⟩ := hrd.slice
      have HTk := Lib.hid htk
      have z1 : (0 : Int) ≤ (k : Int) := by omega
      have z2 : (k : Int) < (G.length : Int) := by omega
      have hau : ∃ a c, u = .slice a acc.length c := by
        obtain ⟨vs, h1, _⟩ := hgot.out.1
        exact row_slice h1
      obtain ⟨au, cu, rfl⟩ := hau
      have hkl : acc.length ≤ 4294967300 := by omega
      clear d0 hrd hbw htk hgk hacc hal
      go_wp2_with fail
      refine CE.out.mono ?_
      rintro e w1 ⟨v1, rfl, hown1, hb1⟩
      have HH := Lib.hid (hgot.out.hdr hb1 hown1)
      have hg1 := hgot.out.then hsz hb1
      obtain ⟨a1, c1, rfl⟩ := row_slice hown1
      have hs1 : W2.heap.size ≤ w1.heap.size := Nat.le_trans hsz hb1.size
      obtain ⟨vs, hvs, hall⟩ := hg1.1
      have HVs := Lib.hid hvs
      have HAll := Lib.hid hall
      have HG1 := Lib.hid hg1
      have HGb : Hid (∀ j, Value.ownBlock (.slice au acc.length cu) = some j → W2.heap.size ≤ j) := fun j hj => (hvs.lt j hj).1
      have HNews := Lib.hid (Ss.news_one w1 #[.slice a1 gk.length c1] 38)
      have HOne : Hid (∀ u ∈ [Value.slice a1 gk.length c1], u.oneCell' = true) := by
        show ∀ u ∈ _, _
        intro u hu; simp at hu; subst hu; rfl
      clear hown1 hb1 hg1 hvs hall hgot CE
      go_wp2_with (first
        | (at_builtin; refine wpList_append_own_at _ rfl _ _ 27 rfl W2.heap.size 38 i0 (.slice none 0 0) 1 24 Tryd.underlying27 hi hz0 hz1 hz2 rfl (by decide) _ _ _ rfl (HVs.out.alloc _) ⟨w1.heap.size, 0, none⟩ 1 1 [.slice a1 gk.length c1] rfl rfl (by simpa using HNews.out) HOne.out (by unfold maxLen; omega) (by omega) (by simp; omega) ?_; intro v2 W4 hown2 hgrow2 hnil2 hloc2; have hg3 : Hid (GO 38 W2.heap.size (G.take (k + 1)) v2 W2 W4) := (by show GO _ _ _ _ _ _; rw [HTk.out]; exact HG1.out.app HH.out hs1 HAll.out hown2 hgrow2 HGb.out hloc2); clear hown2 hgrow2 hnil2 hloc2))
      go_roundw
      case rel => exact ⟨k + 1, _, by omega, rfl, by go_num, hg3⟩
      case measure => simp [intOf]; omega
    · obtain rfl : k = G.length := by omega
      have hg2 := hgot.out
      rw [List.take_length] at hg2
      have hfin : Hid (Rows2Out G w (.returned u) wr) := ⟨u, rfl, Of2.own hg2.1, HB2.out.trans (hg2.2.mono HB2.out.size)⟩
      clear hg2 hgot
      go_wp2_with fail
      go_ret
      exact hfin.out

end Go.Proofs.YtkmfedmiaannfaaDoor.Df
