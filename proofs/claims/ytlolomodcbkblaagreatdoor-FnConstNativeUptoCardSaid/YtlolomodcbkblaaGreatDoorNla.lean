/- Descriptors: the label pairs of a metric (MakeLabelPairs) walked. -/
import Derived.Test.YtlolomodcbkblaaGreatDoorMg11
import Derived.Test.YtlolomodcbkblaaGreatDoorMg7
import Derived.Deep.RegionHeld3
import Derived.Deep.QuietTactic
import Derived.BigQuiet
import Derived.IntWalk
set_option linter.unusedVariables false
set_option linter.unusedSimpArgs false
namespace Go.Proofs.YtlolomodcbkblaaGreatDoor.Nd
open Go.RowKit Go.Maps Go.WideMaps Go.ChangeShapes Go.WideShapes Go.Deep Fp Obs

section
variable {B : Nat} {w0 w w1 w2 : World} {l rr : List Ob}
/-- the pairs' row grown by one -/
theorem Sts.pair {v v' : Value} {qs : List Q3} {ps : List P2} {q : Q3} {p : P2} (h : Sts B w0 (l ++ PairsOb B v qs ps :: rr) w) (hB : B ≤ w.heap.size) (hn : NewPair w w1 q p) (k : w1.grownBy w2 v.ownBlock)
    (ho : w2.ownsRow B 300 1 v' (ps.length + 1) (qs.map pv ++ [pv q])) (hloc : v'.ownBlock = v.ownBlock ∨ v'.ownBlock = some w1.heap.size) :
    Sts B w0 (l ++ PairsOb B v' (qs ++ [q]) (ps ++ [p]) :: rr) w2 := by
  have hP : (PairsOb B v qs ps).P w := h.here
  obtain ⟨p1, p2, p3⟩ := hP
  have k2 : w.grownBy w2 v.ownBlock := ((grown_below hn.bel).but v.ownBlock).trans k
  have hst : Sts B w0 (l ++ PairsOb B v qs ps :: rr) w := h
  have nd := hst.nd
  rw [blocks_mid, List.nodup_append, List.nodup_append] at nd
  have nd2 : (v.ownBlock.toList ++ qblocks qs).Nodup := nd.2.1.1
  rw [List.nodup_append] at nd2
  have lt : ∀ b ∈ (PairsOb B v qs ps).bs, b < w.heap.size := fun b hb => (hst.ge b (by rw [blocks_mid]; exact List.mem_append.2 (Or.inr (List.mem_append.2 (Or.inl hb))))).2
  have vlt : ∀ b, v.ownBlock = some b → b < w.heap.size := fun b hb => lt b (List.mem_append.2 (Or.inl (by rw [hb]; simp)))
  have qlt : ∀ b ∈ qblocks qs, b < w.heap.size := fun b hb => lt b (List.mem_append.2 (Or.inr hb))
  have far : ∀ b ∈ qblocks qs, some b ≠ v.ownBlock := fun b hb e => nd2.2.2 b (by rw [← e]; simp) b hb rfl
  have new : ∀ b, w.heap.size ≤ b → some b ≠ v.ownBlock := fun b hb e => by have := vlt b e.symm; omega
  have hz := hn.bel.size
  have hqlt := hn.at_.lt
  have hsz2 := k.size
  refine h.set hB k2 (fun b e => Or.inl (List.mem_append.2 (Or.inl (by rw [e]; simp)))) (o' := PairsOb B v' (qs ++ [q]) (ps ++ [p])) ⟨?_, by simp [p2], fun i hi h2 => ?_⟩ (fun b hb => ?_) ?_
  · rw [List.length_append, List.map_append]; exact ho
  · by_cases hl : i < qs.length
    · have h3 := p3 i hl (by omega)
      rw [List.getElem_append_left hl, List.getElem_append_left (by omega)]
      have m3 := mem_q (List.getElem_mem hl)
      exact h3.kept k2 (far _ m3.1) (far _ m3.2.1) (far _ m3.2.2)
    · obtain rfl : i = qs.length := by simp at hi; omega
      rw [List.getElem_concat_length rfl]
      have hr : (ps ++ [p])[qs.length]'h2 = p := by simp [p2]
      rw [hr]
      exact hn.at_.kept k (new _ hn.ge.1) (new _ hn.ge.2.1) (new _ hn.ge.2.2)
  · rcases List.mem_append.1 hb with hb | hb
    · have hb' : v'.ownBlock = some b := Option.mem_toList.1 hb
      rcases hloc with hl | hl
      · exact Or.inl (List.mem_append.2 (Or.inl (by rw [← hl, hb']; simp)))
      · right
        rw [hl] at hb'
        injection hb' with hb'
        have := (ho.lt b (by rw [hl, hb'])).2
        omega
    · have e : qblocks (qs ++ [q]) = qblocks qs ++ [q.1, q.2.1, q.2.2] := by simp [qblocks]
      rw [e] at hb
      rcases List.mem_append.1 hb with hb | hb
      · exact Or.inl (List.mem_append.2 (Or.inr hb))
      · right
        simp only [List.mem_cons, List.not_mem_nil, or_false] at hb
        rcases hb with rfl | rfl | rfl
        · exact ⟨hn.ge.1, by omega⟩
        · exact ⟨hn.ge.2.1, by omega⟩
        · exact ⟨hn.ge.2.2, by omega⟩
  · have e : qblocks (qs ++ [q]) = qblocks qs ++ [q.1, q.2.1, q.2.2] := by simp [qblocks]
    show (v'.ownBlock.toList ++ qblocks (qs ++ [q])).Nodup
    rw [e, List.nodup_append, List.nodup_append]
    have vn : ∀ b, v'.ownBlock = some b → b ∉ qblocks qs ∧ b ≠ q.1 ∧ b ≠ q.2.1 ∧ b ≠ q.2.2 := fun b hb => by
      rcases hloc with hl | hl
      · rw [hb] at hl
        have h5 := vlt b hl.symm
        exact ⟨fun hm => far b hm hl, by have := hn.ge; omega, by have := hn.ge; omega, by have := hn.ge; omega⟩
      · rw [hb] at hl
        injection hl with hl
        exact ⟨fun hm => by have := qlt b hm; omega, by omega, by omega, by omega⟩
    refine ⟨row_nodup v', ⟨nd2.2.1, by simp [hn.ne.1, hn.ne.2.1, hn.ne.2.2], fun a ha b hb e2 => ?_⟩, fun a ha b hb e2 => ?_⟩
    · subst e2
      have := qlt a ha
      simp only [List.mem_cons, List.not_mem_nil, or_false] at hb
      have := hn.ge
      omega
    · subst e2
      have hv := vn a (Option.mem_toList.1 ha)
      rcases List.mem_append.1 hb with hb | hb
      · exact hv.1 hb
      · simp only [List.mem_cons, List.not_mem_nil, or_false] at hb
        rcases hb with hb | hb | hb
        · exact hv.2.1 hb
        · exact hv.2.2.1 hb
        · exact hv.2.2.2 hb
end

theorem sl_slice {α : Type} {c : α → Value} {w : World} {v : Value} {zs : List α} (h : Sl.Of c w v zs) : ∃ a cap, v = .slice a zs.length cap ∧ zs.length ≤ cap ∧ cap ≤ 9223372036854775807 := by
  rcases h with ⟨rfl, a, cap, rfl, hcap⟩ | ⟨b, off, cap, rfl, h0, hcap, hm, _⟩
  · exact ⟨a, cap, rfl, Nat.zero_le _, hcap⟩
  · exact ⟨_, cap, rfl, hcap, hm⟩
/-- element k of a slice -/
theorem sl_at {α : Type} {c : α → Value} {w : World} {a : Option Addr} {n cap : Nat} {zs : List α} (h : Sl.Of c w (.slice a n cap) zs) {k : Nat} (hk : k < zs.length) : ∃ b off, a = some ⟨b, off, none⟩ ∧ b < w.heap.size ∧ w.cell? ⟨b, off + k, none⟩ = some (c zs[k]) := by
  rcases h with ⟨rfl, _⟩ | ⟨b, off, cap, h, h0, hcap, hm, hb, hcell⟩
  · simp at hk
  · injection h with h1 h2 h3
    exact ⟨b, off, h1, hb, hcell k hk⟩
/-- the labels: constant and variable ones, sorted by name -/
def labs (V X : List ByteArray) (F : List P2) : List P2 := fit (F ++ V.zip X)
theorem lastV_of {M : List P2} {k c : ByteArray} (hn : (M.map (·.1)).Nodup) (h : (k, c) ∈ M) : lastV M k = some c := by
  revert hn h
  refine snoc_ind (P := fun M => (M.map (·.1)).Nodup → (k, c) ∈ M → lastV M k = some c) (fun _ h => by cases h) (fun M p ih hn h => ?_) M
  rw [List.map_append, List.nodup_append] at hn
  rw [lastV_snoc]
  rcases List.mem_append.1 h with h | h
  · have hne : p.1 ≠ k := fun e => hn.2.2 k (List.mem_map.2 ⟨_, h, rfl⟩) p.1 (by simp) e.symm
    rw [if_neg hne]
    exact ih hn.1 h
  · rw [List.mem_singleton] at h
    subst h
    rw [if_pos rfl]
theorem fit_keys {M : List P2} (hn : (M.map (·.1)).Nodup) (q : P2) : q ∈ fit M ↔ q ∈ M := by
  rw [mem_fit]
  exact ⟨fun h => lastV_mem h, fun h => lastV_of hn h⟩
theorem sorted_labs {V X : List ByteArray} {F ps' : List P2} (hl : X.length = V.length) (hn : (F.map (·.1) ++ V).Nodup) (hp : ps'.Perm (V.zip X ++ F)) (hs : Srt ps') : ps' = labs V X F := by
  have hz : (V.zip X).map (·.1) = V := by rw [List.map_fst_zip]; omega
  refine srt_eq hs (fit_srt _) fun q => ?_
  rw [labs, fit_keys (by rw [List.map_append, hz]; exact hn), hp.mem_iff]
  simp only [List.mem_append]
  exact Or.comm
theorem labs_nil {F : List P2} (hs : Srt F) : labs [] [] F = F := by
  refine (srt_eq hs (fit_srt _) fun q => ?_).symm
  rw [List.zip_nil_left, List.append_nil, fit_keys (srt_nodup hs)]

def MakeOut (V X : List ByteArray) (F : List P2) (w : World) (e : Ending) (w' : World) : Prop := ∃ v, e = .returned v ∧ Pairs w' v (labs V X F) ∧ Below w.heap.size w w'

theorem flat_pv : ∀ qs : List Q3, (qs.flatMap fun z => [pv z]) = qs.map pv
  | [] => rfl
  | a :: l => by rw [List.flatMap_cons, flat_pv l]; rfl
/-- the variable pairs' row with the constant pairs behind it, sorted -/
theorem app_sort {w wr W' : World} {V X : List ByteArray} {F ps : List P2} {qs qs3 : List Q3} {v v' : Value} (hl : X.length = V.length) (hn : (F.map (·.1) ++ V).Nodup) (hsm : V.length + F.length < 4611686018427387904)
    (hq3l : qs3.length = F.length) (hq3a : ∀ i (h : i < qs3.length) (h2 : i < F.length), PairAt w qs3[i] F[i]) (hps : ps = V.zip X) (hst : Sts w.heap.size w [PairsOb w.heap.size v qs ps] wr)
    (ho : W'.ownsRow w.heap.size 300 1 v' (ps.length + qs3.length) (qs.map pv ++ qs3.flatMap fun z => [pv z])) (hg : wr.grownBy W' v.ownBlock) (hloc : v'.ownBlock = v.ownBlock ∨ v'.ownBlock = some wr.heap.size) :
    Calls Tryz.prog 122 #[.iface 306 v'] W' fun e W'' => e = .returned (.tuple #[]) ∧ MakeOut V X F w (.returned v') W'' := by
  have hP : (PairsOb w.heap.size v qs ps).P wr := Sts.here (l := []) hst
  obtain ⟨p1, p2, p3⟩ := hP
  have hBwr : w.heap.size ≤ wr.heap.size := hst.bel.size
  have hbel : Below w.heap.size w W' := hst.bel.grown hg hBwr (fun j hj => (hst.ge j (by simp [blocks, PairsOb, hj])).1)
  have hz : ps.map (·.1) = V := by rw [hps, List.map_fst_zip]; omega
  have hpl : ps.length = V.length := by rw [← hz, List.length_map]
  have nd := hst.nd
  have nd2 : (v.ownBlock.toList ++ qblocks qs).Nodup := by simpa [blocks, PairsOb] using nd
  rw [List.nodup_append] at nd2
  have qlt : ∀ b ∈ qblocks qs, b < wr.heap.size := fun b hb => (hst.ge b (by simp only [blocks, List.flatMap_cons, List.flatMap_nil, List.append_nil]; exact List.mem_append.2 (Or.inr hb))).2
  have far : ∀ b ∈ qblocks qs, some b ≠ v.ownBlock := fun b hb e => nd2.2.2 b (by rw [← e]; simp) b hb rfl
  have far2 : ∀ b ∈ qblocks qs, some b ≠ v'.ownBlock := fun b hb e => by
    rcases hloc with h | h
    · rw [h] at e; exact far b hb e
    · rw [h] at e
      injection e with e
      have := qlt b hb
      omega
  have old : ∀ b, b < w.heap.size → some b ≠ v'.ownBlock := fun b hb e => by
    have := (ho.lt b e.symm).1
    omega
  rw [flat_pv, ← List.map_append] at ho
  have hlen : (qs ++ qs3).length = (ps ++ F).length := by rw [List.length_append, List.length_append, p2, hq3l]
  have hat : ∀ i (h : i < (qs ++ qs3).length) (h2 : i < (ps ++ F).length), PairAt W' (qs ++ qs3)[i] (ps ++ F)[i] := fun i h h2 => by
    by_cases hi : i < qs.length
    · rw [List.getElem_append_left hi, List.getElem_append_left (by omega)]
      have m := mem_q (List.getElem_mem hi)
      exact (p3 i hi (by omega)).kept hg (far _ m.1) (far _ m.2.1) (far _ m.2.2)
    · rw [List.getElem_append_right (by omega), List.getElem_append_right (by omega)]
      have e : i - qs.length = i - ps.length := by rw [p2]
      have h3 := hq3a (i - qs.length) (by rw [List.length_append] at h; omega) (by rw [List.length_append] at h; omega)
      simp only [e] at h3 ⊢
      exact h3.below hbel
  have hne : ∀ q ∈ qs ++ qs3, some q.1 ≠ v'.ownBlock ∧ some q.2.1 ≠ v'.ownBlock ∧ some q.2.2 ≠ v'.ownBlock := fun q hq => by
    rcases List.mem_append.1 hq with hq | hq
    · have m := mem_q hq
      exact ⟨far2 _ m.1, far2 _ m.2.1, far2 _ m.2.2⟩
    · obtain ⟨i, hi, rfl⟩ := List.mem_iff_getElem.1 hq
      have h3 := (hq3a i hi (by omega)).lt
      exact ⟨old _ h3.1, old _ h3.2.1, old _ h3.2.2⟩
  have hnd : ((ps ++ F).map (·.1)).Nodup := by
    rw [List.map_append, hz]
    exact (List.perm_append_comm.nodup_iff).1 hn
  have hrow : W'.ownsRow w.heap.size 300 1 v' (ps ++ F).length ((qs ++ qs3).map pv) := by
    have e : (ps ++ F).length = ps.length + qs3.length := by rw [List.length_append, hq3l]
    rw [e]; exact ho
  refine (pairs_sort hrow hlen hat hne hnd (by rw [List.length_append, hpl]; omega)).mono ?_
  rintro e W2 ⟨rfl, qs', ps', hr2, hl2, hperm, hsrt, hat2, hg2⟩
  have hf : ps' = labs V X F := sorted_labs hl hn (by rw [← hps]; exact hperm) hsrt
  subst hf
  refine ⟨rfl, v', rfl, ⟨qs', hl2, Sl.Of.own (by rw [hl2, hperm.length_eq]; exact hr2), hat2⟩, hbel.grown hg2 hbel.size (fun j hj => (ho.lt j hj).1)⟩

set_option maxHeartbeats 16000000 in
set_option maxRecDepth 100000 in
theorem make_any (d c : Nat) (nm hp un : ByteArray) (V X : List ByteArray) (F : List P2) (v3 vn vx : Value) (w : World) (hd : DescAt w d nm hp un V F v3 c vn) (hx : Sl.Of Value.string w vx X) (hl : X.length = V.length) (hn : (F.map (·.1) ++ V).Nodup) (hs : Srt F)
    (hV : V.length ≤ 1048576) (hF : F.length ≤ 1048576) :
    Calls Tryz.prog 106 #[.pointer (some ⟨d, 0, none⟩), vx] w (MakeOut V X F w) := by
  obtain ⟨ip, hpi, hpz0, hpz1, hpz2⟩ := info_parts infoLP
  have HD := Lib.hid hd
  have HX := Lib.hid hx
  have HN := Lib.hid hn
  have HS := Lib.hid hs
  have hP := hd.pairs
  obtain ⟨qs3, hq3l, hq3, hq3a⟩ := hd.pairs
  obtain ⟨a3, c3, rfl, hc31, hc32⟩ := sl_slice hq3
  obtain ⟨an, cn, rfl, hcn1, hcn2⟩ := sl_slice hd.names
  obtain ⟨ax, cx, rfl, hcx1, hcx2⟩ := sl_slice hx
  rw [hq3l] at hP hd HD hc31
  have k3 : w.cell? ⟨d, 3, none⟩ = some (.slice a3 F.length c3) := hd.c3
  have k4 := hd.c4
  have n0 := hd.n0
  have HP := Lib.hid hP
  obtain ⟨T, hT⟩ : ∃ T : Nat, T = V.length + F.length := ⟨_, rfl⟩
  have hsum : IntKind.i64.wrap ((V.length : Int) + (F.length : Int)) = (T : Int) := by rw [IntWalk.i64_in _ (by omega)]; omega
  have hq3L := Lib.hid hq3l
  have HQ := Lib.hid hq3
  have HQA := Lib.hid hq3a
  have HL := Lib.hid hl
  have hTl : T ≤ 2097152 := by omega
  have HT := Lib.hid hT
  clear hd hx hn hs hP hq3l hq3 hq3a hl hT
  have HDW : Hid (∀ W, Below w.heap.size w W → W.cell? ⟨d, 3, none⟩ = some (.slice a3 F.length c3) ∧ W.cell? ⟨d, 4, none⟩ = some (.pointer (some ⟨c, 0, none⟩)) ∧ W.cell? ⟨c, 0, none⟩ = some (.slice an V.length cn)) := fun W h => ⟨(HD.out.below h).c3, (HD.out.below h).c4, (HD.out.below h).n0⟩
  by_cases hV0 : V.length = 0
  · obtain rfl : V = [] := List.length_eq_zero_iff.1 hV0
    obtain rfl : X = [] := List.length_eq_zero_iff.1 (by rw [HL.out]; rfl)
    by_cases hF0 : F.length = 0
    · obtain rfl : F = [] := List.length_eq_zero_iff.1 hF0
      have hfin : Hid (∀ W, Below w.heap.size w W → MakeOut [] [] [] w (.returned (.slice none 0 0)) W) := fun W h => ⟨_, rfl, ⟨[], rfl, Or.inl ⟨rfl, none, 0, rfl, by omega⟩, fun i h => absurd h (by simp)⟩, h⟩
      have hT0 : T = 0 := HT.out
      subst hT0
      clear hF0 hV0 HT
      go_enter Tryz.func106, Tryz.ntmps106
      go_wp2_with fail
      go_quiet (fail)
      have hb := Lib.hid (bdr (Below.refl w.heap.size w) nq)
      go_wp2_with fail
      go_ret
      exact hfin.out _ hb.out
    · have hfin : Hid (∀ W, Below w.heap.size w W → MakeOut [] [] F w (.returned (.slice a3 F.length c3)) W) := fun W h => ⟨_, rfl, by rw [labs_nil HS.out]; exact HP.out.below h, h⟩
      have hT1 : ¬ T = 0 := by have := HT.out; simp at this; omega
      have hT2 : ((T : Int) == 0) = false := by simp; omega
      clear HT hV0
      go_enter Tryz.func106, Tryz.ntmps106
      go_wp2_with fail
      go_quiet (fail)
      have hb := Lib.hid (bdr (Below.refl w.heap.size w) nq)
      go_wp2_with fail
      go_ret
      exact hfin.out _ hb.out
  · have hT1 : ¬ T = 0 := by have := HT.out; omega
    have hT2 : ((T : Int) == 0) = false := by simp; omega
    have hV2 : ((V.length : Int) == 0) = false := by rw [beq_eq_false_iff_ne]; omega
    have hLV : V.length ≤ T := by have := HT.out; omega
    go_enter Tryz.func106, Tryz.ntmps106
    go_wp2_with fail
    go_quiet (fail)
    have hb := bdr (Below.refl w.heap.size w) nq
    have HB := Lib.hid hb
    clear hb
    have hsz0 : w.heap.size ≤ (w.drewN nq).heap.size := HB.out.size
    generalize w.drewN nq = wa at *
    obtain ⟨e3, e4, e0⟩ := HDW.out wa HB.out
    have HSt0 : Hid (∀ W, W.ownsRow w.heap.size 300 1 (.slice (some ⟨wa.heap.size, 0, none⟩) 0 T) 0 [] → wa.grownBy W none → Sts w.heap.size w [PairsOb w.heap.size (.slice (some ⟨wa.heap.size, 0, none⟩) 0 T) [] []] W) := fun W ho hg =>
      ⟨fun o hob => by rw [List.mem_singleton.1 hob]; exact ⟨ho, rfl, fun i h => absurd h (by simp)⟩, by simp [blocks, PairsOb, qblocks, Value.ownBlock], fun b hb => by
        have hb2 : b = wa.heap.size := by simpa [blocks, PairsOb, qblocks, Value.ownBlock] using hb
        subst hb2
        exact ⟨hsz0, (ho.lt _ rfl).2⟩, HB.out.grown hg hsz0 (fun j hj => by cases hj)⟩
    go_wp2_with (first
      | (at_make; refine wpList_make_own _ rfl _ _ 185 rfl w.heap.size 300 ip (.pointer none) 1 Tryz.underlying185 hpi hpz0 hpz1 _ _ _ T rfl rfl rfl (by rw [hpz2]; omega) (by unfold maxLen; omega) hsz0 ?_; intro Wk hrowk hgk; have HSk := Lib.hid (HSt0.out Wk hrowk hgk); obtain ⟨f3, f4, f0⟩ := HDW.out Wk HSk.out.bel; clear hrowk hgk))
    have HNm := Lib.hid HD.out.names
    have hFb : F.length ≤ 1048576 := hF
    have HBig : Hid (w.heap.size ≤ wa.heap.size) := hsz0
    clear e3 e4 e0 k3 k4 n0 HSt0 hsz0 hV0 HB hsum hT1 hT2 hV2
    go_loopw [6, 48] (fun vu vk wr => ∃ (ps : List P2) (qs : List Q3) (ap : Option Addr) (cp : Nat), ps.length ≤ V.length ∧ vu = .slice ap ps.length cp ∧ vk = .int .i64 (ps.length : Int) ∧ Hid (ps = (V.zip X).take ps.length) ∧ Hid (Sts w.heap.size w [PairsOb w.heap.size (.slice ap ps.length cp) qs ps] wr)) (fun _ k _ => V.length - (intOf k).toNat)
    case atStart => exact ⟨[], [], _, _, Nat.zero_le _, rfl, rfl, rfl, HSk.out⟩
    case round =>
      obtain ⟨ps, qs, ap, cp, hk, rfl, rfl, hps, hst⟩ := hrel
      have hbw := hst.out.bel
      have hBw : w.heap.size ≤ wr.heap.size := hbw.size
      by_cases hlt : ps.length < V.length
      · have hltX : ps.length < X.length := by rw [HL.out]; exact hlt
        obtain ⟨bn, on, han, hbn, cN⟩ := sl_at HNm.out hlt
        obtain ⟨bx, ox, hax, hbx, cX⟩ := sl_at HX.out hltX
        subst han
        subst hax
        obtain ⟨x, hx⟩ : ∃ x, V[ps.length] = x := ⟨_, rfl⟩
        obtain ⟨y, hy⟩ : ∃ y, X[ps.length] = y := ⟨_, rfl⟩
        rw [hx] at cN
        rw [hy] at cX
        have d1 : wr.cell? ⟨bn, on + ps.length, none⟩ = some (.string x) := by rw [hbw.cell (p := ⟨bn, on + ps.length, none⟩) hbn]; exact cN
        have d2 : wr.cell? ⟨bx, ox + ps.length, none⟩ = some (.string y) := by rw [hbw.cell (p := ⟨bx, ox + ps.length, none⟩) hbx]; exact cX
        have d3 : wr.drew.cell? ⟨bx, ox + ps.length, none⟩ = some (.string y) := d2
        have hzl : ps.length < (V.zip X).length := by rw [List.length_zip]; omega
        have HPs2 : Hid (ps ++ [(x, y)] = (V.zip X).take (ps ++ [(x, y)]).length) := by
          show _ = _
          have e : (ps ++ [(x, y)]).length = ps.length + 1 := by simp
          rw [e, List.take_succ_eq_append_getElem hzl, List.getElem_zip, hx, hy, ← hps.out]
        have hstd : Sts w.heap.size w [PairsOb w.heap.size (.slice ap ps.length cp) qs ps] wr.drew := hst.out.below hBw (Below.refl _ _).drew
        have hrowP : wr.drew.ownsRow w.heap.size 300 1 (.slice ap ps.length cp) ps.length (qs.map pv) := (Sts.here (l := []) hstd : (PairsOb w.heap.size (.slice ap ps.length cp) qs ps).P wr.drew).1
        have HSp : Hid (∀ (W1 : World) (q : Q3), NewPair wr.drew W1 q (x, y) → ∀ (g5 cu5 : Nat) (W5 : World), W5.ownsRow w.heap.size 300 1 (.slice (some ⟨g5, 0, none⟩) (ps.length + 1) cu5) (ps.length + 1) (qs.map pv ++ [pv q]) → W1.grownBy W5 (Value.ownBlock (.slice ap ps.length cp)) → (Value.ownBlock (.slice ap ps.length cp) = some g5 ∨ g5 = wr.heap.size + 1 + 1 + 1 + 1) →
            W5.cell? ⟨bx, ox + ps.length, none⟩ = some (.string y) ∧ Sts w.heap.size w [PairsOb w.heap.size (.slice (some ⟨g5, 0, none⟩) (ps.length + 1) cu5) (qs ++ [q]) (ps ++ [(x, y)])] W5) := fun W1 q hn g5 cu5 W5 ho hg hl => by
          have h1 := Sts.pair (l := []) (rr := []) hstd hBw hn hg ho (by
            rcases hl with hl | hl
            · exact Or.inl hl.symm
            · right
              rw [hn.sz, hl]; rfl)
          exact ⟨by rw [h1.bel.cell (p := ⟨bx, ox + ps.length, none⟩) hbx]; exact cX, h1⟩
        have HSpA := Lib.hid (HSp.out _ _ (newA wr.drew x y))
        have HSpB := Lib.hid (HSp.out _ _ (newB wr.drew x y))
        have HRowA : Hid ((pairA wr.drew x y).ownsRow w.heap.size 300 1 (.slice ap ps.length cp) ps.length (qs.map pv)) := (((hrowP.alloc _).alloc _).alloc _).alloc _
        have HRowB : Hid ((pairB wr.drew x y).ownsRow w.heap.size 300 1 (.slice ap ps.length cp) ps.length (qs.map pv)) := (((hrowP.alloc _).alloc _).alloc _).alloc _
        have HNewsA := Lib.hid (new_four wr.drew (.string x) (.string y) #[.pointer (some ⟨wr.drew.heap.size, 0, none⟩), .pointer (some ⟨wr.drew.heap.size + 1, 0, none⟩)] (.pointer (some ⟨wr.drew.heap.size + 1 + 1, 0, none⟩)) 9 9 304 300).2.2.2.1
        have HNewsB := Lib.hid (new_four wr.drew (.string y) (.string x) #[.pointer (some ⟨wr.drew.heap.size + 1, 0, none⟩), .pointer (some ⟨wr.drew.heap.size, 0, none⟩)] (.pointer (some ⟨wr.drew.heap.size + 1 + 1, 0, none⟩)) 9 9 304 300).2.2.2.1
        have HBaseA : Hid (w.heap.size ≤ (pairA wr.drew x y).heap.size) := Nat.le_trans hBw (newA wr.drew x y).bel.size
        have HBaseB : Hid (w.heap.size ≤ (pairB wr.drew x y).heap.size) := Nat.le_trans hBw (newB wr.drew x y).bel.size
        have HOneP : Hid (∀ u ∈ [Value.pointer (some ⟨wr.heap.size + 1 + 1, 0, none⟩)], u.oneCell' = true) := by
          show ∀ u ∈ _, _
          intro u hu; simp at hu; rw [hu]; rfl
        have HAl : Hid (∀ (W : World) o, W.cell? ⟨bx, ox + ps.length, none⟩ = some (.string y) → (W.alloc o).cell? ⟨bx, ox + ps.length, none⟩ = some (.string y)) := fun W o h => by
          rw [World.cell?_alloc_past (w := W) o bx _ (World.block_lt_of_cell? W (a := ⟨bx, ox + ps.length, none⟩) h)]; exact h
        have HAd : Hid (∀ (W : World), W.cell? ⟨bx, ox + ps.length, none⟩ = some (.string y) → W.drew.cell? ⟨bx, ox + ps.length, none⟩ = some (.string y)) := fun W h => h
        have hlenP : (ps ++ [(x, y)]).length = ps.length + 1 := by simp
        have HLenP := Lib.hid hlenP
        have z1 : (0 : Int) ≤ (ps.length : Int) := by omega
        have z2 : (ps.length : Int) < (V.length : Int) := by omega
        have z3 : (ps.length : Int) < (X.length : Int) := by omega
        have hsm : ps.length ≤ 1048576 := by omega
        clear hx hy cN cX hstd hrowP hst hps hlenP HSp hbw hltX hzl
        go_wp2_with fail
        go_region_held3 (fun w' => w'.cell? ⟨bx, ox + ps.length, none⟩ = some (.string y)) (first | (with_reducible exact d2) | (with_reducible exact e5) | ((repeat (first | (with_reducible refine HAd.out _ ?_) | (with_reducible refine HAl.out _ _ ?_))); with_reducible exact d2))
          (first
            | (refine step_append_lies _ (by rfl) (.tmp 53) (.tmp 63) 185 (by rfl) w.heap.size 300 ip (.pointer none) 1 8 Tryz.underlying185 hpi hpz0 hpz1 hpz2 rfl (by decide) _ _ _ (by simp [Act.eval, Act.put]) HRowA.out ⟨wr.heap.size + 1 + 1 + 1, 0, none⟩ 1 1 [.pointer (some ⟨wr.heap.size + 1 + 1, 0, none⟩)] (by simp [Act.eval, Act.put]) rfl HNewsA.out HOneP.out (by decide) (by unfold maxLen; omega) (by omega) HBaseA.out (wr.heap.size + 1 + 1 + 1 + 1) (by simp) ?_; intro g5 cu5 W5 hown5 hgrow5 hat5 hlt5; obtain ⟨e5, hF5⟩ := HSpA.out g5 cu5 W5 hown5 hgrow5 hat5; have HF5 := Lib.hid hF5; clear hown5 hgrow5 hat5 hlt5 hF5)
            | (refine step_append_lies _ (by rfl) (.tmp 53) (.tmp 63) 185 (by rfl) w.heap.size 300 ip (.pointer none) 1 8 Tryz.underlying185 hpi hpz0 hpz1 hpz2 rfl (by decide) _ _ _ (by simp [Act.eval, Act.put]) HRowB.out ⟨wr.heap.size + 1 + 1 + 1, 0, none⟩ 1 1 [.pointer (some ⟨wr.heap.size + 1 + 1, 0, none⟩)] (by simp [Act.eval, Act.put]) rfl HNewsB.out HOneP.out (by decide) (by unfold maxLen; omega) (by omega) HBaseB.out (wr.heap.size + 1 + 1 + 1 + 1) (by simp) ?_; intro g5 cu5 W5 hown5 hgrow5 hat5 hlt5; obtain ⟨e5, hF5⟩ := HSpB.out g5 cu5 W5 hown5 hgrow5 hat5; have HF5 := Lib.hid hF5; clear hown5 hgrow5 hat5 hlt5 hF5)
            | (go_at_call 121; refine (text_any _ _).mono ?_; rintro e w' ⟨rfl, rfl⟩))
        all_goals
          go_wp2_with fail
          go_roundw
          case rel => exact ⟨ps ++ [(x, y)], _, some ⟨g5, 0, none⟩, cu5, by rw [HLenP.out]; omega, by rw [HLenP.out], by rw [HLenP.out]; go_num, HPs2.out, by rw [HLenP.out]; exact HF5.out⟩
          case measure => simp [intOf]; omega
      · have hge : ¬ ((ps.length : Int) < (V.length : Int)) := by omega
        have hpv : ps.length = V.length := by omega
        have HPsV : Hid (ps = V.zip X) := by
          show _ = _
          rw [hps.out, hpv, List.take_of_length_le (by rw [List.length_zip]; omega)]
        have HApp : Hid (∀ v' W', W'.ownsRow w.heap.size 300 1 v' (ps.length + qs3.length) (qs.map pv ++ qs3.flatMap fun z => [pv z]) → wr.grownBy W' (Value.ownBlock (.slice ap ps.length cp)) → (v'.ownBlock = Value.ownBlock (.slice ap ps.length cp) ∨ v'.ownBlock = some wr.heap.size) →
            Calls Tryz.prog 122 #[.iface 306 v'] W' fun e W'' => e = .returned (.tuple #[]) ∧ MakeOut V X F w (.returned v') W'') := fun v' W' ho hg hl => app_sort HL.out HN.out (by omega) hq3L.out HQA.out HPsV.out hst.out ho hg hl
        have hrowP : Hid (wr.ownsRow w.heap.size 300 1 (.slice ap ps.length cp) ps.length (qs.map pv)) := (Sts.here (l := []) hst.out : (PairsOb w.heap.size (.slice ap ps.length cp) qs ps).P wr).1
        have HQs : Hid (Ss.Of 1 (fun z => [pv z]) wr (.slice a3 F.length c3) qs3) := by
          have h := sl_ss (HQ.out.below hbw)
          rw [hq3L.out] at h
          exact h
        have HOneQ : Hid (∀ z : Q3, ∀ u ∈ [pv z], u.oneCell' = true) := fun z u hu => by rw [List.mem_singleton.1 hu]; rfl
        have hq3n : qs3.length ≤ 1048576 := by have := hq3L.out; omega
        have HPL := Lib.hid hpv
        have HQN := Lib.hid hq3n
        have hsm : ps.length ≤ 1048576 := by omega
        obtain ⟨g3, g4, g0⟩ := HDW.out wr hbw
        clear hst hps hpv hbw hq3n
        go_wp2_with (first
          | (at_builtin; refine append_of rfl (.tmp 66) (.tmp 70) 185 (by rfl) w.heap.size 300 ip (.pointer none) 1 8 Tryz.underlying185 hpi hpz0 hpz1 hpz2 rfl (by decide) _ _ _ (by rfl) hrowP.out (c := fun z => [pv z]) (fun _ => rfl) HOneQ.out qs3 _ (by rfl) HQs.out (by have := HQN.out; unfold maxLen; omega) (by have := HQN.out; omega) hBw ?_; intro v2 W2 ho2 hg2 hl2; have HCS := Lib.hid (HApp.out v2 W2 ho2 hg2 hl2); clear ho2 hg2 hl2)
          | (go_at_call 122; refine HCS.out.mono ?_; rintro e W3 ⟨rfl, hmo⟩; have HMo := Lib.hid hmo; clear hmo))
        go_ret
        exact HMo.out

end Go.Proofs.YtlolomodcbkblaaGreatDoor.Nd
