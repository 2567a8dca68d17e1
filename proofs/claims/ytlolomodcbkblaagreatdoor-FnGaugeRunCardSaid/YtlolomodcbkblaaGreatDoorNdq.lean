/- Descriptors: sort.Sort of a row of label pairs: the same pairs, rising by name. -/
import Derived.Test.YtlolomodcbkblaaGreatDoorNdo
set_option linter.unusedVariables false
set_option linter.unusedSimpArgs false
namespace Go.Proofs.YtlolomodcbkblaaGreatDoor.Nd
open Go.RowKit Go.Maps Go.WideMaps Go.ChangeShapes Go.WideShapes Go.Deep Fp Obs
open Go.Sort (Holds putRow PermIn SortedIn SWO grow heap_grow_old cell?_grow)
open Go.Shelf

/-- a label pair in memory, apart from block g -/
structure El (w : World) (g : Nat) where
  q : Q3
  p : P2
  at_ : PairAt w q p
  n1 : q.1 ≠ g
  n2 : q.2.1 ≠ g
  n3 : q.2.2 ≠ g
def encE {w : World} {g : Nat} (x : El w g) : Value := pv x.q
def ltE {w : World} {g : Nat} (x y : El w g) : Bool := bl x.p.1 y.p.1
theorem swoE (w : World) (g : Nat) : SWO (ltE (w := w) (g := g)) where
  irrefl x := bl_irr _
  trans x y z h1 h2 := bl_trans h1 h2
  ntrans x y z h1 h2 := by
    unfold ltE at *
    cases h : bl x.p.1 z.p.1 with
    | false => rfl
    | true =>
      exfalso
      by_cases e : x.p.1 = y.p.1
      · rw [e, h2] at h; cases h
      · have h3 := bl_tot h1 e
        have h4 := bl_trans h3 h
        rw [h2] at h4; cases h4
section
variable {w : World} {g : Nat} [Inhabited (El w g)]
theorem cell_sorted (m : Nat) (dk : Array (El w g)) (os : Array Obj) {b j : Nat} (hb : b < w.heap.size) (hne : b ≠ g) : (sortWorld (encE (w := w) (g := g)) w g 0 m dk os).cell? ⟨b, j, none⟩ = w.cell? ⟨b, j, none⟩ := by
  have k : w.grownBy (sortWorld (encE (w := w) (g := g)) w g 0 m dk os) (some g) := grown_row (enc := encE (w := w) (g := g)) dk
  exact cell_kept k hb (fun e => by injection e with e; exact hne e)
theorem pairs_LessM (c : Nat) (d : Array (El w g)) (hH : Holds (encE (w := w) (g := g)) w g 0 d) (hblk : g < w.heap.size) (hsz : d.size < 4611686018427387904) :
    LessM Tryz.prog 277 (.slice (some ⟨g, 0, none⟩) d.size c) (encE (w := w) (g := g)) ltE g 0 d.size w := fun m os dk hs i j hi hj => by
  have hh := holds_sortWorld (encE (w := w) (g := g)) w g 0 m d dk os hblk hH hs
  have ci := (hh i (by omega)).1
  have cj := (hh j (by omega)).1
  have e1 := dk[i]!.at_
  have e2 := dk[j]!.at_
  exact pair_Less g c d.size _ i j hi hj hsz dk[i]!.q.1 dk[i]!.q.2.1 dk[j]!.q.1 dk[j]!.q.2.1 dk[i]!.p.1 dk[j]!.p.1 ci cj
    (by rw [cell_sorted m dk os e1.lt.1 dk[i]!.n1]; exact e1.nm) (by rw [cell_sorted m dk os e1.lt.2.1 dk[i]!.n2]; exact e1.n)
    (by rw [cell_sorted m dk os e2.lt.1 dk[j]!.n1]; exact e2.nm) (by rw [cell_sorted m dk os e2.lt.2.1 dk[j]!.n2]; exact e2.n)
theorem pairs_SwapM (c size : Nat) (hsz : size < 4611686018427387904) : SwapM Tryz.prog 278 (.slice (some ⟨g, 0, none⟩) size c) (encE (w := w) (g := g)) g 0 size := fun W dk hH hs i j hi hj =>
  pair_Swap g c size W ⟨dk[i]!.q.1, 0, none⟩ ⟨dk[j]!.q.1, 0, none⟩ i j hi hj hsz (hH i (by omega)).1 (hH j (by omega)).1 (hH i (by omega)).2 (hH j (by omega)).2
end

theorem pairs_sort {B : Nat} {v : Value} {qs : List Q3} {ps : List P2} {w : World} (hrow : w.ownsRow B 300 1 v ps.length (qs.map pv)) (hl : qs.length = ps.length) (hat : ∀ i (h : i < qs.length) (h2 : i < ps.length), PairAt w qs[i] ps[i])
    (hne : ∀ q ∈ qs, some q.1 ≠ v.ownBlock ∧ some q.2.1 ≠ v.ownBlock ∧ some q.2.2 ≠ v.ownBlock) (hn : (ps.map (·.1)).Nodup) (hsz : ps.length < 4611686018427387904) :
    Calls Tryz.prog 122 #[.iface 306 v] w fun e w' => e = .returned (.tuple #[]) ∧ ∃ (qs' : List Q3) (ps' : List P2), w'.ownsRow B 300 1 v ps.length (qs'.map pv) ∧ qs'.length = ps'.length ∧ ps'.Perm ps ∧ Srt ps' ∧
      (∀ i (h : i < qs'.length) (h2 : i < ps'.length), PairAt w' qs'[i] ps'[i]) ∧ w.grownBy w' v.ownBlock := by
  obtain ⟨a, c, hv⟩ := row_slice2 hrow
  by_cases h1 : ps.length ≤ 1
  · subst hv
    refine (Sh.sort_Sort_tiny (α := Nat) 306 (.slice a ps.length c) _ (len_reached _ _ _) ps.length h1 w (pair_Len _ _ _ _)).mono ?_
    rintro e w' ⟨rfl, q, rfl⟩
    refine ⟨rfl, qs, ps, hrow, hl, List.Perm.refl _, ?_, fun i h h2 => (hat i h h2).below (bdr (Below.refl _ _) q), ?_⟩
    · match ps, h1 with
      | [], _ => simp [Srt]
      | [p], _ => simp [Srt]
      | _ :: _ :: _, h1 => simp at h1
    · have := bdr (Below.refl w.heap.size w) q
      exact (grown_below this).but _
  · rcases hrow.2 with ⟨_, h0⟩ | ⟨g, cap, cur, hv2, hB, hcur, hnc, hcap, hcs, ht⟩
    · omega
    · subst hv2
      have hg : g < w.heap.size := (Array.getElem?_eq_some_iff.1 hcur).1
      have hx : ∀ i, i < ps.length → ∃ x : El w g, qs[i]? = some x.q ∧ ps[i]? = some x.p := fun i hi => by
        have hi2 : i < qs.length := by omega
        have m := hne _ (List.getElem_mem hi2)
        exact ⟨⟨qs[i], ps[i], hat i hi2 hi, fun e => m.1 (by rw [e]; rfl), fun e => m.2.1 (by rw [e]; rfl), fun e => m.2.2 (by rw [e]; rfl)⟩, List.getElem?_eq_getElem hi2, List.getElem?_eq_getElem hi⟩
      -- the elements
      have hes : ∀ n, n ≤ ps.length → ∃ xs : List (El w g), xs.map (·.q) = qs.take n ∧ xs.map (·.p) = ps.take n := by
        intro n
        induction n with
        | zero => intro _; exact ⟨[], by simp, by simp⟩
        | succ n ih =>
          intro hn
          obtain ⟨xs, e1, e2⟩ := ih (by omega)
          obtain ⟨x, e3, e4⟩ := hx n (by omega)
          refine ⟨xs ++ [x], ?_, ?_⟩
          · rw [List.map_append, e1, List.take_add_one, e3]; rfl
          · rw [List.map_append, e2, List.take_add_one, e4]; rfl
      obtain ⟨xs, e1, e2⟩ := hes ps.length (Nat.le_refl _)
      rw [← hl, List.take_length] at e1
      rw [List.take_length] at e2
      have hlx : xs.length = ps.length := by rw [← e2, List.length_map]
      haveI : Inhabited (El w g) := ⟨xs[0]'(by omega)⟩
      have hH : Holds (encE (w := w) (g := g)) w g 0 xs.toArray := holds_row hcur (by
        rw [hlx]
        have := ht
        rw [Nat.mul_one] at this
        rw [this, ← e1, List.map_map]
        rfl)
      have hsize : xs.toArray.size = ps.length := by simpa using hlx
      have hS := Sh.sort_Sort_sorted 306 (.slice (some ⟨g, 0, none⟩) xs.toArray.size cap) _ _ _ (len_reached _ _ _) (less_reached _ _ _) (swap_reached _ _ _) (encE (w := w) (g := g)) ltE (swoE w g) g 0 xs.toArray (by omega) (by omega) w
        (pair_Len _ _ _ _) (pairs_LessM cap xs.toArray hH hg (by omega)) (pairs_SwapM cap _ (by omega)) hH hg
      rw [hsize] at hS
      refine hS.mono ?_
      rintro e w' ⟨rfl, d', n, os, ⟨hp1, _, hp3⟩, hso, rfl⟩
      have hd : d'.size = ps.length := by rw [hp1]; exact hsize
      have hperm : d'.toList.Perm xs := by
        rw [← hsize, ← hp1] at hp3
        rw [Array.extract_size, hp1, Array.extract_size] at hp3
        simpa using hp3
      have hget : ∀ i (h : i < d'.size), d'[i]! = d'.toList[i]'(by simpa using h) := fun i h => by simp [h]
      have k : w.grownBy (grow (putRow (encE (w := w) (g := g)) (Sort.ahead w n) g 0 d') os) (some g) := grown_row d'
      refine ⟨rfl, d'.toList.map (·.q), d'.toList.map (·.p), ?_, by simp, ?_, ?_, ?_, k⟩
      · have h5 := owns_row (enc := encE (w := w) (g := g)) (n := n) (os := os) (ss := xs) (ts := d'.toList) (e := 300) (by rw [hlx]; simpa using hd) hB hcur (by rw [hlx]; exact hnc) hcap hcs
        rw [hlx] at h5
        have e5 : (d'.toList.map (·.q)).map pv = d'.toList.map (encE (w := w) (g := g)) := by rw [List.map_map]; rfl
        rw [e5]
        simpa using h5
      · have := hperm.map (·.p)
        rw [e2] at this
        exact this
      · rw [Srt, List.pairwise_map, List.pairwise_iff_getElem]
        intro i j hi hj hij
        have hi' : i < d'.size := by simpa using hi
        have hj' : j < d'.size := by simpa using hj
        have h6 := hso i j (Nat.zero_le _) hij (by rw [← hd]; exact hj')
        rw [hget i hi', hget j hj'] at h6
        refine bl_tot h6 (fun e7 => ?_)
        have hnd : ((d'.toList.map (·.p)).map (·.1)).Nodup := by
          have hp5 := (hperm.map (·.p)).map (·.1)
          rw [e2] at hp5
          exact hp5.nodup_iff.2 hn
        rw [List.nodup_iff_pairwise_ne, List.map_map, List.pairwise_map, List.pairwise_iff_getElem] at hnd
        exact hnd i j hi hj hij e7.symm
      · intro i h h2
        have hi : i < d'.toList.length := by simpa using h
        have h6 := d'.toList[i].at_
        have e8 : (d'.toList.map (·.q))[i] = d'.toList[i].q := by simp
        have e9 : (d'.toList.map (·.p))[i] = d'.toList[i].p := by simp
        rw [e8, e9]
        exact h6.kept k (fun e => by injection e with e; exact d'.toList[i].n1 e) (fun e => by injection e with e; exact d'.toList[i].n2 e) (fun e => by injection e with e; exact d'.toList[i].n3 e)

theorem sorted_fit {ps ps' L : List P2} {kn : List ByteArray} (hp : ps'.Perm ps) (hs : Srt ps') (h1 : ps.map (·.1) = kn) (h2 : ∀ p ∈ ps, p ∈ fit L) (hd : ∀ k, k ∈ kn ↔ (lastV L k).isSome = true) : ps' = fit L := by
  refine srt_eq hs (fit_srt L) fun q => ?_
  rw [hp.mem_iff]
  refine ⟨h2 q, fun hq => ?_⟩
  have hq2 := (mem_fit L q).1 hq
  have hk : q.1 ∈ kn := (hd q.1).2 (by rw [hq2]; rfl)
  rw [← h1] at hk
  obtain ⟨r, hr, e⟩ := List.mem_map.1 hk
  have hr2 := (mem_fit L r).1 (h2 r hr)
  have e2 : q.1 = r.1 := e.symm
  rw [e2, hr2] at hq2
  injection hq2 with hq2
  have : q = r := by
    obtain ⟨a, b⟩ := q
    obtain ⟨a', b'⟩ := r
    simp only at e2 hq2
    rw [e2, hq2]
  rw [this]; exact hr
/-- what NewDesc leaves -/
theorem desc_out {B d c : Nat} {w wr wz : World} {nm hp un ID DM : ByteArray} {V : List ByteArray} {L : List P2} {v vn : Value} {qs qs' : List Q3} {ps ps' : List P2}
    (hB : w.heap.size = B) (h : Sts B w [obBlock d 188 #[.string nm, .string hp, .string un, v, .pointer (some ⟨c, 0, none⟩), .string ID, .string DM, .nilIface], obBlock c 229 #[vn, .map none], PairsOb B v qs ps] wr)
    (hID : ID = mkB (idOf nm (fit L))) (hDM : DM = mkB (dimOf hp un V (fit L))) (hV : Sl.Of Value.string w vn V) (hl : qs'.length = ps'.length) (hrow : wz.ownsRow B 300 1 v ps.length (qs'.map pv)) (hperm : ps'.Perm ps)
    (hat : ∀ i (h : i < qs'.length) (h2 : i < ps'.length), PairAt wz qs'[i] ps'[i]) (hg : wr.grownBy wz v.ownBlock) (hf : ps' = fit L) :
    DescAt wz d nm hp un V (fit L) v c vn ∧ Below w.heap.size w wz := by
  have hbel : Below B w wz := h.bel.grown hg (by have := h.bel.size; omega) (fun j hj => (h.ge j (by simp [blocks, PairsOb, hj])).1)
  have hD : Whole wr d 188 _ := Sts.here (l := []) h
  have hC : Whole wr c 229 _ := Sts.here (l := [_]) h
  have nd : some d ≠ v.ownBlock := fun e => Sts.apart (l := []) (m := [_]) (r := []) h (b := d) (b' := d) (by simp [obBlock]) (by simp [PairsOb, ← e]) rfl
  have nc : some c ≠ v.ownBlock := fun e => Sts.apart (l := [_]) (m := []) (r := []) h (b := c) (b' := c) (by simp [obBlock]) (by simp [PairsOb, ← e]) rfl
  have hD2 : Whole wz d 188 _ := (hg.block d hD.lt nd).trans hD
  have hC2 : Whole wz c 229 _ := (hg.block c hC.lt nc).trans hC
  have hlen : qs'.length = ps.length := by rw [hl]; exact hperm.length_eq
  subst hID hDM
  rw [hB]
  refine ⟨⟨hD2.cell 0, hD2.cell 1, hD2.cell 2, hD2.cell 3, hD2.cell 4, hD2.cell 5, hD2.cell 6, hD2.cell 7, hC2.cell 0, hC2.cell 1, ?_, ⟨qs', by rw [hl, hf], Sl.Of.own (by rw [hlen]; exact hrow), fun i h1 h2 => ?_⟩, ⟨hD2.lt, hC2.lt⟩⟩, hbel⟩
  · rw [← hB] at hbel
    exact hV.below hbel
  · have h3 := hat i h1 (by rw [← hl]; exact h1)
    subst hf
    exact h3

end Go.Proofs.YtlolomodcbkblaaGreatDoor.Nd
