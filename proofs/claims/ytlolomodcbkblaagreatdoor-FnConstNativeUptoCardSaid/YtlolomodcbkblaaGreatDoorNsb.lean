/- Descriptors: 'append' of whatever slice is read as a list; the reference's question on a descriptor's data (spec.SayMeta) walked. -/
import Derived.Test.YtlolomodcbkblaaGreatDoorNsa
import Derived.Test.YtlolomodcbkblaaGreatDoorMg6
import Derived.Test.YtlolomodcbkblaaGreatDoorFp
import Derived.Deep.Upon
set_option linter.unusedVariables false
set_option linter.unusedSimpArgs false
namespace Go.Proofs.YtlolomodcbkblaaGreatDoor.Nd
open Go.RowKit Go.Maps Go.WideMaps Go.ChangeShapes Go.WideShapes Go.Deep Fp Obs

theorem sl_ss {α : Type} {c : α → Value} {w : World} {v : Value} {zs : List α} (h : Sl.Of c w v zs) : Ss.Of 1 (fun z => [c z]) w v zs := by
  rcases h with h | ⟨b, off, cap, h1, h2, h3, h4, h5, h6⟩
  · exact Or.inl h
  · refine Or.inr ⟨b, off, cap, h1, h2, h3, h4, h5, fun i h j u hu => ?_⟩
    rcases j with _ | j
    · injection hu with hu
      rw [← hu, Nat.mul_one]
      exact h6 i h
    · simp at hu
section
variable {P : Program} {w : World}
theorem flat_at {α : Type} {k : Nat} {c : α → List Value} (hk : 0 < k) (hc : ∀ z, (c z).length = k) (zs : List α) (j : Nat) (u : Value) (h : (zs.flatMap c)[j]? = some u) : ∃ i, ∃ hi : i < zs.length, ∃ r, j = i * k + r ∧ (c zs[i])[r]? = some u := by
  have hl : j < zs.length * k := by
    rw [← Ss.flat_len hc]
    exact (List.getElem?_eq_some_iff.1 h).1
  have hi : j / k < zs.length := Nat.div_lt_of_lt_mul (by rw [Nat.mul_comm]; exact hl)
  have hj : j = j / k * k + j % k := by rw [Nat.mul_comm]; exact (Nat.div_add_mod j k).symm
  have hr := Nat.mod_lt j hk
  refine ⟨j / k, hi, j % k, hj, ?_⟩
  rw [← Ss.flat_get hc zs _ hi _ hr, ← hj]
  exact h
theorem append_of {α : Type} {ops : Array Oper} {rest : List Oper} {o : Oper} {a : Act} {Q : Exit → Act → World → Prop} (hgd : o.guard = none) (s x : Operand) (t : TypeId)
    (ho : o.op = .call { callee := .builtin .append, args := #[s, x], argTypes := #[t, t] })
    (base : Nat) (e : TypeId) (i : TypeInfo) (z : Value) (size bytes : Nat) (ht : P.underlying t = some (.slice e)) (hi : P.info? e = some i) (hz : i.zero = some z)
    (hsize : i.size = size) (hby : i.bytes = bytes) (hzs : z.cells.size = size) (hsz : 0 < size)
    (v : Value) (n : Nat) (xs : List Value) (hs : a.eval s = v) (hown : w.ownsRow base e size v n xs)
    {c : α → List Value} (hc : ∀ z, (c z).length = size) (h1 : ∀ z, ∀ u ∈ c z, u.oneCell' = true) (zs : List α) (vx : Value) (hx : a.eval x = vx) (hof : Ss.Of size c w vx zs)
    (h63 : n + zs.length ≤ maxLen) (hbytes : (n + zs.length) * bytes ≤ 140737488355328) (hbase : base ≤ w.heap.size)
    (h : ∀ v' w', w'.ownsRow base e size v' (n + zs.length) (xs ++ zs.flatMap c) → w.grownBy w' v.ownBlock → (v'.ownBlock = v.ownBlock ∨ v'.ownBlock = some w.heap.size) → wpList P ops Q rest (a.put o.dst v') w') :
    wpList P ops Q (o :: rest) a w := by
  refine wpList_plain hgd fun K hK => ?_
  rcases hof with ⟨rfl, ax, cx, rfl, hcx⟩ | ⟨b, off, cap, rfl, h0, hcap, hm, hb, hcell⟩
  · obtain ⟨av, cv, hv, hn⟩ : ∃ av cv, v = .slice av n cv ∧ n ≤ cv := by
      rcases hown.2 with ⟨rfl, rfl⟩ | ⟨g, cap, cur, rfl, hbg, hg, hn, hcm, hcs, htake⟩
      · exact ⟨none, 0, rfl, Nat.le_refl _⟩
      · exact ⟨_, cap, rfl, hn⟩
    subst hv
    have hr : (Builtin.append_ #[t, t] o.type #[.slice av n cv, .slice ax 0 cx]).run P w = .ok (.slice av n cv) w := by
      refine run_append_nothing w t t o.type e i ht hi av n cv hn _ ⟨Or.inl ⟨e, ht⟩, fun w' => ?_, ?_, ?_, by simp, by simp⟩
      all_goals cases ax <;> simp [Builtin.lenOf, Builtin.firstCells, loadCells, loadCellsFrom]
    unfold Oper.wp execOp
    simp only [ho, resolve, invoke, builtin, Sem.run_bind, Sem.run_pure, Result.andThen_ok, List.map_toArray, List.map_cons, List.map_nil, hs, hx, hr]
    exact hK _ _ (h _ _ (by simpa using hown) ⟨rfl, rfl, rfl, Nat.le_refl _, fun _ _ _ => rfl⟩ (Or.inl rfl))
  · obtain ⟨v', w', hr, h2, h3, h4, h5⟩ := run_append_own_at (P := P) w base t o.type e i z size bytes ht hi hz hsize hby hzs hsz v n xs hown ⟨b, off, none⟩ zs.length cap (zs.flatMap c) (Ss.flat_len hc zs)
      (fun j u hu => by
        obtain ⟨q, hq, r, rfl, hur⟩ := flat_at hsz hc zs j u hu
        rw [Addr.add_lit]
        exact hcell q hq r u hur)
      (fun u hu => by
        obtain ⟨z, _, hz⟩ := List.mem_flatMap.1 hu
        exact h1 z u hz) h63 hbytes hbase
    unfold Oper.wp execOp
    simp only [ho, resolve, invoke, builtin, Sem.run_bind, Sem.run_pure, Result.andThen_ok, List.map_toArray, List.map_cons, List.map_nil, hs, hx, hr]
    exact hK _ _ (h v' w' h2 h3 h5)
end

abbrev MetaV (nm hp un : ByteArray) (vv cv : Value) : Value := .agg #[.string nm, .string hp, .string un, vv, cv]
/-- a descriptor's data, as a value in memory -/
structure MetaAt (w : World) (mv : Value) (nm hp un : ByteArray) (V : List ByteArray) (L : List P2) : Prop where
  val : ∃ vv cv, mv = MetaV nm hp un vv cv ∧ Sl.Of Value.string w vv V ∧ Ss.Of 2 pc w cv L
  lenV : V.length ≤ 1048576
  lenL : L.length ≤ 1048576
  nmS : nm.size ≤ 9223372036854775807
  hpS : hp.size ≤ 9223372036854775807
  varS : ∀ v ∈ V, v.size ≤ 9223372036854775807
  conS : ∀ p ∈ L, p.1.size ≤ 9223372036854775807 ∧ p.2.size ≤ 9223372036854775807
theorem MetaAt.below {w w' : World} {mv : Value} {nm hp un : ByteArray} {V : List ByteArray} {L : List P2} (h : MetaAt w mv nm hp un V L) (k : Below w.heap.size w w') : MetaAt w' mv nm hp un V L := by
  obtain ⟨vv, cv, h1, h2, h3⟩ := h.val
  exact ⟨⟨vv, cv, h1, h2.below k, h3.below k⟩, h.lenV, h.lenL, h.nmS, h.hpS, h.varS, h.conS⟩
noncomputable def nameB (N : List ByteArray) (x : ByteArray) (k : Nat) : Bool := plainB x && !(x.toList == [108, 101]) && !(x.toList == [113, 117, 97, 110, 116, 105, 108, 101]) && !(inB x (N.take k))
def namesOf (V : List ByteArray) (L : List P2) : List ByteArray := V ++ (fit L).map (·.1)
structure SayP (nm hp un : ByteArray) (V : List ByteArray) (L : List P2) : Prop where
  nm : plainB nm = true
  hp : asciiB hp = true
  un : un.toList.isEmpty = true
  vals : ∀ k (h : k < (fit L).length), asciiB ((fit L)[k]).2 = true
  names : ∀ k (h : k < (namesOf V L).length), nameB (namesOf V L) (namesOf V L)[k] k = true
open Classical in
noncomputable def sayB (nm hp un : ByteArray) (V : List ByteArray) (L : List P2) : Bool := decide (SayP nm hp un V L)
theorem sayB_iff {nm hp un : ByteArray} {V : List ByteArray} {L : List P2} : sayB nm hp un V L = true ↔ SayP nm hp un V L := by classical exact ⟨fun h => of_decide_eq_true h, fun h => decide_eq_true h⟩
theorem say_no {nm hp un : ByteArray} {V : List ByteArray} {L : List P2} (h : ¬ SayP nm hp un V L) : sayB nm hp un V L = false := by
  cases hb : sayB nm hp un V L with
  | false => rfl
  | true => exact absurd (sayB_iff.1 hb) h

theorem lastV_mem {L : List P2} {k c : ByteArray} : lastV L k = some c → (k, c) ∈ L := by
  refine snoc_ind (P := fun L => lastV L k = some c → (k, c) ∈ L) (fun h => by cases h) (fun L p ih h => ?_) L
  rw [lastV_snoc] at h
  by_cases hp : p.1 = k
  · rw [if_pos hp] at h
    injection h with h
    subst hp h
    simp
  · rw [if_neg hp] at h
    exact List.mem_append.2 (Or.inl (ih h))
theorem fit_sub {L : List P2} {p : P2} (h : p ∈ fit L) : p ∈ L := lastV_mem ((mem_fit L p).1 h)
theorem fit_le (L : List P2) : (fit L).length ≤ L.length := by have h := fit_len L L.length; rwa [List.take_length] at h
/-- an own row of pairs -/
def obPs (B : Nat) (v : Value) (F : List P2) : Ob :=
  ⟨v.ownBlock.toList, fun w => w.ownsRow B 138 2 v F.length (F.flatMap pc), fun h hl k hn => h.kept k (by cases hv : v.ownBlock with | none => exact Or.inl rfl | some b => exact Or.inr (hn b (by rw [hv]; simp)))⟩
theorem ps_cells {B n c k : Nat} {a : Option Addr} {F : List P2} {w : World} (h : (obPs B (.slice a n c) F).P w) (hk : k < F.length) :
    ∃ g, a = some ⟨g, 0, none⟩ ∧ w.cell? ⟨g, k * 2, none⟩ = some (.string (F[k]).1) ∧ w.cell? ⟨g, k * 2 + 1, none⟩ = some (.string (F[k]).2) := by
  have h : w.ownsRow B 138 2 (.slice a n c) F.length (F.flatMap pc) := h
  rcases h.2 with ⟨hv, h0⟩ | ⟨g, cap, cur, hv, hbg, hg, hn, hcm, hcs, htake⟩
  · omega
  · injection hv with h1 h2 h3
    subst h1 h2 h3
    have e0 := h.cellAt (k * 2) (by omega)
    have e1 := h.cellAt (k * 2 + 1) (by omega)
    have f0 := Ss.flat_get pc_len F k hk 0 (by omega)
    have f1 := Ss.flat_get pc_len F k hk 1 (by omega)
    exact ⟨g, rfl, e0.trans f0, e1.trans f1⟩
theorem flat_one : ∀ V : List ByteArray, (V.flatMap fun z => [Value.string z]) = V.map Value.string
  | [] => rfl
  | a :: l => by rw [List.flatMap_cons, flat_one l]; rfl
def names (V : List ByteArray) (F : List P2) (k : Nat) : List ByteArray := V ++ (F.take k).map (·.1)
theorem names_len {V : List ByteArray} {F : List P2} {k : Nat} (h : k ≤ F.length) : (names V F k).length = V.length + k := by simp [names]; omega
theorem names_snoc {V : List ByteArray} {F : List P2} {k : Nat} (h : k < F.length) : names V F (k + 1) = names V F k ++ [(F[k]).1] := by
  unfold names
  rw [List.take_succ_eq_append_getElem h, List.map_append, List.append_assoc]; rfl

set_option maxHeartbeats 16000000 in
set_option maxRecDepth 100000 in
theorem say_any (mv : Value) (nm hp un : ByteArray) (V : List ByteArray) (L : List P2) (w : World) (hm : MetaAt w mv nm hp un V L) :
    Calls Tryz.prog 18 #[mv] w fun e w' => e = .returned (.bool (sayB nm hp un V L)) ∧ Below w.heap.size w w' := by
  obtain ⟨vv, cv, rfl, hvv, hcv⟩ := hm.val
  have HV := Lib.hid hvv
  have HC := Lib.hid hcv
  have HM := Lib.hid hm
  have hnS := hm.nmS
  have hhS := hm.hpS
  clear hvv hcv hm
  obtain ⟨i0, hi, hz0, hz1, hz2⟩ := info_parts infoS
  go_enter Tryz.func18, Tryz.ntmps18
  have hb1 : Hid (∀ j, (w.alloc (.cells #[.string nm, .string hp, .string un, vv, cv] 66)).cell? ⟨w.heap.size, j, none⟩ = (#[.string nm, .string hp, .string un, vv, cv] : Array Value)[j]?) := fun j => Sl.cell_new w _ _ j
  have HB1 : Hid (Below w.heap.size w (w.alloc (.cells #[.string nm, .string hp, .string un, vv, cv] 66))) := (Below.refl _ _).alloc (Nat.le_refl _) _
  cases h1 : plainB nm with
  | false =>
    have HF : Hid (sayB nm hp un V L = false) := say_no fun h => by rw [h.nm] at h1; exact Bool.noConfusion h1
    have H1 := Lib.hid h1
    clear h1
    go_wp2_with (go_at_call 61; refine (plain_any _ _ hnS).mono ?_; rintro e w' ⟨rfl, rfl⟩; rw [H1.out])
    go_ret
    exact ⟨by rw [HF.out]; rfl, HB1.out⟩
  | true =>
    have H1 := Lib.hid h1
    clear h1
    cases h2 : asciiB hp with
    | false =>
      have HF : Hid (sayB nm hp un V L = false) := say_no fun h => by rw [h.hp] at h2; exact Bool.noConfusion h2
      have H2 := Lib.hid h2
      clear h2
      go_wp2_with (first
        | (go_at_call 61; refine (plain_any _ _ hnS).mono ?_; rintro e w' ⟨rfl, rfl⟩; rw [H1.out])
        | (go_at_call 62; refine (ascii_any _ _ hhS).mono ?_; rintro e w' ⟨rfl, rfl⟩; rw [H2.out]))
      go_ret
      exact ⟨by rw [HF.out]; rfl, HB1.out⟩
    | true =>
      have H2 := Lib.hid h2
      clear h2
      cases h3 : un.toList.isEmpty with
      | false =>
        have HF : Hid (sayB nm hp un V L = false) := say_no fun h => by rw [h.un] at h3; exact Bool.noConfusion h3
        have h4 : (!un.toList.isEmpty) = true := by rw [h3]; rfl
        go_wp2_with (first
          | (go_at_call 61; refine (plain_any _ _ hnS).mono ?_; rintro e w' ⟨rfl, rfl⟩; rw [H1.out])
          | (go_at_call 62; refine (ascii_any _ _ hhS).mono ?_; rintro e w' ⟨rfl, rfl⟩; rw [H2.out]))
        go_ret
        exact ⟨by rw [HF.out]; rfl, HB1.out⟩
      | true =>
        have h4 : (!un.toList.isEmpty) = false := by rw [h3]; rfl
        have H3 := Lib.hid h3
        have HVs : Hid (Ss.Of 1 (fun z => [Value.string z]) (((w.alloc (.cells #[.string nm, .string hp, .string un, vv, cv] 66)).alloc (.cells #[] 9))) vv V) := (sl_ss HV.out).below (HB1.out.alloc (by simp) _)
        have hsz2 : w.heap.size ≤ ((w.alloc (.cells #[.string nm, .string hp, .string un, vv, cv] 66)).alloc (.cells #[] 9)).heap.size := by simp; omega
        have HBase0 := Lib.hid hsz2
        have HS2 : Hid (Sts w.heap.size w [obBlock w.heap.size 66 #[.string nm, .string hp, .string un, vv, cv], Row w.heap.size (.slice (some ⟨w.heap.size + 1, 0, none⟩) 0 0) []] ((w.alloc (.cells #[.string nm, .string hp, .string un, vv, cv] 66)).alloc (.cells #[] 9))) := by
          have hst : Sts w.heap.size w [obBlock w.heap.size 66 #[.string nm, .string hp, .string un, vv, cv]] (w.alloc (.cells #[.string nm, .string hp, .string un, vv, cv] 66)) :=
            ⟨fun o ho => by rw [List.mem_singleton.1 ho]; exact Whole.made w _ _, by simp [obBlock, blocks], by simp [obBlock, blocks], HB1.out⟩
          have hs1 : (w.alloc (.cells #[.string nm, .string hp, .string un, vv, cv] 66)).heap.size = w.heap.size + 1 := by simp
          have hgn := heap_alloc_new (w.alloc (.cells #[.string nm, .string hp, .string un, vv, cv] 66)) (.cells #[] 9)
          rw [hs1] at hgn
          refine hst.add (by simp) (World.grownBy_alloc _ (.cells #[] 9) none) (fun b e => by cases e) (o' := Row w.heap.size (.slice (some ⟨w.heap.size + 1, 0, none⟩) 0 0) []) ?_ (fun b hb => ?_) (row_nodup (.slice (some ⟨w.heap.size + 1, 0, none⟩) 0 0))
          · exact ⟨rfl, Or.inr ⟨w.heap.size + 1, 0, #[], rfl, by omega, hgn, Nat.le_refl _, by unfold maxLen; omega, rfl, rfl⟩⟩
          · obtain rfl : b = w.heap.size + 1 := by simpa [obRow, Value.ownBlock] using hb
            simp
        have HRow0 : Hid (((w.alloc (.cells #[.string nm, .string hp, .string un, vv, cv] 66)).alloc (.cells #[] 9)).ownsRow w.heap.size 9 1 (.slice (some ⟨w.heap.size + 1, 0, none⟩) 0 0) 0 []) := Sts.here (l := [obBlock w.heap.size 66 #[.string nm, .string hp, .string un, vv, cv]]) (r := []) HS2.out
        have HOneV : Hid (∀ z : ByteArray, ∀ u ∈ [Value.string z], u.oneCell' = true) := fun z => one_str z
        have HLenV1 : Hid (0 + V.length ≤ maxLen) := by have := HM.out.lenV; show _ ≤ _; unfold maxLen; omega
        have HLenV2 : Hid ((0 + V.length) * 16 ≤ 140737488355328) := by have := HM.out.lenV; show _ ≤ _; omega
        have HLenL : Hid (L.length ≤ 2147483647) := by have := HM.out.lenL; show _ ≤ _; omega
        have HStep0 : Hid (∀ an cn W3, W3.ownsRow w.heap.size 9 1 (.slice an (0 + V.length) cn) (0 + V.length) ([] ++ V.flatMap fun z => [Value.string z]) → ((w.alloc (.cells #[.string nm, .string hp, .string un, vv, cv] 66)).alloc (.cells #[] 9)).grownBy W3 (Value.slice (some ⟨w.heap.size + 1, 0, none⟩) 0 0).ownBlock → ((Value.slice an (0 + V.length) cn).ownBlock = (Value.slice (some ⟨w.heap.size + 1, 0, none⟩) 0 0).ownBlock ∨ (Value.slice an (0 + V.length) cn).ownBlock = some ((w.alloc (.cells #[.string nm, .string hp, .string un, vv, cv] 66)).alloc (.cells #[] 9)).heap.size) → Sts w.heap.size w [obBlock w.heap.size 66 #[.string nm, .string hp, .string un, vv, cv], Row w.heap.size (.slice an (0 + V.length) cn) (names V (fit L) 0)] W3) := fun an cn W3 ho hg hl => by
          have h5 := Sts.row (l := [obBlock w.heap.size 66 #[.string nm, .string hp, .string un, vv, cv]]) (r := []) HS2.out hsz2 hg ho (loc_at hl)
          have e5 : names V (fit L) 0 = V := by simp [names]
          rw [e5]
          have e6 : ([] ++ V.flatMap fun z => [Value.string z]) = V.map Value.string := by rw [List.nil_append]; exact flat_one V
          rw [e6] at h5
          simpa using h5
        have HC3 : Hid (∀ W, Below w.heap.size w W → Ss.Of 2 pc W cv L) := fun W hW => HC.out.below hW
        have HStep4 : Hid (∀ (an : Option Addr) (cn : Nat) (aa : Option Addr) (ca : Nat) (W3 W4 : World), Sts w.heap.size w [obBlock w.heap.size 66 #[.string nm, .string hp, .string un, vv, cv], Row w.heap.size (.slice an (0 + V.length) cn) (names V (fit L) 0)] W3 → W4.ownsRow W3.heap.size 138 2 (.slice aa (fit L).length ca) (fit L).length ((fit L).flatMap pc) → Below W3.heap.size W3 W4 → Sts w.heap.size w [obBlock w.heap.size 66 #[.string nm, .string hp, .string un, vv, cv], Row w.heap.size (.slice an (0 + V.length) cn) (names V (fit L) 0), obPs w.heap.size (.slice aa (fit L).length ca) (fit L)] W4) := fun an cn aa ca W3 W4 hst ho hb => by
          have hle := hst.bel.size
          exact hst.add hle (grown_below hb) (fun b e => by cases e) (o' := obPs w.heap.size (.slice aa (fit L).length ca) (fit L)) (ho.mono hle) (fun b hb' => ho.lt b (Option.mem_toList.1 hb')) (row_nodup _)
        go_wp2_with (first
          | (go_at_call 61; refine (plain_any _ _ hnS).mono ?_; rintro e w' ⟨rfl, rfl⟩; rw [H1.out])
          | (go_at_call 62; refine (ascii_any _ _ hhS).mono ?_; rintro e w' ⟨rfl, rfl⟩; rw [H2.out])
          | (at_builtin; refine append_of rfl _ _ 64 rfl w.heap.size 9 i0 (.string ByteArray.empty) 1 16 Tryz.underlying64 hi hz0 hz1 hz2 rfl (by decide) _ 0 [] rfl HRow0.out (c := fun z => [Value.string z]) (fun _ => rfl) HOneV.out V vv rfl HVs.out HLenV1.out HLenV2.out HBase0.out ?_; intro vn W3 hown3 hgrow3 hloc3; obtain ⟨an, cn, rfl⟩ := row_slice2 hown3; have HS3 := Lib.hid (HStep0.out an cn W3 hown3 hgrow3 hloc3); have g4 : W3.cell? ⟨w.heap.size, 4, none⟩ = some cv := Whole.cell (HS3.out.each _ (List.mem_cons_self ..)) 4; clear hown3 hgrow3 hloc3)
          | (go_at_call 53; refine (fit_any L cv _ (HC3.out _ HS3.out.bel) HLenL.out).mono ?_; rintro e W4 ⟨va, rfl, hown4, hb4⟩; obtain ⟨aa, ca, rfl⟩ := row_slice2 hown4; have HS4 := Lib.hid (HStep4.out _ _ _ _ _ _ HS3.out hown4 hb4); clear hown4 hb4))
        have HFs : Hid (∀ p ∈ fit L, p.1.size ≤ 9223372036854775807 ∧ p.2.size ≤ 9223372036854775807) := fun p hp => HM.out.conS p (fit_sub hp)
        have HNoV : Hid (∀ k (h : k < (fit L).length), asciiB ((fit L)[k]).2 = false → sayB nm hp un V L = false) := fun k h e => say_no fun hs => by rw [hs.vals k h] at e; exact Bool.noConfusion e
        have HNoN : Hid (∀ k (h : k < (namesOf V L).length), nameB (namesOf V L) (namesOf V L)[k] k = false → sayB nm hp un V L = false) := fun k h e => say_no fun hs => by rw [hs.names k h] at e; exact Bool.noConfusion e
        have HYes : Hid ((∀ k (h : k < (fit L).length), asciiB ((fit L)[k]).2 = true) → (∀ k (h : k < (namesOf V L).length), nameB (namesOf V L) (namesOf V L)[k] k = true) → sayB nm hp un V L = true) := fun h5 h6 => sayB_iff.2 ⟨H1.out, H2.out, H3.out, h5, h6⟩
        have hFL : (fit L).length ≤ 1048576 := Nat.le_trans (fit_le L) HM.out.lenL
        have hVL : V.length ≤ 1048576 := HM.out.lenV
        clear g4 HStep0 HStep4 HC3 HRow0 HS2 HVs HS3 HBase0 hsz2 HLenV1 HLenV2 HLenL
        obtain ⟨F, hF⟩ : ∃ F, fit L = F := ⟨_, rfl⟩
        rw [hF] at HS4 HFs HNoV HYes hFL
        rw [hF]
        go_loopw [3, 5] (fun vn vi wr => ∃ (k : Nat) (an : Option Addr) (cn : Nat), k ≤ F.length ∧ vn = .slice an (V.length + k) cn ∧ vi = .int .i64 (k : Int) ∧ Hid (Sts w.heap.size w [obBlock w.heap.size 66 #[.string nm, .string hp, .string un, vv, cv], Row w.heap.size (.slice an (V.length + k) cn) (names V F k), obPs w.heap.size (.slice aa F.length ca) F] wr) ∧ Hid (∀ j (h : j < F.length), j < k → asciiB (F[j]).2 = true)) (fun _ vi _ => F.length - (intOf vi).toNat)
        case atStart => exact ⟨0, an, cn, Nat.zero_le _, by first | rfl | simp, rfl, (by have h6 := HS4.out; rw [Nat.zero_add] at h6; exact h6), fun j h hj => absurd hj (Nat.not_lt_zero _)⟩
        case round =>
          obtain ⟨k, an, cn, hk, rfl, rfl, hst, hall⟩ := hrel
          by_cases hlt : k < F.length
          · obtain ⟨g, hga, c0, c1⟩ := ps_cells (Sts.here (l := [obBlock w.heap.size 66 #[.string nm, .string hp, .string un, vv, cv], Row w.heap.size (.slice an (V.length + k) cn) (names V F k)]) (r := []) hst.out) hlt
            subst hga
            have z1 : (0 : Int) ≤ (k : Int) := by omega
            have z2 : (k : Int) < (F.length : Int) := by omega
            have hmem := HFs.out _ (List.getElem_mem hlt)
            have HNo := Lib.hid (HNoV.out k hlt)
            have HSn := names_snoc (V := V) hlt
            obtain ⟨x, y, hxy⟩ : ∃ x y, F[k] = (x, y) := ⟨_, _, rfl⟩
            have hA2 : Hid (asciiB y = true → ∀ j (h : j < F.length), j < k + 1 → asciiB (F[j]).2 = true) := fun hy j h hj => by
              rcases Nat.lt_or_ge j k with h6 | h6
              · exact hall.out j h h6
              · obtain rfl : j = k := by omega
                rw [hxy]; exact hy
            rw [hxy] at c0 c1 hmem HNo HSn
            have HSn := Lib.hid HSn
            have hbel := Lib.hid hst.out.bel
            have hyS := hmem.2
            clear hxy hall hmem
            cases hy : asciiB y with
            | false =>
              have HQ := Lib.hid (HNo.out hy)
              have HY := Lib.hid hy
              clear hy HNo hA2
              go_wp2_with (go_at_call 62; refine (ascii_any _ _ hyS).mono ?_; rintro e w' ⟨rfl, rfl⟩; rw [HY.out])
              go_ret
              exact ⟨by rw [HQ.out]; rfl, hbel.out⟩
            | true =>
              have HAll := Lib.hid (hA2.out hy)
              have HY := Lib.hid hy
              clear hy HNo hA2
              have hszr : w.heap.size ≤ wr.heap.size := hbel.out.size
              have HSa : Hid (Sts w.heap.size w [obBlock w.heap.size 66 #[.string nm, .string hp, .string un, vv, cv], Row w.heap.size (.slice an (V.length + k) cn) (names V F k), obPs w.heap.size (.slice (some ⟨g, 0, none⟩) F.length ca) F] (wr.alloc (.cells #[.string x] 9))) := hst.out.alloc hszr _
              have hsza : w.heap.size ≤ (wr.alloc (.cells #[.string x] 9)).heap.size := by simp; omega
              have HNews := Lib.hid (cell_box wr (.string x) 9)
              have HOne : Hid (∀ u ∈ [Value.string x], u.oneCell' = true) := one_str x
              have HRow : Hid ((wr.alloc (.cells #[.string x] 9)).ownsRow w.heap.size 9 1 (.slice an (V.length + k) cn) (V.length + k) ((names V F k).map Value.string)) := by
                have h6 := Sts.here (l := [obBlock w.heap.size 66 #[.string nm, .string hp, .string un, vv, cv]]) HSa.out
                have h7 : (wr.alloc (.cells #[.string x] 9)).ownsRow w.heap.size 9 1 (.slice an (V.length + k) cn) (names V F k).length ((names V F k).map Value.string) := h6
                rw [names_len (by omega)] at h7
                exact h7
              have HStep : Hid (∀ an2 cn2 W2, W2.ownsRow w.heap.size 9 1 (.slice an2 (V.length + k + 1) cn2) (V.length + k + 1) ((names V F k).map Value.string ++ [.string x]) → (wr.alloc (.cells #[.string x] 9)).grownBy W2 (Value.slice an (V.length + k) cn).ownBlock → ((Value.slice an2 (V.length + k + 1) cn2).ownBlock = (Value.slice an (V.length + k) cn).ownBlock ∨ (Value.slice an2 (V.length + k + 1) cn2).ownBlock = some (wr.alloc (.cells #[.string x] 9)).heap.size) → Sts w.heap.size w [obBlock w.heap.size 66 #[.string nm, .string hp, .string un, vv, cv], Row w.heap.size (.slice an2 (V.length + (k + 1)) cn2) (names V F (k + 1)), obPs w.heap.size (.slice (some ⟨g, 0, none⟩) F.length ca) F] W2) := fun an2 cn2 W2 ho hg hl => by
                have h6 := Sts.row (l := [obBlock w.heap.size 66 #[.string nm, .string hp, .string un, vv, cv]]) HSa.out hsza hg ho (loc_at hl)
                rw [show V.length + (k + 1) = V.length + k + 1 from rfl, HSn.out]
                have e6 : (names V F k ++ [x]).length = V.length + k + 1 := by rw [List.length_append, names_len (by omega)]; rfl
                show Sts w.heap.size w ([obBlock w.heap.size 66 #[.string nm, .string hp, .string un, vv, cv]] ++ obRow w.heap.size 9 (.slice an2 (V.length + k + 1) cn2) (names V F k ++ [x]).length ((names V F k ++ [x]).map Value.string) :: [obPs w.heap.size (.slice (some ⟨g, 0, none⟩) F.length ca) F]) W2
                rw [e6, List.map_append]
                exact h6
              clear HSa HSn hst
              go_wp2_with (first
                | (go_at_call 62; refine (ascii_any _ _ hyS).mono ?_; rintro e w' ⟨rfl, rfl⟩; rw [HY.out])
                | (at_builtin; refine wpList_append_own_at _ rfl _ _ 64 rfl w.heap.size 9 i0 (.string ByteArray.empty) 1 16 Tryz.underlying64 hi hz0 hz1 hz2 rfl (by decide) _ _ _ rfl HRow.out ⟨wr.heap.size, 0, none⟩ 1 1 [.string x] rfl rfl HNews.out HOne.out (by unfold maxLen; omega) (by omega) hsza ?_; intro v11 W11 hown11 hgrow11 hnil11 hloc11; obtain ⟨a11, c11, rfl⟩ := row_slice2 hown11; have HS11 := Lib.hid (HStep.out a11 c11 W11 hown11 hgrow11 hloc11); clear hown11 hgrow11 hnil11 hloc11))
              go_roundw
              case rel => exact ⟨k + 1, a11, c11, by omega, by first | rfl | simp, by go_num, HS11.out, HAll.out⟩
              case measure => simp [intOf]; omega
          · obtain rfl : k = F.length := by omega
            have HAll : Hid (∀ j (h : j < F.length), asciiB (F[j]).2 = true) := fun j h => hall.out j h h
            clear hall
            obtain ⟨N, hN⟩ : ∃ N, names V F F.length = N := ⟨_, rfl⟩
            have hN2 : namesOf V L = N := by unfold namesOf; rw [hF, ← hN]; unfold names; rw [List.take_length]
            have hn : V.length + F.length = N.length := by rw [← hN]; exact (names_len (Nat.le_refl _)).symm
            have HNs : Hid (∀ x ∈ N, x.size ≤ 9223372036854775807) := fun x hx => by
              rw [← hN] at hx
              rcases List.mem_append.1 hx with h | h
              · exact HM.out.varS x h
              · obtain ⟨p, hp, rfl⟩ := List.mem_map.1 h
                exact (HFs.out p (List.mem_of_mem_take hp)).1
            have HRN : Hid (wr.ownsRow w.heap.size 9 1 (.slice an N.length cn) N.length (N.map Value.string)) := by
              have h6 := Sts.here (l := [obBlock w.heap.size 66 #[.string nm, .string hp, .string un, vv, cv]]) hst.out
              have h7 : wr.ownsRow w.heap.size 9 1 (.slice an (V.length + F.length) cn) (names V F F.length).length ((names V F F.length).map Value.string) := h6
              rw [hN, hn] at h7
              exact h7
            have HBel := Lib.hid hst.out.bel
            rw [hN2] at HNoN HYes
            have HYes2 : Hid ((∀ k (h : k < N.length), nameB N N[k] k = true) → sayB nm hp un V L = true) := fun h => HYes.out HAll.out h
            have hNL : N.length ≤ 2097152 := by omega
            rw [hn]
            clear hst HAll HYes HNoV HFs hN hN2 hn hVL hFL hF
            obtain ⟨wo, rfl⟩ : ∃ wo, wo = wr := ⟨_, rfl⟩
            go_wp2_with fail
            go_loopw [6] (fun vi wy => ∃ j m : Nat, j ≤ N.length ∧ vi = .int .i64 (j : Int) ∧ Hid (wy = wo.drewN m) ∧ Hid (∀ i (h : i < N.length), i < j → nameB N N[i] i = true)) (fun vi _ => N.length - (intOf vi).toNat)
            case atStart => exact ⟨0, 0, Nat.zero_le _, rfl, rfl, fun j h hj => absurd hj (Nat.not_lt_zero _)⟩
            case round =>
              obtain ⟨j, m, hj, rfl, hwy, hall⟩ := hrel
              have hbel : Hid (Below w.heap.size w wr) := by show Below _ _ _; rw [hwy.out]; exact bdr HBel.out m
              by_cases hlt : j < N.length
              · have hrow : Hid (wr.ownsRow w.heap.size 9 1 (.slice an N.length cn) N.length (N.map Value.string)) := by
                  show World.ownsRow _ _ _ _ _ _ _
                  rw [hwy.out]
                  exact HRN.out.kept (grown_below (below_drewN (Below.refl _ _) m)) (by cases (Value.slice an N.length cn).ownBlock <;> simp)
                obtain ⟨g, rfl, hc, hcap, hgl, hnc⟩ : ∃ g, an = some ⟨g, 0, none⟩ ∧ (∀ i (h : i < N.length), wr.cell? ⟨g, i, none⟩ = some (.string N[i])) ∧ cn ≤ 9223372036854775807 ∧ g < wr.heap.size ∧ N.length ≤ cn := by
                  rcases hrow.out.2 with ⟨hv, h0⟩ | ⟨g, cap, cur, hv, hbg, hg, hn, hcm, hcs, htake⟩
                  · omega
                  · injection hv with h1 h2 h3
                    subst h1 h3
                    refine ⟨g, rfl, fun i h => ?_, by unfold maxLen at hcm; omega, (hrow.out.lt g rfl).2, hn⟩
                    rw [hrow.out.cellAt i (by omega), List.getElem?_map, List.getElem?_eq_getElem h]; rfl
                have c0 := hc j hlt
                have HPre : Hid (Sl.Of Value.string wr (.slice (some ⟨g, 0, none⟩) j cn) (N.take j)) := by
                  rcases Nat.eq_zero_or_pos j with h0 | h0
                  · subst h0
                    exact Or.inl ⟨by simp, _, cn, rfl, hcap⟩
                  · have hl : (N.take j).length = j := by rw [List.length_take]; omega
                    refine Or.inr ⟨g, 0, cn, by rw [hl], by omega, by omega, hcap, hgl, fun i h => ?_⟩
                    rw [Nat.zero_add, List.getElem_take]
                    exact hc i (by omega)
                have hPl : (N.take j).length ≤ 9223372036854775806 := by rw [List.length_take]; omega
                have hPl := Lib.hid hPl
                have HNo := Lib.hid (HNoN.out j hlt)
                have hxS := HNs.out _ (List.getElem_mem hlt)
                have HNx : Hid (nameB N N[j] j = true → ∀ i (h : i < N.length), i < j + 1 → nameB N N[i] i = true) := fun h0 i h hi => by
                  rcases Nat.lt_or_ge i j with h6 | h6
                  · exact hall.out i h h6
                  · obtain rfl : i = j := by omega
                    exact h0
                obtain ⟨x, hx⟩ : ∃ x, N[j] = x := ⟨_, rfl⟩
                rw [hx] at c0 HNo hxS HNx
                have z1 : (0 : Int) ≤ (j : Int) := by omega
                have z2 : (j : Int) < (N.length : Int) := by omega
                have z3 : (j : Int) ≤ (N.length : Int) := by omega
                have z4 : (j : Int) ≤ (cn : Int) := by omega
                have HNB : Hid (nameB N x j = (plainB x && !(x.toList == [108, 101]) && !(x.toList == [113, 117, 97, 110, 116, 105, 108, 101]) && !(inB x (N.take j)))) := rfl
                clear hc hall hx hrow hgl hcap hnc
                cases hpb : plainB x with
                | false =>
                  have HQ := Lib.hid (HNo.out (by rw [HNB.out, hpb]; rfl))
                  have HP := Lib.hid hpb
                  clear hpb HNo HNx HNB HPre
                  go_wp2_with fail
                  go_quiet (first
                    | (go_at_call 61; go_loud (exact Calls.quiet_of_same ((plain_any _ _ hxS).mono (fun e w' h => ⟨h.1.trans (by rw [HP.out]), h.2.symm⟩)))))
                  go_wp2_with fail
                  go_ret
                  exact ⟨by rw [HQ.out]; rfl, bdr hbel.out nq⟩
                | true =>
                  have HP := Lib.hid hpb
                  cases hle : (x.toList == [108, 101]) with
                  | true =>
                    have HQ := Lib.hid (HNo.out (by rw [HNB.out, hpb, hle]; rfl))
                    clear hpb HNo HNx HNB HPre
                    go_wp2_with fail
                    go_quiet (first
                      | (go_at_call 61; go_loud (exact Calls.quiet_of_same ((plain_any _ _ hxS).mono (fun e w' h => ⟨h.1.trans (by rw [HP.out]), h.2.symm⟩)))))
                    go_wp2_with fail
                    go_ret
                    exact ⟨by rw [HQ.out]; rfl, bdr hbel.out nq⟩
                  | false =>
                    cases hqu : (x.toList == [113, 117, 97, 110, 116, 105, 108, 101]) with
                    | true =>
                      have HQ := Lib.hid (HNo.out (by rw [HNB.out, hpb, hle, hqu]; rfl))
                      clear hpb HNo HNx HNB HPre
                      go_wp2_with fail
                      go_quiet (first
                        | (go_at_call 61; go_loud (exact Calls.quiet_of_same ((plain_any _ _ hxS).mono (fun e w' h => ⟨h.1.trans (by rw [HP.out]), h.2.symm⟩)))))
                      go_wp2_with fail
                      go_ret
                      exact ⟨by rw [HQ.out]; rfl, bdr hbel.out nq⟩
                    | false =>
                      cases hin : inB x (N.take j) with
                      | true =>
                        have HQ := Lib.hid (HNo.out (by rw [HNB.out, hpb, hle, hqu, hin]; rfl))
                        have HI := Lib.hid hin
                        clear hpb HNo HNx HNB hin
                        go_wp2_with fail
                        go_quiet (first
                          | (go_at_call 61; go_loud (exact Calls.quiet_of_same ((plain_any _ _ hxS).mono (fun e w' h => ⟨h.1.trans (by rw [HP.out]), h.2.symm⟩))))
                          | (go_at_call 63; go_loud (exact Calls.quiet_of_same ((in_any _ _ _ _ (HPre.out.below (below_drewN (Below.refl _ _) _)) hPl.out).mono (fun e w' h => ⟨h.1.trans (by rw [HI.out]), h.2.symm⟩)))))
                        go_wp2_with fail
                        go_ret
                        exact ⟨by rw [HQ.out]; rfl, bdr hbel.out nq⟩
                      | false =>
                        have HAl := Lib.hid (HNx.out (by rw [HNB.out, hpb, hle, hqu, hin]; rfl))
                        have HI := Lib.hid hin
                        clear hpb HNo HNx HNB hin
                        go_wp2_with fail
                        go_quiet (first
                          | (go_at_call 61; go_loud (exact Calls.quiet_of_same ((plain_any _ _ hxS).mono (fun e w' h => ⟨h.1.trans (by rw [HP.out]), h.2.symm⟩))))
                          | (go_at_call 63; go_loud (exact Calls.quiet_of_same ((in_any _ _ _ _ (HPre.out.below (below_drewN (Below.refl _ _) _)) hPl.out).mono (fun e w' h => ⟨h.1.trans (by rw [HI.out]), h.2.symm⟩)))))
                        have hw2 : Hid (wr.drewN nq = wo.drewN (m + nq)) := by show _ = _; rw [hwy.out, World.drewN_drewN]
                        go_wp2_with fail
                        go_roundw
                        case rel => exact ⟨j + 1, m + nq, by omega, by go_num, hw2.out, HAl.out⟩
                        case measure => simp [intOf]; omega
              · obtain rfl : j = N.length := by omega
                have HQ : Hid (sayB nm hp un V L = true) := HYes2.out fun k h => hall.out k h h
                clear hall
                go_wp2_with fail
                go_ret
                exact ⟨by rw [HQ.out]; rfl, hbel.out⟩

end Go.Proofs.YtlolomodcbkblaaGreatDoor.Nd
