/- Metrics: kinds; the reference's labels of a metric (spec.Labels) walked. -/
import Derived.Test.YtfcpapbokefdmaaGreatDoorMtz
import Derived.Test.YtfcpapbokefdmaaGreatDoorNst
import Derived.Deep.RegionHeld3
set_option linter.unusedVariables false
set_option linter.unusedSimpArgs false
namespace Go.Proofs.YtfcpapbokefdmaaGreatDoor.Mt
open Go.RowKit Go.Maps Go.WideMaps Go.ChangeShapes Go.WideShapes Go.Deep Fp Obs _root_.Go.Proofs.YtfcpapbokefdmaaGreatDoor.Nd

theorem al_cell {W : World} {b j : Nat} {v : Value} (o : Obj) (h : W.cell? ⟨b, j, none⟩ = some v) : (W.alloc o).cell? ⟨b, j, none⟩ = some v := by
  rw [World.cell?_alloc_past (w := W) o b _ (World.block_lt_of_cell? W (a := ⟨b, j, none⟩) h)]; exact h
/-- one of the kinds with a single value -/
def kindOf (k : Nat) : Int := if k % 3 = 0 then 0 else if k % 3 = 1 then 1 else 3
theorem kind_cases (k : Nat) : kindOf k = 0 ∨ kindOf k = 1 ∨ kindOf k = 3 := by
  unfold kindOf
  split
  · simp
  · split <;> simp
set_option maxHeartbeats 1000000 in
set_option maxRecDepth 100000 in
theorem valueKind_any (k : Nat) (hk : k < 256) (w : World) : Calls Tryz.prog 31 #[.int .u8 (k : Int)] w fun e w' => e = .returned (.int .i64 (kindOf k)) ∧ Below w.heap.size w w' := by
  have z0 : (0 : Int) ≤ (k : Int) := by omega
  have z1 : (k : Int) ≤ 255 := by omega
  have h : k % 3 = 0 ∨ k % 3 = 1 ∨ k % 3 = 2 := by omega
  rcases h with h | h | h
  · have hk : Hid (kindOf k = 0) := by show _ = _; unfold kindOf; rw [if_pos h]
    have h2 : (k : Int) % 3 = 0 := by omega
    clear h
    go_enter Tryz.func31, Tryz.ntmps31
    go_wp2
    go_ret
    exact ⟨by rw [hk.out]; rfl, (Below.refl _ _).alloc (Nat.le_refl _) _⟩
  · have hk : Hid (kindOf k = 1) := by show _ = _; unfold kindOf; rw [if_neg (by omega), if_pos h]
    have h2 : (k : Int) % 3 = 1 := by omega
    clear h
    go_enter Tryz.func31, Tryz.ntmps31
    go_wp2
    go_ret
    exact ⟨by rw [hk.out]; rfl, (Below.refl _ _).alloc (Nat.le_refl _) _⟩
  · have hk : Hid (kindOf k = 3) := by show _ = _; unfold kindOf; rw [if_neg (by omega), if_neg (by omega)]
    have h2 : (k : Int) % 3 = 2 := by omega
    clear h
    go_enter Tryz.func31, Tryz.ntmps31
    go_wp2
    go_ret
    exact ⟨by rw [hk.out]; rfl, (Below.refl _ _).alloc (Nat.le_refl _) _⟩
set_option maxHeartbeats 1000000 in
set_option maxRecDepth 100000 in
theorem valueKinds_any (k : Int) (hk : k = 0 ∨ k = 1 ∨ k = 3) (w : World) : Calls Tryz.prog 58 #[.int .i64 k] w fun e w' => e = .returned (.bool true) ∧ w = w' := by
  rcases hk with rfl | rfl | rfl
  all_goals
    go_enter Tryz.func58, Tryz.ntmps58
    go_wp2
    go_ret
    exact ⟨rfl, rfl⟩
def typeOf (k : Int) : Int := if k = 0 then 1 else if k = 1 then 2 else 3
set_option maxHeartbeats 1000000 in
set_option maxRecDepth 100000 in
theorem valueType_any (k : Int) (hk : k = 0 ∨ k = 1 ∨ k = 3) (w : World) : Calls Tryz.prog 60 #[.int .i64 k] w fun e w' => e = .returned (.int .i64 (typeOf k)) ∧ w = w' := by
  rcases hk with rfl | rfl | rfl
  all_goals
    go_enter Tryz.func60, Tryz.ntmps60
    go_wp2
    go_ret
    exact ⟨rfl, rfl⟩

def LabOut (V X : List ByteArray) (L : List P2) (w : World) (e : Ending) (w' : World) : Prop :=
  ∃ v, e = .returned v ∧ w'.ownsRow w.heap.size 88 2 v (labs V X (fit L)).length ((labs V X (fit L)).flatMap pc) ∧ Below w.heap.size w w'
set_option maxHeartbeats 8000000 in
set_option maxRecDepth 100000 in
theorem labels_any (mv : Value) (nm hp un : ByteArray) (V X : List ByteArray) (L : List P2) (vx : Value) (w : World) (hm : MetaAt w mv nm hp un V L) (hx : Sl.Of Value.string w vx X) (hX : X.length ≤ 1048576) :
    Calls Tryz.prog 57 #[mv, vx] w (LabOut V X L w) := by
  obtain ⟨i0, hi, hz0, hz1, hz2⟩ := info_parts infoSP
  have hLV := hm.lenV
  have hLL := hm.lenL
  obtain ⟨vv, cv, rfl, hvv, hcv⟩ := hm.val
  obtain ⟨av, cv2, rfl, hcn1, hcn2⟩ := sl_slice hvv
  obtain ⟨ax, cx, rfl, hcx1, hcx2⟩ := sl_slice hx
  obtain ⟨A, hA⟩ : ∃ A, A = w.alloc (.cells #[.string nm, .string hp, .string un, .slice av V.length cv2, cv] 25) := ⟨_, rfl⟩
  have s2 : A.heap.size = w.heap.size + 1 := by rw [hA]; simp
  have hqb : Below w.heap.size w A := by rw [hA]; exact (Below.refl _ _).alloc (Nat.le_refl _) _
  have HUp : Hid (∀ W : World, Below (w.heap.size + 1) A W → Below w.heap.size w W) := fun W h => hqb.trans (h.mono (by omega))
  have HTr : Hid (∀ W W' : World, Below (w.heap.size + 1) A W → Below W.heap.size W W' → Below (w.heap.size + 1) A W') := fun W W' h h' => h.trans (h'.mono (by have := h.size; omega))
  have HC : Hid (∀ W : World, Below (w.heap.size + 1) A W → W.cell? ⟨w.heap.size, 3, none⟩ = some (.slice av V.length cv2) ∧ W.cell? ⟨w.heap.size, 4, none⟩ = some cv) := fun W h => by
    rw [hA] at h
    have e : ∀ j, W.cell? ⟨w.heap.size, j, none⟩ = (#[.string nm, .string hp, .string un, .slice av V.length cv2, cv] : Array Value)[j]? := fun j => (h.cell (p := ⟨w.heap.size, j, none⟩) (by show w.heap.size < w.heap.size + 1; omega)).trans (Sl.cell_new w _ _ j)
    exact ⟨e 3, e 4⟩
  have HB1 : Hid (Below (w.heap.size + 1) A (A.alloc (.cells #[] 88))) := (Below.refl _ _).alloc (by omega) _
  have HR1 : Hid ((A.alloc (.cells #[] 88)).ownsRow (w.heap.size + 1) 88 2 (.slice (some ⟨w.heap.size + 1, 0, none⟩) 0 0) 0 []) := by
    have hgn := heap_alloc_new A (.cells #[] 88)
    rw [s2] at hgn
    exact ⟨rfl, Or.inr ⟨w.heap.size + 1, 0, #[], rfl, Nat.le_refl _, hgn, Nat.le_refl _, by unfold maxLen; omega, rfl, rfl⟩⟩
  have CF : Hid (∀ W, Below (w.heap.size + 1) A W → Calls Tryz.prog 24 #[cv] W (FitOut L W)) := fun W h => fit_any L cv W (hcv.below (HUp.out W h)) (by omega)
  have CG : Hid (∀ W u, Below (w.heap.size + 1) A W → Ss.Of 2 pc W u (fit L ++ V.zip X) → Calls Tryz.prog 24 #[u] W (FitOut (fit L ++ V.zip X) W)) := fun W u h hu => fit_any _ u W hu (by
    have := fit_le L
    rw [List.length_append, List.length_zip]; omega)
  have HV := Lib.hid hvv
  have HX := Lib.hid hx
  have k0 := HC.out A (Below.refl _ _)
  have hfl := fit_le L
  obtain ⟨F, hF⟩ : ∃ F, fit L = F := ⟨_, rfl⟩
  have HFin : Hid (∀ W e w', Below (w.heap.size + 1) A W → FitOut (F ++ V.zip X) W e w' → LabOut V X L w e w') := fun W e w' h ⟨v, he, ho, hb⟩ => ⟨v, he, by unfold labs; rw [hF]; exact own_base ho (by have := h.size; omega), HUp.out _ (HTr.out _ _ h hb)⟩
  rw [hF] at CG hfl
  have HFF : Hid (fit L = F) := hF
  have HOne : Hid (∀ z : P2, ∀ u ∈ pc z, u.oneCell' = true) := fun z => ones2 [z]
  have hAs : w.heap.size + 1 ≤ A.heap.size := by omega
  have HAs := Lib.hid s2
  clear hm hvv hx hcv hqb s2 hF
  go_enter Tryz.func57, Tryz.ntmps57
  go_wp2_with fail
  rw [← hA]
  clear hA
  refine (CF.out _ HB1.out).mono ?_
  rintro e W2 ⟨v2, rfl, ho2, hb2⟩
  rw [HFF.out] at ho2
  obtain ⟨a2, c2, rfl⟩ := row_slice2 ho2
  have hbl2 := HTr.out _ _ HB1.out hb2
  have k2 := HC.out W2 hbl2
  have HB2 := Lib.hid hbl2
  have HR2 : Hid (W2.ownsRow (w.heap.size + 1) 88 2 (.slice (some ⟨w.heap.size + 1, 0, none⟩) 0 0) 0 []) := own_below HR1.out hb2
  have HO2 : Hid (Ss.Of 2 pc W2 (.slice a2 F.length c2) F) := Ss.Of.own pc_len ho2
  have hs2 : w.heap.size + 1 ≤ W2.heap.size := by have := hbl2.size; omega
  have HG3 : Hid (∀ v3 W3, W3.ownsRow (w.heap.size + 1) 88 2 v3 (0 + F.length) ([] ++ F.flatMap pc) → W2.grownBy W3 (Value.slice (some ⟨w.heap.size + 1, 0, none⟩) 0 0).ownBlock → GotT 88 (w.heap.size + 1) (F.length + 0) (F ++ (V.zip X).take 0) v3 A W3) := fun v3 W3 ho hg => by
    refine ⟨by simp, ?_, HB2.out.grown hg hs2 (fun j hj => by have : some (w.heap.size + 1) = some j := hj; injection this with this; omega)⟩
    simpa using ho
  clear k0 ho2 hb2 hbl2
  go_wp2_with (first
    | (at_builtin; refine append_of rfl (.tmp 7) (.tmp 10) 23 (by rfl) (w.heap.size + 1) 88 i0 (.agg #[.string ByteArray.empty, .string ByteArray.empty]) 2 32 Tryz.underlying23 hi hz0 hz1 hz2 rfl (by decide) _ 0 [] (by rfl) HR2.out (c := pc) pc_len HOne.out F _ (by rfl) HO2.out (by unfold maxLen; omega) (by omega) hs2 ?_; intro v3 W3 ho3 hg3 hl3; have HG := Lib.hid (HG3.out v3 W3 ho3 hg3); clear ho3 hg3 hl3))
  clear k2
  go_loopw [5, 6] (fun vu vk wr => ∃ (k : Nat) (u : Value), k ≤ V.length ∧ k ≤ X.length ∧ u = vu ∧ vk = .int .i64 (k : Int) ∧ Hid (GotT 88 (w.heap.size + 1) (F.length + k) (F ++ (V.zip X).take k) u A wr)) (fun _ k _ => V.length - (intOf k).toNat)
  case atStart => exact ⟨0, _, Nat.zero_le _, Nat.zero_le _, rfl, rfl, HG.out⟩
  case round =>
    obtain ⟨k, u, hkV, hkX, rfl, rfl, hgot⟩ := hrel
    have hbw := hgot.out.2.2
    have hsz : w.heap.size + 1 ≤ wr.heap.size := by have := hbw.size; omega
    have kk := (HC.out wr hbw).1
    have z1 : (0 : Int) ≤ (k : Int) := by omega
    by_cases hlt : k < V.length ∧ k < X.length
    · obtain ⟨hltV, hltX⟩ := hlt
      have y1 : (k : Int) < (V.length : Int) := by omega
      have y2 : (k : Int) < (X.length : Int) := by omega
      obtain ⟨bv, ov, hav, hbv, cV⟩ := sl_at HV.out hltV
      obtain ⟨bx, ox, hax, hbx, cX⟩ := sl_at HX.out hltX
      subst hav
      subst hax
      have hzl : k < (V.zip X).length := by rw [List.length_zip]; omega
      have htk : F ++ (V.zip X).take (k + 1) = (F ++ (V.zip X).take k) ++ [(V[k], X[k])] := by rw [List.take_succ_eq_append_getElem hzl, List.getElem_zip, List.append_assoc]
      obtain ⟨x, hx⟩ : ∃ x, V[k] = x := ⟨_, rfl⟩
      obtain ⟨y, hy⟩ : ∃ y, X[k] = y := ⟨_, rfl⟩
      obtain ⟨acc, hacc⟩ : ∃ acc, F ++ (V.zip X).take k = acc := ⟨_, rfl⟩
      rw [hx] at cV htk
      rw [hy] at cX htk
      rw [hacc] at hgot htk
      have hal := hgot.out.1
      have hw0 := HUp.out wr hbw
      have dV : wr.cell? ⟨bv, ov + k, none⟩ = some (.string x) := by rw [hw0.cell (p := ⟨bv, ov + k, none⟩) hbv]; exact cV
      have dX : wr.cell? ⟨bx, ox + k, none⟩ = some (.string y) := by rw [hw0.cell (p := ⟨bx, ox + k, none⟩) hbx]; exact cX
      obtain ⟨au, cu, rfl⟩ := row_slice2 hgot.out.2.1
      have HTk := Lib.hid htk
      have hgd := hgot.out.below (W' := wr.drew) hsz (Below.refl _ _).drew
      have hsd : w.heap.size + 1 ≤ wr.drew.heap.size := hsz
      have HRow : Hid ((wr.drew.alloc (.cells #[.string x, .string y] 88)).ownsRow (w.heap.size + 1) 88 2 (.slice au acc.length cu) acc.length (acc.flatMap pc)) := hgd.2.1.alloc _
      have HNews := Lib.hid (Ss.news_one wr.drew #[.string x, .string y] 88)
      have HBase : Hid (w.heap.size + 1 ≤ (wr.drew.alloc (.cells #[.string x, .string y] 88)).heap.size) := Nat.le_trans hsd (by simp)
      have HOneP : Hid (∀ u ∈ [Value.string x, .string y], u.oneCell' = true) := ones2 [(x, y)]
      have HNx : Hid (∀ g5 cu5 W5, W5.ownsRow (w.heap.size + 1) 88 2 (.slice (some ⟨g5, 0, none⟩) (acc.length + 1) cu5) (acc.length + 1) (acc.flatMap pc ++ [.string x, .string y]) → (wr.drew.alloc (.cells #[.string x, .string y] 88)).grownBy W5 (Value.slice au acc.length cu).ownBlock →
          (W5.cell? ⟨w.heap.size, 3, none⟩ = some (.slice (some ⟨bv, ov, none⟩) V.length cv2) ∧ W5.cell? ⟨bv, ov + k, none⟩ = some (.string x) ∧ W5.cell? ⟨bx, ox + k, none⟩ = some (.string y)) ∧ GotT 88 (w.heap.size + 1) (F.length + (k + 1)) (F ++ (V.zip X).take (k + 1)) (.slice (some ⟨g5, 0, none⟩) (acc.length + 1) cu5) A W5) := fun g5 cu5 W5 ho hg => by
        have h1 := hgd.app (p := (x, y)) hsd ho hg
        rw [← HTk.out] at h1
        have h2 := HUp.out W5 h1.2.2
        exact ⟨⟨(HC.out W5 h1.2.2).1, by rw [h2.cell (p := ⟨bv, ov + k, none⟩) hbv]; exact cV, by rw [h2.cell (p := ⟨bx, ox + k, none⟩) hbx]; exact cX⟩, h1⟩
      have HAl : Hid (∀ (W : World) o, (W.cell? ⟨w.heap.size, 3, none⟩ = some (.slice (some ⟨bv, ov, none⟩) V.length cv2) ∧ W.cell? ⟨bv, ov + k, none⟩ = some (.string x) ∧ W.cell? ⟨bx, ox + k, none⟩ = some (.string y)) → ((W.alloc o).cell? ⟨w.heap.size, 3, none⟩ = some (.slice (some ⟨bv, ov, none⟩) V.length cv2) ∧ (W.alloc o).cell? ⟨bv, ov + k, none⟩ = some (.string x) ∧ (W.alloc o).cell? ⟨bx, ox + k, none⟩ = some (.string y))) := fun W o ⟨h1, h2, h3⟩ => ⟨al_cell o h1, al_cell o h2, al_cell o h3⟩
      have HAd : Hid (∀ (W : World), (W.cell? ⟨w.heap.size, 3, none⟩ = some (.slice (some ⟨bv, ov, none⟩) V.length cv2) ∧ W.cell? ⟨bv, ov + k, none⟩ = some (.string x) ∧ W.cell? ⟨bx, ox + k, none⟩ = some (.string y)) → (W.drew.cell? ⟨w.heap.size, 3, none⟩ = some (.slice (some ⟨bv, ov, none⟩) V.length cv2) ∧ W.drew.cell? ⟨bv, ov + k, none⟩ = some (.string x) ∧ W.drew.cell? ⟨bx, ox + k, none⟩ = some (.string y))) := fun W h => h
      have q0 : wr.cell? ⟨w.heap.size, 3, none⟩ = some (.slice (some ⟨bv, ov, none⟩) V.length cv2) ∧ wr.cell? ⟨bv, ov + k, none⟩ = some (.string x) ∧ wr.cell? ⟨bx, ox + k, none⟩ = some (.string y) := ⟨kk, dV, dX⟩
      have hsm : acc.length ≤ 2097152 := by omega
      clear hx hy cV cX htk hacc hgd hgot hbw hw0 hzl
      go_wp2_with fail
      go_region_held3 (fun W => W.cell? ⟨w.heap.size, 3, none⟩ = some (.slice (some ⟨bv, ov, none⟩) V.length cv2) ∧ W.cell? ⟨bv, ov + k, none⟩ = some (.string x) ∧ W.cell? ⟨bx, ox + k, none⟩ = some (.string y)) ((repeat (first | (with_reducible exact q0) | (with_reducible exact q5) | (with_reducible refine HAd.out _ ?_) | (with_reducible refine HAl.out _ _ ?_))))
        (first
          | (refine step_append_lies _ (by rfl) (.tmp 25) (.tmp 36) 23 (by rfl) (w.heap.size + 1) 88 i0 (.agg #[.string ByteArray.empty, .string ByteArray.empty]) 2 32 Tryz.underlying23 hi hz0 hz1 hz2 rfl (by decide) _ _ _ (by simp [Act.eval, Act.put]) HRow.out ⟨wr.heap.size, 0, none⟩ 1 1 [.string x, .string y] (by simp [Act.eval, Act.put]) rfl HNews.out HOneP.out (by decide) (by unfold maxLen; omega) (by omega) HBase.out (wr.heap.size + 1) (by simp) ?_; intro g5 cu5 W5 hown5 hgrow5 hat5 hlt5; obtain ⟨q5, hG5⟩ := HNx.out g5 cu5 W5 hown5 hgrow5; have HG5 := Lib.hid hG5; clear hown5 hgrow5 hat5 hlt5 hG5))
      go_wp2_with fail
      go_roundw
      case rel => exact ⟨k + 1, _, by omega, by omega, rfl, by go_num, HG5.out⟩
      case measure => simp [intOf]; omega
    · have htk : (V.zip X).take k = V.zip X := List.take_of_length_le (by rw [List.length_zip]; omega)
      have hgot2 := hgot.out
      rw [htk] at hgot2
      have HE : Hid (∀ e w', FitOut (F ++ V.zip X) wr e w' → LabOut V X L w e w') := fun e w' h => HFin.out wr e w' hbw h
      have hcg := CG.out wr u hbw
      obtain ⟨acc, hacc⟩ : ∃ acc, F ++ V.zip X = acc := ⟨_, rfl⟩
      rw [hacc] at hgot2 hcg HE
      obtain ⟨au, cu, rfl⟩ := row_slice2 hgot2.2.1
      have CE := Lib.hid (hcg (Ss.Of.own pc_len hgot2.2.1))
      clear hgot hgot2 htk hbw hcg hacc
      by_cases hltV : k < V.length
      · have y1 : (k : Int) < (V.length : Int) := by omega
        have y3 : decide (k < X.length) = false := decide_eq_false (by omega)
        clear hlt
        go_wp2_with fail
        refine CE.out.mono ?_
        rintro e w9 ho9
        obtain ⟨v9, rfl, h9⟩ := id ho9
        have HO9 := Lib.hid (HE.out _ _ ho9)
        clear ho9 h9
        go_wp2_with fail
        go_ret
        exact HO9.out
      · have y3 : decide (k < V.length) = false := decide_eq_false hltV
        clear hlt hltV
        go_wp2_with fail
        refine CE.out.mono ?_
        rintro e w9 ho9
        obtain ⟨v9, rfl, h9⟩ := id ho9
        have HO9 := Lib.hid (HE.out _ _ ho9)
        clear ho9 h9
        go_wp2_with fail
        go_ret
        exact HO9.out

end Go.Proofs.YtfcpapbokefdmaaGreatDoor.Mt
