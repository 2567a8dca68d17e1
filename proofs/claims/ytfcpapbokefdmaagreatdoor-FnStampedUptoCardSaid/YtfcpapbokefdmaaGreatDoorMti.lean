/- Metrics: a metric with a timestamp written and handed back (the door's and the stamped metric's Write, impl.written, impl.Stamped). -/
import Derived.Test.YtfcpapbokefdmaaGreatDoorMth
import Derived.Test.YtfcpapbokefdmaaGreatDoorMtbs
set_option linter.unusedVariables false
set_option linter.unusedSimpArgs false
namespace Go.Proofs.YtfcpapbokefdmaaGreatDoor.Mt
open Go.RowKit Go.Maps Go.WideMaps Go.ChangeShapes Go.WideShapes Go.Deep Fp Obs _root_.Go.Proofs.YtfcpapbokefdmaaGreatDoor.Nd
attribute [local go_sem] run_store_float

/-- the metric in block out is filled, and nothing that belongs to it lies in that block -/
structure OutAt (W : World) (out : Nat) (F : List P2) (kind : Int) (val : Nat) (dt st : Option Int) : Prop where
  got : ∃ lv vb f ct m6, Whole W out 155 (mcs lv kind vb (.pointer m6)) ∧ ∀ W', W.grownBy W' (some out) → Pairs W' lv F ∧ ValAt W' kind vb f val ct ∧ (kind = 0 → DateAt W' ct dt) ∧ DateAt W' (.pointer m6) st
theorem OutAt.met {W : World} {out : Nat} {F : List P2} {kind : Int} {val : Nat} {dt st : Option Int} (h : OutAt W out F kind val dt st) : MetAt W out F kind val dt st := by
  obtain ⟨lv, vb, f, ct, m6, hw, hf⟩ := h.got
  obtain ⟨h1, h2, h3, h4⟩ := hf W ⟨rfl, rfl, rfl, Nat.le_refl _, fun _ _ _ => rfl⟩
  exact ⟨⟨lv, vb, f, ct, _, fun j => hw.cell j, h1, h2, h3, h4⟩, hw.lt⟩
def WriteOut2 (out : Nat) (F : List P2) (kind : Int) (val : Nat) (dt st : Option Int) (w : World) (e : Ending) (w' : World) : Prop :=
  e = .returned .nilIface ∧ OutAt w' out F kind val dt st ∧ w.grownBy w' (some out)
set_option maxHeartbeats 8000000 in
set_option maxRecDepth 100000 in
theorem writeDoor_any (dm b out : Nat) (F : List P2) (hF : F.length ≤ 2147483647) (kind : Int) (val : Nat) (st : Option Int) (w0 w : World) (hc : w0.cell? ⟨dm, 1, none⟩ = some (ptr b)) (hm : MetAt w0 b F kind val none st) (hb : Below w0.heap.size w0 w) (hlo : w0.heap.size ≤ out) (ho : Whole w out 155 zeroM) :
    Calls Tryz.prog 226 #[ptr dm, ptr out] w (WriteOut2 out F kind val none st w) := by
  obtain ⟨ip, hpi, hpz0, hpz1, hpz2⟩ := info_parts infoLp
  obtain ⟨lv, vb, f, ct, ts, hcs, hps, hva, hdt, hst⟩ := hm.got
  obtain ⟨qs, hql, hlvs, hqa⟩ := id hps
  obtain ⟨al, cl, rfl, _, _⟩ := sl_slice hlvs
  have hlb := hm.lt
  have hlc : dm < w0.heap.size := World.block_lt_of_cell? w0 (a := ⟨dm, 1, none⟩) hc
  have hlow : out < w.heap.size := ho.lt
  have k1 : w.cell? ⟨dm, 1, none⟩ = some (ptr b) := (hb.cell (p := ⟨dm, 1, none⟩) hlc).trans hc
  have hcw : ∀ j, w.cell? ⟨b, j, none⟩ = (mcs (.slice al qs.length cl) kind vb ts)[j]? := fun j => (hb.cell (p := ⟨b, j, none⟩) hlb).trans (hcs j)
  obtain ⟨M, hM⟩ : ∃ M, M = mcs (.slice al qs.length cl) kind vb ts := ⟨_, rfl⟩
  have hM7 : ∃ m1 m2 m4, M = #[.slice al qs.length cl, .pointer m1, .pointer m2, nilp, .pointer m4, nilp, ts] := by
    rw [hM]
    unfold mcs
    refine ⟨if kind = 1 then some ⟨vb, 0, none⟩ else none, if kind = 0 then some ⟨vb, 0, none⟩ else none, if kind = 3 then some ⟨vb, 0, none⟩ else none, ?_⟩
    split <;> split <;> split <;> rfl
  have hts : ∃ m6, ts = .pointer m6 := by
    cases st with
    | none => exact ⟨none, hst⟩
    | some t => obtain ⟨tb, h, _⟩ := hst; exact ⟨_, h⟩
  obtain ⟨m6, rfl⟩ := hts
  obtain ⟨m1, m2, m4, hM7⟩ := hM7
  rw [← hM] at hcw
  subst hM7
  have b0 : w.cell? ⟨b, 0, none⟩ = some (.slice al qs.length cl) := hcw 0
  have b1 : w.cell? ⟨b, 1, none⟩ = some (.pointer m1) := hcw 1
  have b2 : w.cell? ⟨b, 2, none⟩ = some (.pointer m2) := hcw 2
  have b3 : w.cell? ⟨b, 3, none⟩ = some nilp := hcw 3
  have b4 : w.cell? ⟨b, 4, none⟩ = some (.pointer m4) := hcw 4
  have b5 : w.cell? ⟨b, 5, none⟩ = some nilp := hcw 5
  have b6 : w.cell? ⟨b, 6, none⟩ = some (.pointer m6) := hcw 6
  have hsz7 : (Tryz.prog.info? 155).map (·.size) = some 7 := by kernel_rfl
  have hHz := hb.size
  have HFin : Hid (∀ W2 W3 v' u, Whole W2 out 155 #[.slice al qs.length cl, .pointer m1, .pointer m2, nilp, .pointer m4, nilp, .pointer m6] → w.grownBy W2 (some out) → W2.heap.size = w.heap.size → W3.ownsRow W2.heap.size 143 1 v' (0 + qs.length) ([] ++ qs.flatMap fun z => [pv z]) → W2.grownBy W3 (Value.slice none 0 0).ownBlock → u = v' →
      WriteOut2 out F kind val none st w (.returned .nilIface) (W3.setCell ⟨out, 0, none⟩ u)) := fun W2 W3 v' u hW2 hg2 hs2 ho3 hg3 hu => by
    subst hu
    have hb2 : Below w0.heap.size w0 W2 := hb.grown hg2 hb.size (fun j hj => by injection hj with hj; omega)
    have hb3 : Below w0.heap.size w0 W3 := hb2.grown hg3 hb2.size (fun j hj => by cases hj)
    have hb4 : Below w0.heap.size w0 (W3.setCell ⟨out, 0, none⟩ u) := hb3.setCell hlo _
    have e6 : ([] ++ qs.flatMap fun z => [pv z]) = qs.map pv := by rw [List.nil_append, flat_pv]
    rw [e6, Nat.zero_add] at ho3
    have ho4 : (W3.setCell ⟨out, 0, none⟩ u).ownsRow W2.heap.size 143 1 u qs.length (qs.map pv) := Nd.own_set ho3 (by omega)
    have hW3 : Whole W3 out 155 #[.slice al qs.length cl, .pointer m1, .pointer m2, nilp, .pointer m4, nilp, .pointer m6] := (hg3.block out hW2.lt (by simp [Value.ownBlock])).trans hW2
    have hW4 := hW3.put 0 u
    have hM4 : (#[.slice al qs.length cl, .pointer m1, .pointer m2, nilp, .pointer m4, nilp, .pointer m6] : Array Value).setIfInBounds 0 u = mcs u kind vb (.pointer m6) := by
      rw [hM]; rfl
    rw [hM4] at hW4
    have hg4 : w.grownBy (W3.setCell ⟨out, 0, none⟩ u) (some out) := by
      have hz3 := hg3.size
      refine ⟨hg3.os.trans hg2.os, hg3.tape.trans hg2.tape, hg3.output.trans hg2.output, by simp [World.setCell]; omega, fun k hk hne => ?_⟩
      have hkb : k ≠ out := by rintro rfl; exact hne rfl
      rw [Below.heap_setCell _ ⟨out, 0, none⟩ _ k hkb, hg3.block k (by omega) (by simp [Value.ownBlock])]
      exact hg2.block k hk hne
    have hz24 : W2.heap.size ≤ (W3.setCell ⟨out, 0, none⟩ u).heap.size := by have := hg3.size; simpa [World.setCell] using this
    refine ⟨rfl, ⟨⟨u, vb, f, ct, m6, hW4, fun W' hg' => ?_⟩⟩, hg4⟩
    have hb5 : Below w0.heap.size w0 W' := hb4.grown hg' hb4.size (fun j hj => by injection hj with hj; omega)
    refine ⟨⟨qs, hql, Sl.Of.own (ho4.kept hg' ?_), fun i hi h2 => (hqa i hi h2).below hb5⟩, hva.below hb5, fun e => (hdt e).below hb5, hst.below hb5⟩
    cases hv : u.ownBlock with
    | none => exact Or.inl rfl
    | some g => exact Or.inr (by have := (ho4.lt g hv).1; intro e; injection e with e; omega)
  have HQs : Hid (∀ W, Below w0.heap.size w0 W → Ss.Of 1 (fun z => [pv z]) W (.slice al qs.length cl) qs) := fun W h => (sl_ss hlvs).below h
  have HCw : Hid (∀ W2, w.grownBy W2 (some out) → Below w0.heap.size w0 W2 ∧ W2.cell? ⟨dm, 1, none⟩ = some (ptr b) ∧ W2.cell? ⟨b, 0, none⟩ = some (.slice al qs.length cl)) := fun W2 hg => by
    have h := hb.grown hg hb.size (fun j hj => by injection hj with hj; omega)
    exact ⟨h, (h.cell (p := ⟨dm, 1, none⟩) hlc).trans hc, (h.cell (p := ⟨b, 0, none⟩) hlb).trans (hcs 0)⟩
  have HO := Lib.hid ho
  have hqn : qs.length ≤ 2147483647 := by omega
  have HOneQ : Hid (∀ z : Q3, ∀ u ∈ [pv z], u.oneCell' = true) := fun z u hu => by rw [List.mem_singleton.1 hu]; rfl
  clear hps hlvs hqa hql hva hdt hst hcs hcw hc hm hb ho hM
  go_enter Tryz.func226, Tryz.ntmps226
  go_upto_region 1 with fail
  go_step
  refine wpList_plain rfl fun K3 hK3 => ?_
  go_simp
  refine hK3 _ _ ?_
  clear hK3 K3
  refine wpList_plain rfl fun K3 hK3 => ?_
  go_simp
  refine hK3 _ _ ?_
  clear hK3 K3
  refine wpList_plain rfl fun K3 hK3 => ?_
  go_simp
  refine hK3 _ _ ?_
  clear hK3 K3
  refine wpList_plain rfl fun K3 hK3 => ?_
  go_simp
  refine hK3 _ _ ?_
  clear hK3 K3
  refine wpList_plain rfl fun K3 hK3 => ?_
  go_simp
  refine hK3 _ _ ?_
  clear hK3 K3
  refine wpList_plain rfl fun K3 hK3 => ?_
  go_simp
  refine hK3 _ _ ?_
  clear hK3 K3
  refine wpList_plain rfl fun K3 hK3 => ?_
  go_simp
  refine hK3 _ _ ?_
  clear hK3 K3
  refine wpList_plain rfl fun K3 hK3 => ?_
  go_simp
  refine hK3 _ _ ?_
  clear hK3 K3
  refine Big.wpList_store_whole rfl _ _ _ rfl out 155 zeroM #[.slice al qs.length cl, .pointer m1, .pointer m2, nilp, .pointer m4, nilp, .pointer m6] rfl rfl HO.out rfl hsz7 (by simp [Value.oneCell']) ?_
  intro W2 hx2 hg2 hs2
  simp only [Act.put]
  obtain ⟨hb2, c1, c2⟩ := HCw.out W2 hg2
  have o0 : W2.cell? ⟨out, 0, none⟩ = some (.slice al qs.length cl) := hx2.cell 0
  have fo := hx2.free 0
  have HB2 := Lib.hid hb2
  have hlo2 : out < W2.heap.size := hx2.lt
  have HF2 : Hid (∀ W3 v' u, W3.ownsRow W2.heap.size 143 1 v' (0 + qs.length) ([] ++ qs.flatMap fun z => [pv z]) → W2.grownBy W3 (Value.slice none 0 0).ownBlock → u = v' →
      WriteOut2 out F kind val none st w (.returned .nilIface) (W3.setCell ⟨out, 0, none⟩ u)) := fun W3 v' u h1 h2 h3 => HFin.out W2 W3 v' u hx2 hg2 hs2 h1 h2 h3
  have HFo : Hid (∀ W3, W2.grownBy W3 (Value.slice none 0 0).ownBlock → W3.cell? ⟨out, 0, none⟩ = some (.slice al qs.length cl) ∧ W3.frozen? ⟨out, 0, none⟩ = false) := fun W3 h => by
    have hW3 := (h.block out hx2.lt (by simp [Value.ownBlock])).trans hx2
    exact ⟨Whole.cell hW3 0, Whole.free hW3 0⟩
  have HNil : Hid (W2.ownsRow W2.heap.size 143 1 (.slice none 0 0) 0 []) := World.ownsRow_nil _ _ _ _
  clear hx2 hg2 hs2 hb2 HFin HCw b0 b1 b2 b3 b4 b5 b6 k1
  go_wp2_with (first
    | (at_builtin; refine append_of rfl (.const (.slice none 0 0)) (.tmp 20) 97 (by rfl) W2.heap.size 143 ip (.pointer none) 1 8 Tryz.underlying97 hpi hpz0 hpz1 hpz2 rfl (by decide) _ 0 [] (by rfl) HNil.out (c := fun z => [pv z]) (fun _ => rfl) HOneQ.out qs _ (by rfl) (HQs.out _ HB2.out) (by unfold maxLen; omega) (by omega) (Nat.le_refl _) ?_; intro v2 W3 ho3 hg3 hl3; obtain ⟨a3, c3, rfl⟩ := row_slice2 ho3; have hFz := HF2.out W3 _ _ ho3 hg3 rfl; rw [Nat.zero_add] at hFz; have HFz := Lib.hid hFz; clear hFz; obtain ⟨o3, f3⟩ := HFo.out W3 hg3; clear ho3 hg3 hl3 c1 c2 o0 fo))
  go_ret
  exact HFz.out

set_option maxHeartbeats 8000000 in
set_option maxRecDepth 100000 in
theorem writeStamp_any (dm b out : Nat) (t : Int) (h1 : -9223372036854775808 ≤ t) (h2 : t ≤ 9223372036854775807) (F : List P2) (hF : F.length ≤ 2147483647) (kind : Int) (val : Nat) (st : Option Int) (w0 w : World) (hc : w0.cell? ⟨dm, 1, none⟩ = some (ptr b)) (hm : MetAt w0 b F kind val none st) (hb : Below w0.heap.size w0 w) (hlo : w0.heap.size ≤ out) (ho : Whole w out 155 zeroM) :
    Calls Tryz.prog 223 #[.agg #[.iface 179 (ptr dm), .int .i64 t], ptr out] w (WriteOut2 out F kind val none (some (msOf t)) w) := by
  obtain ⟨A, hA⟩ : ∃ A, A = w.alloc (.cells #[.iface 179 (ptr dm), .int .i64 t] 178) := ⟨_, rfl⟩
  have hqA : Below w.heap.size w A := by rw [hA]; exact (Below.refl _ _).alloc (Nat.le_refl _) _
  have hbA : Below w0.heap.size w0 A := hb.trans (hqA.mono hb.size)
  have hoA : Whole A out 155 zeroM := (hqA.block out ho.lt).trans ho
  have hlow : out < w.heap.size := ho.lt
  have hWt : Whole A w.heap.size 178 #[.iface 179 (ptr dm), .int .i64 t] := by rw [hA]; exact Whole.made w _ _
  have hzA : A.heap.size = w.heap.size + 1 := by rw [hA]; simp
  have CW := Lib.hid (writeDoor_any dm b out F hF kind val st w0 A hc hm hbA hlo hoA)
  have HG : Hid (∀ W2, A.grownBy W2 (some out) → w.grownBy W2 (some out) ∧ W2.cell? ⟨w.heap.size, 1, none⟩ = some (.int .i64 t) ∧ out < W2.heap.size) := fun W2 hg => by
    have hz := hg.size
    refine ⟨⟨hg.os.trans hqA.os, hg.tape.trans hqA.tape, hg.output.trans hqA.output, by omega, fun k hk hne => ?_⟩, ?_, by omega⟩
    · rw [hg.block k (by omega) hne]; exact hqA.block k hk
    · rw [hg.cell_far ⟨w.heap.size, 1, none⟩ (by show w.heap.size < _; omega) (by intro e; injection e with e; have : w.heap.size = out := e; omega)]
      exact hWt.cell 1
  have HFin : Hid (∀ W2, OutAt W2 out F kind val none st → w.grownBy W2 (some out) → WriteOut2 out F kind val none (some (msOf t)) w (.returned .nilIface) ((W2.setCell ⟨out, 6, none⟩ (ptr W2.heap.size)).alloc (.cells #[.int .i64 (msOf t)] 2))) := fun W2 hm2 hg2 => by
    obtain ⟨lv, vb, f, ct, m6, hw, hf⟩ := hm2.got
    have hz : out < W2.heap.size := hw.lt
    have hw6 : Whole (W2.setCell ⟨out, 6, none⟩ (ptr W2.heap.size)) out 155 (mcs lv kind vb (ptr W2.heap.size)) := hw.put 6 _
    have hs6 : (W2.setCell ⟨out, 6, none⟩ (ptr W2.heap.size)).heap.size = W2.heap.size := by simp [World.setCell]
    have hb6 : Below W2.heap.size (W2.setCell ⟨out, 6, none⟩ (ptr W2.heap.size)) ((W2.setCell ⟨out, 6, none⟩ (ptr W2.heap.size)).alloc (.cells #[.int .i64 (msOf t)] 2)) := (Below.refl _ _).alloc (by rw [hs6]; exact Nat.le_refl _) _
    have hw7 := (hb6.block out hz).trans hw6
    have hg67 : W2.grownBy ((W2.setCell ⟨out, 6, none⟩ (ptr W2.heap.size)).alloc (.cells #[.int .i64 (msOf t)] 2)) (some out) := by
      have hp := put_grown W2 out 6 (ptr W2.heap.size)
      exact ⟨hp.os, hp.tape, hp.output, by simp [World.setCell], fun k hk hne => (hb6.block k hk).trans (hp.block k hk hne)⟩
    have hc7 : ((W2.setCell ⟨out, 6, none⟩ (ptr W2.heap.size)).alloc (.cells #[.int .i64 (msOf t)] 2)).cell? ⟨W2.heap.size, 0, none⟩ = some (.int .i64 (msOf t)) := by
      have h := Sl.cell_new (W2.setCell ⟨out, 6, none⟩ (ptr W2.heap.size)) #[.int .i64 (msOf t)] 2 0
      rw [hs6] at h
      exact h
    refine ⟨rfl, ⟨⟨lv, vb, f, ct, some ⟨W2.heap.size, 0, none⟩, hw7, fun W' hg' => ?_⟩⟩, ?_⟩
    · have hgg : W2.grownBy W' (some out) := ⟨hg'.os.trans hg67.os, hg'.tape.trans hg67.tape, hg'.output.trans hg67.output, Nat.le_trans hg67.size hg'.size, fun k hk hne => (hg'.block k (Nat.lt_of_lt_of_le hk hg67.size) hne).trans (hg67.block k hk hne)⟩
      obtain ⟨p1, p2, p3, p4⟩ := hf W' hgg
      have hsz : ((W2.setCell ⟨out, 6, none⟩ (ptr W2.heap.size)).alloc (.cells #[.int .i64 (msOf t)] 2)).heap.size = W2.heap.size + 1 := by simp [World.setCell]
      refine ⟨p1, p2, p3, W2.heap.size, rfl, by have := hg'.size; omega, ?_⟩
      rw [hg'.cell_far ⟨W2.heap.size, 0, none⟩ (by show W2.heap.size < _; omega) (by intro e; injection e with e; have : W2.heap.size = out := e; omega)]
      exact hc7
    · exact ⟨hg67.os.trans hg2.os, hg67.tape.trans hg2.tape, hg67.output.trans hg2.output, Nat.le_trans hg2.size hg67.size, fun k hk hne => (hg67.block k (Nat.lt_of_lt_of_le hk hg2.size) hne).trans (hg2.block k hk hne)⟩
  clear hm hc hb hbA hoA ho hqA hWt
  go_enter Tryz.func223, Tryz.ntmps223
  go_wp2_with fail
  rw [← hA]
  clear hA
  refine CW.out.mono ?_
  rintro e W2 ⟨rfl, hm2, hg2⟩
  obtain ⟨hg, c1, hlo2⟩ := HG.out W2 hg2
  have HF2 := Lib.hid (HFin.out W2 hm2 hg)
  obtain ⟨lv, vb, f, ct, u6, hw, _⟩ := hm2.got
  have o6 : W2.cell? ⟨out, 6, none⟩ = some (.pointer u6) := hw.cell 6
  have f6 : W2.frozen? ⟨out, 6, none⟩ = false := hw.free 6
  clear hw
  clear hm2 hg2 hg
  go_wp2_with (first
    | (go_at_call 224; refine (zzMillis_any t h1 h2 _).mono ?_; rintro e w' ⟨rfl, rfl⟩)
    | (go_at_call 98; refine (ofInt_any _ _).mono ?_; rintro e w' ⟨rfl, rfl⟩))
  go_ret
  exact HF2.out

theorem metricOf_stamped (b : Nat) (F : List P2) (kind : Int) (hk : kind = 0 ∨ kind = 1 ∨ kind = 3) (val : Nat) (s : Int) (w : World) (hm : MetAt w b F kind val none (some s)) (hF : F.length ≤ 2147483647) :
    Calls Tryz.prog 83 #[ptr b] w (MetOut F kind val none (some s) w) := by
  rcases hk with rfl | rfl | rfl
  · exact metricOf_0s b F val s w hm hF
  · exact metricOf_1s b F val s w hm hF
  · exact metricOf_3s b F val s w hm hF
set_option maxHeartbeats 8000000 in
set_option maxRecDepth 100000 in
theorem writtenStamp_any (dm b : Nat) (t : Int) (h1 : -9223372036854775808 ≤ t) (h2 : t ≤ 9223372036854775807) (F : List P2) (hF : F.length ≤ 2147483647) (kind : Int) (hk : kind = 0 ∨ kind = 1 ∨ kind = 3) (val : Nat) (st : Option Int) (w : World) (hc : w.cell? ⟨dm, 1, none⟩ = some (ptr b)) (hm : MetAt w b F kind val none st) :
    Calls Tryz.prog 61 #[.iface 178 (.agg #[.iface 179 (ptr dm), .int .i64 t]), .nilIface] w (WrOut F kind val none (some (msOf t)) w) := by
  obtain ⟨A, hA⟩ : ∃ A, A = (w.alloc (.cells #[.slice none 0 0, .int .i64 0, .float .f64 0, .bool false, .float .f64 0, .slice none 0 0, .int .i64 0, .int .i64 0, .bool false, .int .u64 0, .float .f64 0, .slice none 0 0, .int .i64 0, .bool false, .int .i32 0, .float .f64 0, .int .u64 0, .slice none 0 0, .slice none 0 0, .slice none 0 0, .slice none 0 0, .slice none 0 0, .int .u64 0, .float .f64 0, .slice none 0 0, .bool false, .int .i64 0] 75)).alloc (.cells #[.slice none 0 0, .pointer none, .pointer none, .pointer none, .pointer none, .pointer none, .pointer none] 155) := ⟨_, rfl⟩
  have hw0 : Below w.heap.size w (w.alloc (.cells #[.slice none 0 0, .int .i64 0, .float .f64 0, .bool false, .float .f64 0, .slice none 0 0, .int .i64 0, .int .i64 0, .bool false, .int .u64 0, .float .f64 0, .slice none 0 0, .int .i64 0, .bool false, .int .i32 0, .float .f64 0, .int .u64 0, .slice none 0 0, .slice none 0 0, .slice none 0 0, .slice none 0 0, .slice none 0 0, .int .u64 0, .float .f64 0, .slice none 0 0, .bool false, .int .i64 0] 75)) := (Below.refl _ _).alloc (Nat.le_refl _) _
  have s1 : (w.alloc (.cells #[.slice none 0 0, .int .i64 0, .float .f64 0, .bool false, .float .f64 0, .slice none 0 0, .int .i64 0, .int .i64 0, .bool false, .int .u64 0, .float .f64 0, .slice none 0 0, .int .i64 0, .bool false, .int .i32 0, .float .f64 0, .int .u64 0, .slice none 0 0, .slice none 0 0, .slice none 0 0, .slice none 0 0, .slice none 0 0, .int .u64 0, .float .f64 0, .slice none 0 0, .bool false, .int .i64 0] 75)).heap.size = w.heap.size + 1 := by simp
  have s2 : A.heap.size = w.heap.size + 1 + 1 := by rw [hA]; simp
  have hqb : Below w.heap.size w A := by rw [hA]; exact hw0.alloc (by simp) _
  have hWo : Whole A (w.heap.size + 1) 155 zeroM := by rw [hA, ← s1]; exact Whole.made _ _ _
  have hWr : Whole A w.heap.size 75 (xcs (.slice none 0 0) 0 0 false 0 false 0) := by
    rw [hA]
    have hz : Below (w.heap.size + 1) (w.alloc (.cells #[.slice none 0 0, .int .i64 0, .float .f64 0, .bool false, .float .f64 0, .slice none 0 0, .int .i64 0, .int .i64 0, .bool false, .int .u64 0, .float .f64 0, .slice none 0 0, .int .i64 0, .bool false, .int .i32 0, .float .f64 0, .int .u64 0, .slice none 0 0, .slice none 0 0, .slice none 0 0, .slice none 0 0, .slice none 0 0, .int .u64 0, .float .f64 0, .slice none 0 0, .bool false, .int .i64 0] 75)) _ := (Below.refl _ _).alloc (by rw [s1]; exact Nat.le_refl _) (.cells #[.slice none 0 0, .pointer none, .pointer none, .pointer none, .pointer none, .pointer none, .pointer none] 155)
    exact (hz.block w.heap.size (by omega)).trans (Whole.made w _ _)
  have CW := Lib.hid (writeStamp_any dm b (w.heap.size + 1) t h1 h2 F hF kind val st w A hc hm hqb (by omega) hWo)
  have hsz27 : (Tryz.prog.info? 75).map (·.size) = some 27 := by kernel_rfl
  have HM : Hid (∀ W, MetAt W (w.heap.size + 1) F kind val none (some (msOf t)) → Calls Tryz.prog 83 #[ptr (w.heap.size + 1)] W (MetOut F kind val none (some (msOf t)) W)) := fun W h => metricOf_stamped _ F kind hk val _ W h hF
  have HG : Hid (∀ W, A.grownBy W (some (w.heap.size + 1)) → Below w.heap.size w W ∧ Whole W w.heap.size 75 (xcs (.slice none 0 0) 0 0 false 0 false 0) ∧ w.heap.size + 1 < W.heap.size) := fun W h =>
    ⟨hqb.grown h (by omega) (fun j hj => by injection hj with hj; omega), (h.block w.heap.size (by omega) (by intro e; injection e with e; omega)).trans hWr, by have := h.size; omega⟩
  clear hc hqb hWo hWr hw0 s1 hm
  generalize msOf t = ms at *
  go_enter Tryz.func61, Tryz.ntmps61
  go_wp2_with fail
  rw [← hA]
  clear hA
  refine CW.out.mono ?_
  rintro e w2 ⟨rfl, hm2, hg2⟩
  obtain ⟨hb2, hr2, hs2⟩ := HG.out _ hg2
  have CM := Lib.hid (HM.out _ hm2.met)
  have HB2 := Lib.hid hb2
  have HR2 := Lib.hid hr2
  clear hm2 hg2 hb2 hr2
  go_wp2_with fail
  refine CM.out.mono ?_
  rintro e w3 ⟨a1, c1, rfl, ho3, hb3⟩
  have hsz3 := hb3.size
  have HR3 : Hid (Whole w3 w.heap.size 75 (xcs (.slice none 0 0) 0 0 false 0 false 0)) := (hb3.block w.heap.size (by omega)).trans HR2.out
  have HOut : Hid (∀ Wf, w3.grownBy Wf (some w.heap.size) → Wf.heap.size = w3.heap.size → Wf.ownsRow w.heap.size 102 2 (.slice a1 F.length c1) F.length (F.flatMap pc) ∧ Below w.heap.size w Wf) := fun Wf hg hs => by
    refine ⟨own_base (ho3.kept hg ?_) (by omega), (HB2.out.trans (hb3.mono (by omega))).grown hg (by omega) (fun j hj => by injection hj with hj; omega)⟩
    cases hv : (Value.slice a1 F.length c1).ownBlock with
    | none => exact Or.inl rfl
    | some g => exact Or.inr (by have := (ho3.lt g hv).1; intro e; injection e with e; omega)
  clear ho3 hb3
  rename_i K1 hK1 K2 hK2
  dsimp only
  refine hK2 _ _ ?_
  refine Big.wpList_store_whole rfl _ _ _ rfl w.heap.size 75 _ (xcs (.slice a1 F.length c1) kind val (isD kind none) (toD kind none) true ms) rfl rfl HR3.out rfl hsz27 (xcs_ones _ _ _ _ _ _ _ _ _) ?_
  intro W7 hx7 hg7 hs7
  simp only [Act.put]
  obtain ⟨ho7, hb7⟩ := HOut.out _ hg7 hs7
  have HF : Hid (WrOut F kind val none (some ms) w (.returned (.tuple #[.agg (xcs (.slice a1 F.length c1) kind val (isD kind none) (toD kind none) true ms), .bool true])) W7) := ⟨a1, c1, rfl, ho7, hb7⟩
  have HX7 := Lib.hid hx7
  clear hx7 hg7 hs7 ho7 hb7
  go_wp2_with fail
  exact bodyPost_ret (v := .tuple #[.agg (xcs (.slice a1 F.length c1) kind val (isD kind none) (toD kind none) true ms), .bool true]) (res2 rfl _ _ _ _ _ _ rfl (Big.loaded_whole 75 w.heap.size 75 _ HX7.out _ Tryz.underlying75 rfl hsz27) rfl) rfl HF.out

/-- a metric with a timestamp, handed back (impl.Stamped) -/
def StOut (F : List P2) (kind : Int) (val : Nat) (s : Int) (w : World) (e : Ending) (w' : World) : Prop :=
  ∃ a c, e = .returned (.agg (xcs (.slice a F.length c) kind val false 0 true s)) ∧ Ss.Of 2 pc w' (.slice a F.length c) F ∧ Below w.heap.size w w'
theorem noD (kind : Int) : isD kind none = false ∧ toD kind none = 0 := by
  unfold isD toD
  split <;> exact ⟨rfl, rfl⟩
set_option maxHeartbeats 8000000 in
set_option maxRecDepth 100000 in
theorem stamped_any (F : List P2) (a : Option Addr) (c : Nat) (hF : F.length ≤ 2147483647) (kind : Int) (hk : kind = 0 ∨ kind = 1 ∨ kind = 3) (val : Nat) (b11 : Bool) (t12 : Int) (t : Int) (h1 : -9223372036854775808 ≤ t) (h2 : t ≤ 9223372036854775807) (w : World) (hof : Ss.Of 2 pc w (.slice a F.length c) F) :
    Calls Tryz.prog 37 #[.agg (xcs (.slice a F.length c) kind val false 0 b11 t12), .int .i64 t] w (StOut F kind val (msOf t) w) := by
  obtain ⟨A, hA⟩ : ∃ A, A = (w.alloc (.cells (xcs (.slice a F.length c) kind val false 0 b11 t12) 75)).alloc (.cells #[.slice none 0 0, .int .i64 0, .float .f64 0, .bool false, .float .f64 0, .slice none 0 0, .int .i64 0, .int .i64 0, .bool false, .int .u64 0, .float .f64 0, .slice none 0 0, .int .i64 0, .bool false, .int .i32 0, .float .f64 0, .int .u64 0, .slice none 0 0, .slice none 0 0, .slice none 0 0, .slice none 0 0, .slice none 0 0, .int .u64 0, .float .f64 0, .slice none 0 0, .bool false, .int .i64 0] 75) := ⟨_, rfl⟩
  have hw0 : Below w.heap.size w (w.alloc (.cells (xcs (.slice a F.length c) kind val false 0 b11 t12) 75)) := (Below.refl _ _).alloc (Nat.le_refl _) _
  have s1 : (w.alloc (.cells (xcs (.slice a F.length c) kind val false 0 b11 t12) 75)).heap.size = w.heap.size + 1 := by simp
  have s2 : A.heap.size = w.heap.size + 1 + 1 := by rw [hA]; simp
  have hqb : Below w.heap.size w A := by rw [hA]; exact hw0.alloc (by simp) _
  have hWr : Whole A (w.heap.size + 1) 75 (xcs (.slice none 0 0) 0 0 false 0 false 0) := by rw [hA, ← s1]; exact Whole.made _ _ _
  have hWp : Whole A w.heap.size 75 (xcs (.slice a F.length c) kind val false 0 b11 t12) := by
    rw [hA]
    have hz : Below (w.heap.size + 1) (w.alloc (.cells (xcs (.slice a F.length c) kind val false 0 b11 t12) 75)) _ := (Below.refl _ _).alloc (by rw [s1]; exact Nat.le_refl _) (.cells #[.slice none 0 0, .int .i64 0, .float .f64 0, .bool false, .float .f64 0, .slice none 0 0, .int .i64 0, .int .i64 0, .bool false, .int .u64 0, .float .f64 0, .slice none 0 0, .int .i64 0, .bool false, .int .i32 0, .float .f64 0, .int .u64 0, .slice none 0 0, .slice none 0 0, .slice none 0 0, .slice none 0 0, .slice none 0 0, .int .u64 0, .float .f64 0, .slice none 0 0, .bool false, .int .i64 0] 75)
    exact (hz.block w.heap.size (by omega)).trans (Whole.made w _ _)
  have CT := Lib.hid (metricTo_any F a c kind hk val b11 t12 A (hof.below hqb) hF)
  have CW : Hid (∀ W dm b, W.cell? ⟨dm, 1, none⟩ = some (ptr b) → MetAt W b F kind val none (stamped b11 t12) → Calls Tryz.prog 61 #[.iface 178 (.agg #[.iface 179 (ptr dm), .int .i64 t]), .nilIface] W (WrOut F kind val none (some (msOf t)) W)) := fun W dm b hc hm => writtenStamp_any dm b t h1 h2 F hF kind hk val _ W hc hm
  have hsz27 : (Tryz.prog.info? 75).map (·.size) = some 27 := by kernel_rfl
  have HQ := Lib.hid hqb
  have HP := Lib.hid hWp
  have HR := Lib.hid hWr
  clear hof hqb hWr hWp hw0 s1
  generalize msOf t = ms at *
  obtain ⟨X, hX⟩ : ∃ X, X = xcs (.slice a F.length c) kind val false 0 b11 t12 := ⟨_, rfl⟩
  have hXs : X.size = 27 := by rw [hX]; rfl
  have hX1 : X.all (·.oneCell') = true := by rw [hX]; exact xcs_ones _ _ _ _ _ _ _ _ _
  have HSz := Lib.hid hXs
  rw [← hX]
  rw [← hX] at hA HP CT
  clear hX hXs
  go_enter Tryz.func37, Tryz.ntmps37
  go_upto_region 1 with fail
  rw [← hA]
  clear hA
  go_step
  refine wpList_plain rfl fun K3 hK3 => ?_
  go_simp
  refine hK3 _ _ ?_
  clear hK3 K3
  refine Big.wpList_load_whole rfl _ _ rfl w.heap.size 75 X rfl HP.out _ Tryz.underlying75 rfl (by rw [HSz.out]; exact hsz27) ?_
  simp only [Act.put, List.setIfInBounds_toArray, List.set_cons_zero, List.set_cons_succ]
  go_wp2_with fail
  refine CT.out.mono ?_
  rintro e w1 ⟨b, rfl, hm1, hlo1, hb1⟩
  have hz1 := hb1.size
  have hq1 : Below w1.heap.size w1 (w1.alloc (.cells #[nilp, ptr b] 181)) := (Below.refl _ _).alloc (Nat.le_refl _) _
  have CV := Lib.hid (CW.out (w1.alloc (.cells #[nilp, ptr b] 181)) w1.heap.size b (Sl.cell_new w1 _ _ 1) (hm1.below hq1))
  have hb12 : Below A.heap.size A (w1.alloc (.cells #[nilp, ptr b] 181)) := hb1.trans (hq1.mono hb1.size)
  have HB2 := Lib.hid (HQ.out.trans (hb12.mono (by omega)))
  have HR2 : Hid (Whole (w1.alloc (.cells #[nilp, ptr b] 181)) (w.heap.size + 1) 75 (xcs (.slice none 0 0) 0 0 false 0 false 0)) := (hb12.block _ (by omega)).trans HR.out
  have hz2 : w.heap.size + 1 < (w1.alloc (.cells #[nilp, ptr b] 181)).heap.size := HR2.out.lt
  clear hm1 hb1 hq1 hb12 HR HP HQ
  go_wp2_with fail
  refine (newDoor_any b w1).mono ?_
  rintro e w2 ⟨rfl, hw2⟩
  rw [← hw2] at CV HB2 HR2 hz2
  clear hw2
  go_wp2_with fail
  refine (newStamp_any t _ w2).mono ?_
  rintro e w2' ⟨rfl, rfl⟩
  go_wp2_with fail
  refine CV.out.mono ?_
  rintro e w3 ⟨a1, c1, rfl, ho3, hb3⟩
  have hsz3 := hb3.size
  have HR3 : Hid (Whole w3 (w.heap.size + 1) 75 (xcs (.slice none 0 0) 0 0 false 0 false 0)) := (hb3.block _ hz2).trans HR2.out
  obtain ⟨n1, n2⟩ := noD kind
  have HOut : Hid (∀ Wf Wg, w3.grownBy Wf none → Wf.grownBy Wg (some (w.heap.size + 1)) → Ss.Of 2 pc Wg (.slice a1 F.length c1) F ∧ Below w.heap.size w Wg) := fun Wf Wg hg hg' => by
    have hzf := hg.size
    have h1 : Below w.heap.size w Wf := (HB2.out.trans (hb3.mono (by omega))).grown hg (by omega) (fun j hj => by cases hj)
    refine ⟨Ss.Of.own pc_len (B := w2.heap.size) (e := 102) ((ho3.kept hg (by cases (Value.slice a1 F.length c1).ownBlock <;> simp)).kept hg' ?_), h1.grown hg' (by omega) (fun j hj => by injection hj with hj; omega)⟩
    cases hv : (Value.slice a1 F.length c1).ownBlock with
    | none => exact Or.inl rfl
    | some g => exact Or.inr (by have := (ho3.lt g hv).1; intro e; injection e with e; omega)
  clear ho3 hb3 HB2 HR2
  rename_i K1 hK1 K2 hK2
  dsimp only
  refine hK2 _ _ ?_
  refine wpList_plain rfl fun K3 hK3 => ?_
  go_simp
  refine hK3 _ _ ?_
  clear hK3 K3
  refine wpList_plain rfl fun K3 hK3 => ?_
  go_simp
  refine hK3 _ _ ?_
  clear hK3 K3
  refine wpList_plain rfl fun K3 hK3 => ?_
  go_simp
  refine hK3 _ _ ?_
  clear hK3 K3
  refine wpList_plain rfl fun K3 hK3 => ?_
  go_simp
  refine hK3 _ _ ?_
  clear hK3 K3
  refine Big.wpList_store_whole rfl _ _ _ rfl w3.heap.size 75 (xcs (.slice none 0 0) 0 0 false 0 false 0) (xcs (.slice a1 F.length c1) kind val false 0 true ms) rfl rfl (Whole.made w3 _ _) rfl hsz27 (xcs_ones _ _ _ _ _ _ _ _ _) ?_
  intro W5 hx5 hg5 hs5
  simp only [Act.put]
  have hg35 : w3.grownBy W5 none := by
    have h0 : Below w3.heap.size w3 (w3.alloc (.cells (xcs (.slice none 0 0) 0 0 false 0 false 0) 75)) := (Below.refl _ _).alloc (Nat.le_refl _) _
    exact grown_below (h0.grown hg5 (by simp) (fun j hj => by injection hj with hj; omega))
  have HX5 := Lib.hid hx5
  have HR5 : Hid (Whole W5 (w.heap.size + 1) 75 (xcs (.slice none 0 0) 0 0 false 0 false 0)) := (hg35.block _ (by omega) (by simp)).trans HR3.out
  have HO5 := Lib.hid (fun Wg h => HOut.out W5 Wg hg35 h)
  clear hx5 hg5 hs5 hg35 HOut HR3
  go_upto_region 2 with fail
  go_step
  refine Big.wpList_load_whole rfl _ _ rfl w3.heap.size 75 (xcs (.slice a1 F.length c1) kind val false 0 true ms) rfl HX5.out _ Tryz.underlying75 rfl hsz27 ?_
  simp only [Act.put, List.setIfInBounds_toArray, List.set_cons_zero, List.set_cons_succ]
  refine Big.wpList_store_whole rfl _ _ _ rfl (w.heap.size + 1) 75 (xcs (.slice none 0 0) 0 0 false 0 false 0) (xcs (.slice a1 F.length c1) kind val false 0 true ms) rfl rfl HR5.out rfl hsz27 (xcs_ones _ _ _ _ _ _ _ _ _) ?_
  intro W7 hx7 hg7 hs7
  simp only [Act.put]
  obtain ⟨ho7, hb7⟩ := HO5.out W7 hg7
  have HF : Hid (StOut F kind val ms w (.returned (.agg (xcs (.slice a1 F.length c1) kind val false 0 true ms))) W7) := ⟨a1, c1, rfl, ho7, hb7⟩
  have HX7 := Lib.hid hx7
  clear hx7 hg7 hs7 ho7 hb7 n1 n2
  go_wp2_with fail
  exact bodyPost_ret (v := .agg (xcs (.slice a1 F.length c1) kind val false 0 true ms)) (res1 Tryz.results37 _ _ _ _ _ rfl (Big.loaded_whole 75 (w.heap.size + 1) 75 _ HX7.out _ Tryz.underlying75 rfl hsz27)) rfl HF.out

end Go.Proofs.YtfcpapbokefdmaaGreatDoor.Mt
