/- The walk of header.ParseAccept. -/
import Derived.Test.YtkmfedmiaannfaaParse
import Derived.Test.YtkmfedmiaannfaaSs
import Derived.Deep.LoopGhost
set_option linter.unusedVariables false
set_option linter.unusedSimpArgs false
namespace Go.Proofs.Ytkmfedmiaannfaa.Acc
open Go.RowKit Plf Oct

theorem infoS : (Try.prog.info? 82).map (fun i => (i.zero, i.size, i.bytes)) = some (some (.agg #[.string ⟨#[]⟩, .float .f64 0]), 2, 24) := by kernel_rfl

/-- a row of entries, read so far; what is still to come -/
def Got (w : World) (T rest : List E) (v : Value) (wr : World) : Prop :=
  ∃ qs : List M, wr.ownsRow w.heap.size 82 2 v qs.length (qs.flatMap cells) ∧ qs.map den ++ rest = T ∧ Below w.heap.size w wr

/-- what ParseAccept hands back -/
def Back (T : List E) (w : World) (e : Ending) (w' : World) : Prop :=
  ∃ v qs, e = .returned v ∧ Ss.Of 2 cells w' v qs ∧ qs.map den = T ∧ Below w.heap.size w w'

def restOf (lines : List ByteArray) (k : Nat) : List E := (lines.drop k).flatMap (fun s => parseS s.data.toList)

theorem grown_below {W W' : World} (h : Below W.heap.size W W') (row : Option Nat) : W.grownBy W' row := ⟨h.os, h.tape, h.output, h.size, fun k hk _ => h.block k hk⟩

/-- the block of one entry, and the row so far -/
structure Box (w : World) (v : Value) (qs : List M) (P : Nat) (x : ByteArray) (q : Nat) (W : World) : Prop where
  own : W.ownsRow w.heap.size 82 2 v qs.length (qs.flatMap cells)
  ne : v.ownBlock ≠ some P
  c0 : W.cell? ⟨P, 0, none⟩ = some (.string x)
  c1 : W.cell? ⟨P, 1, none⟩ = some (.float .f64 q)
  f0 : W.frozen? ⟨P, 0, none⟩ = false
  f1 : W.frozen? ⟨P, 1, none⟩ = false
  below : Below w.heap.size w W
  ge : w.heap.size ≤ P
  lt : P < W.heap.size

theorem Box.on {w W W' : World} {v : Value} {qs : List M} {P : Nat} {x : ByteArray} {q : Nat} (h : Box w v qs P x q W) (hb : Below W.heap.size W W') : Box w v qs P x q W' where
  own := h.own.kept (grown_below hb none) (by cases e : v.ownBlock <;> simp)
  ne := h.ne
  c0 := (hb.cell (p := ⟨P, 0, none⟩) h.lt).trans h.c0
  c1 := (hb.cell (p := ⟨P, 1, none⟩) h.lt).trans h.c1
  f0 := (hb.frozen (p := ⟨P, 0, none⟩) h.lt).trans h.f0
  f1 := (hb.frozen (p := ⟨P, 1, none⟩) h.lt).trans h.f1
  below := h.below.trans (hb.mono h.below.size)
  ge := h.ge
  lt := Nat.lt_of_lt_of_le h.lt hb.size

theorem kept_set {W : World} {B : Nat} {e : TypeId} {v : Value} {n : Nat} {xs : List Value} {k : Nat} (h : W.ownsRow B e k v n xs) (p : Addr) (u : Value) (hne : v.ownBlock ≠ some p.block) : (W.setCell p u).ownsRow B e k v n xs :=
  h.kept (row := some p.block) ⟨rfl, rfl, rfl, by simp [World.setCell], fun i hi hn => Below.heap_setCell _ _ _ _ (fun e => hn (by rw [e]))⟩ (Or.inr hne)

theorem frozen_set (W : World) (p q : Addr) (u : Value) : (W.setCell p u).frozen? q = W.frozen? q := World.frozen?_setCell _ _ _ _
theorem cell_set {W : World} {p : Addr} {u v : Value} (h : W.cell? p = some v) : (W.setCell p u).cell? p = some u := World.cell?_setCell_same _ _ _ h
theorem cell_set_other {W : World} {p q : Addr} (u : Value) (h : q ≠ p) : (W.setCell p u).cell? q = W.cell? q := World.cell?_setCell_other W p q u (fun e => h e.symm)

theorem Box.set0 {w W : World} {v : Value} {qs : List M} {P : Nat} {x : ByteArray} {q : Nat} (h : Box w v qs P x q W) (y : ByteArray) : Box w v qs P y q (W.setCell ⟨P, 0, none⟩ (.string y)) where
  own := kept_set h.own _ _ h.ne
  ne := h.ne
  c0 := cell_set h.c0
  c1 := (cell_set_other _ (by simp)).trans h.c1
  f0 := (frozen_set _ _ _ _).trans h.f0
  f1 := (frozen_set _ _ _ _).trans h.f1
  below := h.below.setCell h.ge _
  ge := h.ge
  lt := by simpa [World.setCell] using h.lt
theorem Box.set1 {w W : World} {v : Value} {qs : List M} {P : Nat} {x : ByteArray} {q : Nat} (h : Box w v qs P x q W) (z : Nat) : Box w v qs P x z (W.setCell ⟨P, 1, none⟩ (.float .f64 z)) where
  own := kept_set h.own _ _ h.ne
  ne := h.ne
  c0 := (cell_set_other _ (by simp)).trans h.c0
  c1 := cell_set h.c1
  f0 := (frozen_set _ _ _ _).trans h.f0
  f1 := (frozen_set _ _ _ _).trans h.f1
  below := h.below.setCell h.ge _
  ge := h.ge
  lt := by simpa [World.setCell] using h.lt
/-- a new block -/
theorem Box.made {w wr : World} {v : Value} {qs : List M} (hown : wr.ownsRow w.heap.size 82 2 v qs.length (qs.flatMap cells)) (hb : Below w.heap.size w wr) :
    Box w v qs wr.heap.size ⟨#[]⟩ 0 (wr.alloc (.cells #[.string ⟨#[]⟩, .float .f64 0] 82)) where
  own := hown.alloc _
  ne := fun e => by have := (hown.lt _ e).2; omega
  c0 := by rw [Sl.cell_new]; rfl
  c1 := by rw [Sl.cell_new]; rfl
  f0 := Sl.frozen_new _ _ _ _
  f1 := Sl.frozen_new _ _ _ _
  below := hb.alloc hb.size _
  ge := hb.size
  lt := by simp

theorem Box.leave {w W : World} {v : Value} {qs : List M} {P : Nat} {x : ByteArray} {q : Nat} (h : Box w v qs P x q W) {T rest : List E} (e : qs.map den ++ rest = T) : Hid (Got w T rest v W) := ⟨qs, h.own, e, h.below⟩

theorem skip_at (x r : ByteArray) (h : skipSp x.data.toList = r.data.toList) (hx : x.size ≤ 9223372036854775807) (W : World) :
    Calls Try.prog 68 #[.string x] W fun e w' => e = .returned (.string r) ∧ Below W.heap.size W w' := by
  have := skip_any x hx W
  rw [h] at this
  exact this

theorem hp59 (x : ByteArray) : hasPre x ⟨#[59]⟩ = match x.data.toList with | [] => false | c :: _ => c.toNat == 59 := by
  unfold hasPre
  cases x.data.toList with
  | nil => rfl
  | cons c r =>
    show (([59] : List UInt8).isPrefixOf (c :: r)) = _
    simp only [List.isPrefixOf, Bool.and_true]
    rw [Bool.eq_iff_iff, beq_iff_eq, beq_iff_eq]
    exact ⟨fun h => by rw [← h]; rfl, fun h => UInt8.toNat_inj.1 (by rw [h]; rfl)⟩
theorem hp44 (x : ByteArray) : hasPre x ⟨#[44]⟩ = match x.data.toList with | [] => false | c :: _ => c.toNat == 44 := by
  unfold hasPre
  cases x.data.toList with
  | nil => rfl
  | cons c r =>
    show (([44] : List UInt8).isPrefixOf (c :: r)) = _
    simp only [List.isPrefixOf, Bool.and_true]
    rw [Bool.eq_iff_iff, beq_iff_eq, beq_iff_eq]
    exact ⟨fun h => by rw [← h]; rfl, fun h => UInt8.toNat_inj.1 (by rw [h]; rfl)⟩
theorem hp46 (x : ByteArray) (r : Bool) (h : startsB x 46 = r) (W : World) : Calls Try.prog 69 #[.string x, .string ⟨#[46]⟩] W fun e w' => e = .returned (.bool r) ∧ W = w' := by
  refine pre_any x ⟨#[46]⟩ r ?_ W
  rw [← h]
  unfold hasPre startsB
  cases x.data.toList with
  | nil => rfl
  | cons c r =>
    show (([46] : List UInt8).isPrefixOf (c :: r)) = _
    simp only [List.isPrefixOf, Bool.and_true]
    rw [Bool.eq_iff_iff, beq_iff_eq]
    show 46 = c ↔ (c.toNat == 46) = true
    rw [beq_iff_eq]
    exact ⟨fun h => by rw [← h]; rfl, fun h => UInt8.toNat_inj.1 (by rw [h]; rfl)⟩

set_option maxHeartbeats 8000000 in
set_option maxRecDepth 100000 in
theorem parse_any (m : Option Nat) (key : ByteArray) (v : Value) (lines : List ByteArray) (w : World)
    (hl : (Instr.lookup 81 (.map m) (.string key) false).run Try.prog w = .ok v w) (hv : Sl.Of Value.string w v lines)
    (hs : ∀ s ∈ lines, s.size ≤ 9223372036854775807) (hT : (restOf lines 0).length * 24 ≤ 140737488355328) :
    Calls Try.prog 39 #[.map m, .string key] w (Back (restOf lines 0) w) := by
  obtain ⟨i0, hi, hz0, hz1, hz2⟩ := info_parts infoS
  have HT := Lib.hid hT
  have HS := Lib.hid hs
  clear hT hs
  rcases hv with ⟨rfl, a, cap, rfl, hcap⟩ | ⟨b, off, cap, rfl, h0, hcap, hm, hb, hcell⟩
  · have hz : restOf [] 0 = [] := rfl
    rw [hz]
    clear HT HS hz
    go_enter Try.func39, Try.ntmps39
    go_wp2
    go_step3
    go_wp2
    go_step3
    go_wp2
    go_loopg [4, 12] 0 (fun g v i wr => v = .slice none 0 0 ∧ i = .int .i64 0 ∧ w = wr)
    case atStart => exact ⟨rfl, rfl, rfl⟩
    case round =>
      obtain ⟨rfl, rfl, rfl⟩ := hrel
      go_wp2
      go_ret
      exact ⟨_, [], rfl, Ss.Of.nil, rfl, Below.refl _ _⟩
  · have Hcell := Lib.hid hcell
    clear hcell
    obtain ⟨T, hTe⟩ : ∃ T, restOf lines 0 = T := ⟨_, rfl⟩
    rw [hTe] at HT
    rw [hTe]
    have HTE := Lib.hid hTe
    clear hTe
    go_enter Try.func39, Try.ntmps39
    go_wp2
    go_step3
    go_wp2
    go_step3
    go_wp2
    go_loopg [4, 12] lines.length (fun g v i wr => ∃ k : Nat, k + g = lines.length ∧ i = .int .i64 k ∧ Hid (Got w T (restOf lines k) v wr))
    case atStart =>
      refine ⟨0, by omega, rfl, [], World.ownsRow_nil _ _ _ _, ?_, Below.refl _ _⟩
      exact HTE.out
    case round =>
      obtain ⟨k, hk, rfl, hgot⟩ := hrel
      cases gk with
      | zero =>
        have hkz : ¬ ((k : Int) < (lines.length : Int)) := by omega
        go_wp2
        have H := Lib.hid hgot.out
        clear hgot
        obtain ⟨qs, hown, hq, hbw⟩ := H.out
        have hown2 := Ss.Of.own cells_len hown
        obtain ⟨a4, c4, h4, _, _⟩ := hown2.slice
        subst h4
        go_ret
        refine ⟨_, qs, rfl, hown2, ?_, hbw⟩
        rw [show restOf lines k = [] by unfold restOf; rw [List.drop_of_length_le (by omega)]; rfl, List.append_nil] at hq
        exact hq
      | succ g =>
        have hlt : k < lines.length := by omega
        have hcw : wr.cell? ⟨b, off + k, none⟩ = some (.string lines[k]) := by
          obtain ⟨qs, _, _, hbw⟩ := hgot.out
          rw [hbw.cell (p := ⟨b, off + k, none⟩) hb]; exact Hcell.out k hlt
        have hstep : restOf lines k = parseS lines[k].data.toList ++ restOf lines (k + 1) := by
          unfold restOf
          rw [List.drop_eq_getElem_cons hlt, List.flatMap_cons]
        have HStep := Lib.hid hstep
        have hsz : lines[k].data.toList.length ≤ 9223372036854775807 := by
          have := HS.out lines[k] (List.getElem_mem _)
          rw [← Lib.size_eq]; exact this
        clear hstep
        have hwell : lines[k] = (⟨lines[k].data.toList.toArray⟩ : ByteArray) := of_data rfl
        obtain ⟨l0, hl0⟩ : ∃ l0, lines[k].data.toList = l0 := ⟨_, rfl⟩
        rw [hl0] at hwell hsz HStep
        rw [hwell] at hcw
        clear hwell hl0
        go_wp2
        go_loopg [4, 6] l0.length (fun g s4 s6 wx => ∃ l : List UInt8, l.length = g ∧ l.length ≤ l0.length ∧ s6 = .string ⟨l.toArray⟩ ∧ Hid (Got w T (parseS l ++ restOf lines (k + 1)) s4 wx))
        case atStart =>
          refine ⟨l0, rfl, Nat.le_refl _, rfl, ?_⟩
          rw [← HStep.out]; exact hgot.out
        case round =>
          obtain ⟨l, hlg, hll, rfl, hgot2⟩ := hrel
          obtain ⟨qs, hown, hq, hbw⟩ := hgot2.out
          have HQ := Lib.hid hq
          have HOWN := Lib.hid hown
          clear hown hq hgot2 hgot hcw
          obtain ⟨tk, htk⟩ : ∃ tk : ByteArray, (⟨(tokOf l).toArray⟩ : ByteArray) = tk := ⟨_, rfl⟩
          obtain ⟨r1, hr1⟩ : ∃ r1 : ByteArray, (⟨(tokRest l).toArray⟩ : ByteArray) = r1 := ⟨_, rfl⟩
          have cT : ∀ W, Calls Try.prog 67 #[.string ⟨l.toArray⟩] W fun e w' => e = .returned (.tuple #[.string tk, .string r1]) ∧ Below W.heap.size W w' := by
            intro W
            rw [← htk, ← hr1]
            exact tok_any ⟨l.toArray⟩ (by rw [Lib.size_eq]; show l.length ≤ _; omega) W
          have HTk := Lib.hid htk
          have HR1 := Lib.hid hr1
          have CT := Lib.hid cT
          clear htk hr1 cT
          have CS := Lib.hid (fun x r h hx => skip_at x r h hx)
          by_cases hte : tokOf l = []
          · have hte1 : tk.toList.isEmpty = true := by rw [← HTk.out, Lib.toList_data, hte]; rfl
            have HNone : Hid (entry l = none) := by show _ = _; unfold entry; rw [if_pos hte]
            clear hte
            go_wp2_with fail
            refine (CT.out _).mono ?_
            rintro e w1 ⟨rfl, hb1⟩
            have box := (Box.made HOWN.out hbw).on hb1
            have c0 := box.c0
            have c1 := box.c1
            have f0 := box.f0
            go_wp2_with fail
            clear c0 c1 f0
            have box := box.set0 tk
            have hfin := box.leave (T := T) (rest := restOf lines (k + 1)) (by rw [← HQ.out, parseS_none HNone.out]; rfl)
            clear box
            go_wp2
            go_roundg g
            case measure => omega
            case rel => exact ⟨k + 1, by omega, by go_num, hfin⟩
          · have hte1 : tk.toList.isEmpty = false := by
              rw [← HTk.out, Lib.toList_data]
              cases h : tokOf l with
              | nil => exact absurd h hte
              | cons _ _ => rfl
            obtain ⟨r2, hr2⟩ : ∃ r2 : ByteArray, (⟨(skipSp r1.data.toList).toArray⟩ : ByteArray) = r2 := ⟨_, rfl⟩
            have hr2d : skipSp r1.data.toList = r2.data.toList := by rw [← hr2]
            have hr1d : r1.data.toList = tokRest l := by rw [← HR1.out]
            have hentry : entry l = (qPart r2.data.toList).map (fun o => ((tokOf l, o.1), o.2)) := by
              unfold entry; rw [if_neg hte, ← hr1d, hr2d]
            have hr1s : r1.size ≤ 9223372036854775807 := by rw [Lib.size_eq, hr1d]; have := tok_len l; omega
            have hr2s : r2.data.toList.length ≤ l.length := by
              rw [← hr2d, hr1d]; have := skipSp_len (tokRest l); have := tok_len l; omega
            have CS2 := Lib.hid (skip_at r1 r2 hr2d hr1s)
            have HEn := Lib.hid hentry
            clear hr2 hr2d hr1d hentry hte
            go_wp2_with fail
            refine (CT.out _).mono ?_
            rintro e w1 ⟨rfl, hb1⟩
            have box := (Box.made HOWN.out hbw).on hb1
            have c0 := box.c0
            have c1 := box.c1
            have f0 := box.f0
            have f1 := box.f1
            have hsf := @Flo.run_store_float Try.prog
            go_wp2_with fail
            clear c0 c1 f0 f1 hsf hb1
            have box := (box.set0 tk).set1 4607182418800017408
            refine (CS2.out _).mono ?_
            rintro e w2 ⟨rfl, hb2⟩
            have box := box.on hb2
            clear hb2
            go_wp2_with fail
            cases hps : hasPre r2 ⟨#[59]⟩ with
            | false =>
              have HP := Lib.hid (pre_any r2 ⟨#[59]⟩ false hps)
              have hE : entry l = some ((tokOf l, some oneF), r2.data.toList) := by
                rw [HEn.out]
                rw [hp59] at hps
                unfold qPart
                cases hx : r2.data.toList with
                | nil => rfl
                | cons c r =>
                  rw [hx] at hps
                  have hps : (c.toNat == 59) = false := hps
                  show (if c.toNat = 59 then qRead (skipSp r) else some (some oneF, c :: r)).map _ = _
                  rw [if_neg (by simpa using hps)]
                  rfl
              have HE := Lib.hid hE
              clear hps hE
              refine (HP.out _).mono ?_
              rintro e W ⟨rfl, rfl⟩
              obtain ⟨W, hW⟩ : ∃ W, W = w2 := ⟨_, rfl⟩
              subst hW
              have HCan : Hid (canon 4607182418800017408 = some oneF) := by show _ = _; decide +kernel
              have hszr : r2.size ≤ 9223372036854775807 := by rw [Lib.size_eq]; omega
              obtain ⟨lr, hlr⟩ : ∃ lr, r2.data.toList = lr := ⟨_, rfl⟩
              rw [hlr] at HE hr2s
              have HLR := Lib.hid hlr
              clear hlr
              have c0 := box.c0
              have c1 := box.c1
              have b0 := box.below.size
              obtain ⟨r3, hr3⟩ : ∃ r3 : ByteArray, (⟨(skipSp r2.data.toList).toArray⟩ : ByteArray) = r3 := ⟨_, rfl⟩
              have hr3d : skipSp r2.data.toList = r3.data.toList := by rw [← hr3]
              have CS3 := Lib.hid (skip_at r2 r3 hr3d hszr)
              have hszr3 : r3.data.toList.length ≤ l.length := by
                rw [← hr3d]
                have := skipSp_len r2.data.toList
                have := entry_len HE.out
                rw [HLR.out] at *
                omega
              have HR3 := Lib.hid hr3d
              have hlen : qs.length + 1 ≤ T.length := by
                have h1 := HQ.out
                have h2 : (parseS l).length ≥ 1 := by
                  cases hm : more lr with
                  | none => rw [parseS_one HE.out hm]; simp
                  | some l' => rw [parseS_more HE.out hm]; simp
                rw [← h1, List.length_append, List.length_append, List.length_map]
                omega
              have hTb := HT.out
              clear hr3 hr3d
              go_wp2_with (at_builtin; refine wpList_append_own _ rfl _ _ 79 rfl w.heap.size 82 i0 (.agg #[.string ⟨#[]⟩, .float .f64 0]) 2 24 Try.underlying79 hi hz0 hz1 hz2 rfl (by decide) _ _ _ rfl (box.own.alloc _) ⟨W.heap.size, 0, none⟩ 1 1 [.string tk, .float .f64 4607182418800017408] rfl rfl ?a1 ?b1 ?c1 ?d1 ?e1 ?_)
              case a1 => exact Ss.news_one _ #[.string tk, .float .f64 4607182418800017408] _
              case b1 => intro u hu; simp at hu; rcases hu with rfl | rfl <;> rfl
              case c1 => unfold maxLen; omega
              case d1 => omega
              case e1 => simp; omega
              intro v' w3 hown3 hgrow _
              have hb3 : Below w.heap.size w w3 := (box.below.alloc box.below.size (.cells #[.string tk, .float .f64 4607182418800017408] 82)).grown hgrow (by have := box.below.size; simp; omega) (fun j hj => (box.own.lt j hj).1)
              have hown4 : w3.ownsRow w.heap.size 82 2 v' (qs ++ [(tk, 4607182418800017408)]).length ((qs ++ [(tk, 4607182418800017408)]).flatMap cells) := by
                rw [List.length_append, List.flatMap_append]; exact hown3
              have hden : (qs ++ [(tk, 4607182418800017408)]).map den = qs.map den ++ [(tokOf l, some oneF)] := by
                rw [List.map_append]
                show _ ++ [(tk.data.toList, canon 4607182418800017408)] = _
                rw [HCan.out, ← HTk.out]
              have HG4 := Lib.hid hown4
              have HB3 := Lib.hid hb3
              have HDen := Lib.hid hden
              clear hown3 hown4 hgrow hb3 hden c0 c1 hTb
              go_wp2_with fail
              refine (CS3.out _).mono ?_
              rintro e w4 ⟨rfl, hb4⟩
              have hb5 := HB3.out.trans (hb4.mono HB3.out.size)
              have hown5 := HG4.out.kept (grown_below hb4 none) (by cases e : v'.ownBlock <;> simp)
              have HB5 := Lib.hid hb5
              have HG5 := Lib.hid hown5
              clear hb4 hb5 hown5
              go_wp2_with fail
              cases hpc : hasPre r3 ⟨#[44]⟩ with
              | false =>
                have HP := Lib.hid (pre_any r3 ⟨#[44]⟩ false hpc)
                have hm : more lr = none := by
                  rw [hp44] at hpc
                  unfold more
                  rw [← HLR.out, HR3.out]
                  cases hx : r3.data.toList with
                  | nil => rfl
                  | cons c r =>
                    rw [hx] at hpc
                    have hpc : (c.toNat == 44) = false := hpc
                    show (if c.toNat = 44 then some (skipSp r) else none) = none
                    rw [if_neg (by simpa using hpc)]
                have hfin : Hid (Got w T (restOf lines (k + 1)) v' w4) := by
                  refine ⟨_, HG5.out, ?_, HB5.out⟩
                  rw [HDen.out, ← HQ.out, parseS_one HE.out hm, List.append_assoc]
                clear hpc hm
                refine (HP.out _).mono ?_
                rintro e w5 ⟨rfl, rfl⟩
                go_wp2
                go_roundg g
                case measure => omega
                case rel => exact ⟨k + 1, by omega, by go_num, hfin⟩
              | true =>
                have HP := Lib.hid (pre_any r3 ⟨#[44]⟩ true hpc)
                have hm : ∃ c r, r3.data.toList = c :: r ∧ more lr = some (skipSp r) := by
                  rw [hp44] at hpc
                  unfold more
                  rw [← HLR.out, HR3.out]
                  cases hx : r3.data.toList with
                  | nil => rw [hx] at hpc; cases hpc
                  | cons c r =>
                    rw [hx] at hpc
                    have hpc : (c.toNat == 44) = true := hpc
                    refine ⟨c, r, rfl, ?_⟩
                    show (if c.toNat = 44 then some (skipSp r) else none) = _
                    rw [if_pos (by simpa using hpc)]
                obtain ⟨c, r, hcr, hmm⟩ := hm
                have hx3 : (r3.extract 1 r3.size).data.toList = r := by rw [extract_drop, hcr]; rfl
                have hs3 : 1 ≤ r3.size := by rw [Lib.size_eq, hcr]; simp
                have hlr : (skipSp r).length < l.length := by
                  have h1 := more_len hmm
                  have h2 := entry_len HE.out
                  omega
                have CS5 : Hid (∀ W, Calls Try.prog 68 #[.string (r3.extract 1 r3.size)] W fun e w' => e = .returned (.string ⟨(skipSp r).toArray⟩) ∧ Below W.heap.size W w') := by
                  intro W
                  refine skip_at _ _ (by rw [hx3]) ?_ W
                  rw [Lib.size_eq, hx3]
                  have : r.length + 1 = r3.data.toList.length := by rw [hcr]; rfl
                  omega
                have hfin : ∀ W, Below w4.heap.size w4 W → Hid (Got w T (parseS (skipSp r) ++ restOf lines (k + 1)) v' W) := by
                  intro W hW
                  refine ⟨_, HG5.out.kept (grown_below hW none) (by cases e : v'.ownBlock <;> simp), ?_, HB5.out.trans (hW.mono HB5.out.size)⟩
                  rw [HDen.out, ← HQ.out, parseS_more HE.out hmm, List.append_assoc]
                  rfl
                have HFin := Lib.hid hfin
                have hszl : r3.size ≤ 9223372036854775807 := by rw [Lib.size_eq]; omega
                clear hpc hcr hmm hx3 hfin
                refine (HP.out _).mono ?_
                rintro e w5 ⟨rfl, rfl⟩
                go_wp2_with fail
                refine (CS5.out _).mono ?_
                rintro e w5 ⟨rfl, hb5⟩
                have hfin := HFin.out _ hb5
                go_wp2
                go_roundg (skipSp r).length
                case measure => omega
                case rel => exact ⟨skipSp r, rfl, by omega, rfl, hfin⟩
            | true =>
              have HP := Lib.hid (pre_any r2 ⟨#[59]⟩ true hps)
              have hx : ∃ c t, r2.data.toList = c :: t ∧ qPart r2.data.toList = qRead (skipSp t) := by
                rw [hp59] at hps
                unfold qPart
                cases hx : r2.data.toList with
                | nil => rw [hx] at hps; cases hps
                | cons c t =>
                  rw [hx] at hps
                  have hps : (c.toNat == 59) = true := hps
                  refine ⟨c, t, rfl, ?_⟩
                  show (if c.toNat = 59 then qRead (skipSp t) else some (some oneF, c :: t)) = _
                  rw [if_pos (by simpa using hps)]
              obtain ⟨c, t, hct, hqp⟩ := hx
              have hx3 : (r2.extract 1 r2.size).data.toList = t := by rw [extract_drop, hct]; rfl
              have hs3 : 1 ≤ r2.size := by rw [Lib.size_eq, hct]; simp
              have htl : t.length + 1 = r2.data.toList.length := by rw [hct]; rfl
              obtain ⟨r4, hr4⟩ : ∃ r4 : ByteArray, (⟨(skipSp t).toArray⟩ : ByteArray) = r4 := ⟨_, rfl⟩
              have hr4d : skipSp t = r4.data.toList := by rw [← hr4]
              have hr4s : r4.data.toList.length ≤ t.length := by rw [← hr4d]; exact skipSp_len t
              have CS4 := Lib.hid (skip_at (r2.extract 1 r2.size) r4 (by rw [hx3, hr4d]) (by rw [Lib.size_eq, hx3]; omega))
              have hE : entry l = (qRead r4.data.toList).map (fun o => ((tokOf l, o.1), o.2)) := by rw [HEn.out, hqp, hr4d]
              have HE0 := Lib.hid hE
              have hszl : r2.size ≤ 9223372036854775807 := by rw [Lib.size_eq]; omega
              clear hps hct hqp hx3 hr4 hr4d hE
              refine (HP.out _).mono ?_
              rintro e w3 ⟨rfl, rfl⟩
              go_wp2_with fail
              refine (CS4.out _).mono ?_
              rintro e w3 ⟨rfl, hb3⟩
              have box := box.on hb3
              clear hb3
              go_wp2_with fail
              cases hpq : hasPre r4 ⟨#[113, 61]⟩ with
              | false =>
                have HP := Lib.hid (pre_any r4 ⟨#[113, 61]⟩ false hpq)
                have HNone : Hid (entry l = none) := by
                  show _ = _
                  rw [HE0.out]
                  unfold qRead
                  have hpq : ([113, 61] : List UInt8).isPrefixOf r4.data.toList = false := hpq
                  rw [hpq]
                  rfl
                clear hpq
                refine (HP.out _).mono ?_
                rintro e w4 ⟨rfl, rfl⟩
                have hfin := box.leave (T := T) (rest := restOf lines (k + 1)) (by rw [← HQ.out, parseS_none HNone.out]; rfl)
                clear box
                go_wp2
                go_roundg g
                case measure => omega
                case rel => exact ⟨k + 1, by omega, by go_num, hfin⟩
              | true =>
                have HP := Lib.hid (pre_any r4 ⟨#[113, 61]⟩ true hpq)
                have hs4 : 2 ≤ r4.size := hasPre_yes hpq
                have hE : qRead r4.data.toList = if lt0 (qual (r4.data.toList.drop 2)).1 then none else some (qual (r4.data.toList.drop 2)) := by
                  unfold qRead
                  have hpq : ([113, 61] : List UInt8).isPrefixOf r4.data.toList = true := hpq
                  rw [hpq]
                  rfl
                have hx4 : (r4.extract 2 r4.size).data.toList = r4.data.toList.drop 2 := by rw [extract_drop]
                have CQ := Lib.hid (qual_any (fun x r h => hp46 x r h) (r4.extract 2 r4.size) (by rw [Lib.size_eq, hx4, List.length_drop]; omega))
                rw [hx4] at CQ
                have hszl4 : r4.size ≤ 9223372036854775807 := by rw [Lib.size_eq]; omega
                have hql := qual_len (r4.data.toList.drop 2)
                rw [List.length_drop] at hql
                have hqn := qual_num (r4.data.toList.drop 2)
                obtain ⟨oq, lr, hol⟩ : ∃ oq lr, qual (r4.data.toList.drop 2) = (oq, lr) := ⟨_, _, rfl⟩
                rw [hol] at hE CQ hql hqn
                have HE1 := Lib.hid hE
                have HQN := Lib.hid hqn
                clear hpq hE hx4 hol hqn
                refine (HP.out _).mono ?_
                rintro e w4 ⟨rfl, rfl⟩
                go_wp2_with fail
                refine (CQ.out _).mono ?_
                rintro e w4 ⟨q, rfl, hrep, hb4⟩
                have box := box.on hb4
                clear hb4
                obtain ⟨r6, hr6⟩ : ∃ r6 : ByteArray, (⟨lr.toArray⟩ : ByteArray) = r6 := ⟨_, rfl⟩
                have hr6d : r6.data.toList = lr := by rw [← hr6]
                have HLR := Lib.hid hr6d
                have hHCan : canon q = oq := canon_of hrep HQN.out
                have HCan := Lib.hid hHCan
                have hltw : ltW q 0 = lt0 oq := ltW_rep hrep (Rep.of 0)
                have hr6' : (⟨(oq, lr).2.toArray⟩ : ByteArray) = r6 := hr6
                rw [hr6']
                clear hr6 hr6d hHCan hrep hr6'
                have c0 := box.c0
                have c1 := box.c1
                have f1 := box.f1
                have hsf := @Flo.run_store_float Try.prog
                cases hlt0 : lt0 oq with
                | true =>
                  have HNone : Hid (entry l = none) := by
                    show _ = _
                    rw [HE0.out, HE1.out]
                    show (if lt0 oq = true then none else some (oq, lr)).map _ = none
                    rw [hlt0]; rfl
                  have htest : (FloatKind.f64.format.order q 0 == some Ordering.lt) = true := by rw [← hlt0, ← hltw]; rfl
                  clear hlt0 hltw
                  go_wp2_with fail
                  clear hsf c0 c1 f1 htest
                  have box := box.set1 q
                  have hfin := box.leave (T := T) (rest := restOf lines (k + 1)) (by rw [← HQ.out, parseS_none HNone.out]; rfl)
                  clear box
                  go_wp2
                  go_roundg g
                  case measure => omega
                  case rel => exact ⟨k + 1, by omega, by go_num, hfin⟩
                | false =>
                  have hE : entry l = some ((tokOf l, oq), lr) := by
                    rw [HE0.out, HE1.out]
                    show (if lt0 oq = true then none else some (oq, lr)).map _ = _
                    rw [hlt0]; rfl
                  have htest : (FloatKind.f64.format.order q 0 == some Ordering.lt) = false := by rw [← hlt0, ← hltw]; rfl
                  have HE := Lib.hid hE
                  clear hlt0 hltw hE
                  have hszr : r6.size ≤ 9223372036854775807 := by rw [Lib.size_eq, HLR.out]; omega
                  have hlq := entry_len HE.out
                  have b0 := box.below.size
                  have box := box.set1 q
                  obtain ⟨r7, hr7⟩ : ∃ r7 : ByteArray, (⟨(skipSp r6.data.toList).toArray⟩ : ByteArray) = r7 := ⟨_, rfl⟩
                  have hr7d : skipSp r6.data.toList = r7.data.toList := by rw [← hr7]
                  have CS3 := Lib.hid (skip_at r6 r7 hr7d hszr)
                  have hszr7 : r7.data.toList.length ≤ l.length := by
                    rw [← hr7d]
                    have := skipSp_len r6.data.toList
                    have := entry_len HE.out
                    rw [HLR.out] at *
                    omega
                  have HR3 := Lib.hid hr7d
                  have hlen : qs.length + 1 ≤ T.length := by
                    have h1 := HQ.out
                    have h2 : (parseS l).length ≥ 1 := by
                      cases hm : more lr with
                      | none => rw [parseS_one HE.out hm]; simp
                      | some l' => rw [parseS_more HE.out hm]; simp
                    rw [← h1, List.length_append, List.length_append, List.length_map]
                    omega
                  have hTb := HT.out
                  clear hr7 hr7d
                  go_wp2_with (at_builtin; refine wpList_append_own _ rfl _ _ 79 rfl w.heap.size 82 i0 (.agg #[.string ⟨#[]⟩, .float .f64 0]) 2 24 Try.underlying79 hi hz0 hz1 hz2 rfl (by decide) _ _ _ rfl (box.own.alloc _) ⟨w4.heap.size, 0, none⟩ 1 1 [.string tk, .float .f64 q] rfl rfl ?a2 ?b2 ?c2 ?d2 ?e2 ?_)
                  case a2 =>
                    intro j u hu
                    have h1 := Ss.news_one (w4.setCell ⟨wr.heap.size, 1, none⟩ (.float .f64 q)) #[.string tk, .float .f64 q] 82 j u hu
                    rw [show (w4.setCell ⟨wr.heap.size, 1, none⟩ (.float .f64 q)).heap.size = w4.heap.size by simp [World.setCell]] at h1
                    exact h1
                  case b2 => intro u hu; simp at hu; rcases hu with rfl | rfl <;> rfl
                  case c2 => unfold maxLen; omega
                  case d2 => omega
                  case e2 => simp; omega
                  intro v' w6 hown3 hgrow _
                  have hb6 : Below w.heap.size w w6 := (box.below.alloc box.below.size (.cells #[.string tk, .float .f64 q] 82)).grown hgrow (by simp; omega) (fun j hj => (box.own.lt j hj).1)
                  have hown4 : w6.ownsRow w.heap.size 82 2 v' (qs ++ [(tk, q)]).length ((qs ++ [(tk, q)]).flatMap cells) := by
                    rw [List.length_append, List.flatMap_append]; exact hown3
                  have hden : (qs ++ [(tk, q)]).map den = qs.map den ++ [(tokOf l, oq)] := by
                    rw [List.map_append]
                    show _ ++ [(tk.data.toList, canon q)] = _
                    rw [HCan.out, ← HTk.out]
                  have HG4 := Lib.hid hown4
                  have HB3 := Lib.hid hb6
                  have HDen := Lib.hid hden
                  clear hown3 hown4 hgrow hb6 hden c0 c1 f1 hsf htest hTb
                  go_wp2_with fail
                  refine (CS3.out _).mono ?_
                  rintro e w7 ⟨rfl, hb7⟩
                  have hb8 := HB3.out.trans (hb7.mono HB3.out.size)
                  have hown5 := HG4.out.kept (grown_below hb7 none) (by cases e : v'.ownBlock <;> simp)
                  have HB5 := Lib.hid hb8
                  have HG5 := Lib.hid hown5
                  clear hb7 hb8 hown5
                  go_wp2_with fail
                  cases hpc : hasPre r7 ⟨#[44]⟩ with
                  | false =>
                    have HP := Lib.hid (pre_any r7 ⟨#[44]⟩ false hpc)
                    have hm : more lr = none := by
                      rw [hp44] at hpc
                      unfold more
                      rw [← HLR.out, HR3.out]
                      cases hx : r7.data.toList with
                      | nil => rfl
                      | cons c r =>
                        rw [hx] at hpc
                        have hpc : (c.toNat == 44) = false := hpc
                        show (if c.toNat = 44 then some (skipSp r) else none) = none
                        rw [if_neg (by simpa using hpc)]
                    have hfin : Hid (Got w T (restOf lines (k + 1)) v' w7) := by
                      refine ⟨_, HG5.out, ?_, HB5.out⟩
                      rw [HDen.out, ← HQ.out, parseS_one HE.out hm, List.append_assoc]
                    clear hpc hm
                    refine (HP.out _).mono ?_
                    rintro e w8 ⟨rfl, rfl⟩
                    go_wp2
                    go_roundg g
                    case measure => omega
                    case rel => exact ⟨k + 1, by omega, by go_num, hfin⟩
                  | true =>
                    have HP := Lib.hid (pre_any r7 ⟨#[44]⟩ true hpc)
                    have hm : ∃ c r, r7.data.toList = c :: r ∧ more lr = some (skipSp r) := by
                      rw [hp44] at hpc
                      unfold more
                      rw [← HLR.out, HR3.out]
                      cases hx : r7.data.toList with
                      | nil => rw [hx] at hpc; cases hpc
                      | cons c r =>
                        rw [hx] at hpc
                        have hpc : (c.toNat == 44) = true := hpc
                        refine ⟨c, r, rfl, ?_⟩
                        show (if c.toNat = 44 then some (skipSp r) else none) = _
                        rw [if_pos (by simpa using hpc)]
                    obtain ⟨c, r, hcr, hmm⟩ := hm
                    have hx3 : (r7.extract 1 r7.size).data.toList = r := by rw [extract_drop, hcr]; rfl
                    have hs3 : 1 ≤ r7.size := by rw [Lib.size_eq, hcr]; simp
                    have hlr : (skipSp r).length < l.length := by
                      have h1 := more_len hmm
                      have h2 := entry_len HE.out
                      omega
                    have CS5 : Hid (∀ W, Calls Try.prog 68 #[.string (r7.extract 1 r7.size)] W fun e w' => e = .returned (.string ⟨(skipSp r).toArray⟩) ∧ Below W.heap.size W w') := by
                      intro W
                      refine skip_at _ _ (by rw [hx3]) ?_ W
                      rw [Lib.size_eq, hx3]
                      have : r.length + 1 = r7.data.toList.length := by rw [hcr]; rfl
                      omega
                    have hfin : ∀ W, Below w7.heap.size w7 W → Hid (Got w T (parseS (skipSp r) ++ restOf lines (k + 1)) v' W) := by
                      intro W hW
                      refine ⟨_, HG5.out.kept (grown_below hW none) (by cases e : v'.ownBlock <;> simp), ?_, HB5.out.trans (hW.mono HB5.out.size)⟩
                      rw [HDen.out, ← HQ.out, parseS_more HE.out hmm, List.append_assoc]
                      rfl
                    have HFin := Lib.hid hfin
                    have hszl : r7.size ≤ 9223372036854775807 := by rw [Lib.size_eq]; omega
                    clear hpc hcr hmm hx3 hfin
                    refine (HP.out _).mono ?_
                    rintro e w8 ⟨rfl, rfl⟩
                    go_wp2_with fail
                    refine (CS5.out _).mono ?_
                    rintro e w8 ⟨rfl, hb8⟩
                    have hfin := HFin.out _ hb8
                    go_wp2
                    go_roundg (skipSp r).length
                    case measure => omega
                    case rel => exact ⟨skipSp r, rfl, by omega, rfl, hfin⟩


end Go.Proofs.Ytkmfedmiaannfaa.Acc
