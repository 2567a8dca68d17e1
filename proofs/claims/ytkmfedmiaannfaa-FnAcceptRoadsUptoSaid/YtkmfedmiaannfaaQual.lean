/- A quality: what is read of it. The walk of expectQuality. -/
import Derived.Test.YtkmfedmiaannfaaOct3
import Derived.Test.YtkmfedmiaannfaaFlo
set_option linter.unusedVariables false
set_option linter.unusedSimpArgs false
namespace Go.Proofs.Ytkmfedmiaannfaa.Oct
open Go.RowKit Plf

def isDg (c : UInt8) : Bool := decide (48 ≤ c.toNat ∧ c.toNat ≤ 57)
def oneF : Nat := 4607182418800017408
def negF : Nat := 13830554455654793216
/-- the number of digits, in 64 bits; the power of ten -/
def numFrom (n : Int) (l : List UInt8) : Int := l.foldl (fun n c => wrap64 (wrap64 (wrap64 (n * 10) + (c.toNat : Int)) - 48)) n
def denFrom (d : Int) : Nat → Int
  | 0 => d
  | k + 1 => denFrom (wrap64 (d * 10)) k
/-- the sum of a digit and a fraction; 'none': NaN -/
def frac (q : Nat) (n d : Int) : Option Nat := (D.div (floatOfInt .f64 n) (floatOfInt .f64 d)).bind (fun x => D.add q x)

def qualTail (q : Nat) (l : List UInt8) : Option Nat × List UInt8 :=
  match l with
  | c :: r => if c.toNat = 46 then (frac q (numFrom 0 (r.takeWhile isDg)) (denFrom 1 (r.takeWhile isDg).length), r.dropWhile isDg) else (some q, l)
  | [] => (some q, l)
def qual (l : List UInt8) : Option Nat × List UInt8 :=
  match l with
  | [] => (some negF, [])
  | c :: r => if c.toNat = 48 then qualTail 0 r else if c.toNat = 49 then qualTail oneF r else (some negF, [])

theorem numFrom_snoc (n : Int) (l : List UInt8) (c : UInt8) : numFrom n (l ++ [c]) = wrap64 (wrap64 (wrap64 (numFrom n l * 10) + (c.toNat : Int)) - 48) := by
  unfold numFrom; rw [List.foldl_append]; rfl
theorem denFrom_succ (k : Nat) : ∀ d, denFrom d (k + 1) = wrap64 (denFrom d k * 10) := by
  induction k with
  | zero => intro d; rfl
  | succ k ih => intro d; show denFrom (wrap64 (d * 10)) (k + 1) = _; rw [ih]; rfl

theorem take_snoc {l : List UInt8} {k : Nat} (h : k < l.length) : l.take (k + 1) = l.take k ++ [l[k]] := by
  rw [List.take_succ_eq_append_getElem h]

theorem wrap_bd (x : Int) : -9223372036854775808 ≤ wrap64 x ∧ wrap64 x ≤ 9223372036854775807 := by unfold wrap64; omega

theorem num_bd (l : List UInt8) : -9223372036854775808 ≤ numFrom 0 l ∧ numFrom 0 l ≤ 9223372036854775807 := by
  rcases List.eq_nil_or_concat l with rfl | ⟨r, c, rfl⟩
  · simp [numFrom]
  · rw [List.concat_eq_append, numFrom_snoc]; exact wrap_bd _
theorem den_bd (k : Nat) : -9223372036854775808 ≤ denFrom 1 k ∧ denFrom 1 k ≤ 9223372036854775807 := by
  cases k with
  | zero => simp [denFrom]
  | succ k => rw [denFrom_succ]; exact wrap_bd _

/-- a text is read so -/
def Read (o : Option Nat × List UInt8) (w : World) (e : Ending) (w' : World) : Prop :=
  ∃ q, e = .returned (.tuple #[.float .f64 q, .string ⟨o.2.toArray⟩]) ∧ Rep o.1 q ∧ Below w.heap.size w w'

theorem Read.mk {o : Option Nat × List UInt8} {w w' : World} {q : Nat} {s : ByteArray} (h2 : s = ⟨o.2.toArray⟩) (h1 : Rep o.1 q) (h3 : Below w.heap.size w w') : Read o w (.returned (.tuple #[.float .f64 q, .string s])) w' := by
  subst h2; exact ⟨q, rfl, h1, h3⟩

theorem nan_write (d : Ieee.Datum) (h : d.isNaN = false) : isNan D (D.write d) = false := by
  cases d with
  | number s m p => show isNan D (D.nearest s m p) = false; rw [nearest_eq]; exact nan_word D s m p
  | infinity s => cases s <;> decide +kernel
  | nan s f => cases h
theorem quotient_num (k : Nat) (a b c : Ieee.Datum) (h : a.quotient k b = some c) : c.isNaN = false := by
  cases a <;> cases b <;> simp only [Ieee.Datum.quotient] at h <;> (try (cases h; done)) <;> (try (injection h with h; rw [← h]; rfl; done))
  split at h
  · split at h
    · cases h
    · injection h with h; rw [← h]; rfl
  · injection h with h; rw [← h]; rfl
theorem div_num {x y z : Nat} (h : D.div x y = some z) : isNan D z = false := by
  unfold Ieee.Format.div at h
  cases e : (D.read x).quotient (D.fractionBits + 2) (D.read y) with
  | none => rw [e] at h; cases h
  | some c => rw [e] at h; injection h with h; rw [← h]; exact nan_write c (quotient_num _ _ _ _ e)
theorem add_some {q x : Nat} (hq : rung D q < D.infRung) (hx : isNan D x = false) : ∃ z, D.add q x = some z := by
  unfold Ieee.Format.add
  rw [read_num D dbl hq]
  have hx := rung_le_of hx
  rcases Nat.lt_or_eq_of_le hx with l | l
  · rw [read_num D dbl l]; exact ⟨_, rfl⟩
  · rw [read_inf D dbl l]; exact ⟨_, rfl⟩
theorem fin0 : rung D 0 < D.infRung := by decide +kernel
theorem fin1 : rung D 4607182418800017408 < D.infRung := by decide +kernel

/-- HasPrefix at one byte -/
def startsB (x : ByteArray) (c : Nat) : Bool := match x.data.toList with | [] => false | a :: _ => a.toNat == c

set_option maxHeartbeats 8000000 in
set_option maxRecDepth 100000 in
theorem qual_any (hp : ∀ (x : ByteArray) (r : Bool), startsB x 46 = r → ∀ W, Calls Try.prog 69 #[.string x, .string ⟨#[46]⟩] W fun e w' => e = .returned (.bool r) ∧ W = w') (s : ByteArray) (hs : s.size ≤ 9223372036854775807) (w : World) :
    Calls Try.prog 70 #[.string s] w (Read (qual s.data.toList) w) := by
  have HP := Lib.hid hp
  clear hp
  have hsz := Lib.size_eq s
  by_cases h0 : s.size = 0
  · have hz : ((s.size : Int) == 0) = true := beq_iff_eq.2 (by omega)
    have hd : s.data.toList = [] := List.length_eq_zero_iff.1 (by omega)
    have HD := Lib.hid hd
    clear hd hsz h0
    go_enter Try.func70, Try.ntmps70
    go_wp2
    go_ret2
    refine ⟨negF, ?_, ?_, Below.refl _ _⟩
    · rw [HD.out]; rfl
    · rw [HD.out]; exact Rep.of _
  · have hz : ((s.size : Int) == 0) = false := beq_eq_false_iff_ne.2 (by omega)
    have h1 : 0 < s.size := by omega
    obtain ⟨c, r, hcr⟩ : ∃ c r, s.data.toList = c :: r := List.exists_cons_of_length_pos (by omega)
    have hc0 : (s[0]'h1) = c := by
      have : s.data.toList[0]'(by omega) = s[0]'h1 := rfl
      rw [← this]; simp [hcr]
    have HCR := Lib.hid hcr
    have HC0 := Lib.hid hc0
    clear hcr hc0 h0 hsz
    by_cases hc : c.toNat = 48 ∨ c.toNat = 49
    · rcases hc with hc | hc
      · have hq : qual s.data.toList = qualTail 0 r := by
          rw [HCR.out]
          show (if c.toNat = 48 then qualTail 0 r else if c.toNat = 49 then qualTail oneF r else (some negF, [])) = _
          rw [if_pos hc]
        have HQ := Lib.hid hq
        have e1 : (((s[0]'h1).toNat : Int) == 48) = true := beq_iff_eq.2 (by rw [HC0.out]; omega)
        have e2 : (((s[0]'h1).toNat : Int) == 49) = false := beq_eq_false_iff_ne.2 (by rw [HC0.out]; omega)
        clear hc hq
        have hxd : (s.extract 1 s.size).data.toList = r := by
          rw [extract_drop, HCR.out]; rfl
        have hxs : (s.extract 1 s.size).size = s.size - 1 := by rw [Lib.size_eq, hxd, Lib.size_eq s, HCR.out]; simp
        have HXD := Lib.hid hxd
        have HXS := Lib.hid hxs
        clear hxd hxs
        go_enter Try.func70, Try.ntmps70
        go_wp2_with fail
        generalize s.extract 1 s.size = x at *
        have hxm : x.size ≤ 9223372036854775807 := by have := HXS.out; omega
        cases hr : r with
        | nil =>
          have hst : startsB x 46 = false := by unfold startsB; rw [HXD.out, hr]
          have HR := Lib.hid hr
          refine (HP.out x false hst w).mono ?_
          clear hst hr
          rintro e w1 ⟨rfl, rfl⟩
          go_wp2
          go_ret2
          have hfin : qual s.data.toList = (some 0, r) := by rw [HQ.out, HR.out]; rfl
          refine ⟨0, ?_, ?_, Below.refl _ _⟩
          · rw [hfin, of_data HXD.out]; rfl
          · rw [hfin]; exact Rep.of _
        | cons a y =>
          by_cases ha : a.toNat = 46
          · have hst : startsB x 46 = true := by unfold startsB; rw [HXD.out, hr]; simp [ha]
            have hfin : qual s.data.toList = (frac 0 (numFrom 0 (y.takeWhile isDg)) (denFrom 1 (y.takeWhile isDg).length), y.dropWhile isDg) := by
              rw [HQ.out, hr]
              show (if a.toNat = 46 then _ else _) = _
              rw [if_pos ha]
            have hx0 : 1 ≤ x.size := by rw [Lib.size_eq, HXD.out, hr]; simp
            have hyd : (x.extract 1 x.size).data.toList = y := by rw [extract_drop, HXD.out, hr]; rfl
            have hys : (x.extract 1 x.size).size = x.size - 1 := by rw [Lib.size_eq, hyd, Lib.size_eq x, HXD.out, hr]; simp
            have HFin := Lib.hid hfin
            have HYD := Lib.hid hyd
            have HYS := Lib.hid hys
            refine (HP.out x true hst w).mono ?_
            clear hst hfin hyd hys hr ha
            rintro e w1 ⟨rfl, rfl⟩
            go_wp2_with fail
            generalize x.extract 1 x.size = z at *
            have hzm : z.size ≤ 9223372036854775807 := by have := HYS.out; omega
            go_loop [4, 5, 6] (fun i n d => ∃ k : Nat, k ≤ z.size ∧ i = .int .i64 k ∧ n = .int .i64 (numFrom 0 (y.take k)) ∧ d = .int .i64 (denFrom 1 k) ∧ Hid (∀ j (h : j < z.size), j < k → isDg (z[j]'h) = true)) (fun i _ _ => z.size - (intOf i).toNat)
            case atStart => exact ⟨0, Nat.zero_le _, rfl, rfl, rfl, fun j h h2 => by omega⟩
            case round =>
              obtain ⟨k, hk, rfl, rfl, rfl, hall⟩ := hrel
              have hfinal : (∀ h : k < z.size, isDg (z[k]'h) = false) → Hid (y.takeWhile isDg = y.take k ∧ y.dropWhile isDg = y.drop k ∧ (y.take k).length = k) := by
                intro h2
                have hsz := Lib.size_eq z
                rw [HYD.out] at hsz
                have hget : ∀ j (h : j < y.length) (h' : j < z.size), y[j] = z[j]'h' := by
                  intro j h h'
                  have : z.data.toList[j]'(by rw [← Lib.size_eq]; exact h') = z[j]'h' := rfl
                  rw [← this]; simp [HYD.out]
                have := takeWhile_at (p := isDg) y k (by omega) (fun j h hj => by rw [hget j h (by omega)]; exact hall.out j (by omega) hj) (fun h => by rw [hget k h (by omega)]; exact h2 (by omega))
                exact ⟨this.1, this.2, by rw [List.length_take]; omega⟩
              obtain ⟨n, hn⟩ : ∃ n, numFrom 0 (y.take k) = n := ⟨_, rfl⟩
              obtain ⟨d, hd⟩ : ∃ d, denFrom 1 k = d := ⟨_, rfl⟩
              obtain ⟨nb1, nb2⟩ := num_bd (y.take k)
              obtain ⟨db1, db2⟩ := den_bd k
              have z0 : (0 : Int) ≤ k := by omega
              rw [hn] at nb1 nb2 ⊢
              rw [hd] at db1 db2 ⊢
              have HNum := Lib.hid hn
              have HDen := Lib.hid hd
              clear hn hd
              by_cases hlt : k < z.size
              · have hbz : (z[k]'hlt).toNat < 256 := (z[k]'hlt).toNat_lt
                by_cases hdg : isDg (z[k]'hlt) = true
                · have hb := hdg
                  unfold isDg at hb
                  have hb := of_decide_eq_true hb
                  obtain ⟨hb1, hb2⟩ := hb
                  have hnx : Hid (numFrom 0 (y.take (k + 1)) = wrap64 (wrap64 (wrap64 (n * 10) + ((z[k]'hlt).toNat : Int)) - 48)) := by
                    have hsz := Lib.size_eq z
                    rw [HYD.out] at hsz
                    have hyk : y[k]'(by omega) = z[k]'hlt := by
                      have : z.data.toList[k]'(by rw [← Lib.size_eq]; exact hlt) = z[k]'hlt := rfl
                      rw [← this]; simp [HYD.out]
                    show numFrom 0 (y.take (k + 1)) = _
                    rw [take_snoc (by omega), numFrom_snoc, HNum.out, hyk]
                  have hdx : Hid (denFrom 1 (k + 1) = wrap64 (d * 10)) := by show denFrom 1 (k + 1) = _; rw [denFrom_succ, HDen.out]
                  have HDG := Lib.hid hdg
                  clear hdg
                  go_wp2
                  go_roundw
                  case rel =>
                    refine ⟨k + 1, by omega, by go_num, by rw [hnx.out], by rw [hdx.out], fun j h hj => ?_⟩
                    by_cases e : j = k
                    · subst e; exact HDG.out
                    · exact hall.out j h (by omega)
                  case measure => simp [intOf]; omega
                · have hdg' := Bool.eq_false_iff.2 hdg
                  have hnd : ((z[k]'hlt).toNat : Int) < 48 ∨ (57 : Int) < ((z[k]'hlt).toNat : Int) := by
                    unfold isDg at hdg'
                    have := of_decide_eq_false hdg'
                    omega
                  have hnd2 : ∀ h : k < z.size, isDg (z[k]'h) = false := fun _ => hdg'
                  clear hdg hdg'
                  rcases hnd with hnd | hnd
                  · have hf := hfinal (hnd2)
                    cases e1 : D.div (floatOfInt .f64 n) (floatOfInt .f64 d) with
                    | some x1 =>
                      obtain ⟨x2, e2⟩ := add_some (q := 0) fin0 (div_num e1)
                      have q1 : ∀ W : World, (binOp .quo 27 (.float .f64 (floatOfInt .f64 n)) (.float .f64 (floatOfInt .f64 d))).run Try.prog W = .ok (.float .f64 x1) W := fun W => run_float_arith W .quo _ .f64 _ _ x1 e1
                      have q2 : ∀ W : World, (binOp .add 27 (.float .f64 0) (.float .f64 x1)).run Try.prog W = .ok (.float .f64 x2) W := fun W => run_float_arith W .add _ .f64 _ _ x2 e2
                      have hfr : Hid (qual s.data.toList = (some x2, y.drop k)) := by
                        show _ = _
                        rw [HFin.out, hf.out.1, hf.out.2.1, hf.out.2.2, HNum.out, HDen.out]
                        unfold frac
                        rw [e1]
                        show (D.add 0 x1, _) = _
                        rw [e2]
                      have hrest : Hid (z.extract k z.size = ⟨(y.drop k).toArray⟩) := by show _ = _; rw [extract_drop, HYD.out]
                      clear e1 e2
                      go_wp2
                      go_quiet (fail)
                      go_wp2
                      go_ret2
                      refine ⟨x2, ?_, ?_, below_drewN (Below.refl _ _) _⟩
                      · rw [hfr.out, hrest.out] <;> rfl
                      · rw [hfr.out]; exact Rep.of _
                    | none =>
                      obtain ⟨nv, q1, n1⟩ := Flo.run_nan (P := Try.prog) .quo (by simp) 27 (floatOfInt .f64 n) (floatOfInt .f64 d) e1
                      obtain ⟨nu, q2, n2⟩ := Flo.run_add_nan (P := Try.prog) 27 0 nv n1
                      have hfr : Hid (qual s.data.toList = (none, y.drop k)) := by
                        show _ = _
                        rw [HFin.out, hf.out.1, hf.out.2.1, hf.out.2.2, HNum.out, HDen.out]
                        unfold frac
                        rw [e1]
                        rfl
                      have hrest : Hid (z.extract k z.size = ⟨(y.drop k).toArray⟩) := by show _ = _; rw [extract_drop, HYD.out]
                      have HN2 := Lib.hid n2
                      clear e1 n1 n2
                      go_wp2
                      go_region
                      all_goals go_wp2
                      all_goals go_ret2
                      all_goals refine Read.mk (s := z.extract k z.size) (by rw [hfr.out, hrest.out]) (by rw [hfr.out]; exact Or.inr ⟨rfl, HN2.out _ _⟩) ?_
                      all_goals repeat (first | exact Below.refl _ _ | apply Below.drew | apply below_drewN)
                  · have hf := hfinal (hnd2)
                    cases e1 : D.div (floatOfInt .f64 n) (floatOfInt .f64 d) with
                    | some x1 =>
                      obtain ⟨x2, e2⟩ := add_some (q := 0) fin0 (div_num e1)
                      have q1 : ∀ W : World, (binOp .quo 27 (.float .f64 (floatOfInt .f64 n)) (.float .f64 (floatOfInt .f64 d))).run Try.prog W = .ok (.float .f64 x1) W := fun W => run_float_arith W .quo _ .f64 _ _ x1 e1
                      have q2 : ∀ W : World, (binOp .add 27 (.float .f64 0) (.float .f64 x1)).run Try.prog W = .ok (.float .f64 x2) W := fun W => run_float_arith W .add _ .f64 _ _ x2 e2
                      have hfr : Hid (qual s.data.toList = (some x2, y.drop k)) := by
                        show _ = _
                        rw [HFin.out, hf.out.1, hf.out.2.1, hf.out.2.2, HNum.out, HDen.out]
                        unfold frac
                        rw [e1]
                        show (D.add 0 x1, _) = _
                        rw [e2]
                      have hrest : Hid (z.extract k z.size = ⟨(y.drop k).toArray⟩) := by show _ = _; rw [extract_drop, HYD.out]
                      clear e1 e2
                      go_wp2
                      go_quiet (fail)
                      go_wp2
                      go_ret2
                      refine ⟨x2, ?_, ?_, below_drewN (Below.refl _ _) _⟩
                      · rw [hfr.out, hrest.out] <;> rfl
                      · rw [hfr.out]; exact Rep.of _
                    | none =>
                      obtain ⟨nv, q1, n1⟩ := Flo.run_nan (P := Try.prog) .quo (by simp) 27 (floatOfInt .f64 n) (floatOfInt .f64 d) e1
                      obtain ⟨nu, q2, n2⟩ := Flo.run_add_nan (P := Try.prog) 27 0 nv n1
                      have hfr : Hid (qual s.data.toList = (none, y.drop k)) := by
                        show _ = _
                        rw [HFin.out, hf.out.1, hf.out.2.1, hf.out.2.2, HNum.out, HDen.out]
                        unfold frac
                        rw [e1]
                        rfl
                      have hrest : Hid (z.extract k z.size = ⟨(y.drop k).toArray⟩) := by show _ = _; rw [extract_drop, HYD.out]
                      have HN2 := Lib.hid n2
                      clear e1 n1 n2
                      go_wp2
                      go_region
                      all_goals go_wp2
                      all_goals go_ret2
                      all_goals refine Read.mk (s := z.extract k z.size) (by rw [hfr.out, hrest.out]) (by rw [hfr.out]; exact Or.inr ⟨rfl, HN2.out _ _⟩) ?_
                      all_goals repeat (first | exact Below.refl _ _ | apply Below.drew | apply below_drewN)
              · have hf := hfinal (fun h => absurd h hlt)
                cases e1 : D.div (floatOfInt .f64 n) (floatOfInt .f64 d) with
                | some x1 =>
                  obtain ⟨x2, e2⟩ := add_some (q := 0) fin0 (div_num e1)
                  have q1 : ∀ W : World, (binOp .quo 27 (.float .f64 (floatOfInt .f64 n)) (.float .f64 (floatOfInt .f64 d))).run Try.prog W = .ok (.float .f64 x1) W := fun W => run_float_arith W .quo _ .f64 _ _ x1 e1
                  have q2 : ∀ W : World, (binOp .add 27 (.float .f64 0) (.float .f64 x1)).run Try.prog W = .ok (.float .f64 x2) W := fun W => run_float_arith W .add _ .f64 _ _ x2 e2
                  have hfr : Hid (qual s.data.toList = (some x2, y.drop k)) := by
                    show _ = _
                    rw [HFin.out, hf.out.1, hf.out.2.1, hf.out.2.2, HNum.out, HDen.out]
                    unfold frac
                    rw [e1]
                    show (D.add 0 x1, _) = _
                    rw [e2]
                  have hrest : Hid (z.extract k z.size = ⟨(y.drop k).toArray⟩) := by show _ = _; rw [extract_drop, HYD.out]
                  clear e1 e2
                  go_wp2
                  go_quiet (fail)
                  go_wp2
                  go_ret2
                  refine ⟨x2, ?_, ?_, below_drewN (Below.refl _ _) _⟩
                  · rw [hfr.out, hrest.out] <;> rfl
                  · rw [hfr.out]; exact Rep.of _
                | none =>
                  obtain ⟨nv, q1, n1⟩ := Flo.run_nan (P := Try.prog) .quo (by simp) 27 (floatOfInt .f64 n) (floatOfInt .f64 d) e1
                  obtain ⟨nu, q2, n2⟩ := Flo.run_add_nan (P := Try.prog) 27 0 nv n1
                  have hfr : Hid (qual s.data.toList = (none, y.drop k)) := by
                    show _ = _
                    rw [HFin.out, hf.out.1, hf.out.2.1, hf.out.2.2, HNum.out, HDen.out]
                    unfold frac
                    rw [e1]
                    rfl
                  have hrest : Hid (z.extract k z.size = ⟨(y.drop k).toArray⟩) := by show _ = _; rw [extract_drop, HYD.out]
                  have HN2 := Lib.hid n2
                  clear e1 n1 n2
                  go_wp2
                  go_region
                  all_goals go_wp2
                  all_goals go_ret2
                  all_goals refine Read.mk (s := z.extract k z.size) (by rw [hfr.out, hrest.out]) (by rw [hfr.out]; exact Or.inr ⟨rfl, HN2.out _ _⟩) ?_
                  all_goals repeat (first | exact Below.refl _ _ | apply Below.drew | apply below_drewN)
          · have hst : startsB x 46 = false := by unfold startsB; rw [HXD.out, hr]; simp [ha]
            have hfin : qual s.data.toList = (some 0, r) := by
              rw [HQ.out, hr]
              show (if a.toNat = 46 then _ else _) = _
              rw [if_neg ha]
            have HFin := Lib.hid hfin
            refine (HP.out x false hst w).mono ?_
            clear hst hfin hr ha
            rintro e w1 ⟨rfl, rfl⟩
            go_wp2
            go_ret2
            refine ⟨0, ?_, ?_, Below.refl _ _⟩
            · rw [HFin.out, of_data HXD.out]; rfl
            · rw [HFin.out]; exact Rep.of _
      · have hq : qual s.data.toList = qualTail oneF r := by
          rw [HCR.out]
          show (if c.toNat = 48 then qualTail 0 r else if c.toNat = 49 then qualTail oneF r else (some negF, [])) = _
          rw [if_neg (by omega), if_pos hc]
        have HQ := Lib.hid hq
        have e1 : (((s[0]'h1).toNat : Int) == 48) = false := beq_eq_false_iff_ne.2 (by rw [HC0.out]; omega)
        have e2 : (((s[0]'h1).toNat : Int) == 49) = true := beq_iff_eq.2 (by rw [HC0.out]; omega)
        clear hc hq
        have hxd : (s.extract 1 s.size).data.toList = r := by
          rw [extract_drop, HCR.out]; rfl
        have hxs : (s.extract 1 s.size).size = s.size - 1 := by rw [Lib.size_eq, hxd, Lib.size_eq s, HCR.out]; simp
        have HXD := Lib.hid hxd
        have HXS := Lib.hid hxs
        clear hxd hxs
        go_enter Try.func70, Try.ntmps70
        go_wp2_with fail
        generalize s.extract 1 s.size = x at *
        have hxm : x.size ≤ 9223372036854775807 := by have := HXS.out; omega
        cases hr : r with
        | nil =>
          have hst : startsB x 46 = false := by unfold startsB; rw [HXD.out, hr]
          have HR := Lib.hid hr
          refine (HP.out x false hst w).mono ?_
          clear hst hr
          rintro e w1 ⟨rfl, rfl⟩
          go_wp2
          go_ret2
          have hfin : qual s.data.toList = (some oneF, r) := by rw [HQ.out, HR.out]; rfl
          refine ⟨oneF, ?_, ?_, Below.refl _ _⟩
          · rw [hfin, of_data HXD.out]; rfl
          · rw [hfin]; exact Rep.of _
        | cons a y =>
          by_cases ha : a.toNat = 46
          · have hst : startsB x 46 = true := by unfold startsB; rw [HXD.out, hr]; simp [ha]
            have hfin : qual s.data.toList = (frac oneF (numFrom 0 (y.takeWhile isDg)) (denFrom 1 (y.takeWhile isDg).length), y.dropWhile isDg) := by
              rw [HQ.out, hr]
              show (if a.toNat = 46 then _ else _) = _
              rw [if_pos ha]
            have hx0 : 1 ≤ x.size := by rw [Lib.size_eq, HXD.out, hr]; simp
            have hyd : (x.extract 1 x.size).data.toList = y := by rw [extract_drop, HXD.out, hr]; rfl
            have hys : (x.extract 1 x.size).size = x.size - 1 := by rw [Lib.size_eq, hyd, Lib.size_eq x, HXD.out, hr]; simp
            have HFin := Lib.hid hfin
            have HYD := Lib.hid hyd
            have HYS := Lib.hid hys
            refine (HP.out x true hst w).mono ?_
            clear hst hfin hyd hys hr ha
            rintro e w1 ⟨rfl, rfl⟩
            go_wp2_with fail
            generalize x.extract 1 x.size = z at *
            have hzm : z.size ≤ 9223372036854775807 := by have := HYS.out; omega
            go_loop [4, 5, 6] (fun i n d => ∃ k : Nat, k ≤ z.size ∧ i = .int .i64 k ∧ n = .int .i64 (numFrom 0 (y.take k)) ∧ d = .int .i64 (denFrom 1 k) ∧ Hid (∀ j (h : j < z.size), j < k → isDg (z[j]'h) = true)) (fun i _ _ => z.size - (intOf i).toNat)
            case atStart => exact ⟨0, Nat.zero_le _, rfl, rfl, rfl, fun j h h2 => by omega⟩
            case round =>
              obtain ⟨k, hk, rfl, rfl, rfl, hall⟩ := hrel
              have hfinal : (∀ h : k < z.size, isDg (z[k]'h) = false) → Hid (y.takeWhile isDg = y.take k ∧ y.dropWhile isDg = y.drop k ∧ (y.take k).length = k) := by
                intro h2
                have hsz := Lib.size_eq z
                rw [HYD.out] at hsz
                have hget : ∀ j (h : j < y.length) (h' : j < z.size), y[j] = z[j]'h' := by
                  intro j h h'
                  have : z.data.toList[j]'(by rw [← Lib.size_eq]; exact h') = z[j]'h' := rfl
                  rw [← this]; simp [HYD.out]
                have := takeWhile_at (p := isDg) y k (by omega) (fun j h hj => by rw [hget j h (by omega)]; exact hall.out j (by omega) hj) (fun h => by rw [hget k h (by omega)]; exact h2 (by omega))
                exact ⟨this.1, this.2, by rw [List.length_take]; omega⟩
              obtain ⟨n, hn⟩ : ∃ n, numFrom 0 (y.take k) = n := ⟨_, rfl⟩
              obtain ⟨d, hd⟩ : ∃ d, denFrom 1 k = d := ⟨_, rfl⟩
              obtain ⟨nb1, nb2⟩ := num_bd (y.take k)
              obtain ⟨db1, db2⟩ := den_bd k
              have z0 : (0 : Int) ≤ k := by omega
              rw [hn] at nb1 nb2 ⊢
              rw [hd] at db1 db2 ⊢
              have HNum := Lib.hid hn
              have HDen := Lib.hid hd
              clear hn hd
              by_cases hlt : k < z.size
              · have hbz : (z[k]'hlt).toNat < 256 := (z[k]'hlt).toNat_lt
                by_cases hdg : isDg (z[k]'hlt) = true
                · have hb := hdg
                  unfold isDg at hb
                  have hb := of_decide_eq_true hb
                  obtain ⟨hb1, hb2⟩ := hb
                  have hnx : Hid (numFrom 0 (y.take (k + 1)) = wrap64 (wrap64 (wrap64 (n * 10) + ((z[k]'hlt).toNat : Int)) - 48)) := by
                    have hsz := Lib.size_eq z
                    rw [HYD.out] at hsz
                    have hyk : y[k]'(by omega) = z[k]'hlt := by
                      have : z.data.toList[k]'(by rw [← Lib.size_eq]; exact hlt) = z[k]'hlt := rfl
                      rw [← this]; simp [HYD.out]
                    show numFrom 0 (y.take (k + 1)) = _
                    rw [take_snoc (by omega), numFrom_snoc, HNum.out, hyk]
                  have hdx : Hid (denFrom 1 (k + 1) = wrap64 (d * 10)) := by show denFrom 1 (k + 1) = _; rw [denFrom_succ, HDen.out]
                  have HDG := Lib.hid hdg
                  clear hdg
                  go_wp2
                  go_roundw
                  case rel =>
                    refine ⟨k + 1, by omega, by go_num, by rw [hnx.out], by rw [hdx.out], fun j h hj => ?_⟩
                    by_cases e : j = k
                    · subst e; exact HDG.out
                    · exact hall.out j h (by omega)
                  case measure => simp [intOf]; omega
                · have hdg' := Bool.eq_false_iff.2 hdg
                  have hnd : ((z[k]'hlt).toNat : Int) < 48 ∨ (57 : Int) < ((z[k]'hlt).toNat : Int) := by
                    unfold isDg at hdg'
                    have := of_decide_eq_false hdg'
                    omega
                  have hnd2 : ∀ h : k < z.size, isDg (z[k]'h) = false := fun _ => hdg'
                  clear hdg hdg'
                  rcases hnd with hnd | hnd
                  · have hf := hfinal (hnd2)
                    cases e1 : D.div (floatOfInt .f64 n) (floatOfInt .f64 d) with
                    | some x1 =>
                      obtain ⟨x2, e2⟩ := add_some (q := 4607182418800017408) fin1 (div_num e1)
                      have q1 : ∀ W : World, (binOp .quo 27 (.float .f64 (floatOfInt .f64 n)) (.float .f64 (floatOfInt .f64 d))).run Try.prog W = .ok (.float .f64 x1) W := fun W => run_float_arith W .quo _ .f64 _ _ x1 e1
                      have q2 : ∀ W : World, (binOp .add 27 (.float .f64 4607182418800017408) (.float .f64 x1)).run Try.prog W = .ok (.float .f64 x2) W := fun W => run_float_arith W .add _ .f64 _ _ x2 e2
                      have hfr : Hid (qual s.data.toList = (some x2, y.drop k)) := by
                        show _ = _
                        rw [HFin.out, hf.out.1, hf.out.2.1, hf.out.2.2, HNum.out, HDen.out]
                        unfold frac
                        rw [e1]
                        show (D.add 4607182418800017408 x1, _) = _
                        rw [e2]
                      have hrest : Hid (z.extract k z.size = ⟨(y.drop k).toArray⟩) := by show _ = _; rw [extract_drop, HYD.out]
                      clear e1 e2
                      go_wp2
                      go_quiet (fail)
                      go_wp2
                      go_ret2
                      refine ⟨x2, ?_, ?_, below_drewN (Below.refl _ _) _⟩
                      · rw [hfr.out, hrest.out] <;> rfl
                      · rw [hfr.out]; exact Rep.of _
                    | none =>
                      obtain ⟨nv, q1, n1⟩ := Flo.run_nan (P := Try.prog) .quo (by simp) 27 (floatOfInt .f64 n) (floatOfInt .f64 d) e1
                      obtain ⟨nu, q2, n2⟩ := Flo.run_add_nan (P := Try.prog) 27 4607182418800017408 nv n1
                      have hfr : Hid (qual s.data.toList = (none, y.drop k)) := by
                        show _ = _
                        rw [HFin.out, hf.out.1, hf.out.2.1, hf.out.2.2, HNum.out, HDen.out]
                        unfold frac
                        rw [e1]
                        rfl
                      have hrest : Hid (z.extract k z.size = ⟨(y.drop k).toArray⟩) := by show _ = _; rw [extract_drop, HYD.out]
                      have HN2 := Lib.hid n2
                      clear e1 n1 n2
                      go_wp2
                      go_region
                      all_goals go_wp2
                      all_goals go_ret2
                      all_goals refine Read.mk (s := z.extract k z.size) (by rw [hfr.out, hrest.out]) (by rw [hfr.out]; exact Or.inr ⟨rfl, HN2.out _ _⟩) ?_
                      all_goals repeat (first | exact Below.refl _ _ | apply Below.drew | apply below_drewN)
                  · have hf := hfinal (hnd2)
                    cases e1 : D.div (floatOfInt .f64 n) (floatOfInt .f64 d) with
                    | some x1 =>
                      obtain ⟨x2, e2⟩ := add_some (q := 4607182418800017408) fin1 (div_num e1)
                      have q1 : ∀ W : World, (binOp .quo 27 (.float .f64 (floatOfInt .f64 n)) (.float .f64 (floatOfInt .f64 d))).run Try.prog W = .ok (.float .f64 x1) W := fun W => run_float_arith W .quo _ .f64 _ _ x1 e1
                      have q2 : ∀ W : World, (binOp .add 27 (.float .f64 4607182418800017408) (.float .f64 x1)).run Try.prog W = .ok (.float .f64 x2) W := fun W => run_float_arith W .add _ .f64 _ _ x2 e2
                      have hfr : Hid (qual s.data.toList = (some x2, y.drop k)) := by
                        show _ = _
                        rw [HFin.out, hf.out.1, hf.out.2.1, hf.out.2.2, HNum.out, HDen.out]
                        unfold frac
                        rw [e1]
                        show (D.add 4607182418800017408 x1, _) = _
                        rw [e2]
                      have hrest : Hid (z.extract k z.size = ⟨(y.drop k).toArray⟩) := by show _ = _; rw [extract_drop, HYD.out]
                      clear e1 e2
                      go_wp2
                      go_quiet (fail)
                      go_wp2
                      go_ret2
                      refine ⟨x2, ?_, ?_, below_drewN (Below.refl _ _) _⟩
                      · rw [hfr.out, hrest.out] <;> rfl
                      · rw [hfr.out]; exact Rep.of _
                    | none =>
                      obtain ⟨nv, q1, n1⟩ := Flo.run_nan (P := Try.prog) .quo (by simp) 27 (floatOfInt .f64 n) (floatOfInt .f64 d) e1
                      obtain ⟨nu, q2, n2⟩ := Flo.run_add_nan (P := Try.prog) 27 4607182418800017408 nv n1
                      have hfr : Hid (qual s.data.toList = (none, y.drop k)) := by
                        show _ = _
                        rw [HFin.out, hf.out.1, hf.out.2.1, hf.out.2.2, HNum.out, HDen.out]
                        unfold frac
                        rw [e1]
                        rfl
                      have hrest : Hid (z.extract k z.size = ⟨(y.drop k).toArray⟩) := by show _ = _; rw [extract_drop, HYD.out]
                      have HN2 := Lib.hid n2
                      clear e1 n1 n2
                      go_wp2
                      go_region
                      all_goals go_wp2
                      all_goals go_ret2
                      all_goals refine Read.mk (s := z.extract k z.size) (by rw [hfr.out, hrest.out]) (by rw [hfr.out]; exact Or.inr ⟨rfl, HN2.out _ _⟩) ?_
                      all_goals repeat (first | exact Below.refl _ _ | apply Below.drew | apply below_drewN)
              · have hf := hfinal (fun h => absurd h hlt)
                cases e1 : D.div (floatOfInt .f64 n) (floatOfInt .f64 d) with
                | some x1 =>
                  obtain ⟨x2, e2⟩ := add_some (q := 4607182418800017408) fin1 (div_num e1)
                  have q1 : ∀ W : World, (binOp .quo 27 (.float .f64 (floatOfInt .f64 n)) (.float .f64 (floatOfInt .f64 d))).run Try.prog W = .ok (.float .f64 x1) W := fun W => run_float_arith W .quo _ .f64 _ _ x1 e1
                  have q2 : ∀ W : World, (binOp .add 27 (.float .f64 4607182418800017408) (.float .f64 x1)).run Try.prog W = .ok (.float .f64 x2) W := fun W => run_float_arith W .add _ .f64 _ _ x2 e2
                  have hfr : Hid (qual s.data.toList = (some x2, y.drop k)) := by
                    show _ = _
                    rw [HFin.out, hf.out.1, hf.out.2.1, hf.out.2.2, HNum.out, HDen.out]
                    unfold frac
                    rw [e1]
                    show (D.add 4607182418800017408 x1, _) = _
                    rw [e2]
                  have hrest : Hid (z.extract k z.size = ⟨(y.drop k).toArray⟩) := by show _ = _; rw [extract_drop, HYD.out]
                  clear e1 e2
                  go_wp2
                  go_quiet (fail)
                  go_wp2
                  go_ret2
                  refine ⟨x2, ?_, ?_, below_drewN (Below.refl _ _) _⟩
                  · rw [hfr.out, hrest.out] <;> rfl
                  · rw [hfr.out]; exact Rep.of _
                | none =>
                  obtain ⟨nv, q1, n1⟩ := Flo.run_nan (P := Try.prog) .quo (by simp) 27 (floatOfInt .f64 n) (floatOfInt .f64 d) e1
                  obtain ⟨nu, q2, n2⟩ := Flo.run_add_nan (P := Try.prog) 27 4607182418800017408 nv n1
                  have hfr : Hid (qual s.data.toList = (none, y.drop k)) := by
                    show _ = _
                    rw [HFin.out, hf.out.1, hf.out.2.1, hf.out.2.2, HNum.out, HDen.out]
                    unfold frac
                    rw [e1]
                    rfl
                  have hrest : Hid (z.extract k z.size = ⟨(y.drop k).toArray⟩) := by show _ = _; rw [extract_drop, HYD.out]
                  have HN2 := Lib.hid n2
                  clear e1 n1 n2
                  go_wp2
                  go_region
                  all_goals go_wp2
                  all_goals go_ret2
                  all_goals refine Read.mk (s := z.extract k z.size) (by rw [hfr.out, hrest.out]) (by rw [hfr.out]; exact Or.inr ⟨rfl, HN2.out _ _⟩) ?_
                  all_goals repeat (first | exact Below.refl _ _ | apply Below.drew | apply below_drewN)
          · have hst : startsB x 46 = false := by unfold startsB; rw [HXD.out, hr]; simp [ha]
            have hfin : qual s.data.toList = (some oneF, r) := by
              rw [HQ.out, hr]
              show (if a.toNat = 46 then _ else _) = _
              rw [if_neg ha]
            have HFin := Lib.hid hfin
            refine (HP.out x false hst w).mono ?_
            clear hst hfin hr ha
            rintro e w1 ⟨rfl, rfl⟩
            go_wp2
            go_ret2
            refine ⟨oneF, ?_, ?_, Below.refl _ _⟩
            · rw [HFin.out, of_data HXD.out]; rfl
            · rw [HFin.out]; exact Rep.of _
    · have e1 : (((s[0]'h1).toNat : Int) == 48) = false := beq_eq_false_iff_ne.2 (by rw [HC0.out]; omega)
      have e2 : (((s[0]'h1).toNat : Int) == 49) = false := beq_eq_false_iff_ne.2 (by rw [HC0.out]; omega)
      have HH := Lib.hid hc
      clear hc
      go_enter Try.func70, Try.ntmps70
      go_wp2
      go_ret2
      have hq : qual s.data.toList = (some negF, []) := by
        rw [HCR.out]
        unfold qual
        have := HH.out
        show (if c.toNat = 48 then qualTail 0 r else if c.toNat = 49 then qualTail oneF r else (some negF, [])) = _
        rw [if_neg (fun h => this (Or.inl h)), if_neg (fun h => this (Or.inr h))]
      refine ⟨negF, ?_, ?_, Below.refl _ _⟩
      · rw [hq]; rfl
      · rw [hq]; exact Rep.of _

end Go.Proofs.Ytkmfedmiaannfaa.Oct
