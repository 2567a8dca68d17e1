/- Endpoints: the specification's path, walked. -/
import Derived.Test.YtkmfedmiaannfaaEpd
import Derived.BigQuiet
set_option linter.unusedVariables false
set_option linter.unusedSimpArgs false
namespace Go.Proofs.Ytkmfedmiaannfaa.Ep
open Go.RowKit Go.ChangeShapes Go.WideShapes Go.Deep Fp

theorem below_drewN {B : Nat} {a w : World} (h : Below B a w) (n : Nat) : Below B a (w.drewN n) := h.trans ⟨rfl, rfl, rfl, Nat.le_refl _, fun _ _ => rfl⟩
def EndOut (base ep : List ByteArray) (A : List P2) (w : World) (e : Ending) (w' : World) : Prop :=
  ∃ (t : ByteArray) (ok : Bool), e = .returned (.tuple #[.string t, .bool ok]) ∧ (ok = true → Said base ep A t) ∧ Below w.heap.size w w'
def Fit1 (A : List P2) : Prop := A.length ≤ 1048576 ∧ ∀ p ∈ A, p.1.size ≤ 1048576 ∧ p.2.size ≤ 1048576
def Fit2 (zs : List ByteArray) : Prop := zs.length ≤ 1048576 ∧ ∀ z ∈ zs, z.size ≤ 1048576
theorem ins_sz {p : P2} {M : Nat} (hp : p.1.size ≤ M ∧ p.2.size ≤ M) : ∀ {A : List P2}, (∀ q ∈ A, q.1.size ≤ M ∧ q.2.size ≤ M) → ∀ q ∈ ins p A, q.1.size ≤ M ∧ q.2.size ≤ M
  | [], _, q, h => by
    unfold ins at h
    rw [List.mem_singleton.1 h]; exact hp
  | x :: A, hA, q, h => by
    have hx := hA x (by simp)
    have hr := fun q hq => hA q (List.mem_cons_of_mem _ hq)
    unfold ins at h
    split at h
    · rcases List.mem_cons.1 h with h | h
      · rw [h]; exact hx
      · exact ins_sz hp hr q h
    · split at h
      · rcases List.mem_cons.1 h with h | h
        · rw [h]; exact ⟨hx.1, hp.2⟩
        · exact hr q h
      · rcases List.mem_cons.1 h with h | h
        · rw [h]; exact hp
        · exact hA q h
theorem ins_len (p : P2) : ∀ A : List P2, (ins p A).length ≤ A.length + 1
  | [] => Nat.le_refl _
  | x :: A => by
    have := ins_len p A
    unfold ins
    split
    · simp only [List.length_cons]; omega
    · split
      · simp only [List.length_cons]; omega
      · simp only [List.length_cons]; omega
theorem fit_fit1 : ∀ (k : Nat) (A : List P2), A.length = k → (∀ p ∈ A, p.1.size ≤ 1048576 ∧ p.2.size ≤ 1048576) → (fit A).length ≤ A.length ∧ ∀ p ∈ fit A, p.1.size ≤ 1048576 ∧ p.2.size ≤ 1048576 := by
  intro k
  induction k with
  | zero => intro A h _; rw [List.length_eq_zero_iff.1 h]; exact ⟨Nat.le_refl _, fun p hp => absurd hp (by simp [fit])⟩
  | succ k ih =>
    intro A h hs
    have hne : A ≠ [] := by intro e; rw [e] at h; simp at h
    obtain ⟨D, p, rfl⟩ : ∃ D p, A = D ++ [p] := ⟨A.dropLast, A.getLast hne, (List.dropLast_concat_getLast hne).symm⟩
    obtain ⟨h1, h2⟩ := ih D (by simp at h; exact h) (fun q hq => hs q (by simp [hq]))
    rw [fit_snoc]
    have := ins_len p (fit D)
    refine ⟨by simp; omega, fun q hq => ?_⟩
    exact ins_sz (hs p (by simp)) h2 q hq

/-- the first entry of a name, from place k on -/
theorem lk_drop {A : List P2} {s : ByteArray} {k : Nat} (h : k < A.length) : lk (A.drop k) s = if eqS (A[k]).1 s then some (A[k]).2 else lk (A.drop (k + 1)) s := by
  rw [List.drop_eq_getElem_cons h]; rfl

def Wd (A : List P2) (k : Nat) : Prop := ∀ p ∈ A.take k, word p.1 = true
def Wb (zs : List ByteArray) (k : Nat) (t : ByteArray) : Prop := (∀ z ∈ zs.take k, word z = true) ∧ t = mk (J (zs.take k))
def We (A : List P2) (base ep : List ByteArray) (k : Nat) (t : ByteArray) : Prop := ∃ rs, Segs A (ep.take k) rs ∧ t = mk (J (base ++ rs))
/-- what the search has: not found yet, or the value -/
def Wf (A : List P2) (nm : ByteArray) (k : Nat) (f : Bool) (s : ByteArray) : Prop := if f then lk A nm = some s else s = nm ∧ lk A nm = lk (A.drop k) nm

theorem below_strs {w W : World} {v : Value} {zs : List ByteArray} (h : Sl.Of Value.string w v zs) (hb : Below w.heap.size w W) : Sl.Of Value.string W v zs := by
  rcases h with h | ⟨b, off, cap, h, h0, hcap, hm, hbb, hcell⟩
  · exact Or.inl h
  · exact Or.inr ⟨b, off, cap, h, h0, hcap, hm, Nat.lt_of_lt_of_le hbb hb.size, fun i hi => by rw [hb.cell (p := ⟨b, off + i, none⟩) hbb]; exact hcell i hi⟩
/-! what stands in place of a segment -/
theorem list2 {s : ByteArray} (h : 1 < s.size) : ∃ d r, s.data.toList = s[0] :: d :: r ∧ s.extract 1 s.size = mk (d :: r) := by
  have hl : 1 < s.data.toList.length := by rw [← Lib.size_eq]; exact h
  have e0 : s.data.toList = s.data.toList[0] :: s.data.toList[1] :: s.data.toList.drop 2 := by
    have h1 : s.data.toList.drop 0 = s.data.toList[0] :: s.data.toList.drop 1 := List.drop_eq_getElem_cons (by omega)
    have h2 : s.data.toList.drop 1 = s.data.toList[1] :: s.data.toList.drop 2 := List.drop_eq_getElem_cons hl
    rw [List.drop_zero] at h1
    rw [← h2]; exact h1
  refine ⟨s.data.toList[1], s.data.toList.drop 2, e0, ?_⟩
  have h2 : s.data.toList.drop 1 = s.data.toList[1] :: s.data.toList.drop 2 := List.drop_eq_getElem_cons hl
  rw [← h2, ← mk_data (s.extract 1 s.size)]
  congr 1
  rw [ByteArray.data_extract, Array.toList_extract]
  show (s.data.toList.drop 1).take (s.size - 1) = _
  exact List.take_of_length_le (by rw [List.length_drop, Lib.size_eq]; exact Nat.le_refl _)
theorem seg_small {A : List P2} {s : ByteArray} (h : ¬ 1 < s.size) : seg A s = some s := by
  unfold seg
  split
  · rename_i e
    exfalso; apply h
    rw [Lib.size_eq, e]; simp
  · rfl
theorem seg_other {A : List P2} {s : ByteArray} (h : 1 < s.size) (h0 : s[0] ≠ 58) : seg A s = some s := by
  obtain ⟨d, r, e, _⟩ := list2 h
  unfold seg
  rw [e]
  show (if s[0] = 58 then _ else _) = _
  rw [if_neg h0]
theorem seg_colon {A : List P2} {s : ByteArray} (h : 1 < s.size) (h0 : s[0] = 58) : seg A s = lk A (s.extract 1 s.size) := by
  obtain ⟨d, r, e, e2⟩ := list2 h
  unfold seg
  rw [e, e2]
  show (if s[0] = 58 then _ else _) = _
  rw [if_pos h0]
theorem segs_snoc {A : List P2} {s r : ByteArray} : ∀ {ss rs : List ByteArray}, Segs A ss rs → seg A s = some r → word r = true → Segs A (ss ++ [s]) (rs ++ [r])
  | [], [], _, h1, h2 => ⟨h1, h2, trivial⟩
  | x :: ss, y :: rs, h, h1, h2 => ⟨h.1, h.2.1, segs_snoc h.2.2 h1 h2⟩
  | [], _ :: _, h, _, _ => h.elim
  | _ :: _, [], h, _, _ => h.elim
theorem we_next {A : List P2} {base ep : List ByteArray} {k : Nat} {t z : ByteArray} (hk : k < ep.length) (h : We A base ep k t) (h1 : seg A ep[k] = some z) (h2 : word z = true) : We A base ep (k + 1) (t ++ (⟨#[47]⟩ : ByteArray) ++ z) := by
  obtain ⟨rs, hs, rfl⟩ := h
  refine ⟨rs ++ [z], ?_, ?_⟩
  · rw [List.take_succ_eq_append_getElem hk]; exact segs_snoc hs h1 h2
  · rw [← List.append_assoc, J_snoc, ← mk_data z, show (⟨#[47]⟩ : ByteArray) = mk [47] from rfl, mk_app, mk_app, data_mk]
    simp
theorem wb_next {zs : List ByteArray} {k : Nat} {t z : ByteArray} (hk : k < zs.length) (h : Wb zs k t) (h1 : zs[k] = z) (h2 : word z = true) : Wb zs (k + 1) (t ++ (⟨#[47]⟩ : ByteArray) ++ z) := by
  obtain ⟨hw, rfl⟩ := h
  subst h1
  refine ⟨?_, ?_⟩
  · intro x hx
    rw [List.take_succ_eq_append_getElem hk] at hx
    rcases List.mem_append.1 hx with hx | hx
    · exact hw x hx
    · rw [List.mem_singleton.1 hx]; exact h2
  · rw [J_take zs k hk, ← mk_data zs[k], show (⟨#[47]⟩ : ByteArray) = mk [47] from rfl, mk_app, mk_app, data_mk]
    simp
theorem we_fin {A : List P2} {base ep : List ByteArray} {t : ByteArray} (ha : Wd A A.length) (hb : ∀ z ∈ base, word z = true) (h : We A base ep ep.length t) (hne : t ≠ ⟨#[]⟩) : Said base ep A t := by
  obtain ⟨rs, hs, rfl⟩ := h
  rw [List.take_length] at hs
  refine ⟨fun p hp => ha p (by rw [List.take_length]; exact hp), hb, rs, hs, rfl, fun e => hne ?_⟩
  rw [e]; rfl

set_option maxHeartbeats 16000000 in
set_option maxRecDepth 100000 in
theorem end_any (base ep : List ByteArray) (args : List P2) (v1 v2 v3 : Value) (w : World) (h1 : Sl.Of Value.string w v1 base) (h2 : Sl.Of Value.string w v2 ep) (h3 : Ss.Of 2 pc w v3 args)
    (hb1 : Fit2 base) (hb2 : Fit2 ep) (hb3 : Fit1 args) :
    Calls Try.prog 28 #[v1, v2, v3] w (EndOut base ep (fit args) w) := by
  obtain ⟨a1, c1, rfl⟩ := str_slice h1
  obtain ⟨a2, c2, rfl⟩ := str_slice h2
  have CF := Lib.hid (fit_any args v3 w h3 (by have := hb3.1; omega))
  obtain ⟨hfl, hfs⟩ := fit_fit1 _ args rfl hb3.2
  have hfl2 : (fit args).length ≤ 1048576 := by have := hb3.1; omega
  obtain ⟨E, hE⟩ : ∃ E, fit args = E := ⟨_, rfl⟩
  rw [hE] at hfl2 hfs ⊢
  have HE := Lib.hid hE
  have HS := Lib.hid hfs
  have H1 := Lib.hid h1
  have H2 := Lib.hid h2
  have HB1 := Lib.hid hb1
  have HB2 := Lib.hid hb2
  have hbl := hb1.1
  have hel := hb2.1
  clear h1 h2 h3 hb1 hb2 hb3 hfl hE hfs
  go_enter Try.func28, Try.ntmps28
  go_wp2_with fail
  refine CF.out.mono ?_
  rintro e W ⟨u, rfl, hown, hbel⟩
  rw [HE.out] at hown
  obtain ⟨au, cu, rfl⟩ := row_slice2 hown
  have HU : Hid (Ss.Of 2 pc W (.slice au E.length cu) E) := Ss.Of.own pc_len hown
  have HBel := Lib.hid hbel
  have HB0 : Hid (Sl.Of Value.string W (.slice a1 base.length c1) base) := below_strs H1.out hbel
  have HE0 : Hid (Sl.Of Value.string W (.slice a2 ep.length c2) ep) := below_strs H2.out hbel
  have hbad : Hid (∀ (t : ByteArray) (wx : World), Hid (Below W.heap.size W wx) → EndOut base ep E w (.returned (.tuple #[.string t, .bool false])) wx) := fun t wx hb => ⟨t, false, rfl, (fun h => by cases h), HBel.out.trans (hb.out.mono HBel.out.size)⟩
  have hW0 : Hid (Below W.heap.size W W) := Below.refl _ _
  have HLs : Hid (∀ wx, Hid (Below W.heap.size W wx) → ∀ k (h : k < E.length), ∃ b off, au = some ⟨b, off, none⟩ ∧ wx.cell? ⟨b, off + k * 2, none⟩ = some (.string (E[k]).1) ∧ wx.cell? ⟨b, off + k * 2 + 1, none⟩ = some (.string (E[k]).2)) := by
    intro wx hx k hk
    obtain ⟨b, off, hav, hb, d0, d1⟩ := pair_at HU.out hk
    exact ⟨b, off, hav, by rw [hx.out.cell (p := ⟨b, off + k * 2, none⟩) hb]; exact d0, by rw [hx.out.cell (p := ⟨b, off + k * 2 + 1, none⟩) hb]; exact d1⟩
  clear hown hbel CF H1 H2
  go_wp2_with fail
  go_loopw [9] (fun vk wr => ∃ k : Nat, k ≤ E.length ∧ vk = .int .i64 (k : Int) ∧ Hid (Below W.heap.size W wr) ∧ Hid (Wd E k)) (fun k _ => E.length - (intOf k).toNat)
  case atStart => exact ⟨0, Nat.zero_le _, rfl, Below.refl _ _, fun p hp => by simp at hp⟩
  case round =>
    obtain ⟨k, hk, rfl, hbw, hwd⟩ := hrel
    by_cases hlt : k < E.length
    · obtain ⟨b, off, hav, d0, d1⟩ := HLs.out _ hbw k hlt
      obtain ⟨s1, s2⟩ := HS.out _ (List.getElem_mem hlt)
      have hwd2 : Hid (word (E[k]).1 = true → Wd E (k + 1)) := by
        intro hw p hp
        rw [List.take_succ_eq_append_getElem hlt] at hp
        rcases List.mem_append.1 hp with hp | hp
        · exact hwd.out p hp
        · rw [List.mem_singleton.1 hp]; exact hw
      have HX : Hid (∀ wx, Hid (Below W.heap.size W wx) → wx.cell? ⟨b, off + k * 2, none⟩ = some (.string (E[k]).1)) := by
        intro wx hx
        obtain ⟨b2, off2, hav2, e0, e1⟩ := HLs.out _ hx k hlt
        rw [hav] at hav2
        injection hav2 with hav2
        injection hav2 with q1 q2 _
        rw [q1, q2]; exact e0
      subst hav
      obtain ⟨x, y, hxy⟩ : ∃ x y, E[k] = (x, y) := ⟨_, _, rfl⟩
      rw [hxy] at d0 d1 s1 s2 hwd2 HX
      have z1 : (0 : Int) ≤ (k : Int) := by omega
      have z2 : (k : Int) < (E.length : Int) := by omega
      clear hxy
      go_wp2_with fail
      refine (word_any x (by omega) wr).mono ?_
      rintro e w1 ⟨rfl, rfl⟩
      cases hx : wordB x.data.toList with
      | false =>
        go_wp2_with fail
        go_ret2
        exact hbad.out _ _ hbw
      | true =>
        go_wp2_with fail
        refine (word_any y (by omega) wr).mono ?_
        rintro e w1 ⟨rfl, rfl⟩
        cases hy : wordB y.data.toList with
        | false =>
          go_wp2_with fail
          go_ret2
          exact hbad.out _ _ hbw
        | true =>
          have hwd3 : Hid (Wd E (k + 1)) := hwd2.out hx
          clear d0 d1
          go_wp2_with fail
          rename World => wq
          go_loopw [10] (fun vj wr => ∃ j : Nat, j ≤ E.length ∧ vj = .int .i64 (j : Int) ∧ Hid (Below W.heap.size W wr)) (fun j _ => E.length - (intOf j).toNat)
          case atStart => exact ⟨0, Nat.zero_le _, rfl, hbw⟩
          case round =>
            obtain ⟨j, hj, rfl, hbj⟩ := hrel
            have d0 := HX.out _ hbj
            by_cases hlj : j < E.length
            · obtain ⟨b2, off2, hav2, e0, e1⟩ := HLs.out _ hbj j hlj
              injection hav2 with hav2
              injection hav2 with q1 q2 _
              subst q1 q2
              obtain ⟨s3, s4⟩ := HS.out _ (List.getElem_mem hlj)
              obtain ⟨x2, y2, hxy2⟩ : ∃ x y, E[j] = (x, y) := ⟨_, _, rfl⟩
              rw [hxy2] at e0 e1 s3 s4
              have z3 : (0 : Int) ≤ (j : Int) := by omega
              have z4 : (j : Int) < (E.length : Int) := by omega
              clear hxy2
              by_cases hij : j = k
              · have n1 : decide ((j : Int) = (k : Int)) = true := by rw [decide_eq_true_iff]; omega
                have n2 : ((j : Int) == (k : Int)) = true := by simp; omega
                have n3 : ((j : Int) != (k : Int)) = false := by simp; omega
                clear hij
                go_wp2_with fail
                go_quiet (fail)
                have hbj2 : Hid (Below W.heap.size W (wr.drewN nq)) := below_drewN hbj.out nq
                go_wp2_with fail
                go_roundw
                case rel => exact ⟨j + 1, by omega, by go_num, hbj2.out⟩
                case measure => simp [intOf]; omega
              · have n1 : decide ((j : Int) = (k : Int)) = false := by rw [decide_eq_false_iff_not]; omega
                have n2 : ((j : Int) == (k : Int)) = false := by simp; omega
                have n3 : ((j : Int) != (k : Int)) = true := by simp; omega
                clear hij
                by_cases hsz : x.size ≤ x2.size
                · have m1 : decide ((x.size : Int) ≤ (x2.size : Int)) = true := by rw [decide_eq_true_iff]; omega
                  have m2 : (x.size : Int) ≤ (x2.size : Int) := by omega
                  have m3 : (0 : Int) ≤ (x.size : Int) := by omega
                  cases hpre : (x2.extract 0 x.size).toList == x.toList with
                  | true =>
                    go_wp2_with fail
                    go_quiet (fail)
                    have hbj2 : Hid (Below W.heap.size W (wr.drewN nq)) := below_drewN hbj.out nq
                    go_wp2_with fail
                    go_ret2
                    exact hbad.out _ _ hbj2
                  | false =>
                    go_wp2_with fail
                    go_quiet (fail)
                    have hbj2 : Hid (Below W.heap.size W (wr.drewN nq)) := below_drewN hbj.out nq
                    go_wp2_with fail
                    go_roundw
                    case rel => exact ⟨j + 1, by omega, by go_num, hbj2.out⟩
                    case measure => simp [intOf]; omega
                · have m1 : decide ((x.size : Int) ≤ (x2.size : Int)) = false := by rw [decide_eq_false_iff_not]; omega
                  have m2 : (x2.size : Int) < (x.size : Int) := by omega
                  have m3 : decide (x.size ≤ x2.size) = false := by rw [decide_eq_false_iff_not]; omega
                  have m4 : ¬ ((x.size : Int) ≤ (x2.size : Int)) := by omega
                  go_wp2_with fail
                  go_quiet (fail)
                  have hbj2 : Hid (Below W.heap.size W (wr.drewN nq)) := below_drewN hbj.out nq
                  go_wp2_with fail
                  go_roundw
                  case rel => exact ⟨j + 1, by omega, by go_num, hbj2.out⟩
                  case measure => simp [intOf]; omega
            · obtain rfl : j = E.length := by omega
              go_wp2_with fail
              go_roundw
              case rel => exact ⟨k + 1, by omega, by go_num, hbj.out, hwd3.out⟩
              case measure => simp [intOf]; omega
    · obtain rfl : k = E.length := by omega
      have HWd := hwd
      clear hwd
      go_wp2_with fail
      go_loopw [11, 12] (fun vt vk wr => ∃ (k : Nat) (t : ByteArray), k ≤ base.length ∧ vt = .string t ∧ vk = .int .i64 (k : Int) ∧ t.size ≤ k * 1048577 ∧ Hid (Below W.heap.size W wr) ∧ Hid (Wb base k t)) (fun _ k _ => base.length - (intOf k).toNat)
      case atStart => exact ⟨0, ⟨#[]⟩, Nat.zero_le _, rfl, rfl, by decide, hbw.out, fun p hp => by simp at hp, rfl⟩
      case round =>
        clear hbw
        obtain ⟨k, t, hk, rfl, rfl, htz, hbw, hwb⟩ := hrel
        by_cases hlt : k < base.length
        · obtain ⟨b, off, hav, hb, c0⟩ := str_at HB0.out hlt
          have c0 : wr.cell? ⟨b, off + k, none⟩ = some (.string base[k]) := by rw [hbw.out.cell (p := ⟨b, off + k, none⟩) hb]; exact c0
          have hzs := HB1.out.2 _ (List.getElem_mem hlt)
          subst hav
          have hnx : Hid (word base[k] = true → Wb base (k + 1) (t ++ (⟨#[47]⟩ : ByteArray) ++ base[k])) := fun h => wb_next hlt hwb.out rfl h
          obtain ⟨z, hz⟩ : ∃ z, base[k] = z := ⟨_, rfl⟩
          rw [hz] at c0 hzs hnx
          have z1 : (0 : Int) ≤ (k : Int) := by omega
          have z2 : (k : Int) < (base.length : Int) := by omega
          have htm : t.size ≤ 1099512676352 := by omega
          clear hz hwb
          go_wp2_with fail
          refine (word_any z (by omega) wr).mono ?_
          rintro e w1 ⟨rfl, rfl⟩
          cases hw : wordB z.data.toList with
          | false =>
            go_wp2_with fail
            go_ret2
            exact hbad.out _ _ hbw
          | true =>
            have hnew : Hid (Wb base (k + 1) (t ++ (⟨#[47]⟩ : ByteArray) ++ z)) := hnx.out hw
            have hsz2 : (t ++ (⟨#[47]⟩ : ByteArray) ++ z).size ≤ (k + 1) * 1048577 := by
              rw [ByteArray.size_append, ByteArray.size_append, show (⟨#[47]⟩ : ByteArray).size = 1 from rfl]; omega
            clear hnx
            go_wp2_with fail
            go_roundw
            case rel => exact ⟨k + 1, _, by omega, rfl, by go_num, hsz2, hbw.out, hnew.out⟩
            case measure => simp [intOf]; omega
        · obtain rfl : k = base.length := by omega
          have HWb : Hid ((∀ z ∈ base, word z = true) ∧ t = mk (J base)) := by
            have := hwb.out
            unfold Wb at this
            rw [List.take_length] at this
            exact this
          have hwe0 : Hid (We E base ep 0 t) := ⟨[], trivial, by rw [HWb.out.2, List.append_nil]⟩
          clear hwb
          go_wp2_with fail
          go_loopw [11, 13] (fun vt vk wr => ∃ (k : Nat) (t : ByteArray), k ≤ ep.length ∧ vt = .string t ∧ vk = .int .i64 (k : Int) ∧ t.size ≤ (base.length + k) * 1048577 ∧ Hid (Below W.heap.size W wr) ∧ Hid (We E base ep k t)) (fun _ k _ => ep.length - (intOf k).toNat)
          case atStart => exact ⟨0, t, Nat.zero_le _, rfl, rfl, by omega, hbw.out, hwe0.out⟩
          case round =>
            clear hbw hwe0 htz
            obtain ⟨k, t, hk, rfl, rfl, htz, hbw, hwe⟩ := hrel
            by_cases hlt : k < ep.length
            · obtain ⟨b, off, hav, hb, c0⟩ := str_at HE0.out hlt
              have c0 : wr.cell? ⟨b, off + k, none⟩ = some (.string ep[k]) := by rw [hbw.out.cell (p := ⟨b, off + k, none⟩) hb]; exact c0
              have hzs := HB2.out.2 _ (List.getElem_mem hlt)
              subst hav
              have hsm : Hid (¬ 1 < ep[k].size → seg E ep[k] = some ep[k]) := seg_small
              have hot : Hid (∀ h : 1 < ep[k].size, ep[k][0] ≠ 58 → seg E ep[k] = some ep[k]) := fun h => seg_other h
              have hco : Hid (∀ h : 1 < ep[k].size, ep[k][0] = 58 → seg E ep[k] = lk E (ep[k].extract 1 ep[k].size)) := fun h => seg_colon h
              have hnx : Hid (∀ z, seg E ep[k] = some z → word z = true → We E base ep (k + 1) (t ++ (⟨#[47]⟩ : ByteArray) ++ z)) := fun z h1 h2 => we_next hlt hwe.out h1 h2
              obtain ⟨s, hs⟩ : ∃ s, ep[k] = s := ⟨_, rfl⟩
              have hsm : Hid (¬ 1 < s.size → seg E ep[k] = some s) := by intro h; subst hs; exact hsm.out h
              have hot : Hid (∀ h : 1 < s.size, s[0] ≠ 58 → seg E ep[k] = some s) := by intro h h2; subst hs; exact hot.out h h2
              have hco : Hid (∀ h : 1 < s.size, s[0] = 58 → seg E ep[k] = lk E (s.extract 1 s.size)) := by intro h h2; subst hs; exact hco.out h h2
              rw [hs] at c0 hzs
              have z1 : (0 : Int) ≤ (k : Int) := by omega
              have z2 : (k : Int) < (ep.length : Int) := by omega
              have htm : t.size ≤ 4398048608256 := by omega
              clear hs hwe
              by_cases h1 : 1 < s.size
              · have h0 : 0 < s.size := by omega
                have i1 : (1 : Int) < (s.size : Int) := by omega
                have i0 : (0 : Int) < (s.size : Int) := by omega
                by_cases hc : s[0] = 58
                · have b1 : (((s[0]).toNat : Int) == 58) = true := by rw [hc]; decide
                  have hseg : Hid (seg E ep[k] = lk E (s.extract 1 s.size)) := hco.out h1 hc
                  have i2 : (1 : Int) ≤ (s.size : Int) := by omega
                  clear hsm hot hco hc
                  obtain ⟨nm, hnm⟩ : ∃ nm, s.extract 1 s.size = nm := ⟨_, rfl⟩
                  have hnz : nm.size ≤ 1048576 := by
                    obtain ⟨d, r, e1, e2⟩ := list2 h1
                    rw [← hnm, e2, size_mk]
                    have := Lib.size_eq s
                    rw [e1] at this
                    simp at this ⊢
                    omega
                  rw [hnm] at hseg
                  have hseg2 := hseg.out
                  have HSeg := Lib.hid hseg2
                  have hwf0 : Hid (Wf E nm 0 false nm) := ⟨rfl, by rw [List.drop_zero]⟩
                  clear hseg2 hseg
                  go_wp2_with fail
                  try rw [hnm]
                  clear hnm
                  rename World => wq
                  go_loopw [14, 15, 16] (fun vs vf vm wr => ∃ (m : Nat) (f : Bool) (s2 : ByteArray), m ≤ E.length ∧ vs = .string s2 ∧ vf = .bool f ∧ vm = .int .i64 (m : Int) ∧ s2.size ≤ 1048576 ∧ Hid (Below W.heap.size W wr) ∧ Hid (Wf E nm m f s2)) (fun _ _ m _ => E.length - (intOf m).toNat)
                  case atStart => exact ⟨0, false, nm, Nat.zero_le _, rfl, rfl, rfl, hnz, hbw.out, hwf0.out⟩
                  case round =>
                    clear hbw hwf0 c0
                    obtain ⟨m, f, s2, hm, rfl, rfl, rfl, hz2, hbw, hwf⟩ := hrel
                    cases f with
                    | true =>
                      have hlk : Hid (seg E ep[k] = some s2) := by
                        have h2 : lk E nm = some s2 := hwf.out
                        have h3 := HSeg.out
                        rw [h2] at h3
                        exact h3
                      clear hwf HSeg
                      by_cases hlm : m < E.length
                      · have y1 : (m : Int) < (E.length : Int) := by omega
                        go_wp2_with fail
                        refine (word_any s2 (by omega) wr).mono ?_
                        rintro e w1 ⟨rfl, rfl⟩
                        cases hw : wordB s2.data.toList with
                        | false =>
                          go_wp2_with fail
                          go_ret2
                          exact hbad.out _ _ hbw
                        | true =>
                          have hnew : Hid (We E base ep (k + 1) (t ++ (⟨#[47]⟩ : ByteArray) ++ s2)) := hnx.out _ (hlk.out) hw
                          have hsz2 : (t ++ (⟨#[47]⟩ : ByteArray) ++ s2).size ≤ (base.length + (k + 1)) * 1048577 := by
                            rw [ByteArray.size_append, ByteArray.size_append, show (⟨#[47]⟩ : ByteArray).size = 1 from rfl]; omega
                          clear hnx
                          go_wp2_with fail
                          go_roundw
                          case rel => exact ⟨k + 1, _, by omega, rfl, by go_num, hsz2, hbw.out, hnew.out⟩
                          case measure => simp [intOf]; omega
                      · obtain rfl : m = E.length := by omega
                        go_wp2_with fail
                        refine (word_any s2 (by omega) wr).mono ?_
                        rintro e w1 ⟨rfl, rfl⟩
                        cases hw : wordB s2.data.toList with
                        | false =>
                          go_wp2_with fail
                          go_ret2
                          exact hbad.out _ _ hbw
                        | true =>
                          have hnew : Hid (We E base ep (k + 1) (t ++ (⟨#[47]⟩ : ByteArray) ++ s2)) := hnx.out _ (hlk.out) hw
                          have hsz2 : (t ++ (⟨#[47]⟩ : ByteArray) ++ s2).size ≤ (base.length + (k + 1)) * 1048577 := by
                            rw [ByteArray.size_append, ByteArray.size_append, show (⟨#[47]⟩ : ByteArray).size = 1 from rfl]; omega
                          clear hnx
                          go_wp2_with fail
                          go_roundw
                          case rel => exact ⟨k + 1, _, by omega, rfl, by go_num, hsz2, hbw.out, hnew.out⟩
                          case measure => simp [intOf]; omega
                    | false =>
                      by_cases hlm : m < E.length
                      · obtain ⟨b2, off2, hav2, e0, e1⟩ := HLs.out _ hbw m hlm
                        obtain ⟨s3, s4⟩ := HS.out _ (List.getElem_mem hlm)
                        have hst : Hid (lk (E.drop m) nm = if eqS (E[m]).1 nm then some (E[m]).2 else lk (E.drop (m + 1)) nm) := lk_drop hlm
                        have hs2 : s2 = nm := hwf.out.1
                        subst hs2
                        have hwl := hwf.out.2
                        rw [hst.out] at hwl
                        obtain ⟨x2, y2, hxy2⟩ : ∃ x y, E[m] = (x, y) := ⟨_, _, rfl⟩
                        rw [hxy2] at e0 e1 s3 s4 hwl
                        have HWl := Lib.hid hwl
                        subst hav2
                        have y0 : (0 : Int) ≤ (m : Int) := by omega
                        have y1 : (m : Int) < (E.length : Int) := by omega
                        clear hxy2 hst hwl hwf
                        cases hq : x2.toList == s2.toList with
                        | true =>
                          have hnw : Hid (Wf E s2 (m + 1) true y2) := by
                            have h3 := HWl.out
                            rw [if_pos (show eqS x2 s2 = true from hq)] at h3
                            exact h3
                          go_wp2_with fail
                          go_roundw
                          case rel => exact ⟨m + 1, true, y2, by omega, rfl, rfl, by go_num, s4, hbw.out, hnw.out⟩
                          case measure => simp [intOf]; omega
                        | false =>
                          have hnw : Hid (Wf E s2 (m + 1) false s2) := by
                            have h3 := HWl.out
                            rw [if_neg (show ¬ eqS x2 s2 = true by unfold eqS; rw [hq]; simp)] at h3
                            exact ⟨rfl, h3⟩
                          go_wp2_with fail
                          go_roundw
                          case rel => exact ⟨m + 1, false, s2, by omega, rfl, rfl, by go_num, hz2, hbw.out, hnw.out⟩
                          case measure => simp [intOf]; omega
                      · obtain rfl : m = E.length := by omega
                        go_wp2_with fail
                        go_ret2
                        exact hbad.out _ _ hbw
                · have b1 : (((s[0]).toNat : Int) == 58) = false := by
                    rw [beq_eq_false_iff_ne]
                    intro e
                    apply hc
                    apply UInt8.toNat_inj.1
                    show (s[0]).toNat = 58
                    omega
                  have hseg : Hid (seg E ep[k] = some s) := hot.out h1 hc
                  clear hc
                  go_wp2_with fail
                  refine (word_any s (by omega) wr).mono ?_
                  rintro e w1 ⟨rfl, rfl⟩
                  cases hw : wordB s.data.toList with
                  | false =>
                    go_wp2_with fail
                    go_ret2
                    exact hbad.out _ _ hbw
                  | true =>
                    have hnew : Hid (We E base ep (k + 1) (t ++ (⟨#[47]⟩ : ByteArray) ++ s)) := hnx.out _ (hseg.out) hw
                    have hsz2 : (t ++ (⟨#[47]⟩ : ByteArray) ++ s).size ≤ (base.length + (k + 1)) * 1048577 := by
                      rw [ByteArray.size_append, ByteArray.size_append, show (⟨#[47]⟩ : ByteArray).size = 1 from rfl]; omega
                    clear hnx hsm hot hco
                    go_wp2_with fail
                    go_roundw
                    case rel => exact ⟨k + 1, _, by omega, rfl, by go_num, hsz2, hbw.out, hnew.out⟩
                    case measure => simp [intOf]; omega
              · have i1 : (s.size : Int) ≤ 1 := by omega
                have i2 : decide ((1 : Int) < (s.size : Int)) = false := by rw [decide_eq_false_iff_not]; omega
                have hseg : Hid (seg E ep[k] = some s) := hsm.out h1
                go_wp2_with fail
                refine (word_any s (by omega) wr).mono ?_
                rintro e w1 ⟨rfl, rfl⟩
                cases hw : wordB s.data.toList with
                | false =>
                  go_wp2_with fail
                  go_ret2
                  exact hbad.out _ _ hbw
                | true =>
                  have hnew : Hid (We E base ep (k + 1) (t ++ (⟨#[47]⟩ : ByteArray) ++ s)) := hnx.out _ (hseg.out) hw
                  have hsz2 : (t ++ (⟨#[47]⟩ : ByteArray) ++ s).size ≤ (base.length + (k + 1)) * 1048577 := by
                    rw [ByteArray.size_append, ByteArray.size_append, show (⟨#[47]⟩ : ByteArray).size = 1 from rfl]; omega
                  clear hnx hsm hot hco
                  go_wp2_with fail
                  go_roundw
                  case rel => exact ⟨k + 1, _, by omega, rfl, by go_num, hsz2, hbw.out, hnew.out⟩
                  case measure => simp [intOf]; omega
            · obtain rfl : k = ep.length := by omega
              have hfin : Hid (EndOut base ep E w (.returned (.tuple #[.string t, .bool (!t.toList.isEmpty)])) wr) := by
                refine ⟨t, _, rfl, fun h => we_fin HWd.out HWb.out.1 hwe.out ?_, HBel.out.trans (hbw.out.mono HBel.out.size)⟩
                intro e
                rw [e, Lib.toList_data] at h
                cases h
              clear hwe
              go_wp2_with fail
              go_ret2
              exact hfin.out

end Go.Proofs.Ytkmfedmiaannfaa.Ep
