/- Names of runtime metrics: the plain ones of some strings; the names by definition. -/
import Derived.Test.YtkmfedmiaannfaaRtw
import Derived.Deep.QuietTactic
import Derived.BigQuiet
set_option linter.unusedVariables false
set_option linter.unusedSimpArgs false
namespace Go.Proofs.Ytkmfedmiaannfaa.Rt
open Go.RowKit Zix

def tot (zs : List ByteArray) : Nat := (zs.map (fun z => z.size + 1)).sum
theorem tot_app (a b : List ByteArray) : tot (a ++ b) = tot a + tot b := by simp [tot, List.map_append, List.sum_append]
theorem tot_mem : ∀ {zs : List ByteArray} {z : ByteArray}, z ∈ zs → z.size + 1 ≤ tot zs
  | [], z, h => by simp at h
  | y :: zs, z, h => by
    have e : tot (y :: zs) = (y.size + 1) + tot zs := rfl
    rw [e]
    rcases List.mem_cons.1 h with rfl | h
    · omega
    · have := tot_mem h; omega
theorem tot_len : ∀ zs : List ByteArray, zs.length ≤ tot zs
  | [] => Nat.zero_le _
  | y :: zs => by
    have := tot_len zs
    have e : tot (y :: zs) = (y.size + 1) + tot zs := rfl
    rw [e, List.length_cons]
    omega
theorem tot_take (zs : List ByteArray) (k : Nat) : tot (zs.take k) ≤ tot zs := by
  have h := tot_app (zs.take k) (zs.drop k)
  rw [List.take_append_drop] at h
  omega

theorem infoStr : (Try.prog.info? 9).map (fun i => (i.zero, i.size, i.bytes)) = some (some (.string ⟨#[]⟩), 1, 16) := by kernel_rfl
theorem cell_one_new (w : World) (x : Value) (T : TypeId) : ∀ j u, [x][j]? = some u → (w.alloc (.cells #[x] T)).cell? ((⟨w.heap.size, 0, none⟩ : Addr).add j) = some u := by
  intro j u h
  match j, h with
  | 0, h =>
    have h : some x = some u := h
    injection h with h
    subst h
    exact Sl.cell_new w #[x] T 0

/-- the good ones so far -/
def Picked (w : World) (zs : List ByteArray) (k : Nat) (v : Value) (wr : World) : Prop :=
  ∃ qs : List ByteArray, wr.ownsRow w.heap.size 9 1 v qs.length (qs.map Value.string) ∧ qs.length ≤ k ∧ (∀ q ∈ qs, Good q.data.toList) ∧ tot qs ≤ tot (zs.take k) ∧ Below w.heap.size w wr
def PlainOut (zs : List ByteArray) (w : World) (e : Ending) (w' : World) : Prop :=
  ∃ v qs, e = .returned v ∧ Sl.Of Value.string w' v qs ∧ (∀ q ∈ qs, Good q.data.toList) ∧ tot qs ≤ tot zs ∧ Below w.heap.size w w'

set_option maxHeartbeats 4000000 in
set_option maxRecDepth 100000 in
theorem pick_any (v : Value) (zs : List ByteArray) (w : World) (hv : Sl.Of Value.string w v zs) (ht : tot zs ≤ 4611686018427) :
    Calls Try.prog 15 #[v] w (PlainOut zs w) := by
  obtain ⟨i0, hi, hz0, hz1, hz2⟩ := info_parts infoStr
  have hof : ∃ a cap, v = .slice a zs.length cap := by
    rcases hv with ⟨rfl, a, cap, rfl, _⟩ | ⟨b, off, cap, rfl, _⟩
    · exact ⟨_, _, rfl⟩
    · exact ⟨_, _, rfl⟩
  obtain ⟨a, cap, rfl⟩ := hof
  have hlen := Nat.le_trans (tot_len zs) ht
  have HV := Lib.hid hv
  have HT := Lib.hid ht
  clear hv ht
  go_enter Try.func15, Try.ntmps15
  go_wp2
  go_loopw [3, 4] (fun v i wr => ∃ k : Nat, k ≤ zs.length ∧ i = .int .i64 k ∧ Hid (Picked w zs k v wr)) (fun _ i _ => zs.length - (intOf i).toNat)
  case atStart => exact ⟨0, Nat.zero_le _, rfl, [], World.ownsRow_nil _ _ _ _, Nat.le_refl _, by simp, Nat.le_refl _, Below.refl _ _⟩
  case round =>
    obtain ⟨k, hk, rfl, hp⟩ := hrel
    obtain ⟨qs, hown, hql, hgood, htot, hbw⟩ := hp.out
    clear hp
    by_cases hlt : k < zs.length
    · obtain ⟨b, off, haq, hbb, hc⟩ : ∃ b off, a = some ⟨b, off, none⟩ ∧ b < w.heap.size ∧ w.cell? ⟨b, off + k, none⟩ = some (.string zs[k]) := by
        rcases HV.out with ⟨h, _⟩ | ⟨b, off, cap, h, h0, hcap, hm, hbb, hcell⟩
        · rw [h] at hlt; simp at hlt
        · injection h with h1 h2 h3
          exact ⟨b, off, h1, hbb, hcell k hlt⟩
      subst haq
      have c0 : wr.cell? ⟨b, off + k, none⟩ = some (.string zs[k]) := by rw [hbw.cell (p := ⟨b, off + k, none⟩) hbb]; exact hc
      have hzk : zs[k].size ≤ 4611686018427 := by have := tot_mem (List.getElem_mem hlt); have := HT.out; omega
      have htk : tot (zs.take (k + 1)) = tot (zs.take k) + (zs[k].size + 1) := by
        rw [List.take_succ_eq_append_getElem hlt, tot_app]; rfl
      have HTk := Lib.hid htk
      have HTot := Lib.hid htot
      have HG := Lib.hid hgood
      have HB := Lib.hid hbw
      obtain ⟨z, hz⟩ : ∃ z, zs[k] = z := ⟨_, rfl⟩
      rw [hz] at c0 hzk HTk
      have CP := Lib.hid (plain_any z (by omega))
      clear htk htot hgood hz hc
      go_wp2_with fail
      refine (CP.out _).mono ?_
      rintro e w1 ⟨b1, rfl, hb1, rfl⟩
      have HG1 := Lib.hid hb1
      clear hb1
      cases b1 with
      | false =>
        have hfin : Hid (Picked w zs (k + 1) u3 wr) := ⟨qs, hown, by omega, HG.out, by have := HTot.out; have := HTk.out; omega, HB.out⟩
        go_wp2
        go_roundw
        case rel => exact ⟨k + 1, by omega, by go_num, hfin⟩
        case measure => simp [intOf]; omega
      | true =>
        have HOwn := Lib.hid hown
        have hql2 : qs.length + 1 ≤ 4611686018428 := by omega
        have hql1 := Lib.hid hql2
        have HQl := Lib.hid hql
        clear hown hbw hql hql2
        go_wp2_with (at_builtin; refine wpList_append_own _ rfl _ _ 22 rfl w.heap.size 9 i0 (.string ⟨#[]⟩) 1 16 Try.underlying22 hi hz0 hz1 hz2 rfl (by decide) _ _ _ rfl (HOwn.out.alloc _) ⟨wr.heap.size, 0, none⟩ 1 1 [.string z] rfl rfl ?c1 ?c2 ?c3 ?c4 ?c5 ?_)
        all_goals try (first | exact cell_one_new _ _ _ | rfl | (intro u hu; simp at hu; subst hu; rfl) | (have := hql1.out; unfold maxLen; omega) | (have := hql1.out; omega) | (have := HB.out.size; simp; omega))
        intro v' w2 hown3 hgrow _
        have hbw3 := (HB.out.alloc HB.out.size (.cells #[.string z] 9)).grown hgrow (by have := HB.out.size; simp; omega) (fun j hj => (HOwn.out.lt j hj).1)
        have hfin : Hid (Picked w zs (k + 1) v' w2) := by
          refine ⟨qs ++ [z], ?_, ?_, ?_, ?_, hbw3⟩
          · show World.ownsRow _ _ _ _ _ _ _
            simpa using hown3
          · have := HQl.out; rw [List.length_append, List.length_singleton]; omega
          · intro q hq
            rcases List.mem_append.1 hq with hq | hq
            · exact HG.out q hq
            · rw [List.mem_singleton.1 hq]; exact HG1.out (by first | rfl | trivial)
          · rw [tot_app, HTk.out]
            have := HTot.out
            show _ + (z.size + 1 + 0) ≤ _
            omega
        clear hown3 hgrow hbw3
        go_wp2
        go_roundw
        case rel => exact ⟨k + 1, by omega, by go_num, hfin⟩
        case measure => simp [intOf]; omega
    · have hkn : k = zs.length := by omega
      have hof2 := Sl.Of.own hown
      rw [hkn, List.take_length] at htot
      have hex : ∃ ao n c, u3 = .slice ao n c := by
        rcases hown.2 with ⟨hv, _⟩ | ⟨g, c, cur, hv, _⟩
        · exact ⟨_, _, _, hv⟩
        · exact ⟨_, _, _, hv⟩
      obtain ⟨ao, n, c, hu⟩ := hex
      have hfin : Hid (PlainOut zs w (.returned u3) wr) := ⟨u3, qs, rfl, hof2, hgood, htot, hbw⟩
      subst hu
      clear hkn hof2 htot hown hgood hbw
      go_wp2
      go_ret
      exact hfin.out

/-- the first k, as lines, joined -/
def Jl (s : List UInt8) (qs : List ByteArray) : List UInt8 := J s ((qs.map (·.data.toList)).map line)
theorem Jl_succ (s : List UInt8) (qs : List ByteArray) (k : Nat) (h : k < qs.length) : Jl s (qs.take (k + 1)) = if k = 0 then line qs[k].data.toList else Jl s (qs.take k) ++ (s ++ line qs[k].data.toList) := by
  unfold Jl
  rw [List.take_succ_eq_append_getElem h, List.map_append, List.map_append]
  by_cases h0 : k = 0
  · subst h0
    rw [if_pos rfl]
    simp [J_one]
  · rw [if_neg h0]
    have hne : (List.map line (List.map (fun x => x.data.toList) (List.take k qs))) ≠ [] := by
      intro e
      have : qs.take k = [] := by simpa using e
      have := congrArg List.length this
      rw [List.length_take, Nat.min_eq_left (by omega)] at this
      exact h0 this
    exact J_snoc s _ hne
theorem Jl_len (s : List UInt8) : ∀ qs : List ByteArray, (Jl s qs).length ≤ (s.length + 1) * tot qs
  | [] => by simp [Jl, J_nil]
  | [a] => by
    have e : Jl s [a] = line a.data.toList := by simp [Jl, J_one]
    rw [e, line_len, ← Lib.size_eq]
    have e2 : tot [a] = a.size + 1 := rfl
    rw [e2]
    have h1 : 1 * (a.size + 1) ≤ (s.length + 1) * (a.size + 1) := Nat.mul_le_mul_right _ (by omega)
    omega
  | a :: b :: r => by
    have ih := Jl_len s (b :: r)
    have e : Jl s (a :: b :: r) = line a.data.toList ++ (s ++ Jl s (b :: r)) := by simp [Jl, J_cons]
    rw [e, List.length_append, List.length_append, line_len, ← Lib.size_eq]
    have e2 : tot (a :: b :: r) = (a.size + 1) + tot (b :: r) := rfl
    rw [e2, Nat.mul_add]
    have h1 : s.length * 1 ≤ s.length * (a.size + 1) := Nat.mul_le_mul_left _ (by omega)
    have h2 : (s.length + 1) * (a.size + 1) = s.length * (a.size + 1) + (a.size + 1) := by rw [Nat.add_mul, Nat.one_mul]
    omega
theorem size_of {z : ByteArray} {l : List UInt8} (h : z.data.toList = l) : z.size = l.length := by rw [Lib.size_eq, h]
def tl (cum : Bool) (kind : Int) : List UInt8 := if cum && kind != 3 then [95, 116, 111, 116, 97, 108] else []
def SpecOut (ps us : List ByteArray) (last : ByteArray) (cum : Bool) (kind : Int) (w : World) (e : Ending) (w' : World) : Prop :=
  e = .returned (.tuple #[.string ⟨#[103, 111]⟩, .string ⟨(Jl [95] ps).toArray⟩, .string ⟨(rest last.data.toList (us.map (·.data.toList)) ++ tl cum kind).toArray⟩]) ∧ w = w'

theorem app_data (a b : ByteArray) : (a ++ b).data.toList = a.data.toList ++ b.data.toList := by simp

set_option maxHeartbeats 8000000 in
set_option maxRecDepth 100000 in
theorem spec_any (v v1 : Value) (ps us : List ByteArray) (last : ByteArray) (cum : Bool) (kind : Int) (w : World) (hv : Sl.Of Value.string w v (ps ++ [last])) (hv1 : Sl.Of Value.string w v1 us)
    (ht : tot (ps ++ [last]) ≤ 1048576) (ht1 : tot us ≤ 1048576) (h1 : 0 < us.length) :
    Calls Try.prog 17 #[v, v1, .bool cum, .int .i64 kind] w (SpecOut ps us last cum kind w) := by
  obtain ⟨qs, hqs⟩ : ∃ qs, qs = ps ++ [last] := ⟨_, rfl⟩
  rw [← hqs] at hv ht
  have hql : qs.length = ps.length + 1 := by rw [hqs]; simp
  have hqt : qs.take ps.length = ps := by rw [hqs]; simp
  have hlast : ∀ h : ps.length < qs.length, qs[ps.length] = last := by intro h; simp [hqs]
  obtain ⟨n, hn⟩ : ∃ n, n = ps.length := ⟨_, rfl⟩
  rw [← hn] at hql hqt hlast
  have hof : ∃ a cap, v = .slice a qs.length cap := by
    rcases hv with ⟨rfl, a, cap, rfl, _⟩ | ⟨b, off, cap, rfl, _⟩
    · exact ⟨_, _, rfl⟩
    · exact ⟨_, _, rfl⟩
  have hof1 : ∃ a cap, v1 = .slice a us.length cap := by
    rcases hv1 with ⟨rfl, a, cap, rfl, _⟩ | ⟨b, off, cap, rfl, _⟩
    · exact ⟨_, _, rfl⟩
    · exact ⟨_, _, rfl⟩
  obtain ⟨a, cap, rfl⟩ := hof
  obtain ⟨a1, cap1, rfl⟩ := hof1
  have hul : us.length ≤ 1048576 := Nat.le_trans (tot_len us) ht1
  have hnl : n + 1 ≤ 1048576 := by rw [← hql]; exact Nat.le_trans (tot_len qs) ht
  have HQl := Lib.hid hql
  have HQt := Lib.hid hqt
  have HLast := Lib.hid hlast
  obtain ⟨b, off, haq, hbb, hcell⟩ : ∃ b off, a = some ⟨b, off, none⟩ ∧ b < w.heap.size ∧ ∀ i (h : i < qs.length), w.cell? ⟨b, off + i, none⟩ = some (.string qs[i]) := by
    rcases hv with ⟨h, _⟩ | ⟨b, off, cap, h, h0, hcap, hm, hbb, hcell⟩
    · rw [h] at hql; simp at hql
    · injection h with h1 h2 h3
      exact ⟨b, off, h1, hbb, hcell⟩
  subst haq
  have HCell := Lib.hid hcell
  have HV1 := Lib.hid hv1
  have HT := Lib.hid ht
  have HT1 := Lib.hid ht1
  rw [hql]
  clear hcell hv hv1 ht ht1 hql hqt hlast hqs hn
  go_enter Try.func17, Try.ntmps17
  go_wp2
  go_loop [9, 11] (fun t i => ∃ (k : Nat) (z : ByteArray), k ≤ n ∧ i = .int .i64 k ∧ t = .string z ∧ z.size ≤ 4194304 ∧ Hid (z.data.toList = Jl [95] (qs.take k))) (fun _ i => n - (intOf i).toNat)
  case atStart => exact ⟨0, ⟨#[]⟩, Nat.zero_le _, rfl, rfl, by decide, rfl⟩
  case round =>
    obtain ⟨k, z, hk, rfl, rfl, hz, hrel⟩ := hrel
    by_cases hlt : k < n
    · have hkq : k < qs.length := by rw [HQl.out]; omega
      have c0 : w.cell? ⟨b, off + k, none⟩ = some (.string qs[k]) := HCell.out k hkq
      have hq : qs[k].size + 1 ≤ 1048576 := Nat.le_trans (tot_mem (List.getElem_mem hkq)) HT.out
      have hstep := Jl_succ [95] qs k hkq
      have hsl := Jl_len [95] (qs.take (k + 1))
      have hst := Nat.le_trans (tot_take qs (k + 1)) HT.out
      obtain ⟨q, hqe⟩ : ∃ q, qs[k] = q := ⟨_, rfl⟩
      rw [hqe] at c0 hq hstep
      have CL := line_any q (by omega)
      obtain ⟨g, hg⟩ : ∃ g : ByteArray, g = ⟨(line q.data.toList).toArray⟩ := ⟨_, rfl⟩
      rw [← hg] at CL
      have hgd : g.data.toList = line q.data.toList := by rw [hg]
      have hgs : g.size ≤ 1048576 := by rw [size_of hgd, line_len, ← Lib.size_eq]; omega
      have HCl := Lib.hid CL
      have hlen : ∀ y : ByteArray, y.data.toList = Jl [95] (qs.take (k + 1)) → y.size ≤ 4194304 := by
        intro y hy
        rw [size_of hy]
        simp only [List.length_singleton] at hsl
        omega
      have HLen := Lib.hid hlen
      clear hlen hsl hst CL hg hqe
      by_cases h0 : k = 0
      · subst h0
        rw [if_pos rfl] at hstep
        have hz0 : z = ⟨#[]⟩ := by
          apply of_list
          rw [hrel.out]; rfl
        have hnew : Hid ((z ++ g).data.toList = Jl [95] (qs.take (0 + 1))) := by
          show _ = _
          rw [hstep, app_data, hgd, hz0]; rfl
        have hs1 := HLen.out _ hnew.out
        have HS1 := Lib.hid hs1
        have c0' : w.cell? ⟨b, off, none⟩ = some (.string q) := c0
        clear hstep hrel hgd hz0 hs1 c0
        go_wp2_with fail
        refine (HCl.out _).mono ?_
        rintro e w1 ⟨rfl, rfl⟩
        go_wp2
        go_round
        case rel => exact ⟨1, _, by omega, rfl, rfl, HS1.out, hnew⟩
        case measure => simp [intOf]; omega
      · rw [if_neg h0] at hstep
        have hpos : (0 : Int) < (k : Int) := by omega
        have hnew : Hid ((z ++ (⟨#[95]⟩ : ByteArray) ++ g).data.toList = Jl [95] (qs.take (k + 1))) := by
          show _ = _
          rw [hstep, app_data, app_data, hgd, hrel.out, List.append_assoc]
        have hs1 := HLen.out _ hnew.out
        have HS1 := Lib.hid hs1
        clear hstep hrel hgd hs1
        go_wp2_with fail
        refine (HCl.out _).mono ?_
        rintro e w1 ⟨rfl, rfl⟩
        go_wp2
        go_round
        case rel => exact ⟨k + 1, _, by omega, by go_num, rfl, HS1.out, hnew⟩
        case measure => simp [intOf]; omega
    · have hkn : k = n := by omega
      subst hkn
      have hkq : k < qs.length := by rw [HQl.out]; omega
      have c0 : w.cell? ⟨b, off + k, none⟩ = some (.string last) := by
        have := HCell.out k hkq
        rw [HLast.out hkq] at this
        exact this
      have hq : last.size + 1 ≤ 1048576 := by
        have := Nat.le_trans (tot_mem (List.getElem_mem hkq)) HT.out
        rw [HLast.out hkq] at this
        exact this
      have hzd : z = ⟨(Jl [95] ps).toArray⟩ := by
        apply of_list
        rw [hrel.out, HQt.out]
      have HZ := Lib.hid hzd
      have CL := line_any last (by omega)
      obtain ⟨g, hg⟩ : ∃ g : ByteArray, g = ⟨(line last.data.toList).toArray⟩ := ⟨_, rfl⟩
      rw [← hg] at CL
      have hgd : g.data.toList = line last.data.toList := by rw [hg]
      have hgs : g.size ≤ 1048576 := by rw [size_of hgd, line_len, ← Lib.size_eq]; omega
      have HCl := Lib.hid CL
      have HGd := Lib.hid hgd
      clear CL hg hgd hrel hzd
      go_wp2_with fail
      refine (HCl.out _).mono ?_
      rintro e w1 ⟨rfl, rfl⟩
      go_wp2
      go_loop [10, 12] (fun t i => ∃ (k : Nat) (y : ByteArray), k ≤ us.length ∧ i = .int .i64 k ∧ t = .string y ∧ y.size ≤ 8388608 ∧ Hid (y.data.toList = line last.data.toList ++ (if k = 0 then [] else 95 :: Jl [95, 112, 101, 114, 95] (us.take k)))) (fun _ i => us.length - (intOf i).toNat)
      case atStart => exact ⟨0, g, Nat.zero_le _, rfl, rfl, by omega, by show _ = _; rw [HGd.out]; simp⟩
      case round =>
        obtain ⟨k, y, hk, rfl, rfl, hy, hrel⟩ := hrel
        by_cases hlt : k < us.length
        · obtain ⟨b1, off1, haq, c1⟩ : ∃ b off, a1 = some ⟨b, off, none⟩ ∧ w.cell? ⟨b, off + k, none⟩ = some (.string us[k]) := by
            rcases HV1.out with ⟨h, _⟩ | ⟨b, off, cap, h, h0, hcap, hm, hbb, hcell⟩
            · rw [h] at hlt; simp at hlt
            · injection h with h1 h2 h3
              exact ⟨b, off, h1, hcell k hlt⟩
          subst haq
          have hq : us[k].size + 1 ≤ 1048576 := Nat.le_trans (tot_mem (List.getElem_mem hlt)) HT1.out
          have hstep := Jl_succ [95, 112, 101, 114, 95] us k hlt
          have hsl := Jl_len [95, 112, 101, 114, 95] (us.take (k + 1))
          have hst := Nat.le_trans (tot_take us (k + 1)) HT1.out
          obtain ⟨q, hqe⟩ : ∃ q, us[k] = q := ⟨_, rfl⟩
          rw [hqe] at c1 hq hstep
          have CL := line_any q (by omega)
          obtain ⟨g2, hg⟩ : ∃ g : ByteArray, g = ⟨(line q.data.toList).toArray⟩ := ⟨_, rfl⟩
          rw [← hg] at CL
          have hgd : g2.data.toList = line q.data.toList := by rw [hg]
          have hgs : g2.size ≤ 1048576 := by rw [size_of hgd, line_len, ← Lib.size_eq]; omega
          have HCl := Lib.hid CL
          have hlen : ∀ y : ByteArray, y.data.toList = line last.data.toList ++ 95 :: Jl [95, 112, 101, 114, 95] (us.take (k + 1)) → y.size ≤ 8388608 := by
            intro y hy
            rw [size_of hy, List.length_append, List.length_cons, line_len, ← Lib.size_eq]
            simp only [List.length_cons, List.length_nil] at hsl
            omega
          have HLen := Lib.hid hlen
          clear hlen hsl hst CL hg hqe
          by_cases h0 : k = 0
          · subst h0
            rw [if_pos rfl] at hstep
            have hr := hrel.out
            rw [if_pos rfl, List.append_nil] at hr
            have hnew : Hid ((y ++ (⟨#[95]⟩ : ByteArray) ++ g2).data.toList = line last.data.toList ++ (if 0 + 1 = 0 then [] else 95 :: Jl [95, 112, 101, 114, 95] (us.take (0 + 1)))) := by
              show _ = _
              rw [if_neg (by omega), hstep, app_data, app_data, hgd, hr]
              simp
            have hs1 := HLen.out _ (by rw [hnew.out, if_neg (by omega)])
            have HS1 := Lib.hid hs1
            have c1' : w.cell? ⟨b1, off1, none⟩ = some (.string q) := c1
            clear hstep hrel hgd hs1 hr c1
            go_wp2_with fail
            refine (HCl.out _).mono ?_
            rintro e w1 ⟨rfl, rfl⟩
            go_wp2
            go_round
            case rel => exact ⟨1, _, by omega, rfl, rfl, HS1.out, hnew⟩
            case measure => simp [intOf]; omega
          · rw [if_neg h0] at hstep
            have hpos : (0 : Int) < (k : Int) := by omega
            have hr := hrel.out
            rw [if_neg h0] at hr
            have hnew : Hid ((y ++ (⟨#[95, 112, 101, 114, 95]⟩ : ByteArray) ++ g2).data.toList = line last.data.toList ++ (if k + 1 = 0 then [] else 95 :: Jl [95, 112, 101, 114, 95] (us.take (k + 1)))) := by
              show _ = _
              rw [if_neg (by omega), hstep, app_data, app_data, hgd, hr]
              simp
            have hs1 := HLen.out _ (by rw [hnew.out, if_neg (by omega)])
            have HS1 := Lib.hid hs1
            clear hstep hrel hgd hs1 hr
            go_wp2_with fail
            refine (HCl.out _).mono ?_
            rintro e w1 ⟨rfl, rfl⟩
            go_wp2
            go_round
            case rel => exact ⟨k + 1, _, by omega, by go_num, rfl, HS1.out, hnew⟩
            case measure => simp [intOf]; omega
        · have hkn : k = us.length := by omega
          rw [hkn, List.take_length, if_neg (by omega)] at hrel
          have hbase : y.data.toList = rest last.data.toList (us.map (·.data.toList)) := hrel.out
          have HBase := Lib.hid hbase
          clear hrel hbase hkn
          cases cum with
          | false =>
            have hy2 : y = ⟨(rest last.data.toList (us.map (·.data.toList)) ++ tl false kind).toArray⟩ := by
              apply of_list
              rw [HBase.out]
              simp [tl]
            have HY := Lib.hid hy2
            clear hy2
            go_wp2
            go_ret3
            exact ⟨by rw [← HY.out, ← HZ.out]; rfl, rfl⟩
          | true =>
            cases hkd : kind != 3 with
            | false =>
              have hy2 : y = ⟨(rest last.data.toList (us.map (·.data.toList)) ++ tl true kind).toArray⟩ := by
                apply of_list
                rw [HBase.out]
                simp [tl, hkd]
              have HY := Lib.hid hy2
              clear hy2
              go_wp2
              go_ret3
              exact ⟨by rw [← HY.out, ← HZ.out]; rfl, rfl⟩
            | true =>
              have hy2 : y ++ ⟨#[95, 116, 111, 116, 97, 108]⟩ = ⟨(rest last.data.toList (us.map (·.data.toList)) ++ tl true kind).toArray⟩ := by
                apply of_list
                rw [app_data, HBase.out]
                simp [tl, hkd]
              have HY := Lib.hid hy2
              clear hy2
              go_wp2
              go_ret3
              exact ⟨by rw [← HY.out, ← HZ.out]; rfl, rfl⟩

end Go.Proofs.Ytkmfedmiaannfaa.Rt
