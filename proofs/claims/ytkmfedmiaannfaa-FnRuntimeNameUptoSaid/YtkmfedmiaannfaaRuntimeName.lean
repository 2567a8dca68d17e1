/- FnRuntimeName: the name of a runtime metric is made of the parts of its path and of its unit. -/
import Derived.Test.YtkmfedmiaannfaaRtn
import Derived.Test.YtkmfedmiaannfaaFits
import Derived.Test.YtkmfedmiaannfaaSlB
set_option linter.unusedVariables false
set_option linter.unusedSimpArgs false
namespace Go.Proofs.Ytkmfedmiaannfaa.RuntimeName
open Go.RowKit Go.ChangeShapes Go.WideShapes Go.Deep Zix Rt

/-- a list of strings of bulk at most 1048576 -/
def Few (zs : List ByteArray) : Prop := tot zs ≤ 1048576

set_option maxRecDepth 100000 in
theorem read0 {H : Type} {enc : TypeId × Value → H} {W : World} {base b0 : Nat} {held : Bool} {r : Reach} {v : Value} {d : DataW H} {p : List MemPlace}
    (hv : Value.okWide Try.prog W r b0 22 v) (h : DataW.Trod enc Try.prog W base (fun _ => true) held 22 v d p) (hb : Rows.uptoBulk d ≤ 1048576) : ∃ zs : List ByteArray, Sl.Of Value.string W v zs ∧ Few zs := by
  obtain ⟨zs, h1, _, h2⟩ := Sl.open_strings_bulk Try.underlying22 Try.underlying9 (by kernel_rfl) hv h
  exact ⟨zs, h1, Nat.le_trans h2 hb⟩
set_option maxRecDepth 100000 in
theorem read1 {H : Type} {enc : TypeId × Value → H} {W : World} {base b0 : Nat} {held : Bool} {r : Reach} {v : Value} {d : DataW H} {p : List MemPlace}
    (hv : Value.okWide Try.prog W r b0 22 v) (h : DataW.Trod enc Try.prog W base (fun _ => true) held 22 v d p) (hb : Rows.uptoBulk d ≤ 1048576) : ∃ zs : List ByteArray, Sl.Of Value.string W v zs ∧ Few zs := read0 hv h hb

def raw (qs : List ByteArray) : List (List UInt8) := qs.map (·.data.toList)
def walk (qs : List ByteArray) : List UInt8 := (raw qs).flatMap (47 :: ·)
theorem walk_key : ∀ L : List (List UInt8), L ≠ [] → L.flatMap (47 :: ·) = 47 :: J [47] L
  | [], h => absurd rfl h
  | [a], _ => by rw [J_one]; simp
  | a :: b :: r, _ => by
    have ih := walk_key (b :: r) (by simp)
    rw [J_cons, List.flatMap_cons, ih]
    simp
theorem walk_succ (qs : List ByteArray) (k : Nat) (h : k < qs.length) : walk (qs.take (k + 1)) = walk (qs.take k) ++ (47 :: qs[k].data.toList) := by
  unfold walk raw
  rw [List.take_succ_eq_append_getElem h, List.map_append, List.flatMap_append]
  simp
theorem walk_len : ∀ qs : List ByteArray, (walk qs).length = tot qs
  | [] => rfl
  | q :: qs => by
    have ih := walk_len qs
    have e : walk (q :: qs) = (47 :: q.data.toList) ++ walk qs := by simp [walk, raw]
    have e2 : tot (q :: qs) = (q.size + 1) + tot qs := rfl
    rw [e, List.length_append, ih, List.length_cons, ← Lib.size_eq, e2]
def Jr (qs : List ByteArray) : List UInt8 := J [47] (raw qs)
theorem Jr_succ (qs : List ByteArray) (k : Nat) (h : k < qs.length) : Jr (qs.take (k + 1)) = if k = 0 then qs[k].data.toList else Jr (qs.take k) ++ (47 :: qs[k].data.toList) := by
  unfold Jr raw
  rw [List.take_succ_eq_append_getElem h, List.map_append]
  by_cases h0 : k = 0
  · subst h0
    rw [if_pos rfl]
    simp [J_one]
  · rw [if_neg h0]
    have hne : (List.map (fun x : ByteArray => x.data.toList) (List.take k qs)) ≠ [] := by
      intro e
      have : qs.take k = [] := by simpa using e
      have := congrArg List.length this
      rw [List.length_take, Nat.min_eq_left (by omega)] at this
      exact h0 this
    exact J_snoc [47] _ hne
theorem Jr_len (qs : List ByteArray) : (Jr qs).length ≤ tot qs := by
  cases qs with
  | nil => exact Nat.zero_le _
  | cons q r =>
    have h1 := walk_len (q :: r)
    have h2 : walk (q :: r) = 47 :: Jr (q :: r) := walk_key _ (by simp [raw])
    rw [h2, List.length_cons] at h1
    omega

set_option maxHeartbeats 16000000 in
set_option maxRecDepth 100000 in
theorem law_any (v v1 : Value) (cum : Bool) (kind : Int) (w : World) (hv : ∃ zs : List ByteArray, Sl.Of Value.string w v zs ∧ Few zs) (hv1 : ∃ zs : List ByteArray, Sl.Of Value.string w v1 zs ∧ Few zs) (hk : Lit.wf (.int .i64 kind) = true) :
    Calls Try.prog 4 #[v, v1, .bool cum, .int .i64 kind] w fun e w' => e = .returned (.bool true) ∧ Below w.heap.size w w' := by
  clear hk
  obtain ⟨zs, hof, hf⟩ := hv
  obtain ⟨os, hos, hfo⟩ := hv1
  have hlen := Nat.le_trans (tot_len zs) hf
  have hleno := Nat.le_trans (tot_len os) hfo
  have hsz : ∀ z ∈ zs, z.size ≤ 2147483647 := fun z hz => by have := Nat.le_trans (tot_mem hz) hf; omega
  have hszo : ∀ z ∈ os, z.size ≤ 2147483647 := fun z hz => by have := Nat.le_trans (tot_mem hz) hfo; omega
  have CF1 := Lib.hid (Fits.fits3_any v zs w hof (by omega) hsz)
  have CF2 := Lib.hid (Fits.fits3_any v1 os w hos (by omega) hszo)
  have CP1 := Lib.hid (pick_any v zs w hof (by unfold Few at hf; omega))
  have HOs := Lib.hid hos
  have HF := Lib.hid hf
  have HFo := Lib.hid hfo
  clear hof hos hf hfo hlen hleno hsz hszo
  go_enter Try.func4, Try.ntmps4
  go_wp2_with fail
  refine CF1.out.mono ?_
  rintro e w1 ⟨rfl, rfl⟩
  go_wp2_with fail
  refine CF2.out.mono ?_
  rintro e w1 ⟨rfl, rfl⟩
  go_wp2_with fail
  refine CP1.out.mono ?_
  rintro e w1 ⟨vp, ps, rfl, hps, hpg, hpt, hb1⟩
  have CP2 := Lib.hid (pick_any v1 os w1 (HOs.out.below hb1) (by have := HFo.out; unfold Few at this; omega))
  have HPs := Lib.hid hps
  have HPg := Lib.hid hpg
  have HPt := Lib.hid hpt
  have HB1 := Lib.hid hb1
  clear hps hpg hpt hb1 CF1 CF2 CP1
  go_wp2_with fail
  refine CP2.out.mono ?_
  rintro e w2 ⟨vu, us, rfl, hus, hug, hut, hb2⟩
  have hps2 := HPs.out.below hb2
  have hb2' := HB1.out.trans (hb2.mono HB1.out.size)
  have HB2 := Lib.hid hb2'
  have HUg := Lib.hid hug
  have HUt := Lib.hid hut
  have HUs := Lib.hid hus
  have HPs2 := Lib.hid hps2
  clear hus hug hut hb2 hps2 hb2' HPs HB1 CP2
  have hok0 : Ok [[103, 99]] [[98, 121, 116, 101, 115]] [104, 101, 97, 112] := by
    refine ⟨by simp, ?_, ?_, ?_⟩
    · intro a ha; rw [List.mem_singleton.1 ha]; exact ⟨by simp, by decide⟩
    · exact ⟨by simp, by decide⟩
    · intro a ha; rw [List.mem_singleton.1 ha]; exact ⟨by simp, by decide⟩
  have CI0 := fun w => impl_any [[103, 99]] [[98, 121, 116, 101, 115]] [104, 101, 97, 112] hok0 false 1 ⟨#[47, 103, 99, 47, 104, 101, 97, 112, 58, 98, 121, 116, 101, 115]⟩ w (by decide) (by decide)
  have HCI0 := Lib.hid CI0
  clear CI0 hok0
  go_wp2_with fail
  refine (HCI0.out _).mono ?_
  rintro e w3 ⟨rfl, hb3⟩
  have hps3 := HPs2.out.below hb3
  have hus3 := HUs.out.below hb3
  have hb3' := HB2.out.trans (hb3.mono HB2.out.size)
  have HB3 := Lib.hid hb3'
  have HUs3 := Lib.hid hus3
  have HPs3 := Lib.hid hps3
  have hslice : ∀ {v : Value} {zs : List ByteArray}, Sl.Of Value.string w3 v zs → ∃ a cap, v = .slice a zs.length cap := by
    intro v zs h
    rcases h with ⟨rfl, a, cap, rfl, _⟩ | ⟨b, off, cap, rfl, _⟩
    · exact ⟨_, _, rfl⟩
    · exact ⟨_, _, rfl⟩
  obtain ⟨pa, pc, hvp⟩ := hslice hps3
  obtain ⟨ua, uc, hvu⟩ := hslice hus3
  have hpl : ps.length ≤ 1048576 := Nat.le_trans (tot_len ps) (Nat.le_trans HPt.out HF.out)
  have hul : us.length ≤ 1048576 := Nat.le_trans (tot_len us) (Nat.le_trans HUt.out HFo.out)
  clear hb3 hb3' hps3 hus3 hslice HPs2 HUs HB2 HCI0
  have hok1 : okB 1 = true := rfl
  rw [hok1]
  clear hok1
  obtain ⟨o1, ho1⟩ : ∃ o : ByteArray, o = ⟨(J [95] (List.map line [[103, 99]])).toArray⟩ := ⟨_, rfl⟩
  obtain ⟨o2, ho2⟩ : ∃ o : ByteArray, o = ⟨(rest [104, 101, 97, 112] [[98, 121, 116, 101, 115]] ++ tl false 1).toArray⟩ := ⟨_, rfl⟩
  rw [← ho1, ← ho2]
  clear ho1 ho2
  subst hvp
  subst hvu
  by_cases hp2 : ps.length < 2
  · have hp3 : (ps.length : Int) < 2 := by omega
    go_wp2
    go_ret
    exact ⟨rfl, HB3.out⟩
  · by_cases hu1 : us.length < 1
    · have hp3 : (us.length : Int) < 1 := by omega
      have hp4 : (2 : Int) ≤ (ps.length : Int) := by omega
      go_wp2
      go_ret
      exact ⟨rfl, HB3.out⟩
    · have hp4 : (2 : Int) ≤ (ps.length : Int) := by omega
      have hu4 : (1 : Int) ≤ (us.length : Int) := by omega
      -- the parts
      obtain ⟨init, last, hil⟩ : ∃ init last, ps = init ++ [last] := by
        rcases List.eq_nil_or_concat ps with h | ⟨i, l, h⟩
        · rw [h] at hp2; simp at hp2
        · exact ⟨i, l, by rw [h]; simp⟩
      have hraw : raw ps = raw init ++ [last.data.toList] := by rw [hil]; simp [raw]
      have hinit : raw init ≠ [] := by
        intro e
        have : init = [] := by simpa [raw] using e
        rw [hil, this] at hp2
        simp at hp2
      have hok : Ok (raw init) (raw us) last.data.toList := by
        refine ⟨hinit, ?_, ?_, ?_⟩
        · intro a ha
          obtain ⟨q, hq, rfl⟩ := List.mem_map.1 ha
          exact HPg.out q (by rw [hil]; exact List.mem_append_left _ hq)
        · exact HPg.out last (by rw [hil]; simp)
        · intro a ha
          obtain ⟨q, hq, rfl⟩ := List.mem_map.1 ha
          exact HUg.out q hq
      have hwk : walk ps = key (raw init) last.data.toList := by
        show (raw ps).flatMap _ = _
        rw [walk_key _ (by rw [hraw]; simp), hraw]; rfl
      have hpt : tot ps ≤ 1048576 := Nat.le_trans HPt.out HF.out
      have hut : tot us ≤ 1048576 := Nat.le_trans HUt.out HFo.out
      have hkl : (key (raw init) last.data.toList).length ≤ 1048576 := by rw [← hwk, walk_len]; exact hpt
      have hnl : (nameOf (raw init) (raw us) last.data.toList).length ≤ 16777216 := by
        unfold nameOf
        rw [List.length_append, List.length_cons]
        have h2 : (J [47] (raw us)).length ≤ tot us := Jr_len us
        omega
      have CI := fun (s : ByteArray) (hs : s.data.toList = nameOf (raw init) (raw us) last.data.toList) w => impl_any (raw init) (raw us) last.data.toList hok cum kind s w hs hnl
      have CSp := spec_any (.slice pa ps.length pc) (.slice ua us.length uc) init us last cum kind
      rw [← hil] at CSp
      have HCI := Lib.hid CI
      have HCSp := Lib.hid CSp
      have HWk := Lib.hid hwk
      have HPt2 := Lib.hid hpt
      have HUt2 := Lib.hid hut
      have HKl := Lib.hid hkl
      have hupos : 0 < us.length := by omega
      clear hil hraw hinit hok hwk hpt hut hnl CI CSp hkl hp2 hu1 HPg HUg HPt HUt
      go_wp2
      go_loop [13, 14] (fun t i => ∃ (k : Nat) (z : ByteArray), k ≤ ps.length ∧ i = .int .i64 k ∧ t = .string z ∧ z.size ≤ 1048576 ∧ Hid (z.data.toList = walk (ps.take k))) (fun _ i => ps.length - (intOf i).toNat)
      case atStart => exact ⟨0, ⟨#[]⟩, Nat.zero_le _, rfl, rfl, by decide, rfl⟩
      case round =>
        obtain ⟨k, z, hk, rfl, rfl, hz, hrel⟩ := hrel
        by_cases hlt : k < ps.length
        · obtain ⟨b, off, haq, c0⟩ : ∃ b off, pa = some ⟨b, off, none⟩ ∧ w3.cell? ⟨b, off + k, none⟩ = some (.string ps[k]) := by
            rcases HPs3.out with ⟨h, _⟩ | ⟨b, off, cap, h, h0, hcap, hm, hbb, hcell⟩
            · rw [h] at hlt; simp at hlt
            · injection h with h1 h2 h3
              exact ⟨b, off, h1, hcell k hlt⟩
          subst haq
          have hq : ps[k].size + 1 ≤ 1048576 := Nat.le_trans (tot_mem (List.getElem_mem hlt)) HPt2.out
          have hstep := walk_succ ps k hlt
          have hsl := walk_len (ps.take (k + 1))
          have hst := Nat.le_trans (tot_take ps (k + 1)) HPt2.out
          obtain ⟨q, hqe⟩ : ∃ q, ps[k] = q := ⟨_, rfl⟩
          rw [hqe] at c0 hq hstep
          have hnew : Hid ((z ++ ((⟨#[47]⟩ : ByteArray) ++ q)).data.toList = walk (ps.take (k + 1))) := by
            show _ = _
            rw [hstep, app_data, app_data, hrel.out]; rfl
          have hs1 : (z ++ ((⟨#[47]⟩ : ByteArray) ++ q)).size ≤ 1048576 := by rw [size_of hnew.out, hsl]; exact hst
          have HS1 := Lib.hid hs1
          clear hstep hsl hst hqe hs1 hrel
          go_wp2
          go_round
          case rel => exact ⟨k + 1, _, by omega, by go_num, rfl, HS1.out, hnew⟩
          case measure => simp [intOf]; omega
        · have hkn : k = ps.length := by omega
          have hzk : z.data.toList = key (raw init) last.data.toList := by rw [hrel.out, hkn, List.take_length, HWk.out]
          have HZ := Lib.hid hzk
          clear hrel hzk hkn
          go_wp2
          go_loop [13, 15] (fun t i => ∃ (k : Nat) (y : ByteArray), k ≤ us.length ∧ i = .int .i64 k ∧ t = .string y ∧ y.size ≤ 4194304 ∧ Hid (y.data.toList = key (raw init) last.data.toList ++ (if k = 0 then [] else 58 :: Jr (us.take k)))) (fun _ i => us.length - (intOf i).toNat)
          case atStart => exact ⟨0, z, Nat.zero_le _, rfl, rfl, by omega, by show _ = _; rw [HZ.out]; simp⟩
          case round =>
            obtain ⟨m, y, hm, rfl, rfl, hy, hrel⟩ := hrel
            by_cases hlt : m < us.length
            · obtain ⟨b, off, haq, c0⟩ : ∃ b off, ua = some ⟨b, off, none⟩ ∧ w3.cell? ⟨b, off + m, none⟩ = some (.string us[m]) := by
                rcases HUs3.out with ⟨h, _⟩ | ⟨b, off, cap, h, h0, hcap, hm, hbb, hcell⟩
                · rw [h] at hlt; simp at hlt
                · injection h with h1 h2 h3
                  exact ⟨b, off, h1, hcell m hlt⟩
              subst haq
              have hq : us[m].size + 1 ≤ 1048576 := Nat.le_trans (tot_mem (List.getElem_mem hlt)) HUt2.out
              have hstep := Jr_succ us m hlt
              have hsl := Jr_len (us.take (m + 1))
              have hst := Nat.le_trans (tot_take us (m + 1)) HUt2.out
              obtain ⟨q, hqe⟩ : ∃ q, us[m] = q := ⟨_, rfl⟩
              rw [hqe] at c0 hq hstep
              have hlen : ∀ y : ByteArray, y.data.toList = key (raw init) last.data.toList ++ 58 :: Jr (us.take (m + 1)) → y.size ≤ 4194304 := by
                intro y hy
                have := HKl.out
                rw [size_of hy, List.length_append, List.length_cons]
                omega
              have HLen := Lib.hid hlen
              clear hlen hsl hst hqe
              by_cases h0 : m = 0
              · subst h0
                rw [if_pos rfl] at hstep
                have hr := hrel.out
                rw [if_pos rfl, List.append_nil] at hr
                have hnew : Hid ((y ++ ((⟨#[58]⟩ : ByteArray) ++ q)).data.toList = key (raw init) last.data.toList ++ (if 0 + 1 = 0 then [] else 58 :: Jr (us.take (0 + 1)))) := by
                  show _ = _
                  rw [if_neg (by omega), hstep, app_data, app_data, hr]; rfl
                have hs1 := HLen.out _ (by rw [hnew.out, if_neg (by omega)])
                have HS1 := Lib.hid hs1
                have c0' : w3.cell? ⟨b, off, none⟩ = some (.string q) := c0
                clear hstep hrel hs1 hr c0
                go_wp2
                go_round
                case rel => exact ⟨1, _, by omega, rfl, rfl, HS1.out, hnew⟩
                case measure => simp [intOf]; omega
              · rw [if_neg h0] at hstep
                have hpos : (0 : Int) < (m : Int) := by omega
                have hr := hrel.out
                rw [if_neg h0] at hr
                have hnew : Hid ((y ++ ((⟨#[47]⟩ : ByteArray) ++ q)).data.toList = key (raw init) last.data.toList ++ (if m + 1 = 0 then [] else 58 :: Jr (us.take (m + 1)))) := by
                  show _ = _
                  rw [if_neg (by omega), hstep, app_data, app_data, hr]
                  simp
                have hs1 := HLen.out _ (by rw [hnew.out, if_neg (by omega)])
                have HS1 := Lib.hid hs1
                clear hstep hrel hs1 hr
                go_wp2
                go_round
                case rel => exact ⟨m + 1, _, by omega, by go_num, rfl, HS1.out, hnew⟩
                case measure => simp [intOf]; omega
            · have hmn : m = us.length := by omega
              have hyn : y.data.toList = nameOf (raw init) (raw us) last.data.toList := by
                rw [hrel.out, hmn, List.take_length, if_neg (by omega)]; rfl
              have CI := Lib.hid (HCI.out y hyn)
              clear hrel hyn hmn
              obtain ⟨s1, hs1⟩ : ∃ o : ByteArray, o = ⟨(Jl [95] init).toArray⟩ := ⟨_, rfl⟩
              obtain ⟨s2, hs2⟩ : ∃ o : ByteArray, o = ⟨(rest last.data.toList (raw us) ++ tl cum kind).toArray⟩ := ⟨_, rfl⟩
              have HS1 := Lib.hid hs1
              have HS2 := Lib.hid hs2
              clear hs1 hs2
              go_wp2_with fail
              refine (CI.out _).mono ?_
              rintro e w4 ⟨rfl, hb4⟩
              have e1 : (⟨(J [95] ((raw init).map line)).toArray⟩ : ByteArray) = s1 := HS1.out.symm
              rw [e1, ← HS2.out]
              have hb4' := HB3.out.trans (hb4.mono HB3.out.size)
              have CS := HCSp.out w4 (HPs3.out.below hb4) (HUs3.out.below hb4) HPt2.out HUt2.out hupos
              have HCS := Lib.hid CS
              have HB4 := Lib.hid hb4'
              clear e1 hb4 hb4' CS
              cases k1 : okB kind with
              | false =>
                have hk3 : kind < 1 ∨ (¬ kind < 1 ∧ 3 < kind) := by
                  unfold okB at k1
                  simp at k1
                  omega
                clear k1
                rcases hk3 with hk3 | ⟨hk2, hk3⟩
                · go_wp2
                  go_ret
                  exact ⟨rfl, HB4.out⟩
                · go_wp2
                  go_ret
                  exact ⟨rfl, HB4.out⟩
              | true =>
                have hk3 : 1 ≤ kind ∧ kind ≤ 3 := by
                  unfold okB at k1
                  simp at k1
                  omega
                obtain ⟨hk2, hk3⟩ := hk3
                have q1 : (s1.toList == s1.toList) = true := beq_self_eq_true _
                have q2 : (s2.toList == s2.toList) = true := beq_self_eq_true _
                clear k1
                go_wp2_with fail
                refine HCS.out.mono ?_
                rintro e w5 ⟨rfl, rfl⟩
                rw [← HS1.out, show (List.map (fun x : ByteArray => x.data.toList) us) = raw us from rfl, ← HS2.out]
                go_wp2
                go_ret
                exact ⟨rfl, HB4.out⟩

end Go.Proofs.Ytkmfedmiaannfaa.RuntimeName
