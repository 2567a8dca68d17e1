/- FnAcceptRoads: what is chosen is what the entries that are read choose. -/
import Derived.Test.YtkmfedmiaannfaaNegB
import Derived.Test.YtkmfedmiaannfaaAwk
import Derived.Test.YtkmfedmiaannfaaSlB
import Derived.Deep.RegionLaw
import Derived.Deep.AppendLies
set_option linter.unusedVariables false
set_option linter.unusedSimpArgs false
namespace Go.Proofs.Ytkmfedmiaannfaa.AcceptRoads
open Go.RowKit Go.ChangeShapes Go.WideShapes Go.Deep Plf Oct _root_.Go.Proofs.Ytkmfedmiaannfaa.Acc

/-- a list of strings of bulk at most 1048576 -/
def Few (zs : List ByteArray) : Prop := (zs.map (fun z => z.size + 1)).sum ≤ 1048576
theorem sum_part : ∀ {zs : List ByteArray} {z : ByteArray}, z ∈ zs → z.size + 1 ≤ (zs.map (fun z => z.size + 1)).sum
  | [], z, h => by simp at h
  | y :: zs, z, h => by
    simp only [List.map_cons, List.sum_cons]
    rcases List.mem_cons.1 h with rfl | h
    · omega
    · have := sum_part h; omega
theorem sum_len : ∀ zs : List ByteArray, zs.length ≤ (zs.map (fun z => z.size + 1)).sum
  | [] => by simp
  | y :: zs => by
    have := sum_len zs
    simp only [List.map_cons, List.sum_cons, List.length_cons]
    omega

theorem parse_count (n : Nat) : ∀ l : List UInt8, (parse n l).length ≤ l.length := by
  induction n with
  | zero => intro l; exact Nat.zero_le _
  | succ n ih =>
    intro l
    show (match entry l with | none => ([] : List E) | some (e, r) => match more r with | none => [e] | some l' => e :: parse n l').length ≤ _
    cases he : entry l with
    | none => exact Nat.zero_le _
    | some p =>
      obtain ⟨e, r⟩ := p
      have h1 := entry_len he
      show (match more r with | none => [e] | some l' => e :: parse n l').length ≤ _
      cases hm : more r with
      | none => show 1 ≤ _; omega
      | some l' =>
        have h2 := more_len hm
        have h3 := ih l'
        show (parse n l').length + 1 ≤ _
        omega
theorem rest_count : ∀ zs : List ByteArray, (zs.flatMap (fun s => parseS s.data.toList)).length ≤ (zs.map (fun z => z.size + 1)).sum
  | [] => by simp
  | z :: zs => by
    have h1 := rest_count zs
    have h2 : (parseS z.data.toList).length ≤ z.size := by rw [Lib.size_eq]; exact parse_count _ _
    rw [List.flatMap_cons, List.length_append]
    simp only [List.map_cons, List.sum_cons]
    omega

set_option maxRecDepth 100000 in
theorem read0 {H : Type} {enc : TypeId × Value → H} {W : World} {base b0 : Nat} {held : Bool} {r : Reach} {v : Value} {d : DataW H} {p : List MemPlace}
    (hv : Value.okWide Try.prog W r b0 22 v) (h : DataW.Trod enc Try.prog W base (fun _ => true) held 22 v d p) (hb : Rows.uptoBulk d ≤ 1048576) : ∃ zs : List ByteArray, Sl.Of Value.string W v zs ∧ Few zs := by
  obtain ⟨zs, h1, _, h2⟩ := Sl.open_strings_bulk Try.underlying22 Try.underlying9 (by kernel_rfl) hv h
  exact ⟨zs, h1, Nat.le_trans h2 hb⟩
set_option maxRecDepth 100000 in
theorem read1 {H : Type} {enc : TypeId × Value → H} {W : World} {base b0 : Nat} {held : Bool} {r : Reach} {v : Value} {d : DataW H} {p : List MemPlace}
    (hv : Value.okWide Try.prog W r b0 22 v) (h : DataW.Trod enc Try.prog W base (fun _ => true) held 22 v d p) (hb : Rows.uptoBulk d ≤ 1048576) : ∃ zs : List ByteArray, Sl.Of Value.string W v zs ∧ Few zs := read0 hv h hb

theorem infoC : (Try.prog.info? 30).map (fun i => (i.zero, i.size, i.bytes)) = some (some (.agg #[.string ⟨#[]⟩, .float .f64 0]), 2, 24) := by kernel_rfl

/-- the first k entries, copied -/
def Taken (W : World) (qs : List M) (k : Nat) (v : Value) (wr : World) : Prop :=
  wr.ownsRow W.heap.size 30 2 v k ((qs.take k).flatMap cells) ∧ Below W.heap.size W wr

set_option maxHeartbeats 8000000 in
set_option maxRecDepth 100000 in
theorem law_any (v v1 : Value) (w : World) (hv : ∃ zs : List ByteArray, Sl.Of Value.string w v zs ∧ Few zs) (hv1 : ∃ zs : List ByteArray, Sl.Of Value.string w v1 zs ∧ Few zs) :
    Calls Try.prog 3 #[v, v1] w fun e w' => e = .returned (.bool true) ∧ Below w.heap.size w w' := by
  obtain ⟨zs, hof, hf⟩ := hv
  obtain ⟨os, hos, hfo⟩ := hv1
  have hlen := Nat.le_trans (sum_len zs) hf
  have hleno := Nat.le_trans (sum_len os) hfo
  have hsz : ∀ z ∈ zs, z.size ≤ 2147483647 := fun z hz => by have := Nat.le_trans (sum_part hz) hf; omega
  have hszo : ∀ z ∈ os, z.size ≤ 2147483647 := fun z hz => by have := Nat.le_trans (sum_part hz) hfo; omega
  have hT : (restOf zs 0).length ≤ 1048576 := Nat.le_trans (by unfold restOf; rw [List.drop_zero]; exact rest_count zs) hf
  obtain ⟨i0, hi, hz0, hz1, hz2⟩ := info_parts infoC
  have CF1 := Lib.hid (fits3_any v zs w hof (by omega) hsz)
  have CF2 := Lib.hid (fits3_any v1 os w hos (by omega) hszo)
  have CI := Lib.hid (impl_any v zs w hof (fun z hz => by have := hsz z hz; omega) (by omega))
  have HSz := Lib.hid hsz
  have HOf := Lib.hid hof
  have HOs := Lib.hid hos
  have CA := Lib.hid awake_any
  clear hof hos hf hfo hlen hleno hsz hszo
  go_enter Try.func3, Try.ntmps3
  go_wp2_with fail
  refine CF1.out.mono ?_
  rintro e w1 ⟨rfl, rfl⟩
  go_wp2_with fail
  refine CF2.out.mono ?_
  rintro e w1 ⟨rfl, rfl⟩
  go_wp2_with fail
  refine CI.out.mono ?_
  rintro e W ⟨v2, qs, rfl, hq, hden, hb⟩
  have hql : qs.length ≤ 1048576 := by rw [← hden, List.length_map] at hT; exact hT
  obtain ⟨aq, cq, hv2, _, _⟩ := hq.slice
  subst hv2
  have HQ := Lib.hid hq
  have HDen := Lib.hid hden
  have HB := Lib.hid hb
  have HT := Lib.hid hT
  clear hq hden hb hT CF1 CF2 CI
  go_wp2
  go_loopw [5, 7] (fun x i wr => ∃ k : Nat, k ≤ qs.length ∧ i = .int .i64 k ∧ Hid (Taken W qs k x wr)) (fun _ i _ => qs.length - (intOf i).toNat)
  case atStart => exact ⟨0, Nat.zero_le _, rfl, by rw [List.take_zero]; exact World.ownsRow_nil _ _ _ _, Below.refl _ _⟩
  case round =>
    obtain ⟨k, hk, rfl, htk⟩ := hrel
    obtain ⟨hown, hbw⟩ := htk.out
    clear htk
    by_cases hlt : k < qs.length
    · obtain ⟨b, off, haq, hbb, d0, d1⟩ : ∃ b off, aq = some ⟨b, off, none⟩ ∧ b < W.heap.size ∧ W.cell? ⟨b, off + k * 2, none⟩ = some (.string qs[k].1) ∧ W.cell? ⟨b, off + k * 2 + 1, none⟩ = some (.float .f64 qs[k].2) := by
        rcases HQ.out with ⟨h, _⟩ | ⟨b, off, cap, h, h0, hcap, hm, hbb, hcell⟩
        · rw [h] at hlt; simp at hlt
        · injection h with h1 h2 h3
          exact ⟨b, off, h1, hbb, hcell k hlt 0 _ rfl, by rw [Nat.add_assoc]; exact hcell k hlt 1 _ rfl⟩
      subst haq
      have c0 : wr.drew.cell? ⟨b, off + k * 2, none⟩ = some (.string qs[k].1) := by
        show wr.cell? _ = _
        rw [hbw.cell (p := ⟨b, off + k * 2, none⟩) hbb]; exact d0
      have c1 : wr.drew.cell? ⟨b, off + k * 2 + 1, none⟩ = some (.float .f64 qs[k].2) := by
        show wr.cell? _ = _
        rw [hbw.cell (p := ⟨b, off + k * 2 + 1, none⟩) hbb]; exact d1
      have hstep : (qs.take (k + 1)).flatMap cells = (qs.take k).flatMap cells ++ cells qs[k] := by
        rw [List.take_succ_eq_append_getElem hlt, List.flatMap_append]
        simp
      obtain ⟨x, hx⟩ : ∃ x, qs[k].1 = x := ⟨_, rfl⟩
      obtain ⟨q, hq⟩ : ∃ q, qs[k].2 = q := ⟨_, rfl⟩
      have hcz : cells qs[k] = [.string x, .float .f64 q] := by unfold cells; rw [hx, hq]
      rw [hcz] at hstep
      rw [hx] at c0
      rw [hq] at c1
      have HS := Lib.hid hstep
      have hown1 : wr.drew.ownsRow W.heap.size 30 2 u5 k ((qs.take k).flatMap cells) := hown
      have hbw1 : Below W.heap.size W wr.drew := hbw.drew
      clear hstep d0 d1 hx hq hcz hown hbw
      have hnews : ∀ j u, [Value.string x, Value.float .f64 q][j]? = some u → (wr.drew.alloc (.cells #[.string x, .float .f64 q] 30)).cell? ((⟨wr.heap.size, 0, none⟩ : Addr).add j) = some u := Ss.news_one wr.drew #[.string x, .float .f64 q] 30
      have hone : ∀ u ∈ [Value.string x, Value.float .f64 q], u.oneCell' = true := by intro u hu; simp at hu; rcases hu with rfl | rfl <;> rfl
      have hown2 := hown1.alloc (.cells #[.string x, .float .f64 q] 30)
      have hb63 : k + 1 ≤ maxLen := by unfold maxLen; omega
      have hby : (k + 1) * 24 ≤ 140737488355328 := by omega
      have hbase : W.heap.size ≤ (wr.drew.alloc (.cells #[.string x, .float .f64 q] 30)).heap.size := by have := hbw1.size; simp at this ⊢; omega
      have HNews := Lib.hid hnews
      have HOne := Lib.hid hone
      have HOwn := Lib.hid hown2
      have HBase := Lib.hid hbase
      have H63 := Lib.hid hb63
      clear hnews hone hown2 hbase hb63
      go_wp2
      go_region_law (refine step_append_lies _ rfl (.tmp 24) (.tmp 36) 24 rfl W.heap.size 30 i0 (.agg #[.string ⟨#[]⟩, .float .f64 0]) 2 24 Try.underlying24 hi hz0 hz1 hz2 rfl (by decide) _ _ _ (by simp [Act.eval, Act.put]) HOwn.out ⟨wr.heap.size, 0, none⟩ 1 1 [.string x, .float .f64 q] (by simp [Act.eval, Act.put]) rfl HNews.out HOne.out (by decide) H63.out hby HBase.out _ rfl ?_; intro g3 cap3 w3 hown3 hgrow hg3 hlt3)
      all_goals
        have hb3 : Below W.heap.size W w3 := (hbw1.alloc hbw1.size (.cells #[.string x, .float .f64 q] 30)).grown hgrow HBase.out (fun j hj => (hown1.lt j hj).1)
        have hfin : Hid (Taken W qs (k + 1) (.slice (some ⟨g3, 0, none⟩) (k + 1) cap3) w3) := by
          refine ⟨?_, hb3⟩
          rw [HS.out]
          exact hown3
        clear hown3 hb3 hgrow hown1 hbw1 hg3 hlt3
        go_wp2
        go_roundw
        case rel => exact ⟨k + 1, by omega, by go_num, hfin⟩
        case measure => simp [intOf]; omega
    · have hkn : k = qs.length := by omega
      have hown2 : wr.ownsRow W.heap.size 30 2 u5 qs.length (qs.flatMap cells) := by
        have := hown
        rw [hkn, List.take_length] at this
        exact this
      have hof := Ss.Of.own cells_len hown2
      obtain ⟨a4, c4, h4, _, _⟩ := hof.slice
      have HOf2 := Lib.hid hof
      have b1 : Below w.heap.size w wr := HB.out.trans (hbw.mono HB.out.size)
      have hl1 := HOf.out.below b1
      have ho1 := HOs.out.below b1
      have CN := Lib.hid (thin_any v v1 zs os wr hl1 (fun z hz => by have := HSz.out z hz; omega) (by have := HT.out; omega) ho1)
      have HB1 := Lib.hid b1
      clear hown2 hown hof hbw hl1 ho1 b1 hkn
      subst h4
      go_wp2_with fail
      refine CN.out.mono ?_
      rintro e w4 ⟨rfl, hb4⟩
      have b2 := HB1.out.trans (hb4.mono HB1.out.size)
      have CS := spec_any _ v1 qs os w4 (HOf2.out.below hb4) (HOs.out.below b2)
      rw [HDen.out] at CS
      have CS := Lib.hid CS
      have HB2 := Lib.hid b2
      obtain ⟨res, hres⟩ : ∃ res, finalE (restOf zs 0) os = res := ⟨_, rfl⟩
      rw [hres] at CS ⊢
      clear hb4 b2 hres
      go_wp2_with fail
      refine CS.out.mono ?_
      rintro e w5 ⟨rfl, hb5⟩
      have b3 := HB2.out.trans (hb5.mono HB2.out.size)
      have HB3 := Lib.hid b3
      have hself : (res.toList == res.toList) = true := beq_self_eq_true _
      clear hb5 b3
      go_wp2_with fail
      refine (CA.out _).mono ?_
      rintro e w6 ⟨rfl, hb6⟩
      have b4 := HB3.out.trans (hb6.mono HB3.out.size)
      clear hb6
      go_wp2
      go_ret
      exact ⟨rfl, b4⟩

end Go.Proofs.Ytkmfedmiaannfaa.AcceptRoads
