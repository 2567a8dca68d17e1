/- The walk of spec's AcceptAll. -/
import Derived.Test.YtaglcklbngoknaaAccW
import Derived.Test.YtaglcklbngoknaaPAcc
set_option linter.unusedVariables false
set_option linter.unusedSimpArgs false
namespace Go.Proofs.Ytaglcklbngoknaa.Acc
open Go.RowKit Plf Oct

theorem infoB : (Try.prog.info? 60).map (fun i => (i.zero, i.size, i.bytes)) = some (some (.agg #[.string ⟨#[]⟩, .float .f64 0]), 2, 24) := by kernel_rfl

theorem All2.snoc {α β : Type} {R : α → β → Prop} {l : List α} {m : List β} (h : All2 R l m) {a : α} {b : β} (h2 : R a b) : All2 R (l ++ [a]) (m ++ [b]) := by
  induction h with
  | nil => exact All2.cons h2 All2.nil
  | cons h1 _ ih => exact All2.cons h1 ih

/-- the entries so far -/
def Taken (w : World) (zs : List B2) (k : Nat) (v : Value) (wr : World) : Prop :=
  ∃ qs : List M, qs.length = k ∧ wr.ownsRow w.heap.size 60 2 v k (qs.flatMap cells) ∧ All2 Says ((zs.take k).map toQ) (qs.map den) ∧ (∀ z ∈ zs.take k, z.2.size ≤ 5) ∧ Below w.heap.size w wr

/-- what AcceptAll hands back -/
def AllBack (zs : List B2) (w : World) (e : Ending) (w' : World) : Prop :=
  (∃ v qs, e = .returned (.tuple #[v, .bool true]) ∧ Ss.Of 2 cells w' v qs ∧ All2 Says (zs.map toQ) (qs.map den) ∧ (∀ z ∈ zs, z.2.size ≤ 5) ∧ Below w.heap.size w w') ∨
  (e = .returned (.tuple #[.slice none 0 0, .bool false]) ∧ Below w.heap.size w w')

theorem thou_len {l : List UInt8} (h : (thou l).2 = true) : l.length ≤ 5 := by
  obtain ⟨ds, hg⟩ := thou_good h
  exact (good_drop hg).2.2.2.2

set_option maxHeartbeats 8000000 in
set_option maxRecDepth 100000 in
theorem all_any (v : Value) (zs : List B2) (w : World) (hv : Ss.Of 2 cells2 w v zs) (hn : zs.length ≤ 2147483647)
    (h1 : ∀ z ∈ zs, z.1.size ≤ 9223372036854775807) (h2 : ∀ z ∈ zs, z.2.size ≤ 9223372036854775807) :
    Calls Try.prog 23 #[v] w (AllBack zs w) := by
  obtain ⟨i0, hi, hz0, hz1, hz2⟩ := info_parts infoB
  rcases hv with ⟨rfl, a, cap, rfl, hcap⟩ | ⟨b, off, cap, rfl, h0, hcap, hm, hb, hcell⟩
  · clear h1 h2
    go_enter Try.func23, Try.ntmps23
    go_wp2
    go_loopw [4, 5] (fun t i wr => t = .slice none 0 0 ∧ i = .int .i64 0 ∧ w = wr) (fun _ _ _ => 0)
    case atStart => exact ⟨rfl, rfl, rfl⟩
    case round =>
      obtain ⟨rfl, rfl, rfl⟩ := hrel
      go_wp2
      go_ret2
      exact Or.inl ⟨_, [], rfl, Ss.Of.nil, All2.nil, by simp, Below.refl _ _⟩
  · have Hcell := Lib.hid hcell
    have H1 := Lib.hid h1
    have H2 := Lib.hid h2
    clear hcell h1 h2
    go_enter Try.func23, Try.ntmps23
    go_wp2
    go_loopw [4, 5] (fun t i wr => ∃ k : Nat, k ≤ zs.length ∧ i = .int .i64 k ∧ Hid (Taken w zs k t wr)) (fun _ i _ => zs.length - (intOf i).toNat)
    case atStart => exact ⟨0, Nat.zero_le _, rfl, [], rfl, World.ownsRow_nil _ _ _ _, All2.nil, by simp, Below.refl _ _⟩
    case round =>
      obtain ⟨k, hk, rfl, htk⟩ := hrel
      obtain ⟨qs, hql, hown, hall, hsmall, hbw⟩ := htk.out
      clear htk
      have HQL := Lib.hid hql
      have HAll := Lib.hid hall
      have HSm := Lib.hid hsmall
      clear hql hall hsmall
      by_cases hlt : k < zs.length
      · have htake : zs.take (k + 1) = zs.take k ++ [zs[k]] := List.take_succ_eq_append_getElem hlt
        have hl1 := H1.out _ (List.getElem_mem hlt)
        have hl2 := H2.out _ (List.getElem_mem hlt)
        have c0 : wr.cell? ⟨b, off + k * 2, none⟩ = some (.string zs[k].1) := by
          rw [hbw.cell (p := ⟨b, off + k * 2, none⟩) hb]; exact Hcell.out k hlt 0 _ rfl
        have c1 : wr.cell? ⟨b, off + k * 2 + 1, none⟩ = some (.string zs[k].2) := by
          rw [hbw.cell (p := ⟨b, off + k * 2 + 1, none⟩) hb, Nat.add_assoc]; exact Hcell.out k hlt 1 _ rfl
        have hbr : b < wr.heap.size := Nat.lt_of_lt_of_le hb hbw.size
        obtain ⟨y, hy⟩ : ∃ y, zs[k].1 = y := ⟨_, rfl⟩
        obtain ⟨d, hd⟩ : ∃ d, zs[k].2 = d := ⟨_, rfl⟩
        rw [hy] at c0 hl1
        rw [hd] at c1 hl2
        have hnext : ∀ q v' w', tokB y.data.toList = true → d.size ≤ 5 → Says (y.data.toList, d.data.toList) (den (y, q)) → w'.ownsRow w.heap.size 60 2 v' (k + 1) (qs.flatMap cells ++ [.string y, .float .f64 q]) → Below w.heap.size w w' → Hid (Taken w zs (k + 1) v' w') := by
          intro q v' w' ht hd5 hsay ho hb'
          refine ⟨qs ++ [(y, q)], by rw [List.length_append, HQL.out]; rfl, ?_, ?_, ?_, hb'⟩
          · rw [List.flatMap_append]; exact ho
          · rw [htake, List.map_append, List.map_append]
            refine HAll.out.snoc ?_
            show Says (zs[k].1.data.toList, zs[k].2.data.toList) _
            rw [hy, hd]; exact hsay
          · intro z hz
            rw [htake] at hz
            rcases List.mem_append.1 hz with hz | hz
            · exact HSm.out z hz
            · have := List.mem_singleton.1 hz
              rw [this, hd]; exact hd5
        have HNext := Lib.hid hnext
        have CTok := Lib.hid (token_any y hl1)
        clear hnext htake hy hd
        by_cases hde : d.data.toList = []
        · have e1 : d.toList = [] := by rw [Lib.toList_data, hde]
          have e2 : (!d.toList.isEmpty) = false := by rw [e1]; rfl
          have hd0 : d.size = 0 := by rw [Lib.size_eq, hde]; rfl
          have HDE := Lib.hid hde
          have HD0 := Lib.hid hd0
          have E1 := Lib.hid e1
          clear hde hd0 e1
          have hsf := @Flo.run_store_float Try.prog
          cases htb : tokB y.data.toList with
          | false =>
            have CT2 := CTok.out
            rw [htb] at CT2
            have CT3 := Lib.hid CT2
            clear CT2 htb
            go_wp2_with fail
            refine (CT3.out _).mono ?_
            rintro e w1 ⟨rfl, rfl⟩
            go_wp2
            go_ret2
            exact Or.inr ⟨rfl, hbw.alloc hbw.size _⟩
          | true =>
            have CT2 := CTok.out
            rw [htb] at CT2
            have CT3 := Lib.hid CT2
            have HTB := Lib.hid htb
            clear CT2 htb
            go_wp2_with fail
            refine (CT3.out _).mono ?_
            rintro e w1 ⟨rfl, rfl⟩
            have hown1 := hown.alloc (.cells #[.string y, .float .f64 4607182418800017408] 60)
            go_wp2_with (at_builtin; refine wpList_append_own _ rfl _ _ 43 rfl w.heap.size 60 i0 (.agg #[.string ⟨#[]⟩, .float .f64 0]) 2 24 Try.underlying43 hi hz0 hz1 hz2 rfl (by decide) _ _ _ rfl (hown1.alloc _) ⟨wr.heap.size + 1, 0, none⟩ 1 1 [.string y, .float .f64 4607182418800017408] rfl rfl ?a1 ?b1 ?c1 ?d1 ?e1 ?_)
            case a1 =>
              intro j u hu
              have h1 := Ss.news_one (wr.alloc (.cells #[.string y, .float .f64 4607182418800017408] 60)) #[.string y, .float .f64 4607182418800017408] 60 j u hu
              rw [show (wr.alloc (.cells #[.string y, .float .f64 4607182418800017408] 60)).heap.size = wr.heap.size + 1 by simp] at h1
              exact h1
            case b1 => intro u hu; simp at hu; rcases hu with rfl | rfl <;> rfl
            case c1 => unfold maxLen; omega
            case d1 => omega
            case e1 => have := hbw.size; simp; omega
            intro v2 w3 hown3 hgrow _
            have hb3 : Below w.heap.size w w3 := ((hbw.alloc hbw.size (.cells #[.string y, .float .f64 4607182418800017408] 60)).alloc (by have := hbw.size; simp; omega) (.cells #[.string y, .float .f64 4607182418800017408] 60)).grown hgrow (by have := hbw.size; simp; omega) (fun j hj => (hown1.lt j hj).1)
            have hfin := HNext.out _ v2 w3 HTB.out (by rw [HD0.out]; omega) ⟨HTB.out, rfl, fun _ => (by show canon 4607182418800017408 = _; decide +kernel), fun h => absurd HDE.out h⟩ hown3 hb3
            clear hown3 hb3 hgrow hown1 hown hbw hsf
            go_wp2
            go_roundw
            case rel => exact ⟨k + 1, by omega, by go_num, hfin⟩
            case measure => simp [intOf]; omega
        · have e1 : d.toList ≠ [] := by rw [Lib.toList_data]; exact hde
          have e2 : (!d.toList.isEmpty) = true := by cases h : d.toList with | nil => exact absurd h e1 | cons _ _ => rfl
          have e3 : d.toList.isEmpty = false := by cases h : d.toList with | nil => exact absurd h e1 | cons _ _ => rfl
          have HDE := Lib.hid hde
          clear hde e1
          have hsf := @Flo.run_store_float Try.prog
          have CThou := Lib.hid (thou_any d hl2)
          cases hok : (thou d.data.toList).2 with
          | false =>
            have CT2 := CThou.out
            rw [hok] at CT2
            have CT3 := Lib.hid CT2
            clear CT2 hok
            go_wp2_with fail
            refine (CT3.out _).mono ?_
            rintro e w1 ⟨rfl, rfl⟩
            go_wp2
            go_ret2
            exact Or.inr ⟨rfl, hbw.alloc hbw.size _⟩
          | true =>
            obtain ⟨whole, ds, q, hg, hsq, hlt0, hcall⟩ := quality_any d hl2 hok
            have hd5 : d.size ≤ 5 := by rw [Lib.size_eq]; exact thou_len hok
            have CT2 := CThou.out
            rw [hok] at CT2
            have CT4 := Lib.hid CT2
            have CQ := Lib.hid hcall
            have HG := Lib.hid hg
            have HSQ := Lib.hid hsq
            have HLT := Lib.hid hlt0
            have HD5 := Lib.hid hd5
            clear CT2 hok hg hsq hlt0 hcall hd5
            cases htb : tokB y.data.toList with
            | false =>
              have CT2 := CTok.out
              rw [htb] at CT2
              have CT3 := Lib.hid CT2
              clear CT2 htb
              go_wp2_with fail
              refine (CT4.out _).mono ?_
              rintro e w1 ⟨rfl, rfl⟩
              go_wp2_with fail
              refine (CQ.out _).mono ?_
              rintro e w1 ⟨rfl, rfl⟩
              go_wp2_with fail
              refine (CT3.out _).mono ?_
              rintro e w1 ⟨rfl, rfl⟩
              go_wp2
              go_ret2
              exact Or.inr ⟨rfl, hbw.alloc hbw.size _⟩
            | true =>
              have CT2 := CTok.out
              rw [htb] at CT2
              have CT3 := Lib.hid CT2
              have HTB := Lib.hid htb
              clear CT2 htb
              go_wp2_with fail
              refine (CT4.out _).mono ?_
              rintro e w1 ⟨rfl, rfl⟩
              go_wp2_with fail
              refine (CQ.out _).mono ?_
              rintro e w1 ⟨rfl, rfl⟩
              go_wp2_with fail
              refine (CT3.out _).mono ?_
              rintro e w1 ⟨rfl, rfl⟩
              have hown1 := hown.alloc (.cells #[.string y, .float .f64 q] 60)
              go_wp2_with (at_builtin; refine wpList_append_own _ rfl _ _ 43 rfl w.heap.size 60 i0 (.agg #[.string ⟨#[]⟩, .float .f64 0]) 2 24 Try.underlying43 hi hz0 hz1 hz2 rfl (by decide) _ _ _ rfl (hown1.alloc _) ⟨wr.heap.size + 1, 0, none⟩ 1 1 [.string y, .float .f64 q] rfl rfl ?a2 ?b2 ?c2 ?d2 ?e2 ?_)
              case a2 =>
                intro j u hu
                have h1 := Ss.news_one (wr.alloc (.cells #[.string y, .float .f64 q] 60)) #[.string y, .float .f64 q] 60 j u hu
                rw [show (wr.alloc (.cells #[.string y, .float .f64 q] 60)).heap.size = wr.heap.size + 1 by simp] at h1
                exact h1
              case b2 => intro u hu; simp at hu; rcases hu with rfl | rfl <;> rfl
              case c2 => unfold maxLen; omega
              case d2 => omega
              case e2 => have := hbw.size; simp; omega
              intro v2 w3 hown3 hgrow _
              have hb3 : Below w.heap.size w w3 := ((hbw.alloc hbw.size (.cells #[.string y, .float .f64 q] 60)).alloc (by have := hbw.size; simp; omega) (.cells #[.string y, .float .f64 q] 60)).grown hgrow (by have := hbw.size; simp; omega) (fun j hj => (hown1.lt j hj).1)
              have hfin := HNext.out q v2 w3 HTB.out HD5.out ⟨HTB.out, rfl, fun h => absurd h HDE.out, fun _ => ⟨whole, ds, q, HG.out, HSQ.out, HLT.out, canon_of (Rep.of q) (fun r h => by injection h with h; rw [← h]; exact specQ_num HSQ.out)⟩⟩ hown3 hb3
              clear hown3 hb3 hgrow hown1 hown hbw hsf
              go_wp2
              go_roundw
              case rel => exact ⟨k + 1, by omega, by go_num, hfin⟩
              case measure => simp [intOf]; omega
      · have hkn : k = zs.length := by omega
        subst hkn
        have hown2 : wr.ownsRow w.heap.size 60 2 u4 qs.length (qs.flatMap cells) := by rw [HQL.out]; exact hown
        have hof := Ss.Of.own cells_len hown2
        obtain ⟨a4, c4, h4, _, _⟩ := hof.slice
        have HOf := Lib.hid hof
        have hal : All2 Says (zs.map toQ) (qs.map den) := by have := HAll.out; rw [List.take_length] at this; exact this
        have hsm : ∀ z ∈ zs, z.2.size ≤ 5 := by have := HSm.out; rw [List.take_length] at this; exact this
        have HAl := Lib.hid hal
        have HSm2 := Lib.hid hsm
        have HB := Lib.hid hbw
        clear hown2 hown hof hbw hal hsm
        subst h4
        go_wp2
        go_ret2
        exact Or.inl ⟨_, qs, rfl, HOf.out, HAl.out, HSm2.out, HB.out⟩

end Go.Proofs.Ytaglcklbngoknaa.Acc
