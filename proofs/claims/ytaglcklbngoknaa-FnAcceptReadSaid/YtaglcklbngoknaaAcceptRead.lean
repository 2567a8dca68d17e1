/- FnAcceptRead: an Accept header written in two lines is read as its entries say. -/
import Derived.Test.YtaglcklbngoknaaAccZ
set_option linter.unusedVariables false
set_option linter.unusedSimpArgs false
namespace Go.Proofs.Ytaglcklbngoknaa.AcceptRead
open Go.RowKit Go.ChangeShapes Go.WideShapes Go.Deep Plf Oct _root_.Go.Proofs.Ytaglcklbngoknaa.Acc

set_option maxRecDepth 100000 in
theorem read0 {H : Type} {enc : TypeId × Value → H} {W : World} {base b0 : Nat} {held : Bool} {r : Reach} {v : Value} {d : DataW H} {p : List MemPlace}
    (hv : Value.okWide Try.prog W r b0 41 v) (h : DataW.Trod enc Try.prog W base (fun _ => true) held 41 v d p) :
    ∃ zs : List B2, Ss.Of 2 cells2 W v zs ∧ ∀ z ∈ zs, z.1.size ≤ 9223372036854775807 ∧ z.2.size ≤ 9223372036854775807 := by
  refine Ss.open_of 2 cells2 cells2_len _ Try.underlying41 Try.underlying57 (by kernel_rfl) (by kernel_rfl) rfl (by decide) ?_ hv h
  intro n V hV
  obtain ⟨y0, h0⟩ := hV 0 _ rfl
  obtain ⟨y1, h1⟩ := hV 1 _ rfl
  obtain ⟨s0, e0, _, w0⟩ := DataW.trod_string Try.underlying9 h0
  obtain ⟨s1, e1, _, w1⟩ := DataW.trod_string Try.underlying9 h1
  simp only [List.cons.injEq, and_true] at e0 e1
  refine ⟨(s0, s1), ?_, by unfold maxLen at w0; omega, by unfold maxLen at w1; omega⟩
  intro j u hu
  match j, hu with
  | 0, hu => injection hu with hu; rw [e0, ← hu]
  | 1, hu => injection hu with hu; rw [e1, ← hu]
  | j + 2, hu => cases hu

theorem seg_len (z : B2) (h1 : z.1.size ≤ 2147483647) (h2 : z.2.size ≤ 5) : (seg (toQ z)).length ≤ 2147483655 := by
  unfold seg toQ
  rw [Lib.size_eq] at h1 h2
  rw [List.length_append]
  split
  · simp only [List.length_nil]; omega
  · rw [List.length_append]; simp only [List.length_cons, List.length_nil]; omega
theorem tail_len (gap : List UInt8) (hg : gap.length ≤ 1) : ∀ zs : List B2, (∀ z ∈ zs, z.1.size ≤ 2147483647) → (∀ z ∈ zs, z.2.size ≤ 5) → (lineTail gap (zs.map toQ)).length ≤ zs.length * 2147483657
  | [], _, _ => by simp [lineTail]
  | z :: zs, h1, h2 => by
    have ih := tail_len gap hg zs (fun y hy => h1 y (List.mem_cons_of_mem _ hy)) (fun y hy => h2 y (List.mem_cons_of_mem _ hy))
    have hs := seg_len z (h1 z (by simp)) (h2 z (by simp))
    have e : lineTail gap ((z :: zs).map toQ) = [44] ++ gap ++ seg (toQ z) ++ lineTail gap (zs.map toQ) := by unfold lineTail; simp
    rw [e, List.length_append, List.length_append, List.length_append, List.length_cons]
    simp only [List.length_cons, List.length_nil]
    omega
theorem line_len (gap : List UInt8) (hg : gap.length ≤ 1) (zs : List B2) (h1 : ∀ z ∈ zs, z.1.size ≤ 2147483647) (h2 : ∀ z ∈ zs, z.2.size ≤ 5) : (line gap (zs.map toQ)).length ≤ zs.length * 2147483657 := by
  cases zs with
  | nil => simp [line]
  | cons z zs =>
    have ih := tail_len gap hg zs (fun y hy => h1 y (List.mem_cons_of_mem _ hy)) (fun y hy => h2 y (List.mem_cons_of_mem _ hy))
    have hs := seg_len z (h1 z (by simp)) (h2 z (by simp))
    show (seg (toQ z) ++ lineTail gap (zs.map toQ)).length ≤ _
    rw [List.length_append, List.length_cons]
    omega

theorem says_num {e : Q} {z : M} (h : Says e (den z)) : isNan D z.2 = false := by
  have hc : ∃ x, canon z.2 = some x := by
    by_cases he : e.2 = []
    · exact ⟨_, h.no he⟩
    · obtain ⟨_, _, x, _, _, _, hx⟩ := h.yes he
      exact ⟨x, hx⟩
  obtain ⟨x, hx⟩ := hc
  unfold canon at hx
  cases hn : isNan D z.2 with
  | false => rfl
  | true => rw [hn] at hx; cases hx
theorem all_num : ∀ {l : List Q} {qs : List M}, All2 Says l (qs.map den) → ∀ z ∈ qs, isNan D z.2 = false
  | [], [], _, z, hz => by simp at hz
  | [], _ :: _, h, _, _ => by cases h
  | _ :: _, [], h, _, _ => by cases h
  | e :: l, q :: qs, h, z, hz => by
    cases h with
    | cons h1 h2 =>
      rcases List.mem_cons.1 hz with rfl | hz
      · exact says_num h1
      · exact all_num h2 z hz
theorem same_list : ∀ {a b : List M}, a.map den = b.map den → (∀ z ∈ a, isNan D z.2 = false) → a = b
  | [], [], _, _ => rfl
  | [], _ :: _, h, _ => by cases h
  | _ :: _, [], h, _ => by cases h
  | x :: a, y :: b, h, hn => by
    injection h with h1 h2
    rw [den_eq h1 (hn x (by simp)), same_list h2 (fun z hz => hn z (List.mem_cons_of_mem _ hz))]

theorem all_len {l : List Q} {m : List E} (h : All2 Says l m) : l.length = m.length := by
  induction h with
  | nil => rfl
  | cons _ _ ih => simp [ih]

set_option maxHeartbeats 4000000 in
set_option maxRecDepth 100000 in
theorem law_any (v : Value) (c : Int) (blank : Bool) (w : World) (hv : ∃ zs : List B2, Ss.Of 2 cells2 w v zs ∧ ∀ z ∈ zs, z.1.size ≤ 9223372036854775807 ∧ z.2.size ≤ 9223372036854775807) (hc : (Lit.int .u8 c).wf = true) :
    Calls Try.prog 8 #[v, .int .u8 c, .bool blank] w fun e w' => e = .returned (.bool true) ∧ Below w.heap.size w w' := by
  obtain ⟨zs, hof, hsz⟩ := hv
  have hc2 : 0 ≤ c ∧ c < 256 := by
    simp [Lit.wf, IntKind.min, IntKind.max, IntKind.signed, IntKind.bits] at hc
    omega
  obtain ⟨n, rfl⟩ : ∃ n : Nat, c = n := ⟨c.toNat, by omega⟩
  have hn : n < 256 := by omega
  have hslice := hof.slice
  obtain ⟨a0, cap0, hv0, _, _⟩ := hslice
  subst hv0
  have CF := Lib.hid (fits1_any _ zs w hof)
  have HOf := Lib.hid hof
  have HSz := Lib.hid hsz
  have CA := Lib.hid awake_any
  clear hof hsz hc hc2
  go_enter Try.func8, Try.ntmps8
  go_wp2_with fail
  refine CF.out.mono ?_
  rintro e w1 (⟨rfl, hlen, hsmall, b1⟩ | ⟨rfl, b1⟩)
  · have hof1 := HOf.out.below b1
    have CL := Lib.hid (all_any _ zs w1 hof1 hlen (fun z hz => (HSz.out z hz).1) (fun z hz => (HSz.out z hz).2))
    have HSmall := Lib.hid hsmall
    clear hof1 hsmall
    go_wp2_with fail
    refine CL.out.mono ?_
    rintro e w2 (⟨v2, qs, rfl, hq, hall, h5, b2⟩ | ⟨rfl, b2⟩)
    · have b12 : Below w.heap.size w w2 := b1.trans (b2.mono b1.size)
      have hof2 := HOf.out.below b12
      have CLn := Lib.hid (lines_any _ zs n blank w2 hn hof2 hlen (fun z hz => (HSmall.out z hz).1) h5)
      obtain ⟨a2, cap2, hv2, _, _⟩ := hq.slice
      subst hv2
      have HQ := Lib.hid hq
      have HAll := Lib.hid hall
      have H5 := Lib.hid h5
      clear hof2 hq hall h5
      go_wp2_with fail
      refine CLn.out.mono ?_
      rintro e w3 ⟨v3, rfl, hln, b3⟩
      have b13 : Below w.heap.size w w3 := b12.trans (b3.mono b12.size)
      have hgap : (gapOf blank).data.toList = [] ∨ (gapOf blank).data.toList = [32] := by cases blank <;> first | exact Or.inl rfl | exact Or.inr rfl
      have hg1 : (gapOf blank).data.toList.length ≤ 1 := by cases blank <;> decide
      have hrest : restOf [⟨(line (gapOf blank).data.toList ((zs.take (n % (zs.length + 1))).map toQ)).toArray⟩, ⟨(line (gapOf blank).data.toList ((zs.drop (n % (zs.length + 1))).map toQ)).toArray⟩] 0 = qs.map den := by
        unfold restOf
        show parseS (line (gapOf blank).data.toList ((zs.take (n % (zs.length + 1))).map toQ)) ++ (parseS (line (gapOf blank).data.toList ((zs.drop (n % (zs.length + 1))).map toQ)) ++ []) = _
        rw [List.append_nil, List.map_take, List.map_drop]
        exact parse_lines hgap _ _ HAll.out _
      have hlenq : qs.length = zs.length := by
        have := all_len HAll.out
        rw [List.length_map, List.length_map] at this
        exact this.symm
      have CI := impl_any v3 _ w3 hln (by
        intro s hs
        have hk : ∀ l : List B2, l.length ≤ zs.length → (∀ z ∈ l, z ∈ zs) → (⟨(line (gapOf blank).data.toList (l.map toQ)).toArray⟩ : ByteArray).size ≤ 9223372036854775807 := by
          intro l hl hm
          rw [Lib.size_eq]
          show (line (gapOf blank).data.toList (l.map toQ)).length ≤ _
          have := line_len _ hg1 l (fun z hz => (HSmall.out z (hm z hz)).1) (fun z hz => H5.out z (hm z hz))
          omega
        rcases List.mem_cons.1 hs with rfl | hs
        · exact hk _ (by rw [List.length_take]; omega) (fun z hz => List.mem_of_mem_take hz)
        · rw [List.mem_singleton.1 hs]
          exact hk _ (by rw [List.length_drop]; omega) (fun z hz => List.mem_of_mem_drop hz)) (by rw [hrest, List.length_map, hlenq]; omega)
      rw [hrest] at CI
      have CI := Lib.hid CI
      obtain ⟨a3, cap3, hv3⟩ : ∃ a cap, v3 = .slice a 2 cap := by
        rcases hln with ⟨h, _⟩ | ⟨b, off, cap, rfl, _⟩
        · cases h
        · exact ⟨_, _, rfl⟩
      subst hv3
      have HRest := Lib.hid hrest
      clear hln hrest hgap hg1 hlenq
      go_wp2_with fail
      refine CI.out.mono ?_
      rintro e w4 ⟨v4, qs4, rfl, hq4, hd4, b4⟩
      have heq : qs = qs4 := same_list hd4.symm (all_num HAll.out)
      subst heq
      have b14 : Below w.heap.size w w4 := b13.trans (b4.mono b13.size)
      have hq2 := (HQ.out.below b3).below b4
      have CS := Lib.hid (same_any _ _ qs w4 hq4 hq2 (all_num HAll.out))
      obtain ⟨a4, cap4, hv4, _, _⟩ := hq4.slice
      subst hv4
      clear hq4 hd4 hq2
      go_wp2_with fail
      refine CS.out.mono ?_
      rintro e w5 ⟨rfl, b5⟩
      have b15 : Below w.heap.size w w5 := b14.trans (b5.mono b14.size)
      go_wp2_with fail
      refine (CA.out _).mono ?_
      rintro e w6 ⟨rfl, b6⟩
      have b16 : Below w.heap.size w w6 := b15.trans (b6.mono b15.size)
      clear b1 b2 b3 b4 b5 b6 b12 b13 b14 b15
      go_wp2
      go_ret
      exact ⟨rfl, b16⟩
    · go_wp2_with fail
      refine (CA.out _).mono ?_
      rintro e w3 ⟨rfl, b3⟩
      have b13 : Below w.heap.size w w3 := (b1.trans (b2.mono b1.size)).trans (b3.mono (Nat.le_trans b1.size b2.size))
      clear b1 b2 b3
      go_wp2
      go_ret
      exact ⟨rfl, b13⟩
  · go_wp2
    go_ret
    exact ⟨rfl, b1⟩

end Go.Proofs.Ytaglcklbngoknaa.AcceptRead
