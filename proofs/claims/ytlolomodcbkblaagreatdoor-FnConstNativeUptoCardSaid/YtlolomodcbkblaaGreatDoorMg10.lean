/- Spans: the map's keys, sorted, with their counts: the rising list. Contracts of the library's functions, laid by the shelf's own tool for this program: sort_Ints, sort_Ints_none. Spans: the map's keys, gathered and sorted. Spans: the state of the second loop, said of segments. -/
import Derived.Test.YtlolomodcbkblaaGreatDoorMg8
import Derived.Shelf.Sort.Plain
import Derived.Shelf.Slices.In.SortNone
import Derived.Shelf.Slices.In.SortNone2
import Derived.Test.YtlolomodcbkblaaGreatDoorProg
import Derived.Test.YtlolomodcbkblaaGreatDoorMg9
import Derived.Maps.RangeWalk
import Derived.Maps.OwnOps
import Derived.Sort.OwnSortedInts
set_option linter.unusedVariables false
set_option linter.unusedSimpArgs false
namespace Go.Proofs.YtlolomodcbkblaaGreatDoor.Sp

def withCount (L : List N2) (k : Int) : N2 := (k, (lastN L k).getD 0)
theorem rise_of (L : List N2) : ∀ (ss : List Int), ss.Pairwise (· < ·) → Rise (ss.map (withCount L))
  | [], _ => trivial
  | k :: ss, h => by
    rw [List.pairwise_cons] at h
    refine ⟨fun q hq => ?_, rise_of L ss h.2⟩
    obtain ⟨j, hj, rfl⟩ := List.mem_map.1 hq
    exact h.1 j hj
theorem strict_of : ∀ (ss : List Int), ss.Pairwise (· ≤ ·) → ss.Nodup → ss.Pairwise (· < ·)
  | [], _, _ => List.Pairwise.nil
  | k :: ss, h, hn => by
    rw [List.pairwise_cons] at h ⊢
    rw [List.nodup_cons] at hn
    refine ⟨fun j hj => ?_, strict_of ss h.2 hn.2⟩
    have h1 := h.1 j hj
    have h2 : k ≠ j := fun e => hn.1 (by rw [e]; exact hj)
    omega
/-- the keys as they were met, sorted -/
theorem sorted_keys {L : List N2} {ks : List Int} (hn : ks.Nodup) (hk : ∀ k, k ∈ ks ↔ (lastN L k).isSome = true) :
    Rise ((ks.mergeSort fun x y => decide (x ≤ y)).map (withCount L)) ∧ ∀ q, q ∈ (ks.mergeSort fun x y => decide (x ≤ y)).map (withCount L) ↔ lastN L q.1 = some q.2 := by
  have hp := List.mergeSort_perm ks (fun x y => decide (x ≤ y))
  have hs : (ks.mergeSort fun x y => decide (x ≤ y)).Pairwise (fun a b => decide (a ≤ b) = true) := List.pairwise_mergeSort (by intro a b c; simp; omega) (by intro a b; simp; omega) ks
  have hs2 : (ks.mergeSort fun x y => decide (x ≤ y)).Pairwise (· ≤ ·) := hs.imp (fun h => by simpa using h)
  refine ⟨rise_of L _ (strict_of _ hs2 (hp.nodup_iff.2 hn)), fun q => ?_⟩
  rw [List.mem_map]
  constructor
  · rintro ⟨k, hk2, rfl⟩
    have := (hk k).1 (hp.mem_iff.1 hk2)
    obtain ⟨v, hv⟩ := Option.isSome_iff_exists.1 this
    unfold withCount
    simp [hv]
  · intro h
    refine ⟨q.1, hp.mem_iff.2 ((hk q.1).2 (by rw [h]; rfl)), ?_⟩
    unfold withCount
    rw [h]; rfl

end Go.Proofs.YtlolomodcbkblaaGreatDoor.Sp

namespace Go.Proofs.YtlolomodcbkblaaGreatDoor.Sh
open Go.Shelf Go.Proofs
def lays191_ren : Go.Shelf.Ren := ⟨fun | 191 => 135 | 189 => 157 | 125 => 142 | 257 => 174 | 128 => 160 | 129 => 161 | 294 => 193 | 295 => 194 | 296 => 195 | 297 => 196 | 298 => 197 | 299 => 198 | 216 => 199 | 300 => 200 | 301 => 201 | 328 => 220 | 329 => 203 | 330 => 204 | 331 => 221 | 332 => 222 | 215 => 223 | 343 => 226 | n => n, fun | 28 => 329 | 0 => 0 | 3 => 3 | 46 => 343 | 51 => 254 | 53 => 31 | 4 => 4 | 183 => 374 | 182 => 373 | 131 => 365 | 5 => 5 | 9 => 9 | 218 => 398 | 222 => 383 | 228 => 412 | 229 => 402 | n => n, fun | n => n⟩
theorem lays191 : Go.Proofs.Lays.n191 Tryz.prog lays191_ren := {
  mixed := by kernel_rfl
  f125 := Tryz.func142.trans (congrArg some (by kernel_rfl))
  f128 := Tryz.func160.trans (congrArg some (by kernel_rfl))
  f129 := Tryz.func161.trans (congrArg some (by kernel_rfl))
  f189 := Tryz.func157.trans (congrArg some (by kernel_rfl))
  f191 := Tryz.func135.trans (congrArg some (by kernel_rfl))
  f215 := Tryz.func223.trans (congrArg some (by kernel_rfl))
  f216 := Tryz.func199.trans (congrArg some (by kernel_rfl))
  f257 := Tryz.func174.trans (congrArg some (by kernel_rfl))
  f294 := Tryz.func193.trans (congrArg some (by kernel_rfl))
  f295 := Tryz.func194.trans (congrArg some (by kernel_rfl))
  f296 := Tryz.func195.trans (congrArg some (by kernel_rfl))
  f297 := Tryz.func196.trans (congrArg some (by kernel_rfl))
  f298 := Tryz.func197.trans (congrArg some (by kernel_rfl))
  f299 := Tryz.func198.trans (congrArg some (by kernel_rfl))
  f300 := Tryz.func200.trans (congrArg some (by kernel_rfl))
  f301 := Tryz.func201.trans (congrArg some (by kernel_rfl))
  f328 := Tryz.func220.trans (congrArg some (by kernel_rfl))
  f329 := Tryz.func203.trans (congrArg some (by kernel_rfl))
  f330 := Tryz.func204.trans (congrArg some (by kernel_rfl))
  f331 := Tryz.func221.trans (congrArg some (by kernel_rfl))
  f332 := Tryz.func222.trans (congrArg some (by kernel_rfl))
  f343 := Tryz.func226.trans (congrArg some (by kernel_rfl))
  t0 := Tryz.underlying0
  a0 := Tryz.isAgg0
  z0 := Tryz.sizeOf0
  v0 := Tryz.zeroValue0
  t3 := Tryz.underlying3
  a3 := Tryz.isAgg3
  z3 := Tryz.sizeOf3
  v3 := Tryz.zeroValue3
  t4 := Tryz.underlying4
  a4 := Tryz.isAgg4
  z4 := Tryz.sizeOf4
  v4 := Tryz.zeroValue4
  t5 := Tryz.underlying5
  a5 := Tryz.isAgg5
  z5 := Tryz.sizeOf5
  v5 := Tryz.zeroValue5
  t9 := Tryz.underlying9
  a9 := Tryz.isAgg9
  z9 := Tryz.sizeOf9
  v9 := Tryz.zeroValue9
  t28 := Tryz.underlying329
  a28 := Tryz.isAgg329
  z28 := Tryz.sizeOf329
  v28 := Tryz.zeroValue329
  t46 := Tryz.underlying343
  a46 := Tryz.isAgg343
  z46 := Tryz.sizeOf343
  v46 := Tryz.zeroValue343
  t51 := Tryz.underlying254
  a51 := Tryz.isAgg254
  z51 := Tryz.sizeOf254
  v51 := Tryz.zeroValue254
  t53 := Tryz.underlying31
  a53 := Tryz.isAgg31
  z53 := Tryz.sizeOf31
  v53 := Tryz.zeroValue31
  t131 := Tryz.underlying365
  a131 := Tryz.isAgg365
  z131 := Tryz.sizeOf365
  v131 := Tryz.zeroValue365
  t182 := Tryz.underlying373
  a182 := Tryz.isAgg373
  z182 := Tryz.sizeOf373
  v182 := Tryz.zeroValue373
  t183 := Tryz.underlying374
  a183 := Tryz.isAgg374
  z183 := Tryz.sizeOf374
  v183 := Tryz.zeroValue374
  t218 := Tryz.underlying398
  a218 := Tryz.isAgg398
  z218 := Tryz.sizeOf398
  v218 := Tryz.zeroValue398
  t222 := Tryz.underlying383
  a222 := Tryz.isAgg383
  z222 := Tryz.sizeOf383
  v222 := Tryz.zeroValue383
  t228 := Tryz.underlying412
  a228 := Tryz.isAgg412
  z228 := Tryz.sizeOf412
  v228 := Tryz.zeroValue412
  t229 := Tryz.underlying402
  a229 := Tryz.isAgg402
  z229 := Tryz.sizeOf402
  v229 := Tryz.zeroValue402 }
open Go.Sort Go.RowKit in
theorem sort_Ints (blk off cap : Nat) (zs : List Int) (w : World) (hH : Holds (Value.int .i64) w blk off zs.toArray) (hblk : blk < w.heap.size) (hsz : zs.length < 4611686018427387904) :
    Calls Tryz.prog 135 #[.slice (some ⟨blk, off, none⟩) zs.length cap] w fun e w' =>
      e = .returned (.tuple #[]) ∧ ∃ n os, w' = grow (putRow (Value.int .i64) (Sort.ahead w n) blk off (zs.mergeSort fun x y => decide (x ≤ y)).toArray) os := Any.sort_Ints lays191 blk off cap zs w hH hblk hsz
open Go.RowKit Go.Sort in
theorem sort_Ints_none (p : Option Addr) (cap : Nat) (w : World) :
    Calls Tryz.prog 135 #[.slice p 0 cap] w fun e w' => e = .returned (.tuple #[]) ∧ w' = w := Any.sort_Ints_none lays191 p cap w
end Go.Proofs.YtlolomodcbkblaaGreatDoor.Sh

set_option linter.unusedVariables false
set_option linter.unusedSimpArgs false
namespace Go.Proofs.YtlolomodcbkblaaGreatDoor.Sp
open Go.RowKit Go.Maps Go.WideMaps Go.ChangeShapes Go.WideShapes Go.Deep Fp

theorem infoN : (Tryz.prog.info? 3).map (fun i => (i.zero, i.size, i.bytes)) = some (some (.int .i64 0), 1, 8) := by kernel_rfl

/-- the keys met so far -/
structure KeysAt (L : List N2) (left : Lit → Bool) (ks : List Int) : Prop where
  nd : ks.Nodup
  has : ∀ k ∈ ks, (lastN L k).isSome = true
  gone : ∀ k ∈ ks, left (il k) = false
  come : ∀ k, (lastN L k).isSome = true → k ∈ ks ∨ left (il k) = true
abbrev AtL (D : DataW Unit) (L : List N2) : Prop := ∀ k z, D.atKey (il k) z = (match lastN L k with | some v => .lit (il v) | none => z)
theorem KeysAt.start {D : DataW Unit} {L : List N2} (hat : AtL D L) : KeysAt L (Maps.has D) [] := by
  refine ⟨List.nodup_nil, fun k h => by simp at h, fun k h => by simp at h, fun k h => Or.inr ?_⟩
  obtain ⟨v, hv⟩ := Option.isSome_iff_exists.1 h
  refine has_true_of_atKey (y := .lit (il v)) fun z => ?_
  rw [hat k z, hv]
theorem il_same (x : Int) : (il x).sameKey (il x) = true := WideAt.sameKey_self (il_key x)
theorem il_other {x y : Int} (h : x ≠ y) : (il x).sameKey (il y) = false := sameKey_ne (fun e => h (il_inj e))
theorem KeysAt.step {D : DataW Unit} {L : List N2} {left : Lit → Bool} {ks : List Int} {x c : Int} (h : KeysAt L left ks) (hat : AtL D L) (hx : left (il x) = true) (hc : ∀ z, D.atKey (il x) z = .lit (il c)) :
    KeysAt L (fun z => left z && !z.sameKey (il x)) (ks ++ [x]) := by
  have hs : (lastN L x).isSome = true := by
    cases e : lastN L x with
    | some v => rfl
    | none =>
      exfalso
      have h1 := hc .nil
      rw [hat x .nil, e] at h1
      cases h1
  refine ⟨?_, fun k hk => ?_, fun k hk => ?_, fun k hk => ?_⟩
  · refine List.nodup_append.2 ⟨h.nd, by simp, ?_⟩
    intro a ha b hb e
    subst e
    rw [List.mem_singleton.1 hb] at ha
    rw [h.gone x ha] at hx
    cases hx
  · rcases List.mem_append.1 hk with hk | hk
    · exact h.has k hk
    · rw [List.mem_singleton.1 hk]; exact hs
  · rcases List.mem_append.1 hk with hk | hk
    · show (left (il k) && !_) = false
      rw [h.gone k hk]; rfl
    · rw [List.mem_singleton.1 hk]
      show (left (il x) && !(il x).sameKey (il x)) = false
      rw [il_same]; simp
  · rcases h.come k hk with h1 | h1
    · exact Or.inl (List.mem_append.2 (Or.inl h1))
    · by_cases e : k = x
      · exact Or.inl (by rw [e]; simp)
      · right
        show (left (il k) && !(il k).sameKey (il x)) = true
        rw [h1, il_other e]; rfl
theorem KeysAt.done {L : List N2} {left : Lit → Bool} {ks : List Int} (h : KeysAt L left ks) (hl : ∀ kl, left kl = false) : ∀ k, k ∈ ks ↔ (lastN L k).isSome = true := by
  refine fun k => ⟨h.has k, fun hk => ?_⟩
  rcases h.come k hk with h1 | h1
  · exact h1
  · rw [hl] at h1; cases h1

abbrev intsRow (w : World) (B : Nat) (v : Value) (ks : List Int) : Prop := w.ownsRow B 3 1 v ks.length (ks.map (Value.int .i64))
/-- behind some rounds of the loop over the map in block b -/
def KeysQ (L : List N2) (b n : Nat) (D : DataW Unit) (w : World) (v : Value) (wr : World) : Prop :=
  ∃ ks left cnt, wr.ranges Tryz.prog 3 (plainElem Tryz.prog 2) b w.heap.size n D left cnt ∧ KeysAt L left ks ∧ ks.length + cnt ≤ n ∧ intsRow wr (w.heap.size + 1) v ks ∧ Below w.heap.size w wr ∧ w.heap.size + 1 ≤ wr.heap.size
theorem KeysQ.next {L : List N2} {b n cnt cnt1 : Nat} {D : DataW Unit} {w wr w1 w2 : World} {v v2 : Value} {ks : List Int} {left : Lit → Bool} {x c : Int} (hb : b < w.heap.size) (hat : AtL D L)
    (hrg : wr.ranges Tryz.prog 3 (plainElem Tryz.prog 2) b w.heap.size n D left cnt) (hk : KeysAt L left ks) (hcn : ks.length + cnt ≤ n) (ho : intsRow wr (w.heap.size + 1) v ks) (hbw : Below w.heap.size w wr) (hsz : w.heap.size + 1 ≤ wr.heap.size)
    (hx : left (il x) = true) (hc : ∀ z, D.atKey (il x) z = .lit (il c)) (hrg1 : w1.ranges Tryz.prog 3 (plainElem Tryz.prog 2) b w.heap.size n D (fun z => left z && !z.sameKey (il x)) cnt1) (hlt : cnt1 < cnt)
    (hg1 : wr.grownBy w1 (some w.heap.size)) (ho2 : w2.ownsRow (w.heap.size + 1) 3 1 v2 (ks.length + 1) (ks.map (Value.int .i64) ++ [.int .i64 x])) (hg2 : (w1.alloc (.cells #[.int .i64 x] 3)).grownBy w2 v.ownBlock) :
    KeysQ L b n D w v2 w2 ∧ w2.rangeLeft b w.heap.size < wr.rangeLeft b w.heap.size := by
  have hv : ∀ j, v.ownBlock = some j → w.heap.size + 1 ≤ j := fun j hj => (ho.lt j hj).1
  have n1 : some b ≠ v.ownBlock := fun e => by have := hv b e.symm; omega
  have n2 : some w.heap.size ≠ v.ownBlock := fun e => by have := hv _ e.symm; omega
  have hrg2 := (hrg1.kept (World.grownBy_alloc w1 (.cells #[.int .i64 x] 3) none) (by simp) (by simp)).kept hg2 n1 n2
  have hb1 : Below w.heap.size w w1 := hbw.grown hg1 (by omega) (fun j hj => by injection hj with hj; omega)
  have hs1 : w.heap.size + 1 ≤ w1.heap.size := Nat.le_trans hsz hg1.size
  refine ⟨⟨ks ++ [x], _, cnt1, hrg2, hk.step hat hx hc, by simp; omega, ?_, ?_, ?_⟩, ?_⟩
  · show w2.ownsRow _ _ 1 v2 (ks ++ [x]).length ((ks ++ [x]).map _)
    rw [List.length_append, List.map_append]; exact ho2
  · exact (hb1.alloc (by omega) _).grown hg2 (by simp; omega) (fun j hj => by have := hv j hj; omega)
  · exact Nat.le_trans hs1 (Nat.le_trans (by simp) hg2.size)
  · rw [hrg2.left_eq, hrg.left_eq]; exact hlt

/-- 'sort.Ints' of a row of the call's own -/
theorem sort_own {B : Nat} {v : Value} {ks : List Int} {w : World} (h : intsRow w B v ks) (hl : ks.length < 4611686018427387904) :
    Calls Tryz.prog 135 #[v] w fun e w' => e = .returned (.tuple #[]) ∧ intsRow w' B v (ks.mergeSort fun x y => decide (x ≤ y)) ∧ w.grownBy w' v.ownBlock := by
  have hlen : (ks.mergeSort fun x y => decide (x ≤ y)).length = ks.length := List.length_mergeSort ks
  have h0 := h
  rcases h.2 with ⟨rfl, h1⟩ | ⟨g, cap, cur, rfl, hB, hcur, hn, hcap, hsz, ht⟩
  · obtain rfl : ks = [] := List.length_eq_zero_iff.1 h1
    refine (Sh.sort_Ints_none none 0 w).mono ?_
    rintro e w' ⟨rfl, rfl⟩
    refine ⟨rfl, ?_, World.grownBy.refl _ _⟩
    simpa using h
  · have hg : g < w.heap.size := (Array.getElem?_eq_some_iff.1 hcur).1
    have hH : Sort.Holds (Value.int .i64) w g 0 ks.toArray := holds_of_blockI hcur (by simpa using ht)
    refine (Sh.sort_Ints g 0 cap ks w hH hg hl).mono ?_
    rintro e w' ⟨rfl, n, os, rfl⟩
    refine ⟨rfl, ?_, grownBy_sortedI _⟩
    show (_ : World).ownsRow B _ 1 _ (ks.mergeSort _).length _
    rw [hlen]
    exact ownsRow_sortedI hlen hB hcur hn hcap hsz

end Go.Proofs.YtlolomodcbkblaaGreatDoor.Sp

set_option linter.unusedVariables false
set_option linter.unusedSimpArgs false
namespace Go.Proofs.YtlolomodcbkblaaGreatDoor.Sp
open Go.RowKit Go.Maps Go.WideMaps Go.ChangeShapes Go.WideShapes Go.Deep Fp

def StX (B : Nat) (X : List Seg) (w0 w : World) : Prop := ∃ qs vs vd, St B B (B + 1) (B + 2) (runsOf 0 X) (deltasOf 0 (counts X)) (lastC 0 (counts X)) qs vs vd w0 w
theorem StX.size {B : Nat} {X : List Seg} {w0 w : World} (h : StX B X w0 w) : B + 2 < w.heap.size := by
  obtain ⟨qs, vs, vd, h⟩ := h
  exact (h.ge (B + 2) (by simp [blocks])).2
theorem StX.bel {B : Nat} {X : List Seg} {w0 w : World} (h : StX B X w0 w) : Below B w0 w := by
  obtain ⟨qs, vs, vd, h⟩ := h
  exact h.bel
theorem lastC_app (p : Int) (A : List Int) (c : Int) : lastC p (A ++ [c]) = c := lastC_snoc p A c
theorem counts_add (D : List Seg) (s : Seg) (c : Int) : counts (D ++ [(s.1, s.2 ++ [c])]) = counts (D ++ [s]) ++ [c] := by
  rw [counts_snoc, counts_snoc, List.append_assoc]
theorem counts_new (X : List Seg) (i : Int) : counts (X ++ [(i, [])]) = counts X := by rw [counts_snoc]; simp
theorem runs_last (D : List Seg) (s : Seg) : runsOf 0 (D ++ [s]) = runsOf 0 D ++ [(s.1 - nxt 0 D, (s.2.length : Int))] := by rw [runsOf_app]; rfl
theorem deltas_last (A : List Int) (c : Int) : deltasOf 0 (A ++ [c]) = deltasOf 0 A ++ [wr2 (c - lastC 0 A)] := by rw [deltasOf_app]; rfl

/-- the closure, said of segments -/
theorem delta_X (B : Nat) (D : List Seg) (s : Seg) (c : Int) (w0 w : World) (h : StX B (D ++ [s]) w0 w) (hs : s.2.length ≤ 4294967294) (hD : D.length ≤ 2147483648) (hc : (counts (D ++ [s])).length ≤ 8589934592) :
    Calls Tryz.prog 136 #[.int .i64 c, .pointer (some ⟨B, 0, none⟩), .pointer (some ⟨B + 1, 0, none⟩), .pointer (some ⟨B + 2, 0, none⟩)] w fun e w' => e = .returned (.tuple #[]) ∧ StX B (D ++ [(s.1, s.2 ++ [c])]) w0 w' := by
  have hsz := h.size
  obtain ⟨qs, vs, vd, h⟩ := h
  rw [runs_last] at h
  have hql := h.ql
  rw [List.length_append, runsOf_len] at hql
  have hne : qs ≠ [] := by intro e; rw [e] at hql; simp at hql
  obtain ⟨q0, q, rfl⟩ : ∃ q0 q, qs = q0 ++ [q] := ⟨qs.dropLast, qs.getLast hne, (List.dropLast_concat_getLast hne).symm⟩
  refine (delta_any B B (B + 1) (B + 2) (runsOf 0 D) (s.1 - nxt 0 D) s.2.length (deltasOf 0 (counts (D ++ [s]))) (lastC 0 (counts (D ++ [s]))) c q0 q vs vd w0 w h (by omega) (by omega) (by rw [runsOf_len]; exact hD) (by rw [deltasOf_len]; exact hc)).mono ?_
  rintro e w' ⟨rfl, vd2, h2⟩
  refine ⟨rfl, q0 ++ [q], vs, vd2, ?_⟩
  rw [counts_add, deltas_last, lastC_app, runs_last]
  have e : (((s.2 ++ [c]).length : Nat) : Int) = (s.2.length : Int) + 1 := by simp
  rw [e]
  exact h2

theorem StX.start (w0 : World) : StX w0.heap.size [] w0 (((w0.alloc (.cells #[.slice none 0 0] 232)).alloc (.cells #[.slice none 0 0] 34)).alloc (.cells #[.int .i64 0] 2)) := by
  refine ⟨[], .slice none 0 0, .slice none 0 0, ?_⟩
  have s1 : (w0.alloc (.cells #[.slice none 0 0] 232)).heap.size = w0.heap.size + 1 := by simp
  have s2 : ((w0.alloc (.cells #[.slice none 0 0] 232)).alloc (.cells #[.slice none 0 0] 34)).heap.size = w0.heap.size + 2 := by simp
  have c1 := Sl.cell_new w0 #[Value.slice none 0 0] 232 0
  have c2 := Sl.cell_new (w0.alloc (.cells #[.slice none 0 0] 232)) #[Value.slice none 0 0] 34 0
  have c3 := Sl.cell_new ((w0.alloc (.cells #[.slice none 0 0] 232)).alloc (.cells #[.slice none 0 0] 34)) #[Value.int .i64 0] 2 0
  rw [s1] at c2
  rw [s2] at c3
  refine ⟨?_, ?_, c3, ?_, ?_, ?_, fun q h => by simp at h, World.ownsRow_nil _ _ _ _, World.ownsRow_nil _ _ _ _, rfl, fun i h => by simp at h, ?_, ?_, ?_⟩
  · exact (Sl.cell_old _ _ _ _ (by rw [s2]; omega)).trans ((Sl.cell_old _ _ _ _ (by rw [s1]; omega)).trans c1)
  · exact (Sl.cell_old _ _ _ _ (by rw [s2]; omega)).trans c2
  · rw [World.frozen?_alloc_past _ _ _ (by rw [s2]; omega), World.frozen?_alloc_past _ _ _ (by rw [s1]; omega)]
    exact World.frozen?_alloc_at _ _ _ _ rfl
  · rw [World.frozen?_alloc_past _ _ _ (by rw [s2]; omega)]
    exact World.frozen?_alloc_at _ _ _ _ s1.symm
  · exact World.frozen?_alloc_at _ _ _ _ s2.symm
  · simp [blocks, qblocks, Value.ownBlock]
  · intro b hb
    simp [blocks, qblocks, Value.ownBlock] at hb
    rcases hb with rfl | rfl | rfl <;> simp <;> omega
  · exact (((Below.refl _ _).alloc (Nat.le_refl _) _).alloc (by simp) _).alloc (by simp; omega) _

/-- what one step makes, ahead of the last count -/
theorem step_new (X : List Seg) (p : N2) (h : X = [] ∨ 2 < p.1 - nxt 0 X) : stepX X p = X ++ [(p.1, [] ++ [p.2])] := by
  unfold stepX
  rcases h with rfl | h
  · rfl
  · cases X.getLast? with
    | none => rfl
    | some s => show (if _ then _ else _) = _; rw [if_pos h]; rfl
theorem step_gap (D : List Seg) (s : Seg) (p : N2) (h : ¬ 2 < p.1 - nxt 0 (D ++ [s])) : stepX (D ++ [s]) p = D ++ [(s.1, s.2 ++ List.replicate (p.1 - nxt 0 (D ++ [s])).toNat 0 ++ [p.2])] := by
  unfold stepX
  rw [List.getLast?_concat]
  show (if _ then _ else _) = _
  rw [if_neg h, List.dropLast_concat]

theorem St.old {B sb db pb : Nat} {R : List N2} {Ds : List Int} {prev : Int} {qs : List Q3} {vs vd : Value} {w0 w w1 w2 : World} (h : St B sb db pb R Ds prev qs vs vd w0 w) (hb : Below w.heap.size w w1) (k : w1.grownBy w2 vs.ownBlock) : w2.cell? ⟨sb, 0, none⟩ = some vs ∧ w2.frozen? ⟨sb, 0, none⟩ = false := by
  have nd := h.nd
  unfold blocks at nd
  rw [List.nodup_append, List.nodup_append, List.nodup_append] at nd
  obtain ⟨⟨⟨_, _, d3⟩, _⟩, _⟩ := nd
  have hd : some sb ≠ vs.ownBlock := fun e => d3 sb (by simp) sb (by rw [← e]; simp) rfl
  have hl : sb < w.heap.size := (h.ge sb (by simp [blocks])).2
  have hl1 : sb < w1.heap.size := Nat.lt_of_lt_of_le hl hb.size
  exact ⟨by rw [cell_kept k hl1 hd, hb.cell (p := ⟨sb, 0, none⟩) hl]; exact h.cs, by rw [frozen_kept k hl1 hd, hb.frozen (p := ⟨sb, 0, none⟩) hl]; exact h.fs⟩
/-- a new span: its own blocks, whatever their order -/
def NewSpan (W W1 : World) (q : Q3) (d : Int) : Prop :=
  SpanAt W1 q (d, 0) ∧ W1.frozen? ⟨q.2.2, 0, none⟩ = false ∧ Below W.heap.size W W1 ∧ W1.heap.size = W.heap.size + 1 + 1 + 1 + 1 ∧ (W.heap.size ≤ q.1 ∧ W.heap.size ≤ q.2.1 ∧ W.heap.size ≤ q.2.2) ∧ (q.1 ≠ q.2.1 ∧ q.1 ≠ q.2.2 ∧ q.2.1 ≠ q.2.2)
def spanA (W : World) (d : Int) : World := (((W.alloc (.cells #[.int .i32 d] 21)).alloc (.cells #[.int .u32 0] 254)).alloc (.cells #[.pointer (some ⟨W.heap.size, 0, none⟩), .pointer (some ⟨W.heap.size + 1, 0, none⟩)] 256)).alloc (.cells #[.pointer (some ⟨W.heap.size + 1 + 1, 0, none⟩)] 250)
def spanB (W : World) (d : Int) : World := (((W.alloc (.cells #[.int .u32 0] 254)).alloc (.cells #[.int .i32 d] 21)).alloc (.cells #[.pointer (some ⟨W.heap.size + 1, 0, none⟩), .pointer (some ⟨W.heap.size, 0, none⟩)] 256)).alloc (.cells #[.pointer (some ⟨W.heap.size + 1 + 1, 0, none⟩)] 250)
theorem new_four (W : World) (x1 x2 : Value) (C3 : Array Value) (x4 : Value) (T1 T2 T3 T4 : TypeId) :
    let V := (((W.alloc (.cells #[x1] T1)).alloc (.cells #[x2] T2)).alloc (.cells C3 T3)).alloc (.cells #[x4] T4)
    V.cell? ⟨W.heap.size, 0, none⟩ = some x1 ∧ V.cell? ⟨W.heap.size + 1, 0, none⟩ = some x2 ∧ (∀ j, V.cell? ⟨W.heap.size + 1 + 1, j, none⟩ = C3[j]?) ∧ (∀ j u, [x4][j]? = some u → V.cell? ((⟨W.heap.size + 1 + 1 + 1, 0, none⟩ : Addr).add j) = some u) ∧
      V.frozen? ⟨W.heap.size, 0, none⟩ = false ∧ V.frozen? ⟨W.heap.size + 1, 0, none⟩ = false ∧ Below W.heap.size W V ∧ V.heap.size = W.heap.size + 1 + 1 + 1 + 1 := by
  intro V
  have s1 : (W.alloc (.cells #[x1] T1)).heap.size = W.heap.size + 1 := by simp
  have s2 : ((W.alloc (.cells #[x1] T1)).alloc (.cells #[x2] T2)).heap.size = W.heap.size + 1 + 1 := by simp
  have s3 : (((W.alloc (.cells #[x1] T1)).alloc (.cells #[x2] T2)).alloc (.cells C3 T3)).heap.size = W.heap.size + 1 + 1 + 1 := by simp
  have s4 : V.heap.size = W.heap.size + 1 + 1 + 1 + 1 := by simp [V]
  have c1 := Sl.cell_new W #[x1] T1 0
  have c2 := Sl.cell_new (W.alloc (.cells #[x1] T1)) #[x2] T2 0
  have c3 := fun j => Sl.cell_new ((W.alloc (.cells #[x1] T1)).alloc (.cells #[x2] T2)) C3 T3 j
  have c4 := Sp.cell_box (((W.alloc (.cells #[x1] T1)).alloc (.cells #[x2] T2)).alloc (.cells C3 T3)) x4 T4
  rw [s1] at c2
  simp only [s2] at c3
  rw [s3] at c4
  have o2 : ∀ (b j : Nat), b < W.heap.size + 1 → V.cell? ⟨b, j, none⟩ = (W.alloc (.cells #[x1] T1)).cell? ⟨b, j, none⟩ := fun b j hb => (Sl.cell_old _ _ _ _ (by rw [s3]; omega)).trans ((Sl.cell_old _ _ _ _ (by rw [s2]; omega)).trans (Sl.cell_old _ _ _ _ (by rw [s1]; omega)))
  have o3 : ∀ (b j : Nat), b < W.heap.size + 1 + 1 → V.cell? ⟨b, j, none⟩ = ((W.alloc (.cells #[x1] T1)).alloc (.cells #[x2] T2)).cell? ⟨b, j, none⟩ := fun b j hb => (Sl.cell_old _ _ _ _ (by rw [s3]; omega)).trans (Sl.cell_old _ _ _ _ (by rw [s2]; omega))
  refine ⟨(o2 _ _ (by omega)).trans c1, (o3 _ _ (by omega)).trans c2, fun j => (Sl.cell_old _ _ _ _ (by rw [s3]; omega)).trans (c3 j), c4, ?_, ?_, ?_, s4⟩
  · exact (Sl.frozen_old _ _ _ _ (by rw [s3]; omega)).trans ((Sl.frozen_old _ _ _ _ (by rw [s2]; omega)).trans ((Sl.frozen_old _ _ _ _ (by rw [s1]; omega)).trans (Sl.frozen_new _ _ _ _)))
  · have := Sl.frozen_new (W.alloc (.cells #[x1] T1)) #[x2] T2 0
    rw [s1] at this
    exact (Sl.frozen_old _ _ _ _ (by rw [s3]; omega)).trans ((Sl.frozen_old _ _ _ _ (by rw [s2]; omega)).trans this)
  · exact ((((Below.refl _ _).alloc (Nat.le_refl _) _).alloc (by simp) _).alloc (by simp; omega) _).alloc (by simp; omega) _
theorem new_a (W : World) (d : Int) : NewSpan W (spanA W d) (W.heap.size + 1 + 1, W.heap.size, W.heap.size + 1) d := by
  obtain ⟨h1, h2, h3, h4, h5, h6, h7, h8⟩ := new_four W (.int .i32 d) (.int .u32 0) #[.pointer (some ⟨W.heap.size, 0, none⟩), .pointer (some ⟨W.heap.size + 1, 0, none⟩)] (.pointer (some ⟨W.heap.size + 1 + 1, 0, none⟩)) 21 254 256 250
  refine ⟨⟨h3 0, h3 1, h1, h2, ?_⟩, h6, h7, h8, ?_, ?_⟩
  · unfold spanA; rw [h8]; simp only; omega
  · simp only; omega
  · simp only; omega
theorem new_b (W : World) (d : Int) : NewSpan W (spanB W d) (W.heap.size + 1 + 1, W.heap.size + 1, W.heap.size) d := by
  obtain ⟨h1, h2, h3, h4, h5, h6, h7, h8⟩ := new_four W (.int .u32 0) (.int .i32 d) #[.pointer (some ⟨W.heap.size + 1, 0, none⟩), .pointer (some ⟨W.heap.size, 0, none⟩)] (.pointer (some ⟨W.heap.size + 1 + 1, 0, none⟩)) 254 21 256 250
  refine ⟨⟨h3 0, h3 1, h2, h1, ?_⟩, h5, h7, h8, ?_, ?_⟩
  · unfold spanB; rw [h8]; simp only; omega
  · simp only; omega
  · simp only; omega
/-- what the region leaves, whatever the order -/
theorem St.spanned {B : Nat} {X : List Seg} {i nx : Int} {qs : List Q3} {vs vd : Value} {q : Q3} {w0 w w1 : World} (h : St B B (B + 1) (B + 2) (runsOf 0 X) (deltasOf 0 (counts X)) (lastC 0 (counts X)) qs vs vd w0 w) (hB : B ≤ w.heap.size) (hnx : nxt 0 X = nx) (hn : NewSpan w w1 q (i - nx)) :
    ∀ g cap w2, w2.ownsRow B 250 1 (.slice (some ⟨g, 0, none⟩) ((runsOf 0 X).length + 1) cap) ((runsOf 0 X).length + 1) (qs.map pv ++ [pv q]) → w1.grownBy w2 vs.ownBlock → (vs.ownBlock = some g ∨ g = w.heap.size + 1 + 1 + 1 + 1) →
      (w2.cell? ⟨B, 0, none⟩ = some vs ∧ w2.frozen? ⟨B, 0, none⟩ = false) ∧ StX B (X ++ [(i, [])]) w0 (w2.setCell ⟨B, 0, none⟩ (.slice (some ⟨g, 0, none⟩) ((runsOf 0 X).length + 1) cap)) := by
  intro g cap w2 ho hk hloc
  obtain ⟨h1, h2, h3, h4, h5, h6⟩ := hn
  refine ⟨h.old h3 hk, qs ++ [q], .slice (some ⟨g, 0, none⟩) ((runsOf 0 X).length + 1) cap, vd, ?_⟩
  rw [runs_last, counts_new, hnx]
  refine h.span hB h3 h1 h2 h5 h6 hk ho ?_
  rcases hloc with hl | hl
  · exact Or.inl hl.symm
  · right
    rw [h4, ← hl]; rfl

/-- what a round of the second loop knows -/
structure Rnd (M : List N2) (k : Nat) (i c nx : Int) (X : List Seg) : Prop where
  i1 : -1073741824 < i
  i2 : i < 1073741824
  n1 : -1073741824 < nx
  n2 : nx ≤ 1073741824
  nxt : nxt 0 X = nx
  here : buildX (M.take k) = X
  next : buildX (M.take (k + 1)) = stepX X (i, c)
  nxt2 : Sp.nxt 0 (stepX X (i, c)) = i + 1
  few : X.length ≤ 2147483647
  sum : (counts X).length ≤ 6442450941
  each : ∀ s ∈ X, s.2.length ≤ 2147483648
  way : (k = 0 ∧ X = []) ∨ (0 < k ∧ X ≠ [] ∧ nx ≤ i)
theorem rise_take {M : List N2} : ∀ (k : Nat), Rise M → Rise (M.take k) := by
  induction M with
  | nil => intro k h; simp; trivial
  | cons a M ih =>
    intro k h
    cases k with
    | zero => trivial
    | succ k => exact ⟨fun q hq => h.1 q (List.mem_of_mem_take hq), ih k h.2⟩
theorem rnd {M : List N2} {k : Nat} {i c : Int} (hR : Rise M) (hN : Near M) (hl : M.length ≤ 2147483647) (hk : k < M.length) (hp : M[k] = (i, c)) : Rnd M k i c (nxt 0 (buildX (M.take k))) (buildX (M.take k)) := by
  have htk : M.take (k + 1) = M.take k ++ [(i, c)] := by rw [List.take_succ_eq_append_getElem hk, hp]
  have hN2 : Near (M.take k) := fun q hq => hN q (List.mem_of_mem_take hq)
  have hm := made _ (M.take k) rfl (rise_take k hR) hN2
  have hlt : ∀ q ∈ M.take k, q.1 < i := (rise_snoc (p := (i, c)) (by rw [← htk]; exact rise_take (k + 1) hR)).2
  have hi := hN (i, c) (by rw [← hp]; exact List.getElem_mem hk)
  have hi1 : -1073741824 < i := hi.1
  have hi2 : i < 1073741824 := hi.2
  have hnn := nxt_near hm
  have hlen : (M.take k).length ≤ M.length := by rw [List.length_take]; omega
  have hle : buildX (M.take k) ≠ [] → nxt 0 (buildX (M.take k)) ≤ i := fun hX => hm.next i hlt (fun e => hX (hm.none.2 e))
  have hst := stepX_cells (buildX (M.take k)) (i, c) hle
  have hfew := hm.few
  have hsum := hm.sum
  have hkl : (M.take k).length = k := by rw [List.length_take]; omega
  refine ⟨hi1, hi2, hnn.1, hnn.2, rfl, rfl, by rw [htk, buildX_snoc], hst.2.1, by omega, by omega, fun s hs => ?_, ?_⟩
  · have := hm.near s hs
    omega
  · by_cases hk0 : k = 0
    · left
      refine ⟨hk0, ?_⟩
      rw [hk0]; rfl
    · right
      have hne : buildX (M.take k) ≠ [] := fun e => by
        have := hm.none.1 e
        rw [this] at hkl
        simp at hkl
        omega
      exact ⟨by omega, hne, hle hne⟩

end Go.Proofs.YtlolomodcbkblaaGreatDoor.Sp
