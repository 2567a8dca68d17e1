/- Spans: the thin package's Spans walked. Native buckets of a constant histogram: the plain law: the buckets brought into bounds are the map's, sorted; their counts add up to the total; their segments denote them. Maps whose keys are floats: a block of entries in the order of their laying; a new key laid in, the loop over it. -/
import Derived.Test.YtlolomodcbkblaaGreatDoorSpv
import Derived.Test.YtlolomodcbkblaaGreatDoorCnc
import Derived.Maps.RangeWalk
import Derived.Below
import Derived.WideLaws
set_option linter.unusedVariables false
set_option linter.unusedSimpArgs false
namespace Go.Proofs.YtlolomodcbkblaaGreatDoor.Sp
open Go.RowKit Go.Maps Go.WideMaps Go.ChangeShapes Go.WideShapes Go.Deep Fp

def SpansOut (L : List N2) (w : World) (e : Ending) (w' : World) : Prop :=
  ∃ M v1 v2, e = .returned (.tuple #[v1, v2]) ∧ Rise M ∧ (∀ q, q ∈ M ↔ lastN L q.1 = some q.2) ∧ Ss.Of 2 rc w' v1 (runsOf 0 (buildX M)) ∧ Sl.Of (Value.int .i64) w' v2 (deltasOf 0 (counts (buildX M))) ∧ Below w.heap.size w w'

theorem ones_i (zs : List Int) : ∀ u ∈ zs.map (Value.int .i64), u.oneCell' = true := by
  intro u hu
  obtain ⟨x, _, rfl⟩ := List.mem_map.1 hu
  rfl
theorem last_mem {L : List N2} : ∀ {k v : Int}, lastN L k = some v → (k, v) ∈ L := by
  have gen : ∀ (n : Nat) (L : List N2), L.length = n → ∀ k v, lastN L k = some v → (k, v) ∈ L := by
    intro n
    induction n with
    | zero => intro L h k v hl; rw [List.length_eq_zero_iff.1 h] at hl; cases hl
    | succ n ih =>
      intro L h k v hl
      have hne : L ≠ [] := by intro e; rw [e] at h; simp at h
      obtain ⟨D, p, rfl⟩ : ∃ D p, L = D ++ [p] := ⟨L.dropLast, L.getLast hne, (List.dropLast_concat_getLast hne).symm⟩
      rw [lastN_snoc] at hl
      by_cases e : p.1 = k
      · rw [if_pos e] at hl
        injection hl with hl
        rw [← e, ← hl]; simp
      · rw [if_neg e] at hl
        exact List.mem_append.2 (Or.inl (ih D (by simp at h; exact h) k v hl))
  intro k v h
  exact gen _ L rfl k v h
theorem rise_len : ∀ (M : List N2) (lo hi : Int), lo < hi → Rise M → (∀ q ∈ M, lo < q.1 ∧ q.1 < hi) → (M.length : Int) ≤ hi - lo - 1
  | [], lo, hi, h, _, _ => by simp; omega
  | p :: r, lo, hi, h, hr, hq => by
    have hp := hq p (by simp)
    have := rise_len r p.1 hi hp.2 hr.2 (fun q hq2 => ⟨hr.1 q hq2, (hq q (by simp [hq2])).2⟩)
    simp
    omega
theorem near_len {M : List N2} (hr : Rise M) (hn : Near M) : M.length ≤ 2147483647 := by
  have := rise_len M (-1073741824) 1073741824 (by decide) hr hn
  omega

theorem cells_of {w : World} {g n c : Nat} {L : List Int} (h : Sl.Of (Value.int .i64) w (.slice (some ⟨g, 0, none⟩) n c) L) : ∀ j u, (L.map (Value.int .i64))[j]? = some u → w.cell? ((⟨g, 0, none⟩ : Addr).add j) = some u := by
  intro j u hu
  have hj : j < L.length := by
    rcases Nat.lt_or_ge j L.length with h1 | h1
    · exact h1
    · rw [List.getElem?_eq_none (by simpa using h1)] at hu; cases hu
  obtain ⟨b, off, e, hb, hc⟩ := int_at h hj
  injection e with e
  injection e with e1 e2
  subst e1 e2
  rw [List.getElem?_map, List.getElem?_eq_getElem hj] at hu
  injection hu with hu
  rw [Addr.add_lit, ← hu]
  exact hc

end Go.Proofs.YtlolomodcbkblaaGreatDoor.Sp

set_option linter.unusedVariables false
set_option linter.unusedSimpArgs false
namespace Go.Proofs.YtlolomodcbkblaaGreatDoor.Cn
open _root_.Go.Proofs.YtlolomodcbkblaaGreatDoor.Sp

/-- buckets as the reference has them -/
structure Fine (P : List N2) : Prop where
  rise : Rise P
  key : ∀ p ∈ P, -1048576 < p.1 ∧ p.1 < 1048576
  cnt : ∀ p ∈ P, 0 < p.2 ∧ p.2 < 1073741824
theorem fits_fine (L : List N2) : Fine (fitsN (L.map cf)) := by
  have hm : ∀ q : N2, q ∈ fitsN (L.map cf) → lastN (L.map cf) q.1 = some q.2 ∧ q.2 ≠ 0 := fun q hq => by
    unfold fitsN at hq
    rw [fitR_mem] at hq
    rcases hq with hq | hq
    · simp at hq
    · exact hq
  have hin : ∀ q : N2, q ∈ fitsN (L.map cf) → ((-1048576 < q.1 ∧ q.1 < 1048576) ∧ 0 ≤ q.2 ∧ q.2 < 1073741824) := fun q hq => by
    have h1 := last_mem (hm q hq).1
    obtain ⟨p, _, e⟩ := List.mem_map.1 h1
    have h2 := cf_in p
    rw [e] at h2
    exact h2
  refine ⟨fitR_rise _ [] trivial (fun q hq => by simp at hq), fun p hp => (hin p hp).1, fun p hp => ?_⟩
  have h1 := (hin p hp).2
  have h2 := (hm p hp).2
  omega
/-- in a rising list the last bucket of a key is the only one -/
theorem rise_last : ∀ {P : List N2}, Rise P → ∀ k v, lastN P k = some v ↔ (k, v) ∈ P
  | [], _, k, v => by constructor <;> intro h <;> cases h
  | p :: r, h, k, v => by
    have ih := rise_last h.2 k v
    rw [lastN_cons, List.mem_cons]
    constructor
    · intro e
      cases el : lastN r k with
      | some u => rw [el] at e; injection e with e; rw [e] at el; exact Or.inr (ih.1 el)
      | none =>
        rw [el] at e
        by_cases hk : p.1 = k
        · simp only [hk, if_true] at e
          injection e with e
          exact Or.inl (by rw [← e, ← hk])
        · simp only [hk, if_false] at e
          cases e
    · rintro (e | e)
      · have hn : lastN r k = none := by
          cases el : lastN r k with
          | none => rfl
          | some u =>
            have h1 := h.1 _ (last_mem el)
            rw [← e] at h1
            exact absurd h1 (Int.lt_irrefl _)
        rw [hn]
        show (if p.1 = k then some p.2 else none) = some v
        rw [← e]
        simp
      · rw [ih.2 e]
theorem Fine.counts {P : List N2} (h : Fine P) : Counts P := fun k v hl => by
  have := h.cnt _ (last_mem hl)
  dsimp only at this
  omega
theorem rise_keys : ∀ {P : List N2}, Rise P → (P.map (·.1)).Nodup
  | [], _ => by simp
  | p :: r, h => by
    rw [List.map_cons, List.nodup_cons]
    refine ⟨fun hm => ?_, rise_keys h.2⟩
    obtain ⟨q, hq, e⟩ := List.mem_map.1 hm
    have := h.1 q hq
    omega
theorem Fine.sum {P : List N2} (h : Fine P) : ∀ s, SumOf P s → s = total P := by
  rintro s ⟨ks, hn, hk, rfl⟩
  have hkm : ∀ k, k ∈ ks ↔ k ∈ P.map (·.1) := fun k => by
    rw [hk, Option.isSome_iff_exists, List.mem_map]
    constructor
    · rintro ⟨v, hv⟩
      exact ⟨(k, v), (rise_last h.rise k v).1 hv, rfl⟩
    · rintro ⟨q, hq, rfl⟩
      exact ⟨q.2, (rise_last h.rise q.1 q.2).2 hq⟩
  have hp : List.Perm ks (P.map (·.1)) := (List.perm_ext_iff_of_nodup hn (rise_keys h.rise)).2 hkm
  have hs : ∀ {a b : List Int}, List.Perm a b → a.sum = b.sum := fun {a b} hab => by
    induction hab with
    | nil => rfl
    | cons x _ ih => simp [ih]
    | swap x y l => simp; omega
    | trans _ _ h1 h2 => rw [h1, h2]
  have h1 : sumK P ks = ((P.map (·.1)).map fun k => (lastN P k).getD 0).sum := hs (hp.map _)
  rw [h1, List.map_map]
  unfold total
  congr 1
  refine List.map_congr_left fun q hq => ?_
  show (lastN P q.1).getD 0 = q.2
  rw [(rise_last h.rise q.1 q.2).2 hq]
  rfl
theorem Fine.near {P : List N2} (h : Fine P) : Near P := fun q hq => by have := h.key q hq; omega
theorem Fine.len {P : List N2} (h : Fine P) : P.length ≤ 2097151 := by
  have := rise_len P (-1048576) 1048576 (by decide) h.rise h.key
  omega
theorem Fine.total {P : List N2} (h : Fine P) : 0 ≤ total P ∧ total P ≤ 2251799813685248 := by
  have h1 := total_in (L := P) (m := 1073741824) (fun p hp => by have := h.cnt p hp; omega)
  have h2 := h.len
  omega
theorem Fine.nz {P : List N2} (h : Fine P) : nz P = P := by
  unfold Sp.nz
  rw [List.filter_eq_self]
  intro q hq
  have := h.cnt q hq
  simp only [bne_iff_ne, ne_eq]
  omega
/-- the segments that the package makes are those of the buckets -/
theorem Fine.segs {P : List N2} (h : Fine P) {X : List Seg} (hx : Segs P X) : X = buildX P := by
  obtain ⟨M, h1, h2, rfl⟩ := hx
  rw [rise_eq h1 h.rise fun q => (h2 q).trans (rise_last h.rise q.1 q.2)]
/-- segments that can be read, and denote the buckets -/
structure Reads (P : List N2) (X : List Seg) : Prop where
  cells : Sp.nz (cellsOf X) = P
  wf : WF X
  vals : ∀ c ∈ Sp.counts X, -9223372036854775808 ≤ c ∧ c ≤ 9223372036854775807
  len : X.length ≤ 2097152
  sum : (Sp.counts X).length ≤ 6291456
theorem Fine.reads {P : List N2} (h : Fine P) : Reads P (buildX P) := by
  have hm := made _ P rfl h.rise h.near
  have hl := h.len
  refine ⟨by rw [hm.cells, h.nz], hm.wf, fun c hc => ?_, Nat.le_trans hm.few (by omega), Nat.le_trans hm.sum (by omega)⟩
  rcases hm.vals c hc with rfl | ⟨q, hq, rfl⟩
  · decide
  · have := h.cnt q hq; omega
theorem reads_empty : Reads [] [(0, [])] := by
  refine ⟨rfl, ?_, fun c hc => by simp [Sp.counts] at hc, by decide, by decide⟩
  intro D s R e
  have hD : D = [] := by
    cases D with
    | nil => rfl
    | cons d D =>
      have := congrArg List.length e
      simp at this
  subst hD
  simp only [List.nil_append, List.cons.injEq] at e
  obtain ⟨rfl, _⟩ := e
  exact ⟨fun h => absurd rfl h, by decide, by decide, by decide, by decide⟩
theorem Fine.pos {P : List N2} (h : Fine P) {X : List Seg} (hx : Segs P X ∨ (Segs P [] ∧ X = [(0, [])])) : Reads P X := by
  rcases hx with hx | ⟨hx, rfl⟩
  · rw [h.segs hx]; exact h.reads
  · have e := h.segs hx
    have hm := made _ P rfl h.rise h.near
    have hP : P = [] := hm.none.1 e.symm
    rw [hP]
    exact reads_empty
theorem Fine.lens {P : List N2} (h : Fine P) {X : List Seg} (hx : Segs P X) : (runsOf 0 X).length ≤ 2147483648 ∧ (deltasOf 0 (Sp.counts X)).length ≤ 2147483648 := by
  have hr := h.reads
  rw [h.segs hx, runsOf_len, deltasOf_len]
  have h1 := hr.len
  have h2 := hr.sum
  omega
theorem Fine.keys {P : List N2} (h : Fine P) : ∀ q : N2, lastN P q.1 = some q.2 → (-1073741824 < q.1 ∧ q.1 < 1073741824) ∧ In64 q.2 := fun q hq => by
  have h1 := last_mem hq
  have h2 := h.key _ h1
  have h3 := h.cnt _ h1
  unfold In64
  dsimp only at h2 h3
  omega
theorem Fine.in64 {P : List N2} (h : Fine P) : ∀ p ∈ P, In64 p.1 ∧ In64 p.2 := fun q h1 => by
  have h2 := h.key _ h1
  have h3 := h.cnt _ h1
  unfold In64
  omega

end Go.Proofs.YtlolomodcbkblaaGreatDoor.Cn

set_option linter.unusedVariables false
set_option linter.unusedSimpArgs false
namespace Go.Proofs.YtlolomodcbkblaaGreatDoor.Fm
open Go.RowKit Go.MapKept Go.ChangeMaps

/-- a bound's bits and its count -/
abbrev FC := Nat × Int
def ent (p : FC) (i : Nat) : MapEntry := ⟨.float .f64 p.1, .int .u64 p.2, i⟩
def ents : List FC → Nat → List MapEntry
  | [], _ => []
  | p :: r, i => ent p i :: ents r (i + 1)
theorem ents_len : ∀ (E : List FC) (i : Nat), (ents E i).length = E.length
  | [], _ => rfl
  | p :: r, i => by show (ents r (i + 1)).length + 1 = _; rw [ents_len r]; rfl
theorem ents_snoc : ∀ (E : List FC) (p : FC) (i : Nat), ents (E ++ [p]) i = ents E i ++ [ent p (i + E.length)]
  | [], p, i => rfl
  | q :: r, p, i => by
    show ent q i :: ents (r ++ [p]) (i + 1) = ent q i :: (ents r (i + 1) ++ _)
    rw [ents_snoc r p (i + 1)]
    have : i + 1 + r.length = i + (q :: r).length := by simp; omega
    rw [this]
theorem ents_get : ∀ (E : List FC) (i j : Nat) (h : j < E.length), (ents E i)[j]? = some (ent E[j] (i + j))
  | p :: r, i, 0, _ => rfl
  | p :: r, i, j + 1, h => by
    show (ents r (i + 1))[j]? = _
    rw [ents_get r (i + 1) j (by simpa using h)]
    have : i + 1 + j = i + (j + 1) := by omega
    rw [this]; rfl
theorem mem_ents {E : List FC} {i : Nat} {x : MapEntry} (h : x ∈ ents E i) : ∃ j, ∃ hj : j < E.length, x = ent E[j] (i + j) := by
  obtain ⟨j, hj, e⟩ := List.getElem_of_mem h
  rw [ents_len] at hj
  have := ents_get E i j hj
  rw [List.getElem?_eq_getElem (by rw [ents_len]; exact hj)] at this
  injection this with this
  exact ⟨j, hj, by rw [← e, this]⟩
theorem ent_mem {E : List FC} {i j : Nat} (h : j < E.length) : ent E[j] (i + j) ∈ ents E i := List.mem_of_getElem? (ents_get E i j h)
/-- the map in block b holds the entries E, none laid anew -/
def FMap (w : World) (b : Nat) (E : List FC) : Prop := w.heap[b]? = some (.map (ents E 0).toArray E.length)
theorem FMap.lt {w : World} {b : Nat} {E : List FC} (h : FMap w b E) : b < w.heap.size := (Array.getElem?_eq_some_iff.1 h).1
theorem FMap.made (w : World) : FMap (w.alloc (.map #[] 0)) w.heap.size [] := heap_alloc_new w _
theorem FMap.kept {w w' : World} {b : Nat} {E : List FC} {r : Option Nat} (h : FMap w b E) (k : w.grownBy w' r) (hb : some b ≠ r) : FMap w' b E := (k.block b h.lt hb).trans h
theorem FMap.below {w w' : World} {b : Nat} {E : List FC} (h : FMap w b E) (k : Below w.heap.size w w') : FMap w' b E := (k.block b h.lt).trans h
section
variable {P : Program} {t k e : TypeId}
/-- no bound of E is equal to this one -/
def New (x : Nat) (E : List FC) : Prop := ∀ p ∈ E, Op.floatEq .f64 x p.1 = false
theorem run_find (hk : P.underlying k = some (.float .f64)) (x : Nat) (w : World) : ∀ (E : List FC) (i j : Nat), New x E → (Instr.findAsking k (.float .f64 x) (ents E i) j).run P w = .ok none w
  | [], _, _, _ => rfl
  | p :: r, i, j, h => by
    have h1 := h p (by simp)
    have ih := run_find hk x w r (i + 1) (j + 1) (fun q hq => h q (by simp [hq]))
    show (Instr.findAsking k (.float .f64 x) (ent p i :: ents r (i + 1)) j).run P w = _
    unfold Instr.findAsking
    have e1 : (Op.equal k (.float .f64 x) (ent p i).key).run P w = .ok false w := by
      show (Op.equalIn Op.maxDepth k (.float .f64 x) (.float .f64 p.1)).run P w = _
      unfold Op.maxDepth Op.equalIn
      simp [run_underlying hk, h1]
    simp [Sem.run_bind, e1, ih]
theorem run_fupd (ht : P.underlying t = some (.map k e)) (hk : P.underlying k = some (.float .f64)) {w : World} {b : Nat} {E : List FC} (h : FMap w b E) (x : Nat) (c : Int) (hn : New x E) :
    (Instr.mapUpdate t (.map (some b)) (.float .f64 x) (.int .u64 c)).run P w = .ok () (setBlock w b (.map (ents (E ++ [(x, c)]) 0).toArray (E.length + 1))) := by
  have hf : (Instr.findKey k (.float .f64 x) (ents E 0)).run P w = .ok none w := by
    unfold Instr.findKey
    have e1 : ∀ (l : List MapEntry) (j : Nat), Instr.findNow (.float .f64) (.float .f64 x) l j = if l = [] then some none else none := by
      intro l j
      cases l with
      | nil => rfl
      | cons y l => simp [Instr.findNow, Instr.sameNow]
    simp only [Sem.run_bind, run_underlying hk, Result.andThen, e1]
    split
    · rename_i hh
      split at hh
      · injection hh with hh; subst hh; rfl
      · cases hh
    · exact run_find hk x w E 0 0 hn
  have hc : (Instr.checkKey false 10000 k (.float .f64 x)).run P w = .ok () w := by
    unfold Instr.checkKey
    simp [Sem.run_bind, run_underlying hk]
  have hp : ents E 0 ++ [⟨.float .f64 x, .int .u64 c, E.length⟩] = ents (E ++ [(x, c)]) 0 := by
    rw [ents_snoc, Nat.zero_add]
    rfl
  unfold FMap at h
  simp [Instr.mapUpdate, run_underlying ht, MapKept.run_getObj_map h, hc, hf, MapKept.run_setObj_map _ h, Result.andThen, setBlock]
  rw [hp]
variable (w : World) {ops : Array Oper} {rest : List Oper} {o : Oper} {a : Act} {Q : Exit → Act → World → Prop}
/-- 'm[x] = c' at a new key -/
theorem wpList_fupd (hg : o.guard = none) (m x v : Operand) (t : TypeId) (hop : o.op = Op.mapUpdate t m x v) (k e : TypeId) (ht : P.underlying t = some (.map k e)) (hk : P.underlying k = some (.float .f64)) (b : Nat) (E : List FC)
    (hm : a.eval m = .map (some b)) (h : FMap w b E) (f : Nat) (c : Int) (hx : a.eval x = .float .f64 f) (hv : a.eval v = .int .u64 c) (hn : New f E)
    (hK : ∀ w', FMap w' b (E ++ [(f, c)]) → w.grownBy w' (some b) → wpList P ops Q rest (a.put o.dst undef) w') : wpList P ops Q (o :: rest) a w := by
  refine wpList_plain hg fun K' hK' => ?_
  unfold Oper.wp
  simp [execOp, hop, hm, hx, hv, run_fupd ht hk h f c hn, Result.andThen]
  refine hK' _ _ (hK _ ?_ ⟨rfl, rfl, rfl, by simp [setBlock], fun i _ hi => heap_setBlock_other h _ (fun e => hi (by rw [e]))⟩)
  have := heap_setBlock_same h (.map (ents (E ++ [(f, c)]) 0).toArray (E.length + 1))
  unfold FMap
  rw [this]
  simp
/-- the loop over it under way: the entries met so far, by their places -/
structure FRange (w : World) (b r : Nat) (E : List FC) (ks : List Nat) : Prop where
  map : FMap w b E
  it : w.heap[r]? = some (.mapIter (some b) E.length ks.toArray E.length)
  lt : ∀ j ∈ ks, j < E.length
  nd : ks.Nodup
theorem FRange.ne {w : World} {b r : Nat} {E : List FC} {ks : List Nat} (h : FRange w b r E ks) : r ≠ b := by
  intro e
  have h1 := h.it
  have h2 := h.map
  unfold FMap at h2
  rw [e, h2] at h1
  cases h1
theorem FRange.kept {w w' : World} {b r : Nat} {E : List FC} {ks : List Nat} {row : Option Nat} (h : FRange w b r E ks) (k : w.grownBy w' row) (hb : some b ≠ row) (hr : some r ≠ row) : FRange w' b r E ks :=
  ⟨h.map.kept k hb, (k.block r (Array.getElem?_eq_some_iff.1 h.it).1 hr).trans h.it, h.lt, h.nd⟩
theorem wpList_frange (hg : o.guard = none) (m : Operand) (t : TypeId) (hop : o.op = Op.range t m) (k e : TypeId) (ht : P.underlying t = some (.map k e)) (b : Nat) (E : List FC) (hm : a.eval m = .map (some b)) (h : FMap w b E)
    (hK : ∀ w', FRange w' b w.heap.size E [] → w.grownBy w' none → w'.heap.size = w.heap.size + 1 → wpList P ops Q rest (a.put o.dst (.pointer (some ⟨w.heap.size, 0, none⟩))) w') : wpList P ops Q (o :: rest) a w := by
  refine wpList_plain hg fun K' hK' => ?_
  unfold Oper.wp
  simp [execOp, hop, hm, run_range_map w t k e b _ _ ht h, Result.andThen]
  refine hK' _ _ (hK _ ⟨h.kept (World.grownBy_alloc w _ none) (by simp), heap_alloc_new w _, fun j hj => by simp at hj, List.nodup_nil⟩ (World.grownBy_alloc w _ none) (by simp))
theorem heap_setB {w : World} {r : Nat} {o' : Obj} (o : Obj) (h : w.heap[r]? = some o') : (setBlock w r o).heap[r]? = some o := by
  have := (Array.getElem?_eq_some_iff.1 h).1
  show (w.heap.setIfInBounds r o)[r]? = _
  rw [Array.getElem?_setIfInBounds_self_of_lt this]
theorem heap_setN {w : World} {r i : Nat} (o : Obj) (h : i ≠ r) : (setBlock w r o).heap[i]? = w.heap[i]? := by
  show (w.heap.setIfInBounds r o)[i]? = _
  rw [Array.getElem?_setIfInBounds_ne (Ne.symm h)]
theorem wpList_fnext (hg : o.guard = none) (it : Operand) (hop : o.op = Op.next it false) (b r : Nat) (E : List FC) (ks : List Nat) (hit : a.eval it = .pointer (some ⟨r, 0, none⟩)) (h : FRange w b r E ks)
    (hDone : (∀ j, j < E.length → j ∈ ks) → wpList P ops Q rest (a.put o.dst (.tuple #[.bool false])) w)
    (hMore : ∀ (j : Nat) (hj : j < E.length) (w' : World), j ∉ ks → FRange w' b r E (ks ++ [j]) → w.grownBy w' (some r) → w'.heap.size = w.heap.size →
      (Instr.entry (.pointer (some ⟨r, 0, none⟩))).run P w' = .ok (.tuple #[.float .f64 (E[j]).1, .int .u64 (E[j]).2]) w' → wpList P ops Q rest (a.put o.dst (.tuple #[.bool true, .float .f64 (E[j]).1, .int .u64 (E[j]).2])) w') : wpList P ops Q (o :: rest) a w := by
  refine wpList_plain hg fun K' hK' => ?_
  unfold Oper.wp
  have hm := h.map
  unfold FMap at hm
  have hne := h.ne
  rcases run_next_at (P := P) w o.type r b E.length E.length ks.toArray (ents E 0).toArray E.length h.it hm (fun x hx => by obtain ⟨j, hj, rfl⟩ := mem_ents (by simpa using hx); show 0 + j < _; omega) (Nat.le_refl _) with ⟨h0, hrun⟩ | ⟨x, hx, w1, hal, hrun⟩
  · simp [execOp, hop, hit, hrun, Result.andThen]
    refine hK' _ _ (hDone fun j hj => ?_)
    have h1 := all_seen _ _ h0 (ent E[j] (0 + j)) (by simpa using ent_mem (i := 0) hj)
    simpa [ent] using h1
  · obtain ⟨hx1, hx2⟩ := mem_left hx
    obtain ⟨j, hj, rfl⟩ := mem_ents (by simpa using hx1)
    simp [execOp, hop, hit, hrun, Result.andThen]
    have hr1 : w1.heap[r]? = some (.mapIter (some b) E.length ks.toArray E.length) := by rcases hal with rfl | rfl <;> exact h.it
    have hb1 : w1.heap[b]? = some (.map (ents E 0).toArray E.length) := by rcases hal with rfl | rfl <;> exact hm
    have hpush : ks.toArray.push (ent E[j] (0 + j)).born = (ks ++ [j]).toArray := by
      rw [List.push_toArray]; show (ks ++ [0 + j]).toArray = _; rw [Nat.zero_add]
    have hbn : (ent E[j] j).born = j := rfl
    have hnk : j ∉ ks := by
      intro hjk
      have : ks.toArray.contains (0 + j) = false := hx2
      rw [Nat.zero_add] at this
      simp at this
      exact this hjk
    rw [hbn]
    have hset := heap_setB (.mapIter (some b) E.length (ks ++ [j]).toArray E.length) hr1
    have hset2 : (setBlock w1 r (.mapIter (some b) E.length (ks ++ [j]).toArray E.length)).heap[b]? = some (.map (ents E 0).toArray E.length) := (heap_setN _ (Ne.symm hne)).trans hb1
    have hgr : w.grownBy (setBlock w1 r (.mapIter (some b) E.length (ks ++ [j]).toArray E.length)) (some r) := by
      rcases hal with rfl | rfl
      · exact ⟨rfl, rfl, rfl, by simp [setBlock], fun i _ hi => heap_setN _ (fun e => hi (by rw [e]))⟩
      · exact ⟨rfl, rfl, rfl, by simp [setBlock], fun i _ hi => heap_setN _ (fun e => hi (by rw [e]))⟩
    refine hK' _ _ (hMore j hj _ hnk ⟨hset2, hset, fun i hi => ?_, ?_⟩ hgr ?_ ?_)
    · rcases List.mem_append.1 hi with hi | hi
      · exact h.lt i hi
      · rw [List.mem_singleton.1 hi]; exact hj
    · rw [List.nodup_append]
      exact ⟨h.nd, by simp, fun x hx y hy e => by rw [List.mem_singleton.1 hy] at e; rw [e] at hx; exact hnk hx⟩
    · rcases hal with rfl | rfl <;> simp [setBlock]
    · refine run_entry_at _ r b E.length ks.toArray (ents E 0).toArray E.length (ent E[j] (0 + j)) (by rw [hset, hpush]) hset2 (by simpa using ent_mem (i := 0) hj) ?_
      have hb : ∀ (E : List FC) (i : Nat), ((ents E i).map (·.born)).Nodup ∧ ∀ z ∈ (ents E i).map (·.born), i ≤ z := by
        intro E
        induction E with
        | nil => intro i; exact ⟨List.nodup_nil, fun z hz => by cases hz⟩
        | cons p E ih =>
          intro i
          obtain ⟨h1, h2⟩ := ih (i + 1)
          show (i :: (ents E (i + 1)).map (·.born)).Nodup ∧ ∀ z ∈ i :: (ents E (i + 1)).map (·.born), i ≤ z
          refine ⟨List.nodup_cons.2 ⟨fun hm => by have := h2 i hm; omega, h1⟩, fun z hz => ?_⟩
          rcases List.mem_cons.1 hz with rfl | hz
          · exact Nat.le_refl _
          · have := h2 z hz; omega
      exact (hb E 0).1
/-- 'len(m)': an equation for the walk -/
theorem run_flen (ty : TypeId) {t k e : TypeId} (ht : P.underlying t = some (.map k e)) {w : World} {b : Nat} {E : List FC} (h : FMap w b E) : (Builtin.len_ #[t] ty #[.map (some b)]).run P w = .ok (.int .i64 (E.length : Int)) w := by
  rw [run_len_map w t ty b _ _ (by simp [Program.mapKeyOf, Program.mapElemOf, ht]) h]
  simp [ents_len, goInt]
end

end Go.Proofs.YtlolomodcbkblaaGreatDoor.Fm
