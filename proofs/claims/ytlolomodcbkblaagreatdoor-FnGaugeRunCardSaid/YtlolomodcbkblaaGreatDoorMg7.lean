/- Descriptors: the thin package's LabelPairs and MetaAlike walked; the reference's question on label values. Metrics: the reference's constant metric (spec.ConstMetric) walked. -/
import Derived.Test.YtlolomodcbkblaaGreatDoorNlb
import Derived.Test.YtlolomodcbkblaaGreatDoorMg6
import Derived.Test.YtlolomodcbkblaaGreatDoorMg4
import Derived.Deep.MidRow
import Derived.Laws.ResultCell
import Derived.Deep.RegionHeld3
set_option linter.unusedVariables false
set_option linter.unusedSimpArgs false
namespace Go.Proofs.YtlolomodcbkblaaGreatDoor.Nd
open Go.RowKit Go.Maps Go.WideMaps Go.ChangeShapes Go.WideShapes Go.Deep Fp

def DoorLOut (V X : List ByteArray) (F : List P2) (w : World) (e : Ending) (w' : World) : Prop := ∃ v, e = .returned (.tuple #[v, .bool true]) ∧ Pairs w' v (labs V X F) ∧ Below w.heap.size w w'
def LPOut (V X : List ByteArray) (L : List P2) (w : World) (e : Ending) (w' : World) : Prop := ∃ v, e = .returned (.tuple #[v, .bool true]) ∧ Ss.Of 2 pc w' v (labs V X (fit L)) ∧ Below w.heap.size w w'
theorem labs_len {V X : List ByteArray} {F : List P2} : (labs V X F).length ≤ F.length + V.length := by
  unfold labs
  refine Nat.le_trans (fit_le _) ?_
  rw [List.length_append, List.length_zip]
  omega
open Classical in
noncomputable def sayVB (V X : List ByteArray) : Bool := decide ((∀ s ∈ X, asciiB s = true) ∧ X.length = V.length)
theorem sayVB_iff {V X : List ByteArray} : sayVB V X = true ↔ (∀ s ∈ X, asciiB s = true) ∧ X.length = V.length := by classical exact ⟨fun h => of_decide_eq_true h, fun h => decide_eq_true h⟩
theorem sayVB_no {V X : List ByteArray} (h : ¬ ((∀ s ∈ X, asciiB s = true) ∧ X.length = V.length)) : sayVB V X = false := by
  cases hb : sayVB V X with
  | false => rfl
  | true => exact absurd (sayVB_iff.1 hb) h
set_option maxHeartbeats 4000000 in
set_option maxRecDepth 100000 in
theorem sayValues_any (mv : Value) (nm hp un : ByteArray) (V X : List ByteArray) (L : List P2) (vx : Value) (w : World) (hm : MetaAt w mv nm hp un V L) (hx : Sl.Of Value.string w vx X) (hX : X.length ≤ 1048576) (hs : ∀ s ∈ X, s.size ≤ 9223372036854775807) :
    Calls Tryz.prog 32 #[mv, vx] w fun e w' => e = .returned (.bool (sayVB V X)) ∧ Below w.heap.size w w' := by
  obtain ⟨vv, cv, rfl, hvv, hcv⟩ := hm.val
  obtain ⟨av, cv2, rfl, hcn1, hcn2⟩ := sl_slice hvv
  obtain ⟨ax, cx, rfl, hcx1, hcx2⟩ := sl_slice hx
  have HX := Lib.hid hx
  have HSz := Lib.hid hs
  have hb0 : Hid (Below w.heap.size w (w.alloc (.cells #[.string nm, .string hp, .string un, .slice av V.length cv2, cv] 66))) := (Below.refl _ _).alloc (Nat.le_refl _) _
  have hc3 : (w.alloc (.cells #[.string nm, .string hp, .string un, .slice av V.length cv2, cv] 66)).cell? ⟨w.heap.size, 3, none⟩ = some (.slice av V.length cv2) := Sl.cell_new w _ _ 3
  have HYes : Hid ((∀ j (h : j < X.length), asciiB X[j] = true) → X.length = V.length → sayVB V X = true) := fun h1 h2 => sayVB_iff.2 ⟨fun s hs => by obtain ⟨j, hj, rfl⟩ := List.mem_iff_getElem.1 hs; exact h1 j hj, h2⟩
  have HNo : Hid (∀ j (h : j < X.length), asciiB X[j] = false → sayVB V X = false) := fun j h h1 => sayVB_no fun hh => by rw [hh.1 _ (List.getElem_mem h)] at h1; exact Bool.noConfusion h1
  have HNo2 : Hid (X.length ≠ V.length → sayVB V X = false) := fun h => sayVB_no fun hh => h hh.2
  clear hm hx hs hvv hcv
  go_enter Tryz.func32, Tryz.ntmps32
  go_wp2_with fail
  generalize hA : (w.alloc (.cells #[.string nm, .string hp, .string un, .slice av V.length cv2, cv] 66)) = wa at *
  clear hA
  go_loopw [5] (fun vk wr => ∃ k : Nat, k ≤ X.length ∧ vk = .int .i64 (k : Int) ∧ Hid (∀ j (h : j < X.length), j < k → asciiB X[j] = true) ∧ wa = wr) (fun k _ => X.length - (intOf k).toNat)
  case atStart => exact ⟨0, Nat.zero_le _, rfl, fun j _ h => absurd h (Nat.not_lt_zero _), rfl⟩
  case round =>
    obtain ⟨k, hk, rfl, hall, rfl⟩ := hrel
    by_cases hlt : k < X.length
    · obtain ⟨b, off, hax, hbb, c0⟩ := sl_at HX.out hlt
      subst hax
      have hsz := HSz.out _ (List.getElem_mem hlt)
      obtain ⟨s, hs⟩ : ∃ s, X[k] = s := ⟨_, rfl⟩
      rw [hs] at c0 hsz
      have c1 : wa.cell? ⟨b, off + k, none⟩ = some (.string s) := by rw [hb0.out.cell (p := ⟨b, off + k, none⟩) hbb]; exact c0
      have z1 : (0 : Int) ≤ (k : Int) := by omega
      have z2 : (k : Int) < (X.length : Int) := by omega
      have HSk := Lib.hid hs
      have C := Lib.hid (ascii_any s wa hsz)
      clear hs c0
      cases ha : asciiB s with
      | true =>
        have hall2 : Hid (∀ j (h : j < X.length), j < k + 1 → asciiB X[j] = true) := fun j h hj => by
          rcases Nat.lt_or_ge j k with h3 | h3
          · exact hall.out j h h3
          · have : j = k := by omega
            subst this
            rw [HSk.out]; exact ha
        have HA := Lib.hid ha
        clear hall ha
        go_wp2_with (go_at_call 62; refine C.out.mono ?_; rintro e w' ⟨rfl, rfl⟩; rw [HA.out])
        go_roundw
        case rel => exact ⟨k + 1, by omega, by go_num, hall2.out, by first | rfl | trivial⟩
        case measure => simp [intOf]; omega
      | false =>
        have HR : Hid (sayVB V X = false) := HNo.out k hlt (by rw [HSk.out]; exact ha)
        have HA := Lib.hid ha
        clear hall ha
        go_wp2_with (go_at_call 62; refine C.out.mono ?_; rintro e w' ⟨rfl, rfl⟩; rw [HA.out])
        go_ret
        exact ⟨by rw [HR.out]; rfl, hb0.out⟩
    · have hge : ¬ ((k : Int) < (X.length : Int)) := by omega
      have HAll : Hid (∀ j (h : j < X.length), asciiB X[j] = true) := fun j h => hall.out j h (by omega)
      clear hall
      by_cases hl : X.length = V.length
      · have HR : Hid (sayVB V X = true) := HYes.out HAll.out hl
        have hl2 : ((X.length : Int) == (V.length : Int)) = true := by rw [beq_iff_eq]; omega
        have hl3 : decide (X.length = V.length) = true := by simpa using hl
        clear hl
        go_wp2_with fail
        go_ret
        exact ⟨by rw [HR.out]; rfl, hb0.out⟩
      · have HR : Hid (sayVB V X = false) := HNo2.out hl
        have hl2 : ((X.length : Int) == (V.length : Int)) = false := by rw [beq_eq_false_iff_ne]; omega
        go_wp2_with fail
        go_ret
        exact ⟨by rw [HR.out]; rfl, hb0.out⟩

end Go.Proofs.YtlolomodcbkblaaGreatDoor.Nd

set_option linter.unusedVariables false
set_option linter.unusedSimpArgs false
namespace Go.Proofs.YtlolomodcbkblaaGreatDoor.Mt
open Go.RowKit Go.Maps Go.WideMaps Go.ChangeShapes Go.WideShapes Go.Deep Fp Obs _root_.Go.Proofs.YtlolomodcbkblaaGreatDoor.Nd

theorem run_store_float (P : Program) (w : World) (a : Addr) (m : Mode) (k : FloatKind) (b : Nat) : (store a (.float k b) m).run P w = stored P w a (.float k b) m := run_store P w a _ m rfl
theorem own_sets {B e sz n b : Nat} {v : Value} {xs : List Value} (hb : b < B) : ∀ (us : List Value) (j : Nat) (W : World), W.ownsRow B e sz v n xs → (W.setCells b j us).ownsRow B e sz v n xs
  | [], _, _, h => h
  | u :: us, j, W, h => own_sets hb us (j + 1) _ (Nd.own_set h hb)
theorem below_sets {B b : Nat} {A : World} (hb : B ≤ b) : ∀ (us : List Value) (j : Nat) (W : World), Below B A W → Below B A (W.setCells b j us)
  | [], _, _, h => h
  | u :: us, j, W, h => below_sets hb us (j + 1) _ (h.setCell hb _)
theorem far_sets {b b' j' : Nat} (hb : b ≠ b') : ∀ (us : List Value) (j : Nat) (W : World), (W.setCells b j us).cell? ⟨b', j', none⟩ = W.cell? ⟨b', j', none⟩
  | [], _, _ => rfl
  | u :: us, j, W => (far_sets hb us (j + 1) _).trans (World.cell?_setCell_far W _ _ u hb)
theorem wp_store_named {P : Program} {op : Oper} {a : Act} {w : World} {K : Act → World → Prop} {Q : Exit → Act → World → Prop} (ty : TypeId) (x y : Operand) (ho : op.op = .store ty x y)
    (b o : Nat) (cells : Array Value) (hx : a.eval x = .pointer (some ⟨b, o, none⟩)) (hy : a.eval y = .agg cells) (ht : w.there b o cells.size) (hi : (P.info? ty).map (·.size) = some cells.size) (h1 : cells.all (·.oneCell') = true)
    (Wf : World) (hWf : w.setCells b o cells.toList = Wf) (h : K (a.put op.dst undef) Wf) : op.wp P a w K Q := wp_store_mid ty x y ho b o cells hx hy ht hi h1 (by rw [hWf]; exact h)
theorem res2 {fn : Func} {p u : Tmp} {ty : TypeId} (h : fn.results = #[.cell p ty, .tmp u]) (tmps : Array Value) (P : Program) (w : World) (a : Addr) (v r : Value) (hp : tmps.getD p undef = .pointer (some a)) (hl : (loadVar ty a).run P w = .ok v w) (hu : tmps.getD u undef = r) :
    (results fn tmps).run P w = .ok (.tuple #[v, r]) w := by
  rw [results_cell_tmp h, hp, hu]
  simp [asAddr, hl, Result.andThen]
theorem there_whole {W : World} {b : Nat} {T : TypeId} {cs : Array Value} (h : Whole W b T cs) : W.there b 0 cs.size := fun j hj => ⟨by rw [Nat.zero_add, h.cell j]; simp [hj], h.free _⟩
attribute [local go_sem] run_store_float

def ConstOut (V X : List ByteArray) (L : List P2) (kind : Int) (val : Nat) (sb : Bool) (w : World) (e : Ending) (w' : World) : Prop :=
  ∃ lab, e = .returned (.tuple #[.agg #[lab, .int .i64 kind, .float .f64 val, .bool false, .float .f64 0, .slice none 0 0, .int .i64 0, .int .i64 0, .bool false, .int .u64 0, .float .f64 0, .slice none 0 0, .int .i64 0, .bool false, .int .i32 0, .float .f64 0, .int .u64 0, .slice none 0 0, .slice none 0 0, .slice none 0 0, .slice none 0 0, .slice none 0 0, .int .u64 0, .float .f64 0, .slice none 0 0, .bool false, .int .i64 0], .bool sb]) ∧ Ss.Of 2 pc w' lab (labs V X (fit L)) ∧ Below w.heap.size w w'

end Go.Proofs.YtlolomodcbkblaaGreatDoor.Mt
