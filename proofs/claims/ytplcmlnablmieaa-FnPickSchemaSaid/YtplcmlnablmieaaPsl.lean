/- Floats: the routine of math.Log times 1/ln 2 between 1/2 and 1, over numbers and over intervals; covers of [1/2, 1) by intervals. -/
import Derived.Test.YtplcmlnablmieaaPsd
set_option linter.unusedVariables false
set_option linter.unusedSimpArgs false
namespace Plf
open Ieee

abbrev TWO : Nat := 4611686018427387904
abbrev HALF : Nat := 4602678819172646912
abbrev SQ2 : Nat := 4604544271217802189
abbrev INV : Nat := 4609176140021203710
def o1 (sm : Bool) : Nat := if sm then ONE else 0
theorem fin_o (sm : Bool) : fin (o1 sm) = true := by cases sm <;> decide +kernel
theorem fin_ONE : fin ONE = true := by decide +kernel
theorem fin_TWO : fin TWO = true := by decide +kernel
theorem fin_HALF : fin HALF = true := by decide +kernel
theorem fin_0 : fin 0 = true := by decide +kernel
theorem fin_INV : fin INV = true := by decide +kernel
theorem bind_some {α β : Type} {o : Option α} {g : α → Option β} {b : β} (h : o.bind g = some b) : ∃ a, o = some a ∧ g a = some b := by
  cases o with
  | none => cases h
  | some a => exact ⟨a, rfl, h⟩
/-- the routine at a number from 1/2 to 1 (sm: it is at most the root of 1/2) -/
def logO (x : Nat) (sm : Bool) : Option Nat :=
  (D.sub 0 (o1 sm)).bind fun k =>
  (D.add (o1 sm) ONE).bind fun u =>
  (D.mul x u).bind fun f1 =>
  (D.sub f1 ONE).bind fun f =>
  (D.add TWO f).bind fun g =>
  (D.div f g).bind fun s =>
  (D.mul s s).bind fun s2 =>
  (D.mul s2 s2).bind fun s4 =>
  (D.mul 4594499633228436036 s4).bind fun a1 =>
  (D.add a1 4595719342595441630).bind fun a2 =>
  (D.mul a2 s4).bind fun a3 =>
  (D.add a3 4598818590951641945).bind fun a4 =>
  (D.mul a4 s4).bind fun a5 =>
  (D.add a5 4604180019048437139).bind fun a6 =>
  (D.mul s2 a6).bind fun t1 =>
  (D.mul 4594685411790997151 s4).bind fun b1 =>
  (D.add b1 4597174411056806063).bind fun b2 =>
  (D.mul b2 s4).bind fun b3 =>
  (D.add b3 4600877379321592324).bind fun b4 =>
  (D.mul s4 b4).bind fun t2 =>
  (D.add t1 t2).bind fun r =>
  (D.mul HALF f).bind fun h1 =>
  (D.mul h1 f).bind fun hf =>
  (D.add r hf).bind fun i1 =>
  (D.mul s i1).bind fun i2 =>
  (D.mul 4461442080421002358 k).bind fun i3 =>
  (D.add i2 i3).bind fun inr =>
  (D.mul k 4604418534311723008).bind fun k1 =>
  (D.sub hf inr).bind fun j1 =>
  (D.sub j1 f).bind fun j2 =>
  (D.sub k1 j2).bind fun lg =>
  some lg
/-- over an interval -/
def logI (x : I) (sm : Bool) : Option I :=
  (isub (0, 0) (o1 sm, o1 sm)).bind fun k =>
  (iadd (o1 sm, o1 sm) (ONE, ONE)).bind fun u =>
  (imul x u).bind fun f1 =>
  (isub f1 (ONE, ONE)).bind fun f =>
  (iadd (TWO, TWO) f).bind fun g =>
  (idiv f g).bind fun s =>
  (imul s s).bind fun s2 =>
  (imul s2 s2).bind fun s4 =>
  (imul (4594499633228436036, 4594499633228436036) s4).bind fun a1 =>
  (iadd a1 (4595719342595441630, 4595719342595441630)).bind fun a2 =>
  (imul a2 s4).bind fun a3 =>
  (iadd a3 (4598818590951641945, 4598818590951641945)).bind fun a4 =>
  (imul a4 s4).bind fun a5 =>
  (iadd a5 (4604180019048437139, 4604180019048437139)).bind fun a6 =>
  (imul s2 a6).bind fun t1 =>
  (imul (4594685411790997151, 4594685411790997151) s4).bind fun b1 =>
  (iadd b1 (4597174411056806063, 4597174411056806063)).bind fun b2 =>
  (imul b2 s4).bind fun b3 =>
  (iadd b3 (4600877379321592324, 4600877379321592324)).bind fun b4 =>
  (imul s4 b4).bind fun t2 =>
  (iadd t1 t2).bind fun r =>
  (imul (HALF, HALF) f).bind fun h1 =>
  (imul h1 f).bind fun hf =>
  (iadd r hf).bind fun i1 =>
  (imul s i1).bind fun i2 =>
  (imul (4461442080421002358, 4461442080421002358) k).bind fun i3 =>
  (iadd i2 i3).bind fun inr =>
  (imul k (4604418534311723008, 4604418534311723008)).bind fun k1 =>
  (isub hf inr).bind fun j1 =>
  (isub j1 f).bind fun j2 =>
  (isub k1 j2).bind fun lg =>
  some lg
set_option maxRecDepth 4000 in
theorem logI_in {p r : I} {x : Nat} {sm : Bool} (h : logI p sm = some r) (h_x : In p x) : ∃ z, logO x sm = some z ∧ In r z := by
  unfold logI at h
  unfold logO
  obtain ⟨k, e_k, h⟩ := bind_some h
  obtain ⟨z_k, d_k, h_k⟩ := isub_in e_k (In.pt fin_0) (In.pt (fin_o sm))
  rw [d_k, Option.bind_some]
  obtain ⟨u, e_u, h⟩ := bind_some h
  obtain ⟨z_u, d_u, h_u⟩ := iadd_in e_u (In.pt (fin_o sm)) (In.pt fin_ONE)
  rw [d_u, Option.bind_some]
  obtain ⟨f1, e_f1, h⟩ := bind_some h
  obtain ⟨z_f1, d_f1, h_f1⟩ := imul_in e_f1 h_x h_u
  rw [d_f1, Option.bind_some]
  obtain ⟨f, e_f, h⟩ := bind_some h
  obtain ⟨z_f, d_f, h_f⟩ := isub_in e_f h_f1 (In.pt fin_ONE)
  rw [d_f, Option.bind_some]
  obtain ⟨g, e_g, h⟩ := bind_some h
  obtain ⟨z_g, d_g, h_g⟩ := iadd_in e_g (In.pt fin_TWO) h_f
  rw [d_g, Option.bind_some]
  obtain ⟨s, e_s, h⟩ := bind_some h
  obtain ⟨z_s, d_s, h_s⟩ := idiv_in e_s h_f h_g
  rw [d_s, Option.bind_some]
  obtain ⟨s2, e_s2, h⟩ := bind_some h
  obtain ⟨z_s2, d_s2, h_s2⟩ := imul_in e_s2 h_s h_s
  rw [d_s2, Option.bind_some]
  obtain ⟨s4, e_s4, h⟩ := bind_some h
  obtain ⟨z_s4, d_s4, h_s4⟩ := imul_in e_s4 h_s2 h_s2
  rw [d_s4, Option.bind_some]
  obtain ⟨a1, e_a1, h⟩ := bind_some h
  obtain ⟨z_a1, d_a1, h_a1⟩ := imul_in e_a1 (In.pt (by decide +kernel)) h_s4
  rw [d_a1, Option.bind_some]
  obtain ⟨a2, e_a2, h⟩ := bind_some h
  obtain ⟨z_a2, d_a2, h_a2⟩ := iadd_in e_a2 h_a1 (In.pt (by decide +kernel))
  rw [d_a2, Option.bind_some]
  obtain ⟨a3, e_a3, h⟩ := bind_some h
  obtain ⟨z_a3, d_a3, h_a3⟩ := imul_in e_a3 h_a2 h_s4
  rw [d_a3, Option.bind_some]
  obtain ⟨a4, e_a4, h⟩ := bind_some h
  obtain ⟨z_a4, d_a4, h_a4⟩ := iadd_in e_a4 h_a3 (In.pt (by decide +kernel))
  rw [d_a4, Option.bind_some]
  obtain ⟨a5, e_a5, h⟩ := bind_some h
  obtain ⟨z_a5, d_a5, h_a5⟩ := imul_in e_a5 h_a4 h_s4
  rw [d_a5, Option.bind_some]
  obtain ⟨a6, e_a6, h⟩ := bind_some h
  obtain ⟨z_a6, d_a6, h_a6⟩ := iadd_in e_a6 h_a5 (In.pt (by decide +kernel))
  rw [d_a6, Option.bind_some]
  obtain ⟨t1, e_t1, h⟩ := bind_some h
  obtain ⟨z_t1, d_t1, h_t1⟩ := imul_in e_t1 h_s2 h_a6
  rw [d_t1, Option.bind_some]
  obtain ⟨b1, e_b1, h⟩ := bind_some h
  obtain ⟨z_b1, d_b1, h_b1⟩ := imul_in e_b1 (In.pt (by decide +kernel)) h_s4
  rw [d_b1, Option.bind_some]
  obtain ⟨b2, e_b2, h⟩ := bind_some h
  obtain ⟨z_b2, d_b2, h_b2⟩ := iadd_in e_b2 h_b1 (In.pt (by decide +kernel))
  rw [d_b2, Option.bind_some]
  obtain ⟨b3, e_b3, h⟩ := bind_some h
  obtain ⟨z_b3, d_b3, h_b3⟩ := imul_in e_b3 h_b2 h_s4
  rw [d_b3, Option.bind_some]
  obtain ⟨b4, e_b4, h⟩ := bind_some h
  obtain ⟨z_b4, d_b4, h_b4⟩ := iadd_in e_b4 h_b3 (In.pt (by decide +kernel))
  rw [d_b4, Option.bind_some]
  obtain ⟨t2, e_t2, h⟩ := bind_some h
  obtain ⟨z_t2, d_t2, h_t2⟩ := imul_in e_t2 h_s4 h_b4
  rw [d_t2, Option.bind_some]
  obtain ⟨r, e_r, h⟩ := bind_some h
  obtain ⟨z_r, d_r, h_r⟩ := iadd_in e_r h_t1 h_t2
  rw [d_r, Option.bind_some]
  obtain ⟨h1, e_h1, h⟩ := bind_some h
  obtain ⟨z_h1, d_h1, h_h1⟩ := imul_in e_h1 (In.pt fin_HALF) h_f
  rw [d_h1, Option.bind_some]
  obtain ⟨hf, e_hf, h⟩ := bind_some h
  obtain ⟨z_hf, d_hf, h_hf⟩ := imul_in e_hf h_h1 h_f
  rw [d_hf, Option.bind_some]
  obtain ⟨i1, e_i1, h⟩ := bind_some h
  obtain ⟨z_i1, d_i1, h_i1⟩ := iadd_in e_i1 h_r h_hf
  rw [d_i1, Option.bind_some]
  obtain ⟨i2, e_i2, h⟩ := bind_some h
  obtain ⟨z_i2, d_i2, h_i2⟩ := imul_in e_i2 h_s h_i1
  rw [d_i2, Option.bind_some]
  obtain ⟨i3, e_i3, h⟩ := bind_some h
  obtain ⟨z_i3, d_i3, h_i3⟩ := imul_in e_i3 (In.pt (by decide +kernel)) h_k
  rw [d_i3, Option.bind_some]
  obtain ⟨inr, e_inr, h⟩ := bind_some h
  obtain ⟨z_inr, d_inr, h_inr⟩ := iadd_in e_inr h_i2 h_i3
  rw [d_inr, Option.bind_some]
  obtain ⟨k1, e_k1, h⟩ := bind_some h
  obtain ⟨z_k1, d_k1, h_k1⟩ := imul_in e_k1 h_k (In.pt (by decide +kernel))
  rw [d_k1, Option.bind_some]
  obtain ⟨j1, e_j1, h⟩ := bind_some h
  obtain ⟨z_j1, d_j1, h_j1⟩ := isub_in e_j1 h_hf h_inr
  rw [d_j1, Option.bind_some]
  obtain ⟨j2, e_j2, h⟩ := bind_some h
  obtain ⟨z_j2, d_j2, h_j2⟩ := isub_in e_j2 h_j1 h_f
  rw [d_j2, Option.bind_some]
  obtain ⟨lg, e_lg, h⟩ := bind_some h
  obtain ⟨z_lg, d_lg, h_lg⟩ := isub_in e_lg h_k1 h_j2
  rw [d_lg, Option.bind_some]
  injection h with h
  subst h
  exact ⟨z_lg, rfl, h_lg⟩
/-- .. times 1/ln 2 -/
def lo2 (x : Nat) (sm : Bool) : Option Nat := (logO x sm).bind fun z => D.mul z INV
def lo2I (x : I) (sm : Bool) : Option I := (logI x sm).bind fun z => imul z (INV, INV)
theorem lo2I_in {p r : I} {x : Nat} {sm : Bool} (h : lo2I p sm = some r) (hx : In p x) : ∃ y z, logO x sm = some y ∧ D.mul y INV = some z ∧ In r z := by
  obtain ⟨q, e, h⟩ := bind_some h
  obtain ⟨y, e2, hy⟩ := logI_in e hx
  obtain ⟨z, e3, hz⟩ := imul_in h hy (In.pt fin_INV)
  exact ⟨y, z, e2, e3, hz⟩
/-- all numbers between two neighbours of the list have their logarithm between lo and hi -/
def cover (lo hi : Nat) (sm : Bool) : List Nat → Bool
  | [] => true
  | a :: r =>
    match r with
    | [] => true
    | b :: _ =>
      (match lo2I (a, b) sm with
        | some v => fin a && fin b && decide (sv D lo ≤ sv D v.1) && decide (sv D v.2 ≤ sv D hi)
        | none => false) && cover lo hi sm r
def lastW (d : Nat) : List Nat → Nat
  | [] => d
  | a :: r => lastW a r
/-- the logarithm of x lies between lo and hi -/
def Lies (lo hi : Nat) (x : Nat) (sm : Bool) : Prop := ∃ y z, logO x sm = some y ∧ D.mul y INV = some z ∧ sv D lo ≤ sv D z ∧ sv D z ≤ sv D hi
theorem cover_in {lo hi : Nat} {sm : Bool} {x : Nat} : ∀ (r : List Nat) (a : Nat), r ≠ [] → cover lo hi sm (a :: r) = true → sv D a ≤ sv D x → sv D x ≤ sv D (lastW a r) → Lies lo hi x sm
  | [], a, h0, _, _, _ => absurd rfl h0
  | b :: r, a, _, h, h1, h2 => by
    unfold cover at h
    rw [Bool.and_eq_true] at h
    obtain ⟨hv, hr⟩ := h
    by_cases hb : sv D x ≤ sv D b
    · split at hv
      · rename_i v e
        simp only [Bool.and_eq_true, decide_eq_true_eq] at hv
        obtain ⟨⟨⟨f1, f2⟩, g1⟩, g2⟩ := hv
        obtain ⟨y, z, e1, e2, hz⟩ := lo2I_in e ⟨h1, hb, f1, f2⟩
        exact ⟨y, z, e1, e2, Int.le_trans g1 hz.lo, Int.le_trans hz.hi g2⟩
      · cases hv
    · match r, hr, h2 with
      | [], _, h2 => exact absurd h2 hb
      | c :: r, hr, h2 => exact cover_in (c :: r) b (by simp) hr (by omega) h2
theorem sv_nat {x : Nat} (h : x < 9223372036854775808) : sv D x = x := by
  have e : rung D x = x := by rw [rung_eq]; exact Nat.mod_eq_of_lt h
  have e2 : isNeg D x = false := by
    unfold isNeg
    rw [dbl_sw, Nat.div_eq_of_lt h]; rfl
  unfold sv; rw [e, e2]; rfl
theorem seg8S : cover 13830554455654793216 13830484086917652426 true [4602678819172646913, 4602678819274225856, 4602679775698543061, 4602703206981753663, 4602703272911375878, 4602703273268747135] = true := by decide +kernel
theorem seg7S : cover 13830484086910615552 13830413718166578625 true [4602703273277803243, 4602703274107190247, 4602703426375707042, 4602723283322581409, 4602727812648503231, 4602727859640162869, 4602727860151572710, 4602727860152699041] = true := by decide +kernel
theorem seg6S : cover 13830413718166437888 13830272980678364035 true [4602727860161804322, 4602727860575371319, 4602727898542967303, 4602731267212590458, 4602776661105239114, 4602777418285922330, 4602777434793668054, 4602777435154980501, 4602777435158563853] = true := by decide +kernel
theorem seg5S : cover 13830272980678082560 13829991505701934854 true [4602777435167768284, 4602777435373414819, 4602777444767763223, 4602777872970657397, 4602795737855015151, 4602875318112183819, 4602878083613623051, 4602878204951833545, 4602878210314440856, 4602878210551519448, 4602878210557986304] = true := by decide +kernel
theorem seg4S : cover 13829991505701371904 13829428555749076492 true [4602878210567392286, 4602878210669067164, 4602878212968857283, 4602878264980867005, 4602879437684401436, 4602904265660297341, 4603073693637312704, 4603085301630047754, 4603086328394248871, 4603086420643288595, 4603086428942716712, 4603086429689488532, 4603086429756682839, 4603086429758841105] = true := by decide +kernel
theorem seg3S : cover 13829428555747950592 13828302655843359768 true [4603086429768663526, 4603086429818333573, 4603086430370346417, 4603086436505144050, 4603086504678050815, 4603087261485191114, 4603095570937024405, 4603177806050553740, 4603479092046137134, 4603521644825710710, 4603529226041005940, 4603530617423980914, 4603530874121617740, 4603530921525313321, 4603530930280775730, 4603530931897962246, 4603530932196668108, 4603530932251841269, 4603530932259913300] = true := by decide +kernel
theorem seg2S : cover 13828302655841107968 13826050856031926320 true [4603530932270624726, 4603530932294264676, 4603530932422250621, 4603530933115162169, 4603530936866552031, 4603530957176113453, 4603531067121270595, 4603531662062800884, 4603534874359855161, 4603552017021718885, 4603638397482402229, 4603990782828370414, 4604365763597407900, 4604480296787839059, 4604520652279338124, 4604535461741565139, 4604540973195637979, 4604543034826428151, 4604543807468977815, 4604544097239291375, 4604544205943002799, 4604544246725898274, 4604544262027184750, 4604544267768136755, 4604544269922119239, 4604544270730286539, 4604544271033508535, 4604544271147276568, 4604544271189962016, 4604544271205977477, 4604544271211433138] = true := by decide +kernel
theorem seg1L : cover 13826050856027422720 13696745711140458060 false [4604544271224171241, 4607182418791010209] = true := by decide +kernel
theorem segAllS : cover 13830554455654793216 0 true [4602678819172646913, 4602678819274225856, 4602679775698543061, 4602771639533918098, 4603593233868266768, 4604544271217802189] = true := by decide +kernel
theorem segAllL : cover 13830554455654793216 0 false [4604544271217802189, 4607182418800017407] = true := by decide +kernel
theorem segCS : cover 13830554455654793216 13696745711140458060 true [4602678819172646913, 4602678819274225856, 4602679775698543061, 4602771639533918098, 4603593233868266768, 4604544271217802189] = true := by decide +kernel
theorem segCL : cover 13830554455654793216 13696745711140458060 false [4604544271217802189, 4607182418791010209] = true := by decide +kernel
theorem segTS : cover 13830554455654793216 13676161994314988987 true [4602678819172646913, 4602678819274225856, 4602679775698543061, 4602771639533918098, 4603593233868266768, 4604544271217802189] = true := by decide +kernel
theorem segTL : cover 13830554455654793216 13676161994314988987 false [4604544271217802189, 4607182418799476976] = true := by decide +kernel

theorem seg8_lies {φ : Nat} (h1 : 4602678819172646913 ≤ φ) (h2 : φ ≤ 4602703273268747135) : (φ ≤ 4604544271217802189 ∧ Lies 13830554455654793216 13830484086917652426 φ true) ∨ (4604544271217802189 < φ ∧ Lies 13830554455654793216 13830484086917652426 φ false) := by
  exact Or.inl ⟨by omega, cover_in _ _ (by simp) seg8S (by rw [sv_nat (x := 4602678819172646913) (by decide), sv_nat (by omega)]; omega) (by show sv D φ ≤ sv D 4602703273268747135; rw [sv_nat (x := 4602703273268747135) (by decide), sv_nat (by omega)]; omega)⟩

theorem seg7_lies {φ : Nat} (h1 : 4602703273277803243 ≤ φ) (h2 : φ ≤ 4602727860152699041) : (φ ≤ 4604544271217802189 ∧ Lies 13830484086910615552 13830413718166578625 φ true) ∨ (4604544271217802189 < φ ∧ Lies 13830484086910615552 13830413718166578625 φ false) := by
  exact Or.inl ⟨by omega, cover_in _ _ (by simp) seg7S (by rw [sv_nat (x := 4602703273277803243) (by decide), sv_nat (by omega)]; omega) (by show sv D φ ≤ sv D 4602727860152699041; rw [sv_nat (x := 4602727860152699041) (by decide), sv_nat (by omega)]; omega)⟩

theorem seg6_lies {φ : Nat} (h1 : 4602727860161804322 ≤ φ) (h2 : φ ≤ 4602777435158563853) : (φ ≤ 4604544271217802189 ∧ Lies 13830413718166437888 13830272980678364035 φ true) ∨ (4604544271217802189 < φ ∧ Lies 13830413718166437888 13830272980678364035 φ false) := by
  exact Or.inl ⟨by omega, cover_in _ _ (by simp) seg6S (by rw [sv_nat (x := 4602727860161804322) (by decide), sv_nat (by omega)]; omega) (by show sv D φ ≤ sv D 4602777435158563853; rw [sv_nat (x := 4602777435158563853) (by decide), sv_nat (by omega)]; omega)⟩

theorem seg5_lies {φ : Nat} (h1 : 4602777435167768284 ≤ φ) (h2 : φ ≤ 4602878210557986304) : (φ ≤ 4604544271217802189 ∧ Lies 13830272980678082560 13829991505701934854 φ true) ∨ (4604544271217802189 < φ ∧ Lies 13830272980678082560 13829991505701934854 φ false) := by
  exact Or.inl ⟨by omega, cover_in _ _ (by simp) seg5S (by rw [sv_nat (x := 4602777435167768284) (by decide), sv_nat (by omega)]; omega) (by show sv D φ ≤ sv D 4602878210557986304; rw [sv_nat (x := 4602878210557986304) (by decide), sv_nat (by omega)]; omega)⟩

theorem seg4_lies {φ : Nat} (h1 : 4602878210567392286 ≤ φ) (h2 : φ ≤ 4603086429758841105) : (φ ≤ 4604544271217802189 ∧ Lies 13829991505701371904 13829428555749076492 φ true) ∨ (4604544271217802189 < φ ∧ Lies 13829991505701371904 13829428555749076492 φ false) := by
  exact Or.inl ⟨by omega, cover_in _ _ (by simp) seg4S (by rw [sv_nat (x := 4602878210567392286) (by decide), sv_nat (by omega)]; omega) (by show sv D φ ≤ sv D 4603086429758841105; rw [sv_nat (x := 4603086429758841105) (by decide), sv_nat (by omega)]; omega)⟩

theorem seg3_lies {φ : Nat} (h1 : 4603086429768663526 ≤ φ) (h2 : φ ≤ 4603530932259913300) : (φ ≤ 4604544271217802189 ∧ Lies 13829428555747950592 13828302655843359768 φ true) ∨ (4604544271217802189 < φ ∧ Lies 13829428555747950592 13828302655843359768 φ false) := by
  exact Or.inl ⟨by omega, cover_in _ _ (by simp) seg3S (by rw [sv_nat (x := 4603086429768663526) (by decide), sv_nat (by omega)]; omega) (by show sv D φ ≤ sv D 4603530932259913300; rw [sv_nat (x := 4603530932259913300) (by decide), sv_nat (by omega)]; omega)⟩

theorem seg2_lies {φ : Nat} (h1 : 4603530932270624726 ≤ φ) (h2 : φ ≤ 4604544271211433138) : (φ ≤ 4604544271217802189 ∧ Lies 13828302655841107968 13826050856031926320 φ true) ∨ (4604544271217802189 < φ ∧ Lies 13828302655841107968 13826050856031926320 φ false) := by
  exact Or.inl ⟨by omega, cover_in _ _ (by simp) seg2S (by rw [sv_nat (x := 4603530932270624726) (by decide), sv_nat (by omega)]; omega) (by show sv D φ ≤ sv D 4604544271211433138; rw [sv_nat (x := 4604544271211433138) (by decide), sv_nat (by omega)]; omega)⟩

theorem seg1_lies {φ : Nat} (h1 : 4604544271224171241 ≤ φ) (h2 : φ ≤ 4607182418791010209) : (φ ≤ 4604544271217802189 ∧ Lies 13826050856027422720 13696745711140458060 φ true) ∨ (4604544271217802189 < φ ∧ Lies 13826050856027422720 13696745711140458060 φ false) := by
  exact Or.inr ⟨by omega, cover_in _ _ (by simp) seg1L (by rw [sv_nat (x := 4604544271224171241) (by decide), sv_nat (by omega)]; omega) (by show sv D φ ≤ sv D 4607182418791010209; rw [sv_nat (x := 4607182418791010209) (by decide), sv_nat (by omega)]; omega)⟩

theorem segAll_lies {φ : Nat} (h1 : 4602678819172646913 ≤ φ) (h2 : φ ≤ 4607182418800017407) : (φ ≤ 4604544271217802189 ∧ Lies 13830554455654793216 0 φ true) ∨ (4604544271217802189 < φ ∧ Lies 13830554455654793216 0 φ false) := by
  by_cases h : φ ≤ 4604544271217802189
  · exact Or.inl ⟨h, cover_in _ _ (by simp) segAllS (by rw [sv_nat (x := 4602678819172646913) (by decide), sv_nat (by omega)]; omega) (by show sv D φ ≤ sv D 4604544271217802189; rw [sv_nat (x := 4604544271217802189) (by decide), sv_nat (by omega)]; omega)⟩
  · exact Or.inr ⟨by omega, cover_in _ _ (by simp) segAllL (by rw [sv_nat (x := 4604544271217802189) (by decide), sv_nat (by omega)]; omega) (by show sv D φ ≤ sv D 4607182418800017407; rw [sv_nat (x := 4607182418800017407) (by decide), sv_nat (by omega)]; omega)⟩

theorem segC_lies {φ : Nat} (h1 : 4602678819172646913 ≤ φ) (h2 : φ ≤ 4607182418791010209) : (φ ≤ 4604544271217802189 ∧ Lies 13830554455654793216 13696745711140458060 φ true) ∨ (4604544271217802189 < φ ∧ Lies 13830554455654793216 13696745711140458060 φ false) := by
  by_cases h : φ ≤ 4604544271217802189
  · exact Or.inl ⟨h, cover_in _ _ (by simp) segCS (by rw [sv_nat (x := 4602678819172646913) (by decide), sv_nat (by omega)]; omega) (by show sv D φ ≤ sv D 4604544271217802189; rw [sv_nat (x := 4604544271217802189) (by decide), sv_nat (by omega)]; omega)⟩
  · exact Or.inr ⟨by omega, cover_in _ _ (by simp) segCL (by rw [sv_nat (x := 4604544271217802189) (by decide), sv_nat (by omega)]; omega) (by show sv D φ ≤ sv D 4607182418791010209; rw [sv_nat (x := 4607182418791010209) (by decide), sv_nat (by omega)]; omega)⟩

theorem segT_lies {φ : Nat} (h1 : 4602678819172646913 ≤ φ) (h2 : φ ≤ 4607182418799476976) : (φ ≤ 4604544271217802189 ∧ Lies 13830554455654793216 13676161994314988987 φ true) ∨ (4604544271217802189 < φ ∧ Lies 13830554455654793216 13676161994314988987 φ false) := by
  by_cases h : φ ≤ 4604544271217802189
  · exact Or.inl ⟨h, cover_in _ _ (by simp) segTS (by rw [sv_nat (x := 4602678819172646913) (by decide), sv_nat (by omega)]; omega) (by show sv D φ ≤ sv D 4604544271217802189; rw [sv_nat (x := 4604544271217802189) (by decide), sv_nat (by omega)]; omega)⟩
  · exact Or.inr ⟨by omega, cover_in _ _ (by simp) segTL (by rw [sv_nat (x := 4604544271217802189) (by decide), sv_nat (by omega)]; omega) (by show sv D φ ≤ sv D 4607182418799476976; rw [sv_nat (x := 4607182418799476976) (by decide), sv_nat (by omega)]; omega)⟩

end Plf
