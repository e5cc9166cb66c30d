import JvmDerived
import JvmDerived.Pilot.@@N@@Statement
import JvmDerived.Pilot.@@N@@Code
set_option linter.unusedVariables false
set_option linter.unusedSimpArgs false
@@BLOCK:NumsL.lean.txt@@
namespace Jvm.Pilot.@@N@@
open Jvm Jvm.ClassFile Sem Op Lib Jvm.Free Jvm.Stand Jvm.LawKit Jvm.RoadKit Bundle Jvm.Pilot.@@N@@.Jvm.D

section OwnFP
open Jvm.FP
theorem own_UP {U P : Nat} (hU : U = 2 ^ 1074) (hP : P = 2 ^ 1050) : U = 2 ^ 24 * P := by
  rw [hU, hP, show (1074 : Nat) = 24 + 1050 from rfl, Nat.pow_add]
theorem own_Pp {P : Nat} (hP : P = 2 ^ 1050) : 0 < P := by rw [hP]; exact Nat.two_pow_pos _
/-- a number of the format with the magnitude N * 2^-24 -/
theorem own_fitN {P : Nat} (hP : P = 2 ^ 1050) {N : Nat} (h0 : 0 < N) (h1 : N < 2 ^ 53) : ∃ V : Core.Datum, Core.fits Core.b64 V ∧ V ≠ .nan ∧ Core.zmag Core.b64 V = N * P := by
  have l1 : 2 ^ N.log2 ≤ N := Nat.log2_self_le (by omega)
  have l2 : N < 2 ^ (N.log2 + 1) := Nat.lt_log2_self
  have l3 : N.log2 ≤ 52 := by
    have := Nat.pow_lt_pow_iff_right (a := 2) (by decide) |>.mp (Nat.lt_of_le_of_lt l1 h1)
    omega
  generalize N.log2 = g at *
  have p : 2 ^ g * 2 ^ (52 - g) = 2 ^ 52 := by rw [← Nat.pow_add]; congr 1; omega
  have p' : 2 ^ (g + 1) * 2 ^ (52 - g) = 2 ^ 53 := by rw [← Nat.pow_add]; congr 1; omega
  have q0 : Core.b64.qmin = -1074 := by decide
  have q1 : Core.b64.qmax = 971 := by decide
  have q2 : Core.b64.tails = 2 ^ 52 := by decide
  refine ⟨.fin false (N * 2 ^ (52 - g)) (-24 - ((52 - g : Nat) : Int)), ⟨?_, ?_, ?_, Or.inr ?_⟩, by simp, ?_⟩
  · show N * 2 ^ (52 - g) < 2 ^ 53
    rw [← p']; exact (Nat.mul_lt_mul_right (Nat.two_pow_pos _)).mpr l2
  · rw [q0]; omega
  · rw [q1]; omega
  · rw [q2, ← p]; exact Nat.mul_le_mul_right _ l1
  · show N * 2 ^ (52 - g) * 2 ^ (-24 - ((52 - g : Nat) : Int) - Core.b64.qmin).toNat = _
    rw [q0, Nat.mul_assoc, ← Nat.pow_add, show 52 - g + (-24 - ((52 - g : Nat) : Int) - -1074).toNat = 1050 by omega, hP]
theorem own_zwhole {U : Nat} (hU : U = 2 ^ 1074) {x : Core.Datum} {n : Nat} (hx : Core.fits Core.b64 x) (h : Core.Whole (n : Int) x) : x ≠ .nan ∧ Core.zmag Core.b64 x = n * U := by
  have q0 : Core.b64.qmin = -1074 := by decide
  cases x with
  | nan => exact h.elim
  | inf s => exact h.elim
  | fin s c q =>
    refine ⟨by simp, ?_⟩
    obtain ⟨-, h2, -, -⟩ := hx
    rw [q0] at h2
    have hw : Core.signed s (c * 2 ^ q.toNat) = (n : Int) * ((2 ^ (-q).toNat : Nat) : Int) := h
    have hn : c * 2 ^ q.toNat = n * 2 ^ (-q).toNat := by
      unfold Core.signed at hw
      cases s
      · simp only [Bool.false_eq_true, if_false] at hw; exact_mod_cast hw
      · simp only [if_true] at hw
        have : ((n * 2 ^ (-q).toNat : Nat) : Int) = -((c * 2 ^ q.toNat : Nat) : Int) := by rw [hw]; push_cast; rfl
        omega
    show c * 2 ^ (q - Core.b64.qmin).toNat = _
    rw [q0]
    have e : (q - -1074).toNat + (-q).toNat = q.toNat + 1074 := by omega
    have hm : c * 2 ^ (q - -1074).toNat * 2 ^ (-q).toNat = n * U * 2 ^ (-q).toNat := by
      rw [Nat.mul_assoc, ← Nat.pow_add, e, Nat.pow_add, ← Nat.mul_assoc, hn, ← hU]; ac_rfl
    exact Nat.eq_of_mul_eq_mul_right (Nat.two_pow_pos _) hm
/-- the quotient of two whole numbers, as one rounding -/
theorem own_quot {x y : Core.Datum} {s : Bool} {c : Nat} {q : Int} {A B : Nat} {i : Int} (hx : x = .fin s c q) (wx : Core.Whole i x) (hA : i.natAbs = A) (wy : Core.Whole (B : Int) y) (hB : 0 < B) (hys : Core.sgn y = false) : Core.quotient Core.b64 x y = Core.roundRatio Core.b64 s A B 0 := by
  subst hx
  cases y with
  | nan => exact wy.elim
  | inf t => exact wy.elim
  | fin t d r =>
    have ht : t = false := hys
    subst ht
    have hx' : Core.signed s (c * 2 ^ q.toNat) = i * ((2 ^ (-q).toNat : Nat) : Int) := wx
    have hy' : Core.signed false (d * 2 ^ r.toNat) = (B : Int) * ((2 ^ (-r).toNat : Nat) : Int) := wy
    have hc : c * 2 ^ q.toNat = A * 2 ^ (-q).toNat := by
      have h := congrArg Int.natAbs hx'
      rw [Int.natAbs_mul, hA, Int.natAbs_natCast] at h
      rw [← h]; unfold Core.signed; cases s
      · simp only [Bool.false_eq_true, if_false]; exact (Int.natAbs_natCast _).symm
      · simp only [if_true]; rw [Int.natAbs_neg]; exact (Int.natAbs_natCast _).symm
    have hd : d * 2 ^ r.toNat = B * 2 ^ (-r).toNat := by
      unfold Core.signed at hy'
      simp only [Bool.false_eq_true, if_false] at hy'
      exact_mod_cast hy'
    have hd0 : 0 < d := by
      rcases Nat.eq_zero_or_pos d with z | z
      · rw [z, Nat.zero_mul] at hd
        have := Nat.mul_pos hB (Nat.two_pow_pos (-r).toNat)
        omega
      · exact z
    show (if d = 0 then _ else Core.roundRatio Core.b64 (s != false) c d (q - r)) = _
    rw [if_neg (by omega), show (s != false) = s by cases s <;> rfl]
    refine Core.roundRatio_congr hd0 hB ?_
    have e1 : q.toNat + (-r).toNat = (q - r - 0).toNat + (q.toNat + (-r).toNat - (q - r - 0).toNat) := by omega
    have e2 : (-q).toNat + r.toNat = (0 - (q - r)).toNat + (q.toNat + (-r).toNat - (q - r - 0).toNat) := by omega
    have hm : c * B * 2 ^ (q.toNat + (-r).toNat) = A * d * 2 ^ ((-q).toNat + r.toNat) := by
      rw [Nat.pow_add, Nat.pow_add]
      calc c * B * (2 ^ q.toNat * 2 ^ (-r).toNat) = (c * 2 ^ q.toNat) * (B * 2 ^ (-r).toNat) := by ac_rfl
        _ = (A * 2 ^ (-q).toNat) * (d * 2 ^ r.toNat) := by rw [hc, hd]
        _ = A * d * (2 ^ (-q).toNat * 2 ^ r.toNat) := by ac_rfl
    rw [e1, e2] at hm
    generalize (q.toNat + (-r).toNat - (q - r - 0).toNat) = m at hm
    rw [Nat.pow_add, Nat.pow_add, ← Nat.mul_assoc, ← Nat.mul_assoc] at hm
    exact Nat.eq_of_mul_eq_mul_right (Nat.two_pow_pos m) hm
theorem own_m1 (Q B E : Nat) : (Q * E + 1) * B = Q * B * E + B := by rw [Nat.add_mul, Nat.one_mul, Nat.mul_right_comm]
theorem own_m3 (Q B E : Nat) : ((Q + 1) * E - 1) * B = Q * B * E + B * E - B := by
  rw [Nat.sub_mul, Nat.one_mul, Nat.add_mul, Nat.one_mul, Nat.add_mul, Nat.mul_right_comm Q E B, Nat.mul_comm E B]
/-- where the rounded quotient lies -/
theorem own_near {U P : Nat} (hU : U = 2 ^ 1074) (hP : P = 2 ^ 1050) {s : Bool} {Q B R : Nat} (hQ : Q < 2 ^ 28) (hB : 0 < B) (hB' : B ≤ 2 ^ 20) (hR : R < B) :
    (R = 0 → Core.zmag Core.b64 (Core.roundRatio Core.b64 s (Q * B + R) B 0) = Q * U) ∧
    (R ≠ 0 → Q * U < Core.zmag Core.b64 (Core.roundRatio Core.b64 s (Q * B + R) B 0) ∧ Core.zmag Core.b64 (Core.roundRatio Core.b64 s (Q * B + R) B 0) < (Q + 1) * U) := by
  have q0 : Core.b64.qmin = -1074 := by decide
  have pw := own_UP hU hP
  have Pp := own_Pp hP
  have key : ∀ V : Core.Datum, ∀ N : Nat, Core.fits Core.b64 V → V ≠ .nan → Core.zmag Core.b64 V = N * P →
      (N * B ≤ (Q * B + R) * 2 ^ 24 → Core.zmag Core.b64 V ≤ Core.zmag Core.b64 (Core.roundRatio Core.b64 s (Q * B + R) B 0)) ∧
      ((Q * B + R) * 2 ^ 24 ≤ N * B → Core.zmag Core.b64 (Core.roundRatio Core.b64 s (Q * B + R) B 0) ≤ Core.zmag Core.b64 V) := by
    intro V N fV nV zV
    have eu : Core.inUnits (Q * B + R) 0 Core.b64.qmin = (Q * B + R) * 2 ^ 24 * P := by
      show (Q * B + R) * 2 ^ ((0 : Int) - Core.b64.qmin).toNat = _
      rw [q0, show ((0 : Int) - -1074).toNat = 1074 from rfl, ← hU, pw]; ac_rfl
    have ev : Core.zmag Core.b64 V * 2 ^ (Core.b64.qmin - Core.b64.qmin).toNat * B = N * B * P := by
      rw [zV, Int.sub_self]; show N * P * 2 ^ 0 * B = _; rw [Nat.pow_zero, Nat.mul_one]; ac_rfl
    refine ⟨fun h => Core.zmag_roundRatio_ge Core.good_b64 (e0 := Core.b64.qmin) hB fV (Int.le_refl _) (by rw [q0]; decide) ?_, fun h => Core.zmag_roundRatio_le Core.good_b64 (e0 := Core.b64.qmin) hB fV nV (Int.le_refl _) (by rw [q0]; decide) ?_⟩
    · rw [eu, ev]; exact Nat.mul_le_mul_right _ h
    · rw [eu, ev]; exact Nat.mul_le_mul_right _ h
  constructor
  · intro hr
    subst hr
    rcases Nat.eq_zero_or_pos Q with z | z
    · subst z
      have : Core.roundRatio Core.b64 s (0 * B + 0) B 0 = .fin s 0 Core.b64.qmin := by rw [Nat.zero_mul]; rfl
      rw [this, Nat.zero_mul]
      show 0 * _ = 0
      exact Nat.zero_mul _
    · obtain ⟨V, fV, nV, zV⟩ := own_fitN hP (N := Q * 2 ^ 24) (Nat.mul_pos z (Nat.two_pow_pos _)) (by omega)
      obtain ⟨k1, k2⟩ := key V _ fV nV zV
      have e : Q * 2 ^ 24 * B = (Q * B + 0) * 2 ^ 24 := by rw [Nat.add_zero]; ac_rfl
      have := Nat.le_antisymm (k2 (Nat.le_of_eq e.symm)) (k1 (Nat.le_of_eq e))
      rw [this, zV, pw, Nat.mul_assoc]
  · intro hr
    have m1 := own_m1 Q B (2 ^ 24)
    have m2 : (Q * B + R) * 2 ^ 24 = Q * B * 2 ^ 24 + R * 2 ^ 24 := Nat.add_mul _ _ _
    have m3 := own_m3 Q B (2 ^ 24)
    obtain ⟨V1, fV1, nV1, zV1⟩ := own_fitN hP (N := Q * 2 ^ 24 + 1) (by omega) (by omega)
    obtain ⟨V2, fV2, nV2, zV2⟩ := own_fitN hP (N := (Q + 1) * 2 ^ 24 - 1) (by omega) (by omega)
    have k1 := (key V1 _ fV1 nV1 zV1).1 (by rw [m1, m2]; omega)
    have k2 := (key V2 _ fV2 nV2 zV2).2 (by rw [m2, m3]; omega)
    rw [zV1] at k1
    rw [zV2] at k2
    rw [pw]
    refine ⟨Nat.lt_of_lt_of_le ?_ k1, Nat.lt_of_le_of_lt k2 ?_⟩
    · rw [← Nat.mul_assoc]; exact (Nat.mul_lt_mul_right Pp).mpr (by omega)
    · rw [← Nat.mul_assoc]; exact (Nat.mul_lt_mul_right Pp).mpr (by omega)
/-- what the law compares: the quotient's double, its sign turned where the dividend's was -/
theorem own_fp {n o q r mag : Int64} {neg : Bool} (hq0 : 0 ≤ q.toInt) (hq1 : q.toInt < 2 ^ 28) (ho0 : 0 < o.toInt) (ho1 : o.toInt ≤ 2 ^ 20) (hr0 : 0 ≤ r.toInt) (hr1 : r.toInt < o.toInt) (hm : mag.toInt = q.toInt * o.toInt + r.toInt) (hn : n.toInt = if neg then -mag.toInt else mag.toInt) {m : UInt64} (em : m = if neg then FP.dneg (FP.ddiv (FP.l2d n) (FP.l2d o)) else FP.ddiv (FP.l2d n) (FP.l2d o)) :
    (r = 0 → FP.dcmp m (FP.l2d q) = some .eq) ∧ (¬ r = 0 → FP.dcmp (FP.l2d q) m = some .lt ∧ FP.dcmp m (FP.l2d (q + 1)) = some .lt) := by
  obtain ⟨Q, hQ⟩ := Int.eq_ofNat_of_zero_le hq0
  obtain ⟨B, hB⟩ := Int.eq_ofNat_of_zero_le (Int.le_of_lt ho0)
  obtain ⟨R, hR⟩ := Int.eq_ofNat_of_zero_le hr0
  rw [hQ] at hq1 hm
  rw [hB] at ho0 ho1 hr1 hm
  rw [hR] at hr1 hm
  have bB : 0 < B := by omega
  have bB1 : B ≤ 2 ^ 20 := by omega
  have bQ : Q < 2 ^ 28 := by omega
  have bR : R < B := by omega
  have nA : Q * B + R < 2 ^ 49 := by
    have : Q * B ≤ (2 ^ 28 - 1) * 2 ^ 20 := Nat.mul_le_mul (by omega) bB1
    omega
  have hmA : mag.toInt = ((Q * B + R : Nat) : Int) := by rw [hm]; push_cast; rfl
  have hnA : n.toInt.natAbs = Q * B + R := by rw [hn]; split <;> omega
  have sn : Core.Small53 n := by
    have : n.toInt.natAbs < 2 ^ 49 := by omega
    exact ⟨by omega, by omega⟩
  have so : Core.Small53 o := ⟨by omega, by omega⟩
  have sq : Core.Small53 q := ⟨by omega, by omega⟩
  have e1 : (1 : Int64).toInt = 1 := rfl
  have hq' : (q + 1).toInt = ((Q + 1 : Nat) : Int) := by rw [Jvm.Kit.i64_add (by omega) (by omega), hQ, e1]; push_cast; rfl
  have sq' : Core.Small53 (q + 1) := ⟨by omega, by omega⟩
  obtain ⟨U, hU⟩ : ∃ U : Nat, U = 2 ^ 1074 := ⟨_, rfl⟩
  obtain ⟨P, hP⟩ : ∃ P : Nat, P = 2 ^ 1050 := ⟨_, rfl⟩
  have Up : 0 < U := by rw [hU]; exact Nat.two_pow_pos _
  obtain ⟨c, e, hne⟩ := Core.l2d_shape n
  obtain ⟨d, f, hof⟩ := Core.l2d_shape o
  have wn := Core.l2d_whole sn
  have wo := Core.l2d_whole so
  rw [hB] at wo
  have hos : Core.sgn (Core.val64 (Core.l2d o)) = false := by rw [hof]; show decide (o.toInt < 0) = false; rw [hB]; simp
  have hquo := own_quot hne wn hnA wo bB hos
  have hdiv : Core.val64 (Core.ddiv (Core.l2d n) (Core.l2d o)) = Core.roundRatio Core.b64 (decide (n.toInt < 0)) (Q * B + R) B 0 := (Core.val64_ddiv _ _).trans hquo
  have hnn : Core.val64 (Core.ddiv (Core.l2d n) (Core.l2d o)) ≠ .nan := by rw [hdiv]; exact Core.roundRatio_ne_nan _ _ _ _ _
  -- the value of m
  have zD : Core.zval Core.b64 (Core.roundRatio Core.b64 (decide (n.toInt < 0)) (Q * B + R) B 0) = Core.signed (decide (n.toInt < 0)) (Core.zmag Core.b64 (Core.roundRatio Core.b64 (decide (n.toInt < 0)) (Q * B + R) B 0)) := by
    unfold Core.zval; rw [Core.sgn_roundRatio]
  have hmv : Core.val64 m ≠ .nan ∧ Core.zval Core.b64 (Core.val64 m) = (Core.zmag Core.b64 (Core.roundRatio Core.b64 (decide (n.toInt < 0)) (Q * B + R) B 0) : Int) := by
    cases neg
    · simp only [Bool.false_eq_true, if_false] at em hn
      have hs : decide (n.toInt < 0) = false := decide_eq_false (by rw [hn, hmA]; exact Int.not_lt.mpr (Int.natCast_nonneg _))
      rw [hs] at hdiv zD ⊢
      have e' : Core.val64 m = Core.roundRatio Core.b64 false (Q * B + R) B 0 := by rw [em]; exact hdiv
      rw [e']
      exact ⟨Core.roundRatio_ne_nan _ _ _ _ _, by rw [zD]; rfl⟩
    · simp only [if_true] at em hn
      have e' : Core.val64 m = Core.negate (Core.roundRatio Core.b64 (decide (n.toInt < 0)) (Q * B + R) B 0) := by rw [em, ← hdiv]; exact val64_dneg _
      rw [e']
      refine ⟨Core.negate_ne_nan (Core.roundRatio_ne_nan _ _ _ _ _), ?_⟩
      rw [Core.zval_negate, zD]
      rcases Nat.eq_zero_or_pos (Q * B + R) with z | z
      · have h0 : Core.zmag Core.b64 (Core.roundRatio Core.b64 (decide (n.toInt < 0)) (Q * B + R) B 0) = 0 := by
          rw [z]
          show 0 * _ = 0
          exact Nat.zero_mul _
        rw [h0]; unfold Core.signed; split <;> rfl
      · have hs : decide (n.toInt < 0) = true := decide_eq_true (by rw [hn, hmA]; exact Int.neg_neg_of_pos (by exact_mod_cast z))
        rw [hs]; unfold Core.signed; simp
  obtain ⟨n1, n2⟩ := own_near hU hP (s := decide (n.toInt < 0)) bQ bB bB1 bR
  obtain ⟨mn, mz⟩ := hmv
  generalize Core.zmag Core.b64 (Core.roundRatio Core.b64 (decide (n.toInt < 0)) (Q * B + R) B 0) = z at *
  have wq := Core.l2d_whole sq
  rw [hQ] at wq
  have wq' := Core.l2d_whole sq'
  rw [hq'] at wq'
  have zq : ∀ (y : Int64) (k : Nat), Core.Small53 y → y.toInt = (k : Int) → Core.val64 (Core.l2d y) ≠ .nan ∧ Core.zval Core.b64 (Core.val64 (Core.l2d y)) = ((k * U : Nat) : Int) := by
    intro y k hy hk
    have w := Core.l2d_whole hy
    rw [hk] at w
    obtain ⟨a1, a2⟩ := own_zwhole hU (Core.val64_fits _) w
    refine ⟨a1, ?_⟩
    obtain ⟨c', q', hs⟩ := Core.l2d_shape y
    have : Core.sgn (Core.val64 (Core.l2d y)) = false := by rw [hs]; show decide (y.toInt < 0) = false; rw [hk]; simp
    unfold Core.zval; rw [this, a2]; rfl
  obtain ⟨x1, x2⟩ := zq q Q sq hQ
  obtain ⟨y1, y2⟩ := zq (q + 1) (Q + 1) sq' hq'
  have ord : ∀ a b : UInt64, Core.val64 a ≠ .nan → Core.val64 b ≠ .nan → FP.dcmp a b = some (compare (Core.zval Core.b64 (Core.val64 a)) (Core.zval Core.b64 (Core.val64 b))) := fun a b ha hb => Core.order_zval Core.good_b64 (Core.val64_fits _) (Core.val64_fits _) ha hb
  refine ⟨fun h => ?_, fun h => ?_⟩
  · have hR0 : R = 0 := by rw [h] at hR; have : (0 : Int64).toInt = 0 := rfl; omega
    rw [ord _ _ mn x1, mz, x2, n1 hR0]
    simp [compare, compareOfLessAndEq]
  · have hR0 : R ≠ 0 := fun w => h (Int64.toInt_inj.mp (by rw [hR, w]; rfl))
    obtain ⟨k1, k2⟩ := n2 hR0
    have k1' : ((Q * U : Nat) : Int) < (z : Int) := by exact_mod_cast k1
    have k2' : (z : Int) < (((Q + 1) * U : Nat) : Int) := by exact_mod_cast k2
    constructor
    · rw [ord _ _ x1 mn, mz, x2]; simp only [compare, compareOfLessAndEq]; rw [if_pos k1']
    · rw [ord _ _ mn y1, mz, y2]; simp only [compare, compareOfLessAndEq]; rw [if_pos k2']
end OwnFP

theorem ef_rmR (m : MethodId) (x0 : Addr) : entryFrame m #[(.ref x0)] 1 = mkF m 0 #[.val (.ref x0)] [] := by first | (simp [entryFrame, mkF, argsToLocals, Value.category]; done) | rfl
theorem pn_3 : plainName "java/lang/Record" = true := by first | (simp [plainName, overriddenIn]; done) | decide +kernel
theorem d2_0 : decode jdk_30_method_1_code 0 = .ok (.aload_n 0, 1) := by decide +kernel
theorem d2_1 : decode jdk_30_method_1_code 1 = .ok (.invokespecial 1, 3) := by decide +kernel
theorem d2_4 : decode jdk_30_method_1_code 4 = .ok (.return_, 1) := by decide +kernel
def Q_rmR (Z : State) (a1 : Addr) (h0 : Heap) (n0 : Nat) (v : Option Value) (h : Heap) (L : List Loc) : Prop := v = none ∧ Fr n0 L ∧ h = h0
set_option maxRecDepth 65536 in
set_option maxHeartbeats 40000000 in
theorem rmR (l : Launch) (Z : State) (a0 : Array Value) (hw : ∀ d ∈ tables_1, d.before a0 Z = true) (ws : List Jvm.Cond) (a1 : Addr) (h0 : Heap) (n0 : Nat) (Z0 : n0 ≤ h0.size) :
    MetFree l (⟨"java/lang/Record", "<init>", "()V"⟩ : MethodName) (head1 (Jvm.Cond.code (⟨"java/lang/Record", "<init>", "()V"⟩ : MethodName) jdk_30_method_1_code 1 none :: ws) ({ frames := 1, cells := 0, slots := 0, locals := 12 } : Room)) (fun a U => a = #[(.ref a1)] ∧ Z.Warmed39 U.vm ∧ U.heap = h0) (fun _ _ _ _ _ => True) (fun _ U o U' => ∃ v L, o = .returned v ∧ Q_rmR Z a1 h0 n0 v U'.heap L ∧ FrameEnd U o U' L ({ frames := 1, cells := 0, slots := 0, locals := 12 } : Room).cells ({ frames := 1, cells := 0, slots := 0, locals := 12 } : Room).slots) := by
  refine MetFree.of_bodySF (plainFor_of_name pn_3) hisR ?_
  intro p e s m args below meth c s₁ Bd hml0 hP hK
  obtain ⟨rfl, hZ, hh⟩ := hP
  have hx := Bd.exec
  have hby := Bd.bytes
  have hml : c.maxLocals = 1 := hml0
  have hown : s.vm.findClass "java/lang/Record" = some m.cls := (findClass_of_methodNamed Bd.named :)
  have hnm := (name_of_methodNamed Bd.named Bd.method).1
  have X0 : Stand p l e ({ frames := 1, cells := 0, slots := 0, locals := 12 } : Room) s m #[(.ref a1)] below meth c s₁ [] 0 0 := Stand.of_body Bd
  have e0 : s₁.heap = h0 := by rw [← hh, Bd.state]; rfl
  have N0 := Fr.nil n0
  have pre0 : ∀ t, Steps p.tables e below (s₁.setTop (mkF m 0 #[.val (.ref a1)] [])) t → Steps p.tables e below (s₁.setTop (entryFrame m #[(.ref a1)] 1)) t := fun t k => castTop (ef_rmR m a1) k
  obtain ⟨T1, X1, e1, st1⟩ := initO X0 hx hZ hown (hw _ (List.mem_of_getElem? (i := 14) rfl)) (hw _ (List.mem_of_getElem? (i := 15) rfl)) (hw _ (List.mem_of_getElem? (i := 16) rfl)) e0 (g := (mkF m 1 #[.val (.ref a1)] [(.ref a1)])) rfl (by rw [hml]; rfl) rfl (hb hby d2_1) (by decide) (W := 0) (by show 2 * 0 + _ ≤ _; exact Nat.le_of_eq rfl) (by decide)
  have pre2 : ∀ t, Steps p.tables e below (T1.setTop (mkF m 4 #[.val (.ref a1)] [])) t → Steps p.tables e below (s₁.setTop (entryFrame m #[(.ref a1)] 1)) t := by
    intro t k
    refine pre0 t ?_
    show Steps p.tables e below (s₁.setTop (mkF m 0 #[.val (.ref a1)] [])) _
    refine XS.aloadN X0.here hx rfl (hb hby d2_0) rfl (rfl) ?_
    show Steps p.tables e below (s₁.setTop (mkF m 1 #[.val (.ref a1)] [(.ref a1)])) _
    refine st1 _ ?_
    show Steps p.tables e below (T1.setTop (mkF m 4 #[.val (.ref a1)] [])) _
    exact k
  obtain ⟨fs, hr, hrun, hended, hW, hsame⟩ := X1.leave (v := none) (fun _ => rfl)
  refine ⟨_, _, pre2 _ ?_, hrun, hended, _, _, rfl, ?_, ⟨_, rfl⟩, hW, hsame.mono (by decide) (by decide)⟩
  · exact X1.returnOut hx Bd.returns (hb hby d2_4) hr
  · show Q_rmR Z a1 h0 n0 _ T1.heap _
    rw [e1]
    exact ⟨rfl, N0, rfl⟩
theorem ef_rmI (m : MethodId) (x0 : Addr) (x1 : Int64) (x2 : Int64) : entryFrame m #[(.ref x0), (.long x1), (.long x2)] 5 = mkF m 0 #[.val (.ref x0), .val (.long x1), .second, .val (.long x2), .second] [] := by first | (simp [entryFrame, mkF, argsToLocals, Value.category]; done) | rfl
theorem pn_1 : plainName "com/example/tallybuf/tallybuf/cli/SideBySide$Run" = true := by first | (simp [plainName, overriddenIn]; done) | decide +kernel
theorem d1_0 : decode prog_64_method_1_code 0 = .ok (.aload_n 0, 1) := by decide +kernel
theorem d1_1 : decode prog_64_method_1_code 1 = .ok (.invokespecial 1, 3) := by decide +kernel
theorem pd_0 : parseMethodDescriptor "()V" = some ⟨[], none⟩ := by decide +kernel
theorem d1_4 : decode prog_64_method_1_code 4 = .ok (.aload_n 0, 1) := by decide +kernel
theorem d1_5 : decode prog_64_method_1_code 5 = .ok (.lload_n 1, 1) := by decide +kernel
theorem d1_6 : decode prog_64_method_1_code 6 = .ok (.putfield 7, 3) := by decide +kernel
theorem d1_9 : decode prog_64_method_1_code 9 = .ok (.aload_n 0, 1) := by decide +kernel
theorem d1_10 : decode prog_64_method_1_code 10 = .ok (.lload_n 3, 1) := by decide +kernel
theorem d1_11 : decode prog_64_method_1_code 11 = .ok (.putfield 13, 3) := by decide +kernel
theorem d1_14 : decode prog_64_method_1_code 14 = .ok (.return_, 1) := by decide +kernel
def Q_rmI (Z : State) (a1 : Addr) (q1 : Int64) (q2 : Int64) (h0 : Heap) (n0 : Nat) (v : Option Value) (h : Heap) (L : List Loc) : Prop := v = none ∧ Fr n0 L ∧ Keep h0 h [a1] ∧ Exa Z h a1 "com/example/tallybuf/tallybuf/cli/SideBySide$Run" ∧ Fld Z h a1 "com/example/tallybuf/tallybuf/cli/SideBySide$Run" "operations" "J" (.long q1) ∧ Fld Z h a1 "com/example/tallybuf/tallybuf/cli/SideBySide$Run" "nanos" "J" (.long q2)
set_option maxRecDepth 65536 in
set_option maxHeartbeats 40000000 in
theorem rmI (l : Launch) (Z : State) (a0 : Array Value) (hw : ∀ d ∈ tables_1, d.before a0 Z = true) (ws : List Jvm.Cond) (a1 : Addr) (q1 : Int64) (q2 : Int64) (h0 : Heap) (n0 : Nat) (Z0 : n0 ≤ h0.size) (F1 : Fld Z h0 a1 "com/example/tallybuf/tallybuf/cli/SideBySide$Run" "operations" "J" (.long (0 : Int64))) (F2 : Fld Z h0 a1 "com/example/tallybuf/tallybuf/cli/SideBySide$Run" "nanos" "J" (.long (0 : Int64))) (E1 : Exa Z h0 a1 "com/example/tallybuf/tallybuf/cli/SideBySide$Run") (g_a1 : n0 ≤ a1) :
    MetFree l (⟨"com/example/tallybuf/tallybuf/cli/SideBySide$Run", "<init>", "(JJ)V"⟩ : MethodName) (head1 (Jvm.Cond.code (⟨"com/example/tallybuf/tallybuf/cli/SideBySide$Run", "<init>", "(JJ)V"⟩ : MethodName) prog_64_method_1_code 5 none :: ws) ({ frames := 2, cells := 0, slots := 0, locals := 24 } : Room)) (fun a U => a = #[(.ref a1), (.long q1), (.long q2)] ∧ Z.Warmed39 U.vm ∧ U.heap = h0) (fun _ _ _ _ _ => True) (fun _ U o U' => ∃ v L, o = .returned v ∧ Q_rmI Z a1 q1 q2 h0 n0 v U'.heap L ∧ FrameEnd U o U' L ({ frames := 2, cells := 0, slots := 0, locals := 24 } : Room).cells ({ frames := 2, cells := 0, slots := 0, locals := 24 } : Room).slots) := by
  refine MetFree.of_bodySF (plainFor_of_name pn_1) hisR ?_
  intro p e s m args below meth c s₁ Bd hml0 hP hK
  obtain ⟨rfl, hZ, hh⟩ := hP
  have hx := Bd.exec
  have hby := Bd.bytes
  have hml : c.maxLocals = 5 := hml0
  have hown : s.vm.findClass "com/example/tallybuf/tallybuf/cli/SideBySide$Run" = some m.cls := (findClass_of_methodNamed Bd.named :)
  have hnm := (name_of_methodNamed Bd.named Bd.method).1
  have X0 : Stand p l e ({ frames := 2, cells := 0, slots := 0, locals := 24 } : Room) s m #[(.ref a1), (.long q1), (.long q2)] below meth c s₁ [] 0 0 := Stand.of_body Bd
  have e0 : s₁.heap = h0 := by rw [← hh, Bd.state]; rfl
  have N0 := Fr.nil n0
  have pre0 : ∀ t, Steps p.tables e below (s₁.setTop (mkF m 0 #[.val (.ref a1), .val (.long q1), .second, .val (.long q2), .second] [])) t → Steps p.tables e below (s₁.setTop (entryFrame m #[(.ref a1), (.long q1), (.long q2)] 5)) t := fun t k => castTop (ef_rmI m a1 q1 q2) k
  obtain ⟨_, _, ⟨T1, L1, k1, n1⟩, -, X1, ⟨Lc1, hQ1, l1, y1, z1⟩, st1⟩ := X0.specialBack hx (y := (⟨"java/lang/Record", "<init>", "()V"⟩ : MethodName)) rfl hown (mvT hZ (hw _ (List.mem_of_getElem? (i := 9) rfl))) (mvT hZ (hw _ (List.mem_of_getElem? (i := 10) rfl))) (mvT hZ (hw _ (List.mem_of_getElem? (i := 13) rfl))) (by decide) (backOf (W := 0) (rmR l Z a0 hw [] a1  h0 n0 Z0 ) hZ (hw _ (List.mem_of_getElem? (i := 13) rfl)) (hw _ (List.mem_of_getElem? (i := 12) rfl)) (by decide) (by decide)) (g := (mkF m 1 #[.val (.ref a1), .val (.long q1), .second, .val (.long q2), .second] [(.ref a1)])) rfl (by rw [hml]; rfl) (Steps.refl _) (a := a1) (argsL := []) (rest := []) (lenOf pd_0 rfl) rfl (by show 2 * 0 + _ ≤ _; exact Nat.le_of_eq rfl) (hb hby d1_1) (fun _ _ => ⟨rfl, e0, (by decide : 0 + 0 ≤ _), (by decide : 0 + 0 ≤ _)⟩)
  dsimp only [Pt.U, Pt.locs, Pt.cells, Pt.slots] at X1 l1 y1 z1 st1 hQ1
  subst l1 y1 z1
  obtain ⟨rfl, N1q, hq1⟩ := hQ1
  have N1 := Fr.app N0 N1q
  obtain ⟨T2, h2, X2, e2, W2, st2⟩ := putF X1 hx hZ hown (host := "") (Or.inl (hw _ (List.mem_of_getElem? (i := 17) rfl))) Via.refl hq1 F1 E1 (Or.inr ⟨(hw _ (List.mem_of_getElem? (i := 18) rfl)), rfl, hnm⟩) (hw _ (List.mem_of_getElem? (i := 4) rfl)) (ty := .long) (by decide) rfl rfl (g := (mkF m 6 #[.val (.ref a1), .val (.long q1), .second, .val (.long q2), .second] [(.long q1), (.ref a1)])) rfl rfl (hb hby d1_6)
  have Fw2 := F1.same W2
  have K2 : Keep h0 h2 [a1] := (Keep.refl h0 [a1]).wr W2 (Or.inl (List.mem_of_getElem? (i := 0) rfl))
  have N2 := Fr.snoc X2 N1 g_a1
  obtain ⟨T3, h3, X3, e3, W3, st3⟩ := putF X2 hx hZ hown (host := "") (Or.inl (hw _ (List.mem_of_getElem? (i := 19) rfl))) Via.refl e2 (F2.other W2 (Or.inr (slot_ne (Or.inr (hw _ (List.mem_of_getElem? (i := 20) rfl))) (Or.inr (hw _ (List.mem_of_getElem? (i := 18) rfl))) (by decide) (t := .long) (t' := .long) (by decide) (by decide)))) (E1.wr W2) (Or.inr ⟨(hw _ (List.mem_of_getElem? (i := 20) rfl)), rfl, hnm⟩) (hw _ (List.mem_of_getElem? (i := 4) rfl)) (ty := .long) (by decide) rfl rfl (g := (mkF m 11 #[.val (.ref a1), .val (.long q1), .second, .val (.long q2), .second] [(.long q2), (.ref a1)])) rfl rfl (hb hby d1_11)
  have Fw3 := (F2.other W2 (Or.inr (slot_ne (Or.inr (hw _ (List.mem_of_getElem? (i := 20) rfl))) (Or.inr (hw _ (List.mem_of_getElem? (i := 18) rfl))) (by decide) (t := .long) (t' := .long) (by decide) (by decide)))).same W3
  have K3 : Keep h0 h3 [a1] := K2.wr W3 (Or.inl (List.mem_of_getElem? (i := 0) rfl))
  have N3 := Fr.snoc X3 N2 g_a1
  have pre4 : ∀ t, Steps p.tables e below (T3.setTop (mkF m 14 #[.val (.ref a1), .val (.long q1), .second, .val (.long q2), .second] [])) t → Steps p.tables e below (s₁.setTop (entryFrame m #[(.ref a1), (.long q1), (.long q2)] 5)) t := by
    intro t k
    refine pre0 t ?_
    show Steps p.tables e below (s₁.setTop (mkF m 0 #[.val (.ref a1), .val (.long q1), .second, .val (.long q2), .second] [])) _
    refine XS.aloadN X0.here hx rfl (hb hby d1_0) rfl (rfl) ?_
    show Steps p.tables e below (s₁.setTop (mkF m 1 #[.val (.ref a1), .val (.long q1), .second, .val (.long q2), .second] [(.ref a1)])) _
    refine st1.trans ?_
    show Steps p.tables e below (T1.setTop (mkF m 4 #[.val (.ref a1), .val (.long q1), .second, .val (.long q2), .second] [])) _
    refine XS.aloadN X1.here hx rfl (hb hby d1_4) rfl (rfl) ?_
    show Steps p.tables e below (T1.setTop (mkF m 5 #[.val (.ref a1), .val (.long q1), .second, .val (.long q2), .second] [(.ref a1)])) _
    refine XS.lloadN X1.here hx rfl (hb hby d1_5) rfl ?_
    show Steps p.tables e below (T1.setTop (mkF m 6 #[.val (.ref a1), .val (.long q1), .second, .val (.long q2), .second] [(.long q1), (.ref a1)])) _
    refine st2 _ ?_
    show Steps p.tables e below (T2.setTop (mkF m 9 #[.val (.ref a1), .val (.long q1), .second, .val (.long q2), .second] [])) _
    refine XS.aloadN X2.here hx rfl (hb hby d1_9) rfl (rfl) ?_
    show Steps p.tables e below (T2.setTop (mkF m 10 #[.val (.ref a1), .val (.long q1), .second, .val (.long q2), .second] [(.ref a1)])) _
    refine XS.lloadN X2.here hx rfl (hb hby d1_10) rfl ?_
    show Steps p.tables e below (T2.setTop (mkF m 11 #[.val (.ref a1), .val (.long q1), .second, .val (.long q2), .second] [(.long q2), (.ref a1)])) _
    refine st3 _ ?_
    show Steps p.tables e below (T3.setTop (mkF m 14 #[.val (.ref a1), .val (.long q1), .second, .val (.long q2), .second] [])) _
    exact k
  obtain ⟨fs, hr, hrun, hended, hW, hsame⟩ := X3.leave (v := none) (fun _ => rfl)
  refine ⟨_, _, pre4 _ ?_, hrun, hended, _, _, rfl, ?_, ⟨_, rfl⟩, hW, hsame.mono (by decide) (by decide)⟩
  · exact X3.returnOut hx Bd.returns (hb hby d1_14) hr
  · show Q_rmI Z a1 q1 q2 h0 n0 _ T3.heap _
    rw [e3]
    exact ⟨rfl, N3, K3, ((E1.wr W2).wr W3), (Fw2.other W3 (Or.inr (slot_ne (Or.inr (hw _ (List.mem_of_getElem? (i := 18) rfl))) (Or.inr (hw _ (List.mem_of_getElem? (i := 20) rfl))) (by decide) (t := .long) (t' := .long) (by decide) (by decide)))), Fw3⟩
theorem ef_rmN (m : MethodId) (x0 : Addr) : entryFrame m #[(.ref x0)] 1 = mkF m 0 #[.val (.ref x0)] [] := by first | (simp [entryFrame, mkF, argsToLocals, Value.category]; done) | rfl
theorem d4_0 : decode prog_64_method_2_code 0 = .ok (.aload_n 0, 1) := by decide +kernel
theorem d4_1 : decode prog_64_method_2_code 1 = .ok (.getfield 13, 3) := by decide +kernel
theorem d4_4 : decode prog_64_method_2_code 4 = .ok (.l2d, 1) := by decide +kernel
theorem d4_5 : decode prog_64_method_2_code 5 = .ok (.aload_n 0, 1) := by decide +kernel
theorem d4_6 : decode prog_64_method_2_code 6 = .ok (.getfield 7, 3) := by decide +kernel
theorem d4_9 : decode prog_64_method_2_code 9 = .ok (.l2d, 1) := by decide +kernel
theorem d4_10 : decode prog_64_method_2_code 10 = .ok (.ddiv, 1) := by decide +kernel
theorem d4_11 : decode prog_64_method_2_code 11 = .ok (.dreturn, 1) := by decide +kernel
def Q_rmN (Z : State) (a1 : Addr) (q1 : Int64) (q2 : Int64) (h0 : Heap) (n0 : Nat) (v : Option Value) (h : Heap) (L : List Loc) : Prop := v = some (.double (FP.ddiv (FP.l2d q2) (FP.l2d q1))) ∧ Fr n0 L ∧ h = h0
set_option maxRecDepth 65536 in
set_option maxHeartbeats 40000000 in
theorem rmN (l : Launch) (Z : State) (a0 : Array Value) (hw : ∀ d ∈ tables_1, d.before a0 Z = true) (ws : List Jvm.Cond) (a1 : Addr) (q1 : Int64) (q2 : Int64) (h0 : Heap) (n0 : Nat) (Z0 : n0 ≤ h0.size) (F1 : Fld Z h0 a1 "com/example/tallybuf/tallybuf/cli/SideBySide$Run" "operations" "J" (.long q1)) (F2 : Fld Z h0 a1 "com/example/tallybuf/tallybuf/cli/SideBySide$Run" "nanos" "J" (.long q2)) (hz : q1 ≠ 0) :
    MetFree l (⟨"com/example/tallybuf/tallybuf/cli/SideBySide$Run", "nanosPerOperation", "()D"⟩ : MethodName) (head1 (Jvm.Cond.code (⟨"com/example/tallybuf/tallybuf/cli/SideBySide$Run", "nanosPerOperation", "()D"⟩ : MethodName) prog_64_method_2_code 1 (some .double) :: ws) ({ frames := 0, cells := 0, slots := 0, locals := 0 } : Room)) (fun a U => a = #[(.ref a1)] ∧ Z.Warmed39 U.vm ∧ U.heap = h0) (fun _ _ _ _ _ => True) (fun _ U o U' => ∃ v L, o = .returned v ∧ Q_rmN Z a1 q1 q2 h0 n0 v U'.heap L ∧ FrameEnd U o U' L ({ frames := 0, cells := 0, slots := 0, locals := 0 } : Room).cells ({ frames := 0, cells := 0, slots := 0, locals := 0 } : Room).slots) := by
  refine MetFree.of_bodySF (plainFor_of_name pn_1) hisR ?_
  intro p e s m args below meth c s₁ Bd hml0 hP hK
  obtain ⟨rfl, hZ, hh⟩ := hP
  have hx := Bd.exec
  have hby := Bd.bytes
  have hml : c.maxLocals = 1 := hml0
  have hown : s.vm.findClass "com/example/tallybuf/tallybuf/cli/SideBySide$Run" = some m.cls := (findClass_of_methodNamed Bd.named :)
  have hnm := (name_of_methodNamed Bd.named Bd.method).1
  have X0 : Stand p l e ({ frames := 0, cells := 0, slots := 0, locals := 0 } : Room) s m #[(.ref a1)] below meth c s₁ [] 0 0 := Stand.of_body Bd
  have e0 : s₁.heap = h0 := by rw [← hh, Bd.state]; rfl
  have N0 := Fr.nil n0
  have pre0 : ∀ t, Steps p.tables e below (s₁.setTop (mkF m 0 #[.val (.ref a1)] [])) t → Steps p.tables e below (s₁.setTop (entryFrame m #[(.ref a1)] 1)) t := fun t k => castTop (ef_rmN m a1) k
  obtain ⟨T1, X1, e1, st1⟩ := getF X0 hx hZ hown (host := "") (Or.inl (hw _ (List.mem_of_getElem? (i := 19) rfl))) Via.refl e0 F2 (g := (mkF m 1 #[.val (.ref a1)] [(.ref a1)])) rfl rfl (hb hby d4_1)
  obtain ⟨T2, X2, e2, st2⟩ := getF X1 hx hZ hown (host := "") (Or.inl (hw _ (List.mem_of_getElem? (i := 17) rfl))) Via.refl e1 F1 (g := (mkF m 6 #[.val (.ref a1)] [(.ref a1), (.double (FP.l2d q2))])) rfl rfl (hb hby d4_6)
  have pre3 : ∀ t, Steps p.tables e below (T2.setTop (mkF m 11 #[.val (.ref a1)] [(.double (FP.ddiv (FP.l2d q2) (FP.l2d q1)))])) t → Steps p.tables e below (s₁.setTop (entryFrame m #[(.ref a1)] 1)) t := by
    intro t k
    refine pre0 t ?_
    show Steps p.tables e below (s₁.setTop (mkF m 0 #[.val (.ref a1)] [])) _
    refine XS.aloadN X0.here hx rfl (hb hby d4_0) rfl (rfl) ?_
    show Steps p.tables e below (s₁.setTop (mkF m 1 #[.val (.ref a1)] [(.ref a1)])) _
    refine st1 _ ?_
    show Steps p.tables e below (T1.setTop (mkF m 4 #[.val (.ref a1)] [(.long q2)])) _
    refine XS.l2dS X1.here hx rfl (hb hby d4_4) rfl rfl ?_
    show Steps p.tables e below (T1.setTop (mkF m 5 #[.val (.ref a1)] [(.double (FP.l2d q2))])) _
    refine XS.aloadN X1.here hx rfl (hb hby d4_5) rfl (rfl) ?_
    show Steps p.tables e below (T1.setTop (mkF m 6 #[.val (.ref a1)] [(.ref a1), (.double (FP.l2d q2))])) _
    refine st2 _ ?_
    show Steps p.tables e below (T2.setTop (mkF m 9 #[.val (.ref a1)] [(.long q1), (.double (FP.l2d q2))])) _
    refine XS.l2dS X2.here hx rfl (hb hby d4_9) rfl rfl ?_
    show Steps p.tables e below (T2.setTop (mkF m 10 #[.val (.ref a1)] [(.double (FP.l2d q1)), (.double (FP.l2d q2))])) _
    refine XS.ddivS X2.here hx rfl (hb hby d4_10) rfl (Jvm.Free.Fl.ddiv_out (nn_w rfl) (Jvm.Free.Fl.l2d_fin _) (Jvm.Free.Fl.l2d_nz hz)) rfl ?_
    show Steps p.tables e below (T2.setTop (mkF m 11 #[.val (.ref a1)] [(.double (FP.ddiv (FP.l2d q2) (FP.l2d q1)))])) _
    exact k
  obtain ⟨fs, hr, hrun, hended, hW, hsame⟩ := X2.leave (v := some (.double (FP.ddiv (FP.l2d q2) (FP.l2d q1)))) (fun h => by rw [Bd.returns] at h; cases h)
  refine ⟨_, _, pre3 _ ?_, hrun, hended, _, _, rfl, ?_, ⟨_, rfl⟩, hW, hsame.mono (by decide) (by decide)⟩
  · exact retOut X2 hx Bd.returns rfl (Or.inr (Or.inr (Or.inl ⟨rfl, rfl, _, rfl⟩))) (hb hby d4_11) hr
  · show Q_rmN Z a1 q1 q2 h0 n0 _ T2.heap _
    rw [e2]
    exact ⟨rfl, N0, rfl⟩
theorem own_n1 {x : Int32} {z : Int64} (e : z = (x &&& (1048575 : Int32)).toInt64 + (1 : Int64)) : 0 < z.toInt ∧ z.toInt ≤ 2 ^ 20 := by
  have e1 : (x &&& 1048575).toInt = x.toInt % 2 ^ 20 := Jvm.Kit.i32_mask x 1048575 (k := 20) (by decide) (by decide)
  have e2 := Jvm.Kit.i64_of_i32 (x &&& (1048575 : Int32))
  have o1 : (1 : Int64).toInt = 1 := rfl
  have e3 : z.toInt = (x &&& (1048575 : Int32)).toInt64.toInt + (1 : Int64).toInt := by rw [e]; exact Jvm.Kit.i64_add (by omega) (by omega)
  omega
theorem own_n2 {x : Int32} {z : Int64} (e : z = (x &&& (268435455 : Int32)).toInt64) : 0 ≤ z.toInt ∧ z.toInt < 2 ^ 28 := by
  have e1 : (x &&& 268435455).toInt = x.toInt % 2 ^ 28 := Jvm.Kit.i32_mask x 268435455 (k := 28) (by decide) (by decide)
  have e2 := Jvm.Kit.i64_of_i32 (x &&& (268435455 : Int32))
  rw [e]; omega
theorem own_n3 {x : Int32} {z o : Int64} (ho : 0 < o.toInt) (e : z = (x &&& (2147483647 : Int32)).toInt64 - ((x &&& (2147483647 : Int32)).toInt64 / o) * o) : 0 ≤ z.toInt ∧ z.toInt < o.toInt := by
  have e1 : (x &&& 2147483647).toInt = x.toInt % 2 ^ 31 := Jvm.Kit.i32_mask x 2147483647 (k := 31) (by decide) (by decide)
  have e2 := Jvm.Kit.i64_of_i32 (x &&& (2147483647 : Int32))
  have e3 : z.toInt = (x &&& (2147483647 : Int32)).toInt64.toInt % o.toInt := by rw [e]; exact Jvm.Kit.i64_rem_nonneg (by omega)
  rw [e3]; exact ⟨Int.emod_nonneg _ (by omega), Int.emod_lt_of_pos _ ho⟩
theorem own_n4 {q o r mag : Int64} (hq0 : 0 ≤ q.toInt) (hq1 : q.toInt < 2 ^ 28) (ho0 : 0 < o.toInt) (ho1 : o.toInt ≤ 2 ^ 20) (hr0 : 0 ≤ r.toInt) (hr1 : r.toInt < o.toInt) (e : mag = q * o + r) : mag.toInt = q.toInt * o.toInt + r.toInt ∧ 0 ≤ mag.toInt ∧ mag.toInt < 2 ^ 49 := by
  have n0 : 0 ≤ q.toInt * o.toInt := Int.mul_nonneg hq0 (by omega)
  have n1 : q.toInt * o.toInt ≤ (2 ^ 28 - 1) * 2 ^ 20 := Int.mul_le_mul (by omega) ho1 (by omega) (by decide)
  have m1 : (q * o).toInt = q.toInt * o.toInt := Jvm.Kit.i64_mul (by omega) (by omega)
  have m2 : mag.toInt = (q * o).toInt + r.toInt := by rw [e]; exact Jvm.Kit.i64_add (by omega) (by omega)
  rw [m1] at m2
  generalize q.toInt * o.toInt = g at *
  omega
theorem own_n5 {mag : Int64} (h0 : 0 ≤ mag.toInt) (h1 : mag.toInt < 2 ^ 49) : (-mag).toInt = -mag.toInt := Jvm.Kit.i64_neg (by omega)
theorem own_ne0 {o : Int64} (h : 0 < o.toInt) : o ≠ 0 := fun z => by rw [z] at h; exact absurd h (by decide)
theorem own_cv {x y : UInt64} {r : Option Ordering} {v : Int32} {o : CmpOp} (h : FP.dcmp x y = r) (e : cmpValue r o = v) : cmpValue (FP.dcmp x y) o = v := by rw [h]; exact e
theorem ef_rm0 (m : MethodId) (x0 : Int32) (x1 : Int32) (x2 : Int32) (x3 : Int32) : entryFrame m #[(.int x0), (.int x1), (.int x2), (.int x3)] maxLocals = mkF m 0 #[.val (.int x0), .val (.int x1), .val (.int x2), .val (.int x3), .unset, .unset, .unset, .unset, .unset, .unset, .unset, .unset, .unset, .unset, .unset, .unset, .unset, .unset, .unset, .unset, .unset, .unset, .unset] [] := by first | (simp [entryFrame, mkF, argsToLocals, Value.category, maxLocals]; done) | rfl
theorem pn_0 : plainName "com/example/tallybuf/tallybuf/cli/RunNanosPerOperationPinLaw" = true := by first | (simp [plainName, overriddenIn]; done) | decide +kernel
theorem pd_1 : parseMethodDescriptor "(JJ)V" = some ⟨[.long, .long], none⟩ := by decide +kernel
theorem pd_2 : parseMethodDescriptor "()D" = some ⟨[], some .double⟩ := by decide +kernel
def Q_rm0 (Z : State) (p0 : Int32) (p1 : Int32) (p2 : Int32) (p3 : Int32) (h0 : Heap) (n0 : Nat) (v : Option Value) (h : Heap) (L : List Loc) : Prop := v = some (.int 1) ∧ Fr n0 L
set_option maxRecDepth 65536 in
set_option maxHeartbeats 40000000 in
theorem rm0 (l : Launch) (Z : State) (a0 : Array Value) (hw : ∀ d ∈ tables_1, d.before a0 Z = true) (ws : List Jvm.Cond) (p0 : Int32) (p1 : Int32) (p2 : Int32) (p3 : Int32) (h0 : Heap) (n0 : Nat) (Z0 : n0 ≤ h0.size) :
    MetFree l x (head1 (Jvm.Cond.code x code maxLocals ret :: ws) room_1) (fun a U => a = #[(.int p0), (.int p1), (.int p2), (.int p3)] ∧ Z.Warmed39 U.vm ∧ U.heap = h0) (fun _ _ _ _ _ => True) (fun _ U o U' => ∃ v L, o = .returned v ∧ Q_rm0 Z p0 p1 p2 p3 h0 n0 v U'.heap L ∧ FrameEnd U o U' L room_1.cells room_1.slots) := by
  refine MetFree.of_bodySF (plainFor_of_name pn_0) hisR ?_
  intro p e s m args below meth c s₁ Bd hml0 hP hK
  obtain ⟨rfl, hZ, hh⟩ := hP
  have hx := Bd.exec
  have hby := Bd.bytes
  have hml : c.maxLocals = 23 := hml0
  have hown : s.vm.findClass "com/example/tallybuf/tallybuf/cli/RunNanosPerOperationPinLaw" = some m.cls := (findClass_of_methodNamed Bd.named :)
  have hnm := (name_of_methodNamed Bd.named Bd.method).1
  have X0 : Stand p l e room_1 s m #[(.int p0), (.int p1), (.int p2), (.int p3)] below meth c s₁ [] 0 0 := Stand.of_body Bd
  have e0 : s₁.heap = h0 := by rw [← hh, Bd.state]; rfl
  have N0 := Fr.nil n0
  have pre0 : ∀ t, Steps p.tables e below (s₁.setTop (mkF m 0 #[.val (.int p0), .val (.int p1), .val (.int p2), .val (.int p3), .unset, .unset, .unset, .unset, .unset, .unset, .unset, .unset, .unset, .unset, .unset, .unset, .unset, .unset, .unset, .unset, .unset, .unset, .unset] [])) t → Steps p.tables e below (s₁.setTop (entryFrame m #[(.int p0), (.int p1), (.int p2), (.int p3)] maxLocals)) t := fun t k => castTop (ef_rm0 m p0 p1 p2 p3) k
  have pre1 : ∀ t, Steps p.tables e below (s₁.setTop (mkF m 7 #[.val (.int p0), .val (.int p1), .val (.int p2), .val (.int p3), .unset, .unset, .unset, .unset, .unset, .unset, .unset, .unset, .unset, .unset, .unset, .unset, .unset, .unset, .unset, .unset, .unset, .unset, .unset] [(.long (((p0 &&& (1048575 : Int32)).toInt64) + (1 : Int64)))])) t → Steps p.tables e below (s₁.setTop (entryFrame m #[(.int p0), (.int p1), (.int p2), (.int p3)] maxLocals)) t := by
    intro t k
    refine pre0 t ?_
    show Steps p.tables e below (s₁.setTop (mkF m 0 #[.val (.int p0), .val (.int p1), .val (.int p2), .val (.int p3), .unset, .unset, .unset, .unset, .unset, .unset, .unset, .unset, .unset, .unset, .unset, .unset, .unset, .unset, .unset, .unset, .unset, .unset, .unset] [])) _
    refine XS.iloadN X0.here hx rfl (hb hby at_0) rfl ?_
    show Steps p.tables e below (s₁.setTop (mkF m 1 #[.val (.int p0), .val (.int p1), .val (.int p2), .val (.int p3), .unset, .unset, .unset, .unset, .unset, .unset, .unset, .unset, .unset, .unset, .unset, .unset, .unset, .unset, .unset, .unset, .unset, .unset, .unset] [(.int p0)])) _
    refine X0.ldcInt hx hown (mvT hZ (hw _ (List.mem_of_getElem? (i := 0) rfl))) (g := (mkF m 1 #[.val (.int p0), .val (.int p1), .val (.int p2), .val (.int p3), .unset, .unset, .unset, .unset, .unset, .unset, .unset, .unset, .unset, .unset, .unset, .unset, .unset, .unset, .unset, .unset, .unset, .unset, .unset] [(.int p0)])) rfl (hb hby at_1) _ ?_
    show Steps p.tables e below (s₁.setTop (mkF m 3 #[.val (.int p0), .val (.int p1), .val (.int p2), .val (.int p3), .unset, .unset, .unset, .unset, .unset, .unset, .unset, .unset, .unset, .unset, .unset, .unset, .unset, .unset, .unset, .unset, .unset, .unset, .unset] [(.int (1048575 : Int32)), (.int p0)])) _
    refine XS.iand X0.here hx rfl (hb hby at_3) rfl ?_
    show Steps p.tables e below (s₁.setTop (mkF m 4 #[.val (.int p0), .val (.int p1), .val (.int p2), .val (.int p3), .unset, .unset, .unset, .unset, .unset, .unset, .unset, .unset, .unset, .unset, .unset, .unset, .unset, .unset, .unset, .unset, .unset, .unset, .unset] [(.int (p0 &&& (1048575 : Int32)))])) _
    refine XS.i2l X0.here hx rfl (hb hby at_4) rfl ?_
    show Steps p.tables e below (s₁.setTop (mkF m 5 #[.val (.int p0), .val (.int p1), .val (.int p2), .val (.int p3), .unset, .unset, .unset, .unset, .unset, .unset, .unset, .unset, .unset, .unset, .unset, .unset, .unset, .unset, .unset, .unset, .unset, .unset, .unset] [(.long ((p0 &&& (1048575 : Int32)).toInt64))])) _
    refine XS.lconst X0.here hx rfl (hb hby at_5) ?_
    show Steps p.tables e below (s₁.setTop (mkF m 6 #[.val (.int p0), .val (.int p1), .val (.int p2), .val (.int p3), .unset, .unset, .unset, .unset, .unset, .unset, .unset, .unset, .unset, .unset, .unset, .unset, .unset, .unset, .unset, .unset, .unset, .unset, .unset] [(.long (1 : Int64)), (.long ((p0 &&& (1048575 : Int32)).toInt64))])) _
    refine XS.ladd X0.here hx rfl (hb hby at_6) rfl ?_
    show Steps p.tables e below (s₁.setTop (mkF m 7 #[.val (.int p0), .val (.int p1), .val (.int p2), .val (.int p3), .unset, .unset, .unset, .unset, .unset, .unset, .unset, .unset, .unset, .unset, .unset, .unset, .unset, .unset, .unset, .unset, .unset, .unset, .unset] [(.long (((p0 &&& (1048575 : Int32)).toInt64) + (1 : Int64)))])) _
    exact k
  obtain ⟨oo, hoo⟩ : ∃ z : Int64, z = (((p0 &&& (1048575 : Int32)).toInt64) + (1 : Int64)) := ⟨_, rfl⟩
  rw [← hoo] at pre1
  obtain ⟨ho0, ho1⟩ := own_n1 hoo
  have hz := own_ne0 ho0
  have pre2 : ∀ t, Steps p.tables e below (s₁.setTop (mkF m 14 #[.val (.int p0), .val (.int p1), .val (.int p2), .val (.int p3), .val (.long oo), .second, .unset, .unset, .unset, .unset, .unset, .unset, .unset, .unset, .unset, .unset, .unset, .unset, .unset, .unset, .unset, .unset, .unset] [(.long ((p1 &&& (268435455 : Int32)).toInt64))])) t → Steps p.tables e below (s₁.setTop (entryFrame m #[(.int p0), (.int p1), (.int p2), (.int p3)] maxLocals)) t := by
    intro t k
    refine pre1 t ?_
    show Steps p.tables e below (s₁.setTop (mkF m 7 #[.val (.int p0), .val (.int p1), .val (.int p2), .val (.int p3), .unset, .unset, .unset, .unset, .unset, .unset, .unset, .unset, .unset, .unset, .unset, .unset, .unset, .unset, .unset, .unset, .unset, .unset, .unset] [(.long oo)])) _
    refine XS.lstore X0.here hx rfl (hb hby at_7) rfl (l' := #[.val (.int p0), .val (.int p1), .val (.int p2), .val (.int p3), .val (.long oo), .second, .unset, .unset, .unset, .unset, .unset, .unset, .unset, .unset, .unset, .unset, .unset, .unset, .unset, .unset, .unset, .unset, .unset]) rfl ?_
    show Steps p.tables e below (s₁.setTop (mkF m 9 #[.val (.int p0), .val (.int p1), .val (.int p2), .val (.int p3), .val (.long oo), .second, .unset, .unset, .unset, .unset, .unset, .unset, .unset, .unset, .unset, .unset, .unset, .unset, .unset, .unset, .unset, .unset, .unset] [])) _
    refine XS.iloadN X0.here hx rfl (hb hby at_9) rfl ?_
    show Steps p.tables e below (s₁.setTop (mkF m 10 #[.val (.int p0), .val (.int p1), .val (.int p2), .val (.int p3), .val (.long oo), .second, .unset, .unset, .unset, .unset, .unset, .unset, .unset, .unset, .unset, .unset, .unset, .unset, .unset, .unset, .unset, .unset, .unset] [(.int p1)])) _
    refine X0.ldcInt hx hown (mvT hZ (hw _ (List.mem_of_getElem? (i := 1) rfl))) (g := (mkF m 10 #[.val (.int p0), .val (.int p1), .val (.int p2), .val (.int p3), .val (.long oo), .second, .unset, .unset, .unset, .unset, .unset, .unset, .unset, .unset, .unset, .unset, .unset, .unset, .unset, .unset, .unset, .unset, .unset] [(.int p1)])) rfl (hb hby at_10) _ ?_
    show Steps p.tables e below (s₁.setTop (mkF m 12 #[.val (.int p0), .val (.int p1), .val (.int p2), .val (.int p3), .val (.long oo), .second, .unset, .unset, .unset, .unset, .unset, .unset, .unset, .unset, .unset, .unset, .unset, .unset, .unset, .unset, .unset, .unset, .unset] [(.int (268435455 : Int32)), (.int p1)])) _
    refine XS.iand X0.here hx rfl (hb hby at_12) rfl ?_
    show Steps p.tables e below (s₁.setTop (mkF m 13 #[.val (.int p0), .val (.int p1), .val (.int p2), .val (.int p3), .val (.long oo), .second, .unset, .unset, .unset, .unset, .unset, .unset, .unset, .unset, .unset, .unset, .unset, .unset, .unset, .unset, .unset, .unset, .unset] [(.int (p1 &&& (268435455 : Int32)))])) _
    refine XS.i2l X0.here hx rfl (hb hby at_13) rfl ?_
    show Steps p.tables e below (s₁.setTop (mkF m 14 #[.val (.int p0), .val (.int p1), .val (.int p2), .val (.int p3), .val (.long oo), .second, .unset, .unset, .unset, .unset, .unset, .unset, .unset, .unset, .unset, .unset, .unset, .unset, .unset, .unset, .unset, .unset, .unset] [(.long ((p1 &&& (268435455 : Int32)).toInt64))])) _
    exact k
  obtain ⟨qq, hqq⟩ : ∃ z : Int64, z = ((p1 &&& (268435455 : Int32)).toInt64) := ⟨_, rfl⟩
  rw [← hqq] at pre2
  obtain ⟨hq0, hq1⟩ := own_n2 hqq
  have pre3 : ∀ t, Steps p.tables e below (s₁.setTop (mkF m 24 #[.val (.int p0), .val (.int p1), .val (.int p2), .val (.int p3), .val (.long oo), .second, .val (.long qq), .second, .unset, .unset, .unset, .unset, .unset, .unset, .unset, .unset, .unset, .unset, .unset, .unset, .unset, .unset, .unset] [(.long (((p2 &&& (2147483647 : Int32)).toInt64) - (((p2 &&& (2147483647 : Int32)).toInt64) / oo) * oo))])) t → Steps p.tables e below (s₁.setTop (entryFrame m #[(.int p0), (.int p1), (.int p2), (.int p3)] maxLocals)) t := by
    intro t k
    refine pre2 t ?_
    show Steps p.tables e below (s₁.setTop (mkF m 14 #[.val (.int p0), .val (.int p1), .val (.int p2), .val (.int p3), .val (.long oo), .second, .unset, .unset, .unset, .unset, .unset, .unset, .unset, .unset, .unset, .unset, .unset, .unset, .unset, .unset, .unset, .unset, .unset] [(.long qq)])) _
    refine XS.lstore X0.here hx rfl (hb hby at_14) rfl (l' := #[.val (.int p0), .val (.int p1), .val (.int p2), .val (.int p3), .val (.long oo), .second, .val (.long qq), .second, .unset, .unset, .unset, .unset, .unset, .unset, .unset, .unset, .unset, .unset, .unset, .unset, .unset, .unset, .unset]) rfl ?_
    show Steps p.tables e below (s₁.setTop (mkF m 16 #[.val (.int p0), .val (.int p1), .val (.int p2), .val (.int p3), .val (.long oo), .second, .val (.long qq), .second, .unset, .unset, .unset, .unset, .unset, .unset, .unset, .unset, .unset, .unset, .unset, .unset, .unset, .unset, .unset] [])) _
    refine XS.iloadN X0.here hx rfl (hb hby at_16) rfl ?_
    show Steps p.tables e below (s₁.setTop (mkF m 17 #[.val (.int p0), .val (.int p1), .val (.int p2), .val (.int p3), .val (.long oo), .second, .val (.long qq), .second, .unset, .unset, .unset, .unset, .unset, .unset, .unset, .unset, .unset, .unset, .unset, .unset, .unset, .unset, .unset] [(.int p2)])) _
    refine X0.ldcInt hx hown (mvT hZ (hw _ (List.mem_of_getElem? (i := 2) rfl))) (g := (mkF m 17 #[.val (.int p0), .val (.int p1), .val (.int p2), .val (.int p3), .val (.long oo), .second, .val (.long qq), .second, .unset, .unset, .unset, .unset, .unset, .unset, .unset, .unset, .unset, .unset, .unset, .unset, .unset, .unset, .unset] [(.int p2)])) rfl (hb hby at_17) _ ?_
    show Steps p.tables e below (s₁.setTop (mkF m 19 #[.val (.int p0), .val (.int p1), .val (.int p2), .val (.int p3), .val (.long oo), .second, .val (.long qq), .second, .unset, .unset, .unset, .unset, .unset, .unset, .unset, .unset, .unset, .unset, .unset, .unset, .unset, .unset, .unset] [(.int (2147483647 : Int32)), (.int p2)])) _
    refine XS.iand X0.here hx rfl (hb hby at_19) rfl ?_
    show Steps p.tables e below (s₁.setTop (mkF m 20 #[.val (.int p0), .val (.int p1), .val (.int p2), .val (.int p3), .val (.long oo), .second, .val (.long qq), .second, .unset, .unset, .unset, .unset, .unset, .unset, .unset, .unset, .unset, .unset, .unset, .unset, .unset, .unset, .unset] [(.int (p2 &&& (2147483647 : Int32)))])) _
    refine XS.i2l X0.here hx rfl (hb hby at_20) rfl ?_
    show Steps p.tables e below (s₁.setTop (mkF m 21 #[.val (.int p0), .val (.int p1), .val (.int p2), .val (.int p3), .val (.long oo), .second, .val (.long qq), .second, .unset, .unset, .unset, .unset, .unset, .unset, .unset, .unset, .unset, .unset, .unset, .unset, .unset, .unset, .unset] [(.long ((p2 &&& (2147483647 : Int32)).toInt64))])) _
    refine XS.lload X0.here hx rfl (hb hby at_21) rfl ?_
    show Steps p.tables e below (s₁.setTop (mkF m 23 #[.val (.int p0), .val (.int p1), .val (.int p2), .val (.int p3), .val (.long oo), .second, .val (.long qq), .second, .unset, .unset, .unset, .unset, .unset, .unset, .unset, .unset, .unset, .unset, .unset, .unset, .unset, .unset, .unset] [(.long oo), (.long ((p2 &&& (2147483647 : Int32)).toInt64))])) _
    refine XS.lrem X0.here hx rfl (hb hby at_23) rfl hz ?_
    show Steps p.tables e below (s₁.setTop (mkF m 24 #[.val (.int p0), .val (.int p1), .val (.int p2), .val (.int p3), .val (.long oo), .second, .val (.long qq), .second, .unset, .unset, .unset, .unset, .unset, .unset, .unset, .unset, .unset, .unset, .unset, .unset, .unset, .unset, .unset] [(.long (((p2 &&& (2147483647 : Int32)).toInt64) - (((p2 &&& (2147483647 : Int32)).toInt64) / oo) * oo))])) _
    exact k
  obtain ⟨rr, hrr⟩ : ∃ z : Int64, z = (((p2 &&& (2147483647 : Int32)).toInt64) - (((p2 &&& (2147483647 : Int32)).toInt64) / oo) * oo) := ⟨_, rfl⟩
  rw [← hrr] at pre3
  obtain ⟨hr0, hr1⟩ := own_n3 ho0 hrr
  have pre4 : ∀ t, Steps p.tables e below (s₁.setTop (mkF m 29 #[.val (.int p0), .val (.int p1), .val (.int p2), .val (.int p3), .val (.long oo), .second, .val (.long qq), .second, .val (.long rr), .second, .unset, .unset, .unset, .unset, .unset, .unset, .unset, .unset, .unset, .unset, .unset, .unset, .unset] [(.int (p3 &&& (1 : Int32)))])) t → Steps p.tables e below (s₁.setTop (entryFrame m #[(.int p0), (.int p1), (.int p2), (.int p3)] maxLocals)) t := by
    intro t k
    refine pre3 t ?_
    show Steps p.tables e below (s₁.setTop (mkF m 24 #[.val (.int p0), .val (.int p1), .val (.int p2), .val (.int p3), .val (.long oo), .second, .val (.long qq), .second, .unset, .unset, .unset, .unset, .unset, .unset, .unset, .unset, .unset, .unset, .unset, .unset, .unset, .unset, .unset] [(.long rr)])) _
    refine XS.lstore X0.here hx rfl (hb hby at_24) rfl (l' := #[.val (.int p0), .val (.int p1), .val (.int p2), .val (.int p3), .val (.long oo), .second, .val (.long qq), .second, .val (.long rr), .second, .unset, .unset, .unset, .unset, .unset, .unset, .unset, .unset, .unset, .unset, .unset, .unset, .unset]) rfl ?_
    show Steps p.tables e below (s₁.setTop (mkF m 26 #[.val (.int p0), .val (.int p1), .val (.int p2), .val (.int p3), .val (.long oo), .second, .val (.long qq), .second, .val (.long rr), .second, .unset, .unset, .unset, .unset, .unset, .unset, .unset, .unset, .unset, .unset, .unset, .unset, .unset] [])) _
    refine XS.iloadN X0.here hx rfl (hb hby at_26) rfl ?_
    show Steps p.tables e below (s₁.setTop (mkF m 27 #[.val (.int p0), .val (.int p1), .val (.int p2), .val (.int p3), .val (.long oo), .second, .val (.long qq), .second, .val (.long rr), .second, .unset, .unset, .unset, .unset, .unset, .unset, .unset, .unset, .unset, .unset, .unset, .unset, .unset] [(.int p3)])) _
    refine XS.iconst X0.here hx rfl (hb hby at_27) ?_
    show Steps p.tables e below (s₁.setTop (mkF m 28 #[.val (.int p0), .val (.int p1), .val (.int p2), .val (.int p3), .val (.long oo), .second, .val (.long qq), .second, .val (.long rr), .second, .unset, .unset, .unset, .unset, .unset, .unset, .unset, .unset, .unset, .unset, .unset, .unset, .unset] [(.int (1 : Int32)), (.int p3)])) _
    refine XS.iand X0.here hx rfl (hb hby at_28) rfl ?_
    show Steps p.tables e below (s₁.setTop (mkF m 29 #[.val (.int p0), .val (.int p1), .val (.int p2), .val (.int p3), .val (.long oo), .second, .val (.long qq), .second, .val (.long rr), .second, .unset, .unset, .unset, .unset, .unset, .unset, .unset, .unset, .unset, .unset, .unset, .unset, .unset] [(.int (p3 &&& (1 : Int32)))])) _
    exact k
  by_cases h29 : (p3 &&& (1 : Int32)) = (0 : Int32)
  · skip
    have pre5 : ∀ t, Steps p.tables e below (s₁.setTop (mkF m 47 #[.val (.int p0), .val (.int p1), .val (.int p2), .val (.int p3), .val (.long oo), .second, .val (.long qq), .second, .val (.long rr), .second, .val (.int (0 : Int32)), .unset, .unset, .unset, .unset, .unset, .unset, .unset, .unset, .unset, .unset, .unset, .unset] [(.long ((qq * oo) + rr))])) t → Steps p.tables e below (s₁.setTop (entryFrame m #[(.int p0), (.int p1), (.int p2), (.int p3)] maxLocals)) t := by
      intro t k
      refine pre4 t ?_
      refine XS.ifYes X0.here hx rfl (pc0 := 29) (pc' := 36) rfl (hb hby at_29) rfl ((if0 _ _).trans (teq h29).1) (by decide) (by decide) ?_
      show Steps p.tables e below (s₁.setTop (mkF m 36 #[.val (.int p0), .val (.int p1), .val (.int p2), .val (.int p3), .val (.long oo), .second, .val (.long qq), .second, .val (.long rr), .second, .unset, .unset, .unset, .unset, .unset, .unset, .unset, .unset, .unset, .unset, .unset, .unset, .unset] [])) _
      refine XS.iconst X0.here hx rfl (hb hby at_36) ?_
      show Steps p.tables e below (s₁.setTop (mkF m 37 #[.val (.int p0), .val (.int p1), .val (.int p2), .val (.int p3), .val (.long oo), .second, .val (.long qq), .second, .val (.long rr), .second, .unset, .unset, .unset, .unset, .unset, .unset, .unset, .unset, .unset, .unset, .unset, .unset, .unset] [(.int (0 : Int32))])) _
      refine XS.istore X0.here hx rfl (hb hby at_37) rfl (l' := #[.val (.int p0), .val (.int p1), .val (.int p2), .val (.int p3), .val (.long oo), .second, .val (.long qq), .second, .val (.long rr), .second, .val (.int (0 : Int32)), .unset, .unset, .unset, .unset, .unset, .unset, .unset, .unset, .unset, .unset, .unset, .unset]) rfl ?_
      show Steps p.tables e below (s₁.setTop (mkF m 39 #[.val (.int p0), .val (.int p1), .val (.int p2), .val (.int p3), .val (.long oo), .second, .val (.long qq), .second, .val (.long rr), .second, .val (.int (0 : Int32)), .unset, .unset, .unset, .unset, .unset, .unset, .unset, .unset, .unset, .unset, .unset, .unset] [])) _
      refine XS.lload X0.here hx rfl (hb hby at_39) rfl ?_
      show Steps p.tables e below (s₁.setTop (mkF m 41 #[.val (.int p0), .val (.int p1), .val (.int p2), .val (.int p3), .val (.long oo), .second, .val (.long qq), .second, .val (.long rr), .second, .val (.int (0 : Int32)), .unset, .unset, .unset, .unset, .unset, .unset, .unset, .unset, .unset, .unset, .unset, .unset] [(.long qq)])) _
      refine XS.lload X0.here hx rfl (hb hby at_41) rfl ?_
      show Steps p.tables e below (s₁.setTop (mkF m 43 #[.val (.int p0), .val (.int p1), .val (.int p2), .val (.int p3), .val (.long oo), .second, .val (.long qq), .second, .val (.long rr), .second, .val (.int (0 : Int32)), .unset, .unset, .unset, .unset, .unset, .unset, .unset, .unset, .unset, .unset, .unset, .unset] [(.long oo), (.long qq)])) _
      refine XS.lmul X0.here hx rfl (hb hby at_43) rfl ?_
      show Steps p.tables e below (s₁.setTop (mkF m 44 #[.val (.int p0), .val (.int p1), .val (.int p2), .val (.int p3), .val (.long oo), .second, .val (.long qq), .second, .val (.long rr), .second, .val (.int (0 : Int32)), .unset, .unset, .unset, .unset, .unset, .unset, .unset, .unset, .unset, .unset, .unset, .unset] [(.long (qq * oo))])) _
      refine XS.lload X0.here hx rfl (hb hby at_44) rfl ?_
      show Steps p.tables e below (s₁.setTop (mkF m 46 #[.val (.int p0), .val (.int p1), .val (.int p2), .val (.int p3), .val (.long oo), .second, .val (.long qq), .second, .val (.long rr), .second, .val (.int (0 : Int32)), .unset, .unset, .unset, .unset, .unset, .unset, .unset, .unset, .unset, .unset, .unset, .unset] [(.long rr), (.long (qq * oo))])) _
      refine XS.ladd X0.here hx rfl (hb hby at_46) rfl ?_
      show Steps p.tables e below (s₁.setTop (mkF m 47 #[.val (.int p0), .val (.int p1), .val (.int p2), .val (.int p3), .val (.long oo), .second, .val (.long qq), .second, .val (.long rr), .second, .val (.int (0 : Int32)), .unset, .unset, .unset, .unset, .unset, .unset, .unset, .unset, .unset, .unset, .unset, .unset] [(.long ((qq * oo) + rr))])) _
      exact k
    obtain ⟨mg, hmg⟩ : ∃ z : Int64, z = ((qq * oo) + rr) := ⟨_, rfl⟩
    rw [← hmg] at pre5
    obtain ⟨hm1, hm2, hm3⟩ := own_n4 hq0 hq1 ho0 ho1 hr0 hr1 hmg
    obtain ⟨T6, h6, X6, e6, E6, A6, D6, -, st6⟩ := newO X0 hx hZ hown (hw _ (List.mem_of_getElem? (i := 3) rfl)) (hw _ (List.mem_of_getElem? (i := 4) rfl)) (hw _ (List.mem_of_getElem? (i := 5) rfl)) e0 (g := (mkF m 64 #[.val (.int p0), .val (.int p1), .val (.int p2), .val (.int p3), .val (.long oo), .second, .val (.long qq), .second, .val (.long rr), .second, .val (.int (0 : Int32)), .val (.long mg), .second, .val (.long mg), .second, .unset, .unset, .unset, .unset, .unset, .unset, .unset, .unset] [])) rfl (hb hby at_64) (by decide) (by decide)
    obtain ⟨b6, g6⟩ : ∃ z, z = h0.size := ⟨_, rfl⟩
    rw [← g6] at A6 D6 st6
    have F6_operations : Fld Z h6 b6 "com/example/tallybuf/tallybuf/cli/SideBySide$Run" "operations" "J" (.long (0 : Int64)) := D6 (Or.inr (hw _ (List.mem_of_getElem? (i := 18) rfl))) (ty := .long) (by decide)
    have F6_nanos : Fld Z h6 b6 "com/example/tallybuf/tallybuf/cli/SideBySide$Run" "nanos" "J" (.long (0 : Int64)) := D6 (Or.inr (hw _ (List.mem_of_getElem? (i := 20) rfl))) (ty := .long) (by decide)
    have g_b6 : n0 ≤ b6 := Nat.le_trans Z0 (Nat.le_of_eq g6.symm)
    have sz_b6 : h0.size ≤ b6 := (Nat.le_trans (Keep.refl h0 []).1 (Nat.le_of_eq g6.symm))
    have K6 : Keep h0 h6 [] := (Keep.refl h0 []).ext E6
    obtain ⟨_, _, ⟨T7, L7, k7, n7⟩, -, X7, ⟨Lc7, hQ7, l7, y7, z7⟩, st7⟩ := X6.specialBack hx (y := (⟨"com/example/tallybuf/tallybuf/cli/SideBySide$Run", "<init>", "(JJ)V"⟩ : MethodName)) rfl hown (mvT hZ (hw _ (List.mem_of_getElem? (i := 6) rfl))) (mvT hZ (hw _ (List.mem_of_getElem? (i := 7) rfl))) (mvT hZ (hw _ (List.mem_of_getElem? (i := 8) rfl))) (by decide) (backOf (W := 1) (rmI l Z a0 hw [] b6 oo mg  h6 n0 (Nat.le_trans Z0 E6.1) F6_operations F6_nanos A6 g_b6) hZ (hw _ (List.mem_of_getElem? (i := 8) rfl)) (hw _ (List.mem_of_getElem? (i := 5) rfl)) (by decide) (by decide)) (g := (mkF m 72 #[.val (.int p0), .val (.int p1), .val (.int p2), .val (.int p3), .val (.long oo), .second, .val (.long qq), .second, .val (.long rr), .second, .val (.int (0 : Int32)), .val (.long mg), .second, .val (.long mg), .second, .unset, .unset, .unset, .unset, .unset, .unset, .unset, .unset] [(.long mg), (.long oo), (.ref b6), (.ref b6)])) rfl (by rw [hml]; rfl) (Steps.refl _) (a := b6) (argsL := [(.long oo), (.long mg)]) (rest := [(.ref b6)]) (lenOf pd_1 rfl) rfl (by show 2 * 0 + _ ≤ _; exact Nat.le_of_eq rfl) (hb hby at_72) (fun _ _ => ⟨rfl, e6, (by decide : 1 + 0 ≤ _), (by decide : 2 + 0 ≤ _)⟩)
    dsimp only [Pt.U, Pt.locs, Pt.cells, Pt.slots] at X7 l7 y7 z7 st7 hQ7
    subst l7 y7 z7
    obtain ⟨rfl, N7q, Kq7, Eq7, F1q7, F2q7⟩ := hQ7
    have N7 := Fr.app N0 N7q
    have K7 : Keep h0 T7.heap [] := K6.trans Kq7 (allS (Or.inr sz_b6) all0)
    obtain ⟨cq8, kq8, q8a, q8b, q8c⟩ := isOf hZ rfl Eq7
    obtain ⟨_, _, ⟨T8, L8, k8, n8⟩, -, X8, ⟨Lc8, hQ8, l8, y8, z8⟩, st8⟩ := X7.virtualBack hx (y := (⟨"com/example/tallybuf/tallybuf/cli/SideBySide$Run", "nanosPerOperation", "()D"⟩ : MethodName)) (z := (⟨"com/example/tallybuf/tallybuf/cli/SideBySide$Run", "nanosPerOperation", "()D"⟩ : MethodName)) hown (mvT hZ (hw _ (List.mem_of_getElem? (i := 21) rfl))) (mvT hZ (hw _ (List.mem_of_getElem? (i := 22) rfl))) (notFace_of_selects (args := #[]) (mvT hZ (hw _ (List.mem_of_getElem? (i := 24) rfl)))) (mvT hZ (hw _ (List.mem_of_getElem? (i := 24) rfl))) (mvT hZ (hw _ (List.mem_of_getElem? (i := 23) rfl))) (by decide) (backOf (W := 0) (rmN l Z a0 hw [] b6 oo mg T7.heap n0 (Nat.le_trans (Nat.le_trans Z0 E6.1) Kq7.1) F1q7 F2q7 hz) hZ (hw _ (List.mem_of_getElem? (i := 25) rfl)) (hw _ (List.mem_of_getElem? (i := 5) rfl)) (by decide) (by decide)) q8a q8c (g := (mkF m 75 #[.val (.int p0), .val (.int p1), .val (.int p2), .val (.int p3), .val (.long oo), .second, .val (.long qq), .second, .val (.long rr), .second, .val (.int (0 : Int32)), .val (.long mg), .second, .val (.long mg), .second, .unset, .unset, .unset, .unset, .unset, .unset, .unset, .unset] [(.ref b6)])) rfl (by rw [hml]; rfl) (Steps.refl _) (argsL := []) (rest := []) (lenOf pd_2 rfl) rfl (by show 2 * 0 + _ ≤ _; exact Nat.le_of_eq rfl) (hb hby at_75) (fun _ _ => ⟨rfl, rfl, (by decide : 1 + 0 ≤ _), (by decide : 2 + 0 ≤ _)⟩)
    dsimp only [Pt.U, Pt.locs, Pt.cells, Pt.slots] at X8 l8 y8 z8 st8 hQ8
    subst l8 y8 z8
    obtain ⟨rfl, N8q, hq8⟩ := hQ8
    have N8 := Fr.app N7 N8q
    obtain ⟨c1, c2⟩ := own_fp (neg := false) (n := mg) hq0 hq1 ho0 ho1 hr0 hr1 hm1 rfl rfl
    simp only [Bool.false_eq_true, if_false, if_true] at c1 c2
    have pre9 : ∀ t, Steps p.tables e below (T8.setTop (mkF m 111 #[.val (.int p0), .val (.int p1), .val (.int p2), .val (.int p3), .val (.long oo), .second, .val (.long qq), .second, .val (.long rr), .second, .val (.int (0 : Int32)), .val (.long mg), .second, .val (.long mg), .second, .val (.double (FP.ddiv (FP.l2d mg) (FP.l2d oo))), .second, .val (.double (FP.ddiv (FP.l2d mg) (FP.l2d oo))), .second, .val (.double (FP.l2d qq)), .second, .val (.double (FP.l2d (qq + (1 : Int64)))), .second] [(.int (lcmpW rr (0 : Int64)))])) t → Steps p.tables e below (s₁.setTop (entryFrame m #[(.int p0), (.int p1), (.int p2), (.int p3)] maxLocals)) t := by
      intro t k
      refine pre5 t ?_
      show Steps p.tables e below (s₁.setTop (mkF m 47 #[.val (.int p0), .val (.int p1), .val (.int p2), .val (.int p3), .val (.long oo), .second, .val (.long qq), .second, .val (.long rr), .second, .val (.int (0 : Int32)), .unset, .unset, .unset, .unset, .unset, .unset, .unset, .unset, .unset, .unset, .unset, .unset] [(.long mg)])) _
      refine XS.lstore X0.here hx rfl (hb hby at_47) rfl (l' := #[.val (.int p0), .val (.int p1), .val (.int p2), .val (.int p3), .val (.long oo), .second, .val (.long qq), .second, .val (.long rr), .second, .val (.int (0 : Int32)), .val (.long mg), .second, .unset, .unset, .unset, .unset, .unset, .unset, .unset, .unset, .unset, .unset]) rfl ?_
      show Steps p.tables e below (s₁.setTop (mkF m 49 #[.val (.int p0), .val (.int p1), .val (.int p2), .val (.int p3), .val (.long oo), .second, .val (.long qq), .second, .val (.long rr), .second, .val (.int (0 : Int32)), .val (.long mg), .second, .unset, .unset, .unset, .unset, .unset, .unset, .unset, .unset, .unset, .unset] [])) _
      refine XS.iload X0.here hx rfl (hb hby at_49) rfl ?_
      show Steps p.tables e below (s₁.setTop (mkF m 51 #[.val (.int p0), .val (.int p1), .val (.int p2), .val (.int p3), .val (.long oo), .second, .val (.long qq), .second, .val (.long rr), .second, .val (.int (0 : Int32)), .val (.long mg), .second, .unset, .unset, .unset, .unset, .unset, .unset, .unset, .unset, .unset, .unset] [(.int (0 : Int32))])) _
      refine XS.ifYes X0.here hx rfl (pc0 := 51) (pc' := 60) rfl (hb hby at_51) rfl ((if0 _ _).trans (teq (by decide : (0 : Int32) = (0 : Int32))).1) (by decide) (by decide) ?_
      show Steps p.tables e below (s₁.setTop (mkF m 60 #[.val (.int p0), .val (.int p1), .val (.int p2), .val (.int p3), .val (.long oo), .second, .val (.long qq), .second, .val (.long rr), .second, .val (.int (0 : Int32)), .val (.long mg), .second, .unset, .unset, .unset, .unset, .unset, .unset, .unset, .unset, .unset, .unset] [])) _
      refine XS.lload X0.here hx rfl (hb hby at_60) rfl ?_
      show Steps p.tables e below (s₁.setTop (mkF m 62 #[.val (.int p0), .val (.int p1), .val (.int p2), .val (.int p3), .val (.long oo), .second, .val (.long qq), .second, .val (.long rr), .second, .val (.int (0 : Int32)), .val (.long mg), .second, .unset, .unset, .unset, .unset, .unset, .unset, .unset, .unset, .unset, .unset] [(.long mg)])) _
      refine XS.lstore X0.here hx rfl (hb hby at_62) rfl (l' := #[.val (.int p0), .val (.int p1), .val (.int p2), .val (.int p3), .val (.long oo), .second, .val (.long qq), .second, .val (.long rr), .second, .val (.int (0 : Int32)), .val (.long mg), .second, .val (.long mg), .second, .unset, .unset, .unset, .unset, .unset, .unset, .unset, .unset]) rfl ?_
      show Steps p.tables e below (s₁.setTop (mkF m 64 #[.val (.int p0), .val (.int p1), .val (.int p2), .val (.int p3), .val (.long oo), .second, .val (.long qq), .second, .val (.long rr), .second, .val (.int (0 : Int32)), .val (.long mg), .second, .val (.long mg), .second, .unset, .unset, .unset, .unset, .unset, .unset, .unset, .unset] [])) _
      refine st6 _ ?_
      show Steps p.tables e below (T6.setTop (mkF m 67 #[.val (.int p0), .val (.int p1), .val (.int p2), .val (.int p3), .val (.long oo), .second, .val (.long qq), .second, .val (.long rr), .second, .val (.int (0 : Int32)), .val (.long mg), .second, .val (.long mg), .second, .unset, .unset, .unset, .unset, .unset, .unset, .unset, .unset] [(.ref b6)])) _
      refine XS.dup X6.here hx rfl (hb hby at_67) rfl rfl ?_
      show Steps p.tables e below (T6.setTop (mkF m 68 #[.val (.int p0), .val (.int p1), .val (.int p2), .val (.int p3), .val (.long oo), .second, .val (.long qq), .second, .val (.long rr), .second, .val (.int (0 : Int32)), .val (.long mg), .second, .val (.long mg), .second, .unset, .unset, .unset, .unset, .unset, .unset, .unset, .unset] [(.ref b6), (.ref b6)])) _
      refine XS.lload X6.here hx rfl (hb hby at_68) rfl ?_
      show Steps p.tables e below (T6.setTop (mkF m 70 #[.val (.int p0), .val (.int p1), .val (.int p2), .val (.int p3), .val (.long oo), .second, .val (.long qq), .second, .val (.long rr), .second, .val (.int (0 : Int32)), .val (.long mg), .second, .val (.long mg), .second, .unset, .unset, .unset, .unset, .unset, .unset, .unset, .unset] [(.long oo), (.ref b6), (.ref b6)])) _
      refine XS.lload X6.here hx rfl (hb hby at_70) rfl ?_
      show Steps p.tables e below (T6.setTop (mkF m 72 #[.val (.int p0), .val (.int p1), .val (.int p2), .val (.int p3), .val (.long oo), .second, .val (.long qq), .second, .val (.long rr), .second, .val (.int (0 : Int32)), .val (.long mg), .second, .val (.long mg), .second, .unset, .unset, .unset, .unset, .unset, .unset, .unset, .unset] [(.long mg), (.long oo), (.ref b6), (.ref b6)])) _
      refine st7.trans ?_
      show Steps p.tables e below (T7.setTop (mkF m 75 #[.val (.int p0), .val (.int p1), .val (.int p2), .val (.int p3), .val (.long oo), .second, .val (.long qq), .second, .val (.long rr), .second, .val (.int (0 : Int32)), .val (.long mg), .second, .val (.long mg), .second, .unset, .unset, .unset, .unset, .unset, .unset, .unset, .unset] [(.ref b6)])) _
      refine st8.trans ?_
      show Steps p.tables e below (T8.setTop (mkF m 78 #[.val (.int p0), .val (.int p1), .val (.int p2), .val (.int p3), .val (.long oo), .second, .val (.long qq), .second, .val (.long rr), .second, .val (.int (0 : Int32)), .val (.long mg), .second, .val (.long mg), .second, .unset, .unset, .unset, .unset, .unset, .unset, .unset, .unset] [(.double (FP.ddiv (FP.l2d mg) (FP.l2d oo)))])) _
      refine XS.dstore X8.here hx rfl (hb hby at_78) rfl (l' := #[.val (.int p0), .val (.int p1), .val (.int p2), .val (.int p3), .val (.long oo), .second, .val (.long qq), .second, .val (.long rr), .second, .val (.int (0 : Int32)), .val (.long mg), .second, .val (.long mg), .second, .val (.double (FP.ddiv (FP.l2d mg) (FP.l2d oo))), .second, .unset, .unset, .unset, .unset, .unset, .unset]) rfl ?_
      show Steps p.tables e below (T8.setTop (mkF m 80 #[.val (.int p0), .val (.int p1), .val (.int p2), .val (.int p3), .val (.long oo), .second, .val (.long qq), .second, .val (.long rr), .second, .val (.int (0 : Int32)), .val (.long mg), .second, .val (.long mg), .second, .val (.double (FP.ddiv (FP.l2d mg) (FP.l2d oo))), .second, .unset, .unset, .unset, .unset, .unset, .unset] [])) _
      refine XS.iload X8.here hx rfl (hb hby at_80) rfl ?_
      show Steps p.tables e below (T8.setTop (mkF m 82 #[.val (.int p0), .val (.int p1), .val (.int p2), .val (.int p3), .val (.long oo), .second, .val (.long qq), .second, .val (.long rr), .second, .val (.int (0 : Int32)), .val (.long mg), .second, .val (.long mg), .second, .val (.double (FP.ddiv (FP.l2d mg) (FP.l2d oo))), .second, .unset, .unset, .unset, .unset, .unset, .unset] [(.int (0 : Int32))])) _
      refine XS.ifYes X8.here hx rfl (pc0 := 82) (pc' := 91) rfl (hb hby at_82) rfl ((if0 _ _).trans (teq (by decide : (0 : Int32) = (0 : Int32))).1) (by decide) (by decide) ?_
      show Steps p.tables e below (T8.setTop (mkF m 91 #[.val (.int p0), .val (.int p1), .val (.int p2), .val (.int p3), .val (.long oo), .second, .val (.long qq), .second, .val (.long rr), .second, .val (.int (0 : Int32)), .val (.long mg), .second, .val (.long mg), .second, .val (.double (FP.ddiv (FP.l2d mg) (FP.l2d oo))), .second, .unset, .unset, .unset, .unset, .unset, .unset] [])) _
      refine XS.dload X8.here hx rfl (hb hby at_91) rfl ?_
      show Steps p.tables e below (T8.setTop (mkF m 93 #[.val (.int p0), .val (.int p1), .val (.int p2), .val (.int p3), .val (.long oo), .second, .val (.long qq), .second, .val (.long rr), .second, .val (.int (0 : Int32)), .val (.long mg), .second, .val (.long mg), .second, .val (.double (FP.ddiv (FP.l2d mg) (FP.l2d oo))), .second, .unset, .unset, .unset, .unset, .unset, .unset] [(.double (FP.ddiv (FP.l2d mg) (FP.l2d oo)))])) _
      refine XS.dstore X8.here hx rfl (hb hby at_93) rfl (l' := #[.val (.int p0), .val (.int p1), .val (.int p2), .val (.int p3), .val (.long oo), .second, .val (.long qq), .second, .val (.long rr), .second, .val (.int (0 : Int32)), .val (.long mg), .second, .val (.long mg), .second, .val (.double (FP.ddiv (FP.l2d mg) (FP.l2d oo))), .second, .val (.double (FP.ddiv (FP.l2d mg) (FP.l2d oo))), .second, .unset, .unset, .unset, .unset]) rfl ?_
      show Steps p.tables e below (T8.setTop (mkF m 95 #[.val (.int p0), .val (.int p1), .val (.int p2), .val (.int p3), .val (.long oo), .second, .val (.long qq), .second, .val (.long rr), .second, .val (.int (0 : Int32)), .val (.long mg), .second, .val (.long mg), .second, .val (.double (FP.ddiv (FP.l2d mg) (FP.l2d oo))), .second, .val (.double (FP.ddiv (FP.l2d mg) (FP.l2d oo))), .second, .unset, .unset, .unset, .unset] [])) _
      refine XS.lload X8.here hx rfl (hb hby at_95) rfl ?_
      show Steps p.tables e below (T8.setTop (mkF m 97 #[.val (.int p0), .val (.int p1), .val (.int p2), .val (.int p3), .val (.long oo), .second, .val (.long qq), .second, .val (.long rr), .second, .val (.int (0 : Int32)), .val (.long mg), .second, .val (.long mg), .second, .val (.double (FP.ddiv (FP.l2d mg) (FP.l2d oo))), .second, .val (.double (FP.ddiv (FP.l2d mg) (FP.l2d oo))), .second, .unset, .unset, .unset, .unset] [(.long qq)])) _
      refine XS.l2dS X8.here hx rfl (hb hby at_97) rfl rfl ?_
      show Steps p.tables e below (T8.setTop (mkF m 98 #[.val (.int p0), .val (.int p1), .val (.int p2), .val (.int p3), .val (.long oo), .second, .val (.long qq), .second, .val (.long rr), .second, .val (.int (0 : Int32)), .val (.long mg), .second, .val (.long mg), .second, .val (.double (FP.ddiv (FP.l2d mg) (FP.l2d oo))), .second, .val (.double (FP.ddiv (FP.l2d mg) (FP.l2d oo))), .second, .unset, .unset, .unset, .unset] [(.double (FP.l2d qq))])) _
      refine XS.dstore X8.here hx rfl (hb hby at_98) rfl (l' := #[.val (.int p0), .val (.int p1), .val (.int p2), .val (.int p3), .val (.long oo), .second, .val (.long qq), .second, .val (.long rr), .second, .val (.int (0 : Int32)), .val (.long mg), .second, .val (.long mg), .second, .val (.double (FP.ddiv (FP.l2d mg) (FP.l2d oo))), .second, .val (.double (FP.ddiv (FP.l2d mg) (FP.l2d oo))), .second, .val (.double (FP.l2d qq)), .second, .unset, .unset]) rfl ?_
      show Steps p.tables e below (T8.setTop (mkF m 100 #[.val (.int p0), .val (.int p1), .val (.int p2), .val (.int p3), .val (.long oo), .second, .val (.long qq), .second, .val (.long rr), .second, .val (.int (0 : Int32)), .val (.long mg), .second, .val (.long mg), .second, .val (.double (FP.ddiv (FP.l2d mg) (FP.l2d oo))), .second, .val (.double (FP.ddiv (FP.l2d mg) (FP.l2d oo))), .second, .val (.double (FP.l2d qq)), .second, .unset, .unset] [])) _
      refine XS.lload X8.here hx rfl (hb hby at_100) rfl ?_
      show Steps p.tables e below (T8.setTop (mkF m 102 #[.val (.int p0), .val (.int p1), .val (.int p2), .val (.int p3), .val (.long oo), .second, .val (.long qq), .second, .val (.long rr), .second, .val (.int (0 : Int32)), .val (.long mg), .second, .val (.long mg), .second, .val (.double (FP.ddiv (FP.l2d mg) (FP.l2d oo))), .second, .val (.double (FP.ddiv (FP.l2d mg) (FP.l2d oo))), .second, .val (.double (FP.l2d qq)), .second, .unset, .unset] [(.long qq)])) _
      refine XS.lconst X8.here hx rfl (hb hby at_102) ?_
      show Steps p.tables e below (T8.setTop (mkF m 103 #[.val (.int p0), .val (.int p1), .val (.int p2), .val (.int p3), .val (.long oo), .second, .val (.long qq), .second, .val (.long rr), .second, .val (.int (0 : Int32)), .val (.long mg), .second, .val (.long mg), .second, .val (.double (FP.ddiv (FP.l2d mg) (FP.l2d oo))), .second, .val (.double (FP.ddiv (FP.l2d mg) (FP.l2d oo))), .second, .val (.double (FP.l2d qq)), .second, .unset, .unset] [(.long (1 : Int64)), (.long qq)])) _
      refine XS.ladd X8.here hx rfl (hb hby at_103) rfl ?_
      show Steps p.tables e below (T8.setTop (mkF m 104 #[.val (.int p0), .val (.int p1), .val (.int p2), .val (.int p3), .val (.long oo), .second, .val (.long qq), .second, .val (.long rr), .second, .val (.int (0 : Int32)), .val (.long mg), .second, .val (.long mg), .second, .val (.double (FP.ddiv (FP.l2d mg) (FP.l2d oo))), .second, .val (.double (FP.ddiv (FP.l2d mg) (FP.l2d oo))), .second, .val (.double (FP.l2d qq)), .second, .unset, .unset] [(.long (qq + (1 : Int64)))])) _
      refine XS.l2dS X8.here hx rfl (hb hby at_104) rfl rfl ?_
      show Steps p.tables e below (T8.setTop (mkF m 105 #[.val (.int p0), .val (.int p1), .val (.int p2), .val (.int p3), .val (.long oo), .second, .val (.long qq), .second, .val (.long rr), .second, .val (.int (0 : Int32)), .val (.long mg), .second, .val (.long mg), .second, .val (.double (FP.ddiv (FP.l2d mg) (FP.l2d oo))), .second, .val (.double (FP.ddiv (FP.l2d mg) (FP.l2d oo))), .second, .val (.double (FP.l2d qq)), .second, .unset, .unset] [(.double (FP.l2d (qq + (1 : Int64))))])) _
      refine XS.dstore X8.here hx rfl (hb hby at_105) rfl (l' := #[.val (.int p0), .val (.int p1), .val (.int p2), .val (.int p3), .val (.long oo), .second, .val (.long qq), .second, .val (.long rr), .second, .val (.int (0 : Int32)), .val (.long mg), .second, .val (.long mg), .second, .val (.double (FP.ddiv (FP.l2d mg) (FP.l2d oo))), .second, .val (.double (FP.ddiv (FP.l2d mg) (FP.l2d oo))), .second, .val (.double (FP.l2d qq)), .second, .val (.double (FP.l2d (qq + (1 : Int64)))), .second]) rfl ?_
      show Steps p.tables e below (T8.setTop (mkF m 107 #[.val (.int p0), .val (.int p1), .val (.int p2), .val (.int p3), .val (.long oo), .second, .val (.long qq), .second, .val (.long rr), .second, .val (.int (0 : Int32)), .val (.long mg), .second, .val (.long mg), .second, .val (.double (FP.ddiv (FP.l2d mg) (FP.l2d oo))), .second, .val (.double (FP.ddiv (FP.l2d mg) (FP.l2d oo))), .second, .val (.double (FP.l2d qq)), .second, .val (.double (FP.l2d (qq + (1 : Int64)))), .second] [])) _
      refine XS.lload X8.here hx rfl (hb hby at_107) rfl ?_
      show Steps p.tables e below (T8.setTop (mkF m 109 #[.val (.int p0), .val (.int p1), .val (.int p2), .val (.int p3), .val (.long oo), .second, .val (.long qq), .second, .val (.long rr), .second, .val (.int (0 : Int32)), .val (.long mg), .second, .val (.long mg), .second, .val (.double (FP.ddiv (FP.l2d mg) (FP.l2d oo))), .second, .val (.double (FP.ddiv (FP.l2d mg) (FP.l2d oo))), .second, .val (.double (FP.l2d qq)), .second, .val (.double (FP.l2d (qq + (1 : Int64)))), .second] [(.long rr)])) _
      refine XS.lconst X8.here hx rfl (hb hby at_109) ?_
      show Steps p.tables e below (T8.setTop (mkF m 110 #[.val (.int p0), .val (.int p1), .val (.int p2), .val (.int p3), .val (.long oo), .second, .val (.long qq), .second, .val (.long rr), .second, .val (.int (0 : Int32)), .val (.long mg), .second, .val (.long mg), .second, .val (.double (FP.ddiv (FP.l2d mg) (FP.l2d oo))), .second, .val (.double (FP.ddiv (FP.l2d mg) (FP.l2d oo))), .second, .val (.double (FP.l2d qq)), .second, .val (.double (FP.l2d (qq + (1 : Int64)))), .second] [(.long (0 : Int64)), (.long rr)])) _
      refine XS.lcmp X8.here hx rfl (hb hby at_110) rfl ?_
      show Steps p.tables e below (T8.setTop (mkF m 111 #[.val (.int p0), .val (.int p1), .val (.int p2), .val (.int p3), .val (.long oo), .second, .val (.long qq), .second, .val (.long rr), .second, .val (.int (0 : Int32)), .val (.long mg), .second, .val (.long mg), .second, .val (.double (FP.ddiv (FP.l2d mg) (FP.l2d oo))), .second, .val (.double (FP.ddiv (FP.l2d mg) (FP.l2d oo))), .second, .val (.double (FP.l2d qq)), .second, .val (.double (FP.l2d (qq + (1 : Int64)))), .second] [(.int (lcmpW rr (0 : Int64)))])) _
      exact k
    by_cases h111 : rr = (0 : Int64)
    · skip
      have pre10 : ∀ t, Steps p.tables e below (T8.setTop (mkF m 127 #[.val (.int p0), .val (.int p1), .val (.int p2), .val (.int p3), .val (.long oo), .second, .val (.long qq), .second, .val (.long rr), .second, .val (.int (0 : Int32)), .val (.long mg), .second, .val (.long mg), .second, .val (.double (FP.ddiv (FP.l2d mg) (FP.l2d oo))), .second, .val (.double (FP.ddiv (FP.l2d mg) (FP.l2d oo))), .second, .val (.double (FP.l2d qq)), .second, .val (.double (FP.l2d (qq + (1 : Int64)))), .second] [(.int (1 : Int32))])) t → Steps p.tables e below (s₁.setTop (entryFrame m #[(.int p0), (.int p1), (.int p2), (.int p3)] maxLocals)) t := by
        intro t k
        refine pre9 t ?_
        refine XS.ifNo X8.here hx rfl (hb hby at_111) rfl ((if0 _ _).trans (teq ((lw_eq rr (0 : Int64)).mpr h111)).2) ?_
        show Steps p.tables e below (T8.setTop (mkF m 114 #[.val (.int p0), .val (.int p1), .val (.int p2), .val (.int p3), .val (.long oo), .second, .val (.long qq), .second, .val (.long rr), .second, .val (.int (0 : Int32)), .val (.long mg), .second, .val (.long mg), .second, .val (.double (FP.ddiv (FP.l2d mg) (FP.l2d oo))), .second, .val (.double (FP.ddiv (FP.l2d mg) (FP.l2d oo))), .second, .val (.double (FP.l2d qq)), .second, .val (.double (FP.l2d (qq + (1 : Int64)))), .second] [])) _
        refine XS.dload X8.here hx rfl (hb hby at_114) rfl ?_
        show Steps p.tables e below (T8.setTop (mkF m 116 #[.val (.int p0), .val (.int p1), .val (.int p2), .val (.int p3), .val (.long oo), .second, .val (.long qq), .second, .val (.long rr), .second, .val (.int (0 : Int32)), .val (.long mg), .second, .val (.long mg), .second, .val (.double (FP.ddiv (FP.l2d mg) (FP.l2d oo))), .second, .val (.double (FP.ddiv (FP.l2d mg) (FP.l2d oo))), .second, .val (.double (FP.l2d qq)), .second, .val (.double (FP.l2d (qq + (1 : Int64)))), .second] [(.double (FP.ddiv (FP.l2d mg) (FP.l2d oo)))])) _
        refine XS.dload X8.here hx rfl (hb hby at_116) rfl ?_
        show Steps p.tables e below (T8.setTop (mkF m 118 #[.val (.int p0), .val (.int p1), .val (.int p2), .val (.int p3), .val (.long oo), .second, .val (.long qq), .second, .val (.long rr), .second, .val (.int (0 : Int32)), .val (.long mg), .second, .val (.long mg), .second, .val (.double (FP.ddiv (FP.l2d mg) (FP.l2d oo))), .second, .val (.double (FP.ddiv (FP.l2d mg) (FP.l2d oo))), .second, .val (.double (FP.l2d qq)), .second, .val (.double (FP.l2d (qq + (1 : Int64)))), .second] [(.double (FP.l2d qq)), (.double (FP.ddiv (FP.l2d mg) (FP.l2d oo)))])) _
        refine XS.dcmpS X8.here hx rfl (hb hby at_118) rfl (own_cv (c1 h111) rfl) ?_
        show Steps p.tables e below (T8.setTop (mkF m 119 #[.val (.int p0), .val (.int p1), .val (.int p2), .val (.int p3), .val (.long oo), .second, .val (.long qq), .second, .val (.long rr), .second, .val (.int (0 : Int32)), .val (.long mg), .second, .val (.long mg), .second, .val (.double (FP.ddiv (FP.l2d mg) (FP.l2d oo))), .second, .val (.double (FP.ddiv (FP.l2d mg) (FP.l2d oo))), .second, .val (.double (FP.l2d qq)), .second, .val (.double (FP.l2d (qq + (1 : Int64)))), .second] [(.int (0 : Int32))])) _
        refine XS.ifNo X8.here hx rfl (hb hby at_119) rfl ((if0 _ _).trans (teq (by decide : (0 : Int32) = (0 : Int32))).2) ?_
        show Steps p.tables e below (T8.setTop (mkF m 122 #[.val (.int p0), .val (.int p1), .val (.int p2), .val (.int p3), .val (.long oo), .second, .val (.long qq), .second, .val (.long rr), .second, .val (.int (0 : Int32)), .val (.long mg), .second, .val (.long mg), .second, .val (.double (FP.ddiv (FP.l2d mg) (FP.l2d oo))), .second, .val (.double (FP.ddiv (FP.l2d mg) (FP.l2d oo))), .second, .val (.double (FP.l2d qq)), .second, .val (.double (FP.l2d (qq + (1 : Int64)))), .second] [])) _
        refine XS.iconst X8.here hx rfl (hb hby at_122) ?_
        show Steps p.tables e below (T8.setTop (mkF m 123 #[.val (.int p0), .val (.int p1), .val (.int p2), .val (.int p3), .val (.long oo), .second, .val (.long qq), .second, .val (.long rr), .second, .val (.int (0 : Int32)), .val (.long mg), .second, .val (.long mg), .second, .val (.double (FP.ddiv (FP.l2d mg) (FP.l2d oo))), .second, .val (.double (FP.ddiv (FP.l2d mg) (FP.l2d oo))), .second, .val (.double (FP.l2d qq)), .second, .val (.double (FP.l2d (qq + (1 : Int64)))), .second] [(.int (1 : Int32))])) _
        refine XS.goto X8.here hx rfl (pc0 := 123) (pc' := 127) rfl (hb hby at_123) (by decide) (by decide) ?_
        show Steps p.tables e below (T8.setTop (mkF m 127 #[.val (.int p0), .val (.int p1), .val (.int p2), .val (.int p3), .val (.long oo), .second, .val (.long qq), .second, .val (.long rr), .second, .val (.int (0 : Int32)), .val (.long mg), .second, .val (.long mg), .second, .val (.double (FP.ddiv (FP.l2d mg) (FP.l2d oo))), .second, .val (.double (FP.ddiv (FP.l2d mg) (FP.l2d oo))), .second, .val (.double (FP.l2d qq)), .second, .val (.double (FP.l2d (qq + (1 : Int64)))), .second] [(.int (1 : Int32))])) _
        exact k
      obtain ⟨fs, hr, hrun, hended, hW, hsame⟩ := X8.leave (v := some (.int (1 : Int32))) (fun h => by rw [Bd.returns] at h; cases h)
      refine ⟨_, _, pre10 _ ?_, hrun, hended, _, _, rfl, ?_, ⟨_, rfl⟩, hW, hsame.mono (by decide) (by decide)⟩
      · exact retN X8 hx (t := .boolean) Bd.returns (by simp) (hb hby at_127) hr
      · show Q_rm0 Z p0 p1 p2 p3 h0 n0 _ T8.heap _
        rw [hq8]
        exact ⟨rfl, N8⟩
    · skip
      have pre11 : ∀ t, Steps p.tables e below (T8.setTop (mkF m 149 #[.val (.int p0), .val (.int p1), .val (.int p2), .val (.int p3), .val (.long oo), .second, .val (.long qq), .second, .val (.long rr), .second, .val (.int (0 : Int32)), .val (.long mg), .second, .val (.long mg), .second, .val (.double (FP.ddiv (FP.l2d mg) (FP.l2d oo))), .second, .val (.double (FP.ddiv (FP.l2d mg) (FP.l2d oo))), .second, .val (.double (FP.l2d qq)), .second, .val (.double (FP.l2d (qq + (1 : Int64)))), .second] [(.int (1 : Int32))])) t → Steps p.tables e below (s₁.setTop (entryFrame m #[(.int p0), (.int p1), (.int p2), (.int p3)] maxLocals)) t := by
        intro t k
        refine pre9 t ?_
        refine XS.ifYes X8.here hx rfl (pc0 := 111) (pc' := 128) rfl (hb hby at_111) rfl ((if0 _ _).trans (feq (mt (lw_eq rr (0 : Int64)).mp h111)).2) (by decide) (by decide) ?_
        show Steps p.tables e below (T8.setTop (mkF m 128 #[.val (.int p0), .val (.int p1), .val (.int p2), .val (.int p3), .val (.long oo), .second, .val (.long qq), .second, .val (.long rr), .second, .val (.int (0 : Int32)), .val (.long mg), .second, .val (.long mg), .second, .val (.double (FP.ddiv (FP.l2d mg) (FP.l2d oo))), .second, .val (.double (FP.ddiv (FP.l2d mg) (FP.l2d oo))), .second, .val (.double (FP.l2d qq)), .second, .val (.double (FP.l2d (qq + (1 : Int64)))), .second] [])) _
        refine XS.dload X8.here hx rfl (hb hby at_128) rfl ?_
        show Steps p.tables e below (T8.setTop (mkF m 130 #[.val (.int p0), .val (.int p1), .val (.int p2), .val (.int p3), .val (.long oo), .second, .val (.long qq), .second, .val (.long rr), .second, .val (.int (0 : Int32)), .val (.long mg), .second, .val (.long mg), .second, .val (.double (FP.ddiv (FP.l2d mg) (FP.l2d oo))), .second, .val (.double (FP.ddiv (FP.l2d mg) (FP.l2d oo))), .second, .val (.double (FP.l2d qq)), .second, .val (.double (FP.l2d (qq + (1 : Int64)))), .second] [(.double (FP.l2d qq))])) _
        refine XS.dload X8.here hx rfl (hb hby at_130) rfl ?_
        show Steps p.tables e below (T8.setTop (mkF m 132 #[.val (.int p0), .val (.int p1), .val (.int p2), .val (.int p3), .val (.long oo), .second, .val (.long qq), .second, .val (.long rr), .second, .val (.int (0 : Int32)), .val (.long mg), .second, .val (.long mg), .second, .val (.double (FP.ddiv (FP.l2d mg) (FP.l2d oo))), .second, .val (.double (FP.ddiv (FP.l2d mg) (FP.l2d oo))), .second, .val (.double (FP.l2d qq)), .second, .val (.double (FP.l2d (qq + (1 : Int64)))), .second] [(.double (FP.ddiv (FP.l2d mg) (FP.l2d oo))), (.double (FP.l2d qq))])) _
        refine XS.dcmpS X8.here hx rfl (hb hby at_132) rfl (own_cv (c2 h111).1 rfl) ?_
        show Steps p.tables e below (T8.setTop (mkF m 133 #[.val (.int p0), .val (.int p1), .val (.int p2), .val (.int p3), .val (.long oo), .second, .val (.long qq), .second, .val (.long rr), .second, .val (.int (0 : Int32)), .val (.long mg), .second, .val (.long mg), .second, .val (.double (FP.ddiv (FP.l2d mg) (FP.l2d oo))), .second, .val (.double (FP.ddiv (FP.l2d mg) (FP.l2d oo))), .second, .val (.double (FP.l2d qq)), .second, .val (.double (FP.l2d (qq + (1 : Int64)))), .second] [(.int (-1 : Int32))])) _
        refine XS.ifNo X8.here hx rfl (hb hby at_133) rfl ((if0 _ _).trans (tlt (by decide : (-1 : Int32) < (0 : Int32))).2.1) ?_
        show Steps p.tables e below (T8.setTop (mkF m 136 #[.val (.int p0), .val (.int p1), .val (.int p2), .val (.int p3), .val (.long oo), .second, .val (.long qq), .second, .val (.long rr), .second, .val (.int (0 : Int32)), .val (.long mg), .second, .val (.long mg), .second, .val (.double (FP.ddiv (FP.l2d mg) (FP.l2d oo))), .second, .val (.double (FP.ddiv (FP.l2d mg) (FP.l2d oo))), .second, .val (.double (FP.l2d qq)), .second, .val (.double (FP.l2d (qq + (1 : Int64)))), .second] [])) _
        refine XS.dload X8.here hx rfl (hb hby at_136) rfl ?_
        show Steps p.tables e below (T8.setTop (mkF m 138 #[.val (.int p0), .val (.int p1), .val (.int p2), .val (.int p3), .val (.long oo), .second, .val (.long qq), .second, .val (.long rr), .second, .val (.int (0 : Int32)), .val (.long mg), .second, .val (.long mg), .second, .val (.double (FP.ddiv (FP.l2d mg) (FP.l2d oo))), .second, .val (.double (FP.ddiv (FP.l2d mg) (FP.l2d oo))), .second, .val (.double (FP.l2d qq)), .second, .val (.double (FP.l2d (qq + (1 : Int64)))), .second] [(.double (FP.ddiv (FP.l2d mg) (FP.l2d oo)))])) _
        refine XS.dload X8.here hx rfl (hb hby at_138) rfl ?_
        show Steps p.tables e below (T8.setTop (mkF m 140 #[.val (.int p0), .val (.int p1), .val (.int p2), .val (.int p3), .val (.long oo), .second, .val (.long qq), .second, .val (.long rr), .second, .val (.int (0 : Int32)), .val (.long mg), .second, .val (.long mg), .second, .val (.double (FP.ddiv (FP.l2d mg) (FP.l2d oo))), .second, .val (.double (FP.ddiv (FP.l2d mg) (FP.l2d oo))), .second, .val (.double (FP.l2d qq)), .second, .val (.double (FP.l2d (qq + (1 : Int64)))), .second] [(.double (FP.l2d (qq + (1 : Int64)))), (.double (FP.ddiv (FP.l2d mg) (FP.l2d oo)))])) _
        refine XS.dcmpS X8.here hx rfl (hb hby at_140) rfl (own_cv (c2 h111).2 rfl) ?_
        show Steps p.tables e below (T8.setTop (mkF m 141 #[.val (.int p0), .val (.int p1), .val (.int p2), .val (.int p3), .val (.long oo), .second, .val (.long qq), .second, .val (.long rr), .second, .val (.int (0 : Int32)), .val (.long mg), .second, .val (.long mg), .second, .val (.double (FP.ddiv (FP.l2d mg) (FP.l2d oo))), .second, .val (.double (FP.ddiv (FP.l2d mg) (FP.l2d oo))), .second, .val (.double (FP.l2d qq)), .second, .val (.double (FP.l2d (qq + (1 : Int64)))), .second] [(.int (-1 : Int32))])) _
        refine XS.ifNo X8.here hx rfl (hb hby at_141) rfl ((if0 _ _).trans (tlt (by decide : (-1 : Int32) < (0 : Int32))).2.1) ?_
        show Steps p.tables e below (T8.setTop (mkF m 144 #[.val (.int p0), .val (.int p1), .val (.int p2), .val (.int p3), .val (.long oo), .second, .val (.long qq), .second, .val (.long rr), .second, .val (.int (0 : Int32)), .val (.long mg), .second, .val (.long mg), .second, .val (.double (FP.ddiv (FP.l2d mg) (FP.l2d oo))), .second, .val (.double (FP.ddiv (FP.l2d mg) (FP.l2d oo))), .second, .val (.double (FP.l2d qq)), .second, .val (.double (FP.l2d (qq + (1 : Int64)))), .second] [])) _
        refine XS.iconst X8.here hx rfl (hb hby at_144) ?_
        show Steps p.tables e below (T8.setTop (mkF m 145 #[.val (.int p0), .val (.int p1), .val (.int p2), .val (.int p3), .val (.long oo), .second, .val (.long qq), .second, .val (.long rr), .second, .val (.int (0 : Int32)), .val (.long mg), .second, .val (.long mg), .second, .val (.double (FP.ddiv (FP.l2d mg) (FP.l2d oo))), .second, .val (.double (FP.ddiv (FP.l2d mg) (FP.l2d oo))), .second, .val (.double (FP.l2d qq)), .second, .val (.double (FP.l2d (qq + (1 : Int64)))), .second] [(.int (1 : Int32))])) _
        refine XS.goto X8.here hx rfl (pc0 := 145) (pc' := 149) rfl (hb hby at_145) (by decide) (by decide) ?_
        show Steps p.tables e below (T8.setTop (mkF m 149 #[.val (.int p0), .val (.int p1), .val (.int p2), .val (.int p3), .val (.long oo), .second, .val (.long qq), .second, .val (.long rr), .second, .val (.int (0 : Int32)), .val (.long mg), .second, .val (.long mg), .second, .val (.double (FP.ddiv (FP.l2d mg) (FP.l2d oo))), .second, .val (.double (FP.ddiv (FP.l2d mg) (FP.l2d oo))), .second, .val (.double (FP.l2d qq)), .second, .val (.double (FP.l2d (qq + (1 : Int64)))), .second] [(.int (1 : Int32))])) _
        exact k
      obtain ⟨fs, hr, hrun, hended, hW, hsame⟩ := X8.leave (v := some (.int (1 : Int32))) (fun h => by rw [Bd.returns] at h; cases h)
      refine ⟨_, _, pre11 _ ?_, hrun, hended, _, _, rfl, ?_, ⟨_, rfl⟩, hW, hsame.mono (by decide) (by decide)⟩
      · exact retN X8 hx (t := .boolean) Bd.returns (by simp) (hb hby at_149) hr
      · show Q_rm0 Z p0 p1 p2 p3 h0 n0 _ T8.heap _
        rw [hq8]
        exact ⟨rfl, N8⟩
  · skip
    have pre12 : ∀ t, Steps p.tables e below (s₁.setTop (mkF m 47 #[.val (.int p0), .val (.int p1), .val (.int p2), .val (.int p3), .val (.long oo), .second, .val (.long qq), .second, .val (.long rr), .second, .val (.int (1 : Int32)), .unset, .unset, .unset, .unset, .unset, .unset, .unset, .unset, .unset, .unset, .unset, .unset] [(.long ((qq * oo) + rr))])) t → Steps p.tables e below (s₁.setTop (entryFrame m #[(.int p0), (.int p1), (.int p2), (.int p3)] maxLocals)) t := by
      intro t k
      refine pre4 t ?_
      refine XS.ifNo X0.here hx rfl (hb hby at_29) rfl ((if0 _ _).trans (feq h29).1) ?_
      show Steps p.tables e below (s₁.setTop (mkF m 32 #[.val (.int p0), .val (.int p1), .val (.int p2), .val (.int p3), .val (.long oo), .second, .val (.long qq), .second, .val (.long rr), .second, .unset, .unset, .unset, .unset, .unset, .unset, .unset, .unset, .unset, .unset, .unset, .unset, .unset] [])) _
      refine XS.iconst X0.here hx rfl (hb hby at_32) ?_
      show Steps p.tables e below (s₁.setTop (mkF m 33 #[.val (.int p0), .val (.int p1), .val (.int p2), .val (.int p3), .val (.long oo), .second, .val (.long qq), .second, .val (.long rr), .second, .unset, .unset, .unset, .unset, .unset, .unset, .unset, .unset, .unset, .unset, .unset, .unset, .unset] [(.int (1 : Int32))])) _
      refine XS.goto X0.here hx rfl (pc0 := 33) (pc' := 37) rfl (hb hby at_33) (by decide) (by decide) ?_
      show Steps p.tables e below (s₁.setTop (mkF m 37 #[.val (.int p0), .val (.int p1), .val (.int p2), .val (.int p3), .val (.long oo), .second, .val (.long qq), .second, .val (.long rr), .second, .unset, .unset, .unset, .unset, .unset, .unset, .unset, .unset, .unset, .unset, .unset, .unset, .unset] [(.int (1 : Int32))])) _
      refine XS.istore X0.here hx rfl (hb hby at_37) rfl (l' := #[.val (.int p0), .val (.int p1), .val (.int p2), .val (.int p3), .val (.long oo), .second, .val (.long qq), .second, .val (.long rr), .second, .val (.int (1 : Int32)), .unset, .unset, .unset, .unset, .unset, .unset, .unset, .unset, .unset, .unset, .unset, .unset]) rfl ?_
      show Steps p.tables e below (s₁.setTop (mkF m 39 #[.val (.int p0), .val (.int p1), .val (.int p2), .val (.int p3), .val (.long oo), .second, .val (.long qq), .second, .val (.long rr), .second, .val (.int (1 : Int32)), .unset, .unset, .unset, .unset, .unset, .unset, .unset, .unset, .unset, .unset, .unset, .unset] [])) _
      refine XS.lload X0.here hx rfl (hb hby at_39) rfl ?_
      show Steps p.tables e below (s₁.setTop (mkF m 41 #[.val (.int p0), .val (.int p1), .val (.int p2), .val (.int p3), .val (.long oo), .second, .val (.long qq), .second, .val (.long rr), .second, .val (.int (1 : Int32)), .unset, .unset, .unset, .unset, .unset, .unset, .unset, .unset, .unset, .unset, .unset, .unset] [(.long qq)])) _
      refine XS.lload X0.here hx rfl (hb hby at_41) rfl ?_
      show Steps p.tables e below (s₁.setTop (mkF m 43 #[.val (.int p0), .val (.int p1), .val (.int p2), .val (.int p3), .val (.long oo), .second, .val (.long qq), .second, .val (.long rr), .second, .val (.int (1 : Int32)), .unset, .unset, .unset, .unset, .unset, .unset, .unset, .unset, .unset, .unset, .unset, .unset] [(.long oo), (.long qq)])) _
      refine XS.lmul X0.here hx rfl (hb hby at_43) rfl ?_
      show Steps p.tables e below (s₁.setTop (mkF m 44 #[.val (.int p0), .val (.int p1), .val (.int p2), .val (.int p3), .val (.long oo), .second, .val (.long qq), .second, .val (.long rr), .second, .val (.int (1 : Int32)), .unset, .unset, .unset, .unset, .unset, .unset, .unset, .unset, .unset, .unset, .unset, .unset] [(.long (qq * oo))])) _
      refine XS.lload X0.here hx rfl (hb hby at_44) rfl ?_
      show Steps p.tables e below (s₁.setTop (mkF m 46 #[.val (.int p0), .val (.int p1), .val (.int p2), .val (.int p3), .val (.long oo), .second, .val (.long qq), .second, .val (.long rr), .second, .val (.int (1 : Int32)), .unset, .unset, .unset, .unset, .unset, .unset, .unset, .unset, .unset, .unset, .unset, .unset] [(.long rr), (.long (qq * oo))])) _
      refine XS.ladd X0.here hx rfl (hb hby at_46) rfl ?_
      show Steps p.tables e below (s₁.setTop (mkF m 47 #[.val (.int p0), .val (.int p1), .val (.int p2), .val (.int p3), .val (.long oo), .second, .val (.long qq), .second, .val (.long rr), .second, .val (.int (1 : Int32)), .unset, .unset, .unset, .unset, .unset, .unset, .unset, .unset, .unset, .unset, .unset, .unset] [(.long ((qq * oo) + rr))])) _
      exact k
    obtain ⟨mg, hmg⟩ : ∃ z : Int64, z = ((qq * oo) + rr) := ⟨_, rfl⟩
    rw [← hmg] at pre12
    obtain ⟨hm1, hm2, hm3⟩ := own_n4 hq0 hq1 ho0 ho1 hr0 hr1 hmg
    obtain ⟨T13, h13, X13, e13, E13, A13, D13, -, st13⟩ := newO X0 hx hZ hown (hw _ (List.mem_of_getElem? (i := 3) rfl)) (hw _ (List.mem_of_getElem? (i := 4) rfl)) (hw _ (List.mem_of_getElem? (i := 5) rfl)) e0 (g := (mkF m 64 #[.val (.int p0), .val (.int p1), .val (.int p2), .val (.int p3), .val (.long oo), .second, .val (.long qq), .second, .val (.long rr), .second, .val (.int (1 : Int32)), .val (.long mg), .second, .val (.long ((-mg))), .second, .unset, .unset, .unset, .unset, .unset, .unset, .unset, .unset] [])) rfl (hb hby at_64) (by decide) (by decide)
    obtain ⟨b13, g13⟩ : ∃ z, z = h0.size := ⟨_, rfl⟩
    rw [← g13] at A13 D13 st13
    have F13_operations : Fld Z h13 b13 "com/example/tallybuf/tallybuf/cli/SideBySide$Run" "operations" "J" (.long (0 : Int64)) := D13 (Or.inr (hw _ (List.mem_of_getElem? (i := 18) rfl))) (ty := .long) (by decide)
    have F13_nanos : Fld Z h13 b13 "com/example/tallybuf/tallybuf/cli/SideBySide$Run" "nanos" "J" (.long (0 : Int64)) := D13 (Or.inr (hw _ (List.mem_of_getElem? (i := 20) rfl))) (ty := .long) (by decide)
    have g_b13 : n0 ≤ b13 := Nat.le_trans Z0 (Nat.le_of_eq g13.symm)
    have sz_b13 : h0.size ≤ b13 := (Nat.le_trans (Keep.refl h0 []).1 (Nat.le_of_eq g13.symm))
    have K13 : Keep h0 h13 [] := (Keep.refl h0 []).ext E13
    obtain ⟨_, _, ⟨T14, L14, k14, n14⟩, -, X14, ⟨Lc14, hQ14, l14, y14, z14⟩, st14⟩ := X13.specialBack hx (y := (⟨"com/example/tallybuf/tallybuf/cli/SideBySide$Run", "<init>", "(JJ)V"⟩ : MethodName)) rfl hown (mvT hZ (hw _ (List.mem_of_getElem? (i := 6) rfl))) (mvT hZ (hw _ (List.mem_of_getElem? (i := 7) rfl))) (mvT hZ (hw _ (List.mem_of_getElem? (i := 8) rfl))) (by decide) (backOf (W := 1) (rmI l Z a0 hw [] b13 oo ((-mg))  h13 n0 (Nat.le_trans Z0 E13.1) F13_operations F13_nanos A13 g_b13) hZ (hw _ (List.mem_of_getElem? (i := 8) rfl)) (hw _ (List.mem_of_getElem? (i := 5) rfl)) (by decide) (by decide)) (g := (mkF m 72 #[.val (.int p0), .val (.int p1), .val (.int p2), .val (.int p3), .val (.long oo), .second, .val (.long qq), .second, .val (.long rr), .second, .val (.int (1 : Int32)), .val (.long mg), .second, .val (.long ((-mg))), .second, .unset, .unset, .unset, .unset, .unset, .unset, .unset, .unset] [(.long ((-mg))), (.long oo), (.ref b13), (.ref b13)])) rfl (by rw [hml]; rfl) (Steps.refl _) (a := b13) (argsL := [(.long oo), (.long ((-mg)))]) (rest := [(.ref b13)]) (lenOf pd_1 rfl) rfl (by show 2 * 0 + _ ≤ _; exact Nat.le_of_eq rfl) (hb hby at_72) (fun _ _ => ⟨rfl, e13, (by decide : 1 + 0 ≤ _), (by decide : 2 + 0 ≤ _)⟩)
    dsimp only [Pt.U, Pt.locs, Pt.cells, Pt.slots] at X14 l14 y14 z14 st14 hQ14
    subst l14 y14 z14
    obtain ⟨rfl, N14q, Kq14, Eq14, F1q14, F2q14⟩ := hQ14
    have N14 := Fr.app N0 N14q
    have K14 : Keep h0 T14.heap [] := K13.trans Kq14 (allS (Or.inr sz_b13) all0)
    obtain ⟨cq15, kq15, q15a, q15b, q15c⟩ := isOf hZ rfl Eq14
    obtain ⟨_, _, ⟨T15, L15, k15, n15⟩, -, X15, ⟨Lc15, hQ15, l15, y15, z15⟩, st15⟩ := X14.virtualBack hx (y := (⟨"com/example/tallybuf/tallybuf/cli/SideBySide$Run", "nanosPerOperation", "()D"⟩ : MethodName)) (z := (⟨"com/example/tallybuf/tallybuf/cli/SideBySide$Run", "nanosPerOperation", "()D"⟩ : MethodName)) hown (mvT hZ (hw _ (List.mem_of_getElem? (i := 21) rfl))) (mvT hZ (hw _ (List.mem_of_getElem? (i := 22) rfl))) (notFace_of_selects (args := #[]) (mvT hZ (hw _ (List.mem_of_getElem? (i := 24) rfl)))) (mvT hZ (hw _ (List.mem_of_getElem? (i := 24) rfl))) (mvT hZ (hw _ (List.mem_of_getElem? (i := 23) rfl))) (by decide) (backOf (W := 0) (rmN l Z a0 hw [] b13 oo (-mg) T14.heap n0 (Nat.le_trans (Nat.le_trans Z0 E13.1) Kq14.1) F1q14 F2q14 hz) hZ (hw _ (List.mem_of_getElem? (i := 25) rfl)) (hw _ (List.mem_of_getElem? (i := 5) rfl)) (by decide) (by decide)) q15a q15c (g := (mkF m 75 #[.val (.int p0), .val (.int p1), .val (.int p2), .val (.int p3), .val (.long oo), .second, .val (.long qq), .second, .val (.long rr), .second, .val (.int (1 : Int32)), .val (.long mg), .second, .val (.long ((-mg))), .second, .unset, .unset, .unset, .unset, .unset, .unset, .unset, .unset] [(.ref b13)])) rfl (by rw [hml]; rfl) (Steps.refl _) (argsL := []) (rest := []) (lenOf pd_2 rfl) rfl (by show 2 * 0 + _ ≤ _; exact Nat.le_of_eq rfl) (hb hby at_75) (fun _ _ => ⟨rfl, rfl, (by decide : 1 + 0 ≤ _), (by decide : 2 + 0 ≤ _)⟩)
    dsimp only [Pt.U, Pt.locs, Pt.cells, Pt.slots] at X15 l15 y15 z15 st15 hQ15
    subst l15 y15 z15
    obtain ⟨rfl, N15q, hq15⟩ := hQ15
    have N15 := Fr.app N14 N15q
    obtain ⟨c1, c2⟩ := own_fp (neg := true) (n := -mg) hq0 hq1 ho0 ho1 hr0 hr1 hm1 (own_n5 hm2 hm3) rfl
    simp only [Bool.false_eq_true, if_false, if_true] at c1 c2
    have pre16 : ∀ t, Steps p.tables e below (T15.setTop (mkF m 111 #[.val (.int p0), .val (.int p1), .val (.int p2), .val (.int p3), .val (.long oo), .second, .val (.long qq), .second, .val (.long rr), .second, .val (.int (1 : Int32)), .val (.long mg), .second, .val (.long ((-mg))), .second, .val (.double (FP.ddiv (FP.l2d (-mg)) (FP.l2d oo))), .second, .val (.double (FP.dneg (FP.ddiv (FP.l2d (-mg)) (FP.l2d oo)))), .second, .val (.double (FP.l2d qq)), .second, .val (.double (FP.l2d (qq + (1 : Int64)))), .second] [(.int (lcmpW rr (0 : Int64)))])) t → Steps p.tables e below (s₁.setTop (entryFrame m #[(.int p0), (.int p1), (.int p2), (.int p3)] maxLocals)) t := by
      intro t k
      refine pre12 t ?_
      show Steps p.tables e below (s₁.setTop (mkF m 47 #[.val (.int p0), .val (.int p1), .val (.int p2), .val (.int p3), .val (.long oo), .second, .val (.long qq), .second, .val (.long rr), .second, .val (.int (1 : Int32)), .unset, .unset, .unset, .unset, .unset, .unset, .unset, .unset, .unset, .unset, .unset, .unset] [(.long mg)])) _
      refine XS.lstore X0.here hx rfl (hb hby at_47) rfl (l' := #[.val (.int p0), .val (.int p1), .val (.int p2), .val (.int p3), .val (.long oo), .second, .val (.long qq), .second, .val (.long rr), .second, .val (.int (1 : Int32)), .val (.long mg), .second, .unset, .unset, .unset, .unset, .unset, .unset, .unset, .unset, .unset, .unset]) rfl ?_
      show Steps p.tables e below (s₁.setTop (mkF m 49 #[.val (.int p0), .val (.int p1), .val (.int p2), .val (.int p3), .val (.long oo), .second, .val (.long qq), .second, .val (.long rr), .second, .val (.int (1 : Int32)), .val (.long mg), .second, .unset, .unset, .unset, .unset, .unset, .unset, .unset, .unset, .unset, .unset] [])) _
      refine XS.iload X0.here hx rfl (hb hby at_49) rfl ?_
      show Steps p.tables e below (s₁.setTop (mkF m 51 #[.val (.int p0), .val (.int p1), .val (.int p2), .val (.int p3), .val (.long oo), .second, .val (.long qq), .second, .val (.long rr), .second, .val (.int (1 : Int32)), .val (.long mg), .second, .unset, .unset, .unset, .unset, .unset, .unset, .unset, .unset, .unset, .unset] [(.int (1 : Int32))])) _
      refine XS.ifNo X0.here hx rfl (hb hby at_51) rfl ((if0 _ _).trans (feq (by decide : ¬ ((1 : Int32) = (0 : Int32)))).1) ?_
      show Steps p.tables e below (s₁.setTop (mkF m 54 #[.val (.int p0), .val (.int p1), .val (.int p2), .val (.int p3), .val (.long oo), .second, .val (.long qq), .second, .val (.long rr), .second, .val (.int (1 : Int32)), .val (.long mg), .second, .unset, .unset, .unset, .unset, .unset, .unset, .unset, .unset, .unset, .unset] [])) _
      refine XS.lload X0.here hx rfl (hb hby at_54) rfl ?_
      show Steps p.tables e below (s₁.setTop (mkF m 56 #[.val (.int p0), .val (.int p1), .val (.int p2), .val (.int p3), .val (.long oo), .second, .val (.long qq), .second, .val (.long rr), .second, .val (.int (1 : Int32)), .val (.long mg), .second, .unset, .unset, .unset, .unset, .unset, .unset, .unset, .unset, .unset, .unset] [(.long mg)])) _
      refine XS.lneg X0.here hx rfl (hb hby at_56) rfl ?_
      show Steps p.tables e below (s₁.setTop (mkF m 57 #[.val (.int p0), .val (.int p1), .val (.int p2), .val (.int p3), .val (.long oo), .second, .val (.long qq), .second, .val (.long rr), .second, .val (.int (1 : Int32)), .val (.long mg), .second, .unset, .unset, .unset, .unset, .unset, .unset, .unset, .unset, .unset, .unset] [(.long ((-mg)))])) _
      refine XS.goto X0.here hx rfl (pc0 := 57) (pc' := 62) rfl (hb hby at_57) (by decide) (by decide) ?_
      show Steps p.tables e below (s₁.setTop (mkF m 62 #[.val (.int p0), .val (.int p1), .val (.int p2), .val (.int p3), .val (.long oo), .second, .val (.long qq), .second, .val (.long rr), .second, .val (.int (1 : Int32)), .val (.long mg), .second, .unset, .unset, .unset, .unset, .unset, .unset, .unset, .unset, .unset, .unset] [(.long ((-mg)))])) _
      refine XS.lstore X0.here hx rfl (hb hby at_62) rfl (l' := #[.val (.int p0), .val (.int p1), .val (.int p2), .val (.int p3), .val (.long oo), .second, .val (.long qq), .second, .val (.long rr), .second, .val (.int (1 : Int32)), .val (.long mg), .second, .val (.long ((-mg))), .second, .unset, .unset, .unset, .unset, .unset, .unset, .unset, .unset]) rfl ?_
      show Steps p.tables e below (s₁.setTop (mkF m 64 #[.val (.int p0), .val (.int p1), .val (.int p2), .val (.int p3), .val (.long oo), .second, .val (.long qq), .second, .val (.long rr), .second, .val (.int (1 : Int32)), .val (.long mg), .second, .val (.long ((-mg))), .second, .unset, .unset, .unset, .unset, .unset, .unset, .unset, .unset] [])) _
      refine st13 _ ?_
      show Steps p.tables e below (T13.setTop (mkF m 67 #[.val (.int p0), .val (.int p1), .val (.int p2), .val (.int p3), .val (.long oo), .second, .val (.long qq), .second, .val (.long rr), .second, .val (.int (1 : Int32)), .val (.long mg), .second, .val (.long ((-mg))), .second, .unset, .unset, .unset, .unset, .unset, .unset, .unset, .unset] [(.ref b13)])) _
      refine XS.dup X13.here hx rfl (hb hby at_67) rfl rfl ?_
      show Steps p.tables e below (T13.setTop (mkF m 68 #[.val (.int p0), .val (.int p1), .val (.int p2), .val (.int p3), .val (.long oo), .second, .val (.long qq), .second, .val (.long rr), .second, .val (.int (1 : Int32)), .val (.long mg), .second, .val (.long ((-mg))), .second, .unset, .unset, .unset, .unset, .unset, .unset, .unset, .unset] [(.ref b13), (.ref b13)])) _
      refine XS.lload X13.here hx rfl (hb hby at_68) rfl ?_
      show Steps p.tables e below (T13.setTop (mkF m 70 #[.val (.int p0), .val (.int p1), .val (.int p2), .val (.int p3), .val (.long oo), .second, .val (.long qq), .second, .val (.long rr), .second, .val (.int (1 : Int32)), .val (.long mg), .second, .val (.long ((-mg))), .second, .unset, .unset, .unset, .unset, .unset, .unset, .unset, .unset] [(.long oo), (.ref b13), (.ref b13)])) _
      refine XS.lload X13.here hx rfl (hb hby at_70) rfl ?_
      show Steps p.tables e below (T13.setTop (mkF m 72 #[.val (.int p0), .val (.int p1), .val (.int p2), .val (.int p3), .val (.long oo), .second, .val (.long qq), .second, .val (.long rr), .second, .val (.int (1 : Int32)), .val (.long mg), .second, .val (.long ((-mg))), .second, .unset, .unset, .unset, .unset, .unset, .unset, .unset, .unset] [(.long ((-mg))), (.long oo), (.ref b13), (.ref b13)])) _
      refine st14.trans ?_
      show Steps p.tables e below (T14.setTop (mkF m 75 #[.val (.int p0), .val (.int p1), .val (.int p2), .val (.int p3), .val (.long oo), .second, .val (.long qq), .second, .val (.long rr), .second, .val (.int (1 : Int32)), .val (.long mg), .second, .val (.long ((-mg))), .second, .unset, .unset, .unset, .unset, .unset, .unset, .unset, .unset] [(.ref b13)])) _
      refine st15.trans ?_
      show Steps p.tables e below (T15.setTop (mkF m 78 #[.val (.int p0), .val (.int p1), .val (.int p2), .val (.int p3), .val (.long oo), .second, .val (.long qq), .second, .val (.long rr), .second, .val (.int (1 : Int32)), .val (.long mg), .second, .val (.long ((-mg))), .second, .unset, .unset, .unset, .unset, .unset, .unset, .unset, .unset] [(.double (FP.ddiv (FP.l2d (-mg)) (FP.l2d oo)))])) _
      refine XS.dstore X15.here hx rfl (hb hby at_78) rfl (l' := #[.val (.int p0), .val (.int p1), .val (.int p2), .val (.int p3), .val (.long oo), .second, .val (.long qq), .second, .val (.long rr), .second, .val (.int (1 : Int32)), .val (.long mg), .second, .val (.long ((-mg))), .second, .val (.double (FP.ddiv (FP.l2d (-mg)) (FP.l2d oo))), .second, .unset, .unset, .unset, .unset, .unset, .unset]) rfl ?_
      show Steps p.tables e below (T15.setTop (mkF m 80 #[.val (.int p0), .val (.int p1), .val (.int p2), .val (.int p3), .val (.long oo), .second, .val (.long qq), .second, .val (.long rr), .second, .val (.int (1 : Int32)), .val (.long mg), .second, .val (.long ((-mg))), .second, .val (.double (FP.ddiv (FP.l2d (-mg)) (FP.l2d oo))), .second, .unset, .unset, .unset, .unset, .unset, .unset] [])) _
      refine XS.iload X15.here hx rfl (hb hby at_80) rfl ?_
      show Steps p.tables e below (T15.setTop (mkF m 82 #[.val (.int p0), .val (.int p1), .val (.int p2), .val (.int p3), .val (.long oo), .second, .val (.long qq), .second, .val (.long rr), .second, .val (.int (1 : Int32)), .val (.long mg), .second, .val (.long ((-mg))), .second, .val (.double (FP.ddiv (FP.l2d (-mg)) (FP.l2d oo))), .second, .unset, .unset, .unset, .unset, .unset, .unset] [(.int (1 : Int32))])) _
      refine XS.ifNo X15.here hx rfl (hb hby at_82) rfl ((if0 _ _).trans (feq (by decide : ¬ ((1 : Int32) = (0 : Int32)))).1) ?_
      show Steps p.tables e below (T15.setTop (mkF m 85 #[.val (.int p0), .val (.int p1), .val (.int p2), .val (.int p3), .val (.long oo), .second, .val (.long qq), .second, .val (.long rr), .second, .val (.int (1 : Int32)), .val (.long mg), .second, .val (.long ((-mg))), .second, .val (.double (FP.ddiv (FP.l2d (-mg)) (FP.l2d oo))), .second, .unset, .unset, .unset, .unset, .unset, .unset] [])) _
      refine XS.dload X15.here hx rfl (hb hby at_85) rfl ?_
      show Steps p.tables e below (T15.setTop (mkF m 87 #[.val (.int p0), .val (.int p1), .val (.int p2), .val (.int p3), .val (.long oo), .second, .val (.long qq), .second, .val (.long rr), .second, .val (.int (1 : Int32)), .val (.long mg), .second, .val (.long ((-mg))), .second, .val (.double (FP.ddiv (FP.l2d (-mg)) (FP.l2d oo))), .second, .unset, .unset, .unset, .unset, .unset, .unset] [(.double (FP.ddiv (FP.l2d (-mg)) (FP.l2d oo)))])) _
      refine XS.dnegS X15.here hx rfl (hb hby at_87) rfl rfl ?_
      show Steps p.tables e below (T15.setTop (mkF m 88 #[.val (.int p0), .val (.int p1), .val (.int p2), .val (.int p3), .val (.long oo), .second, .val (.long qq), .second, .val (.long rr), .second, .val (.int (1 : Int32)), .val (.long mg), .second, .val (.long ((-mg))), .second, .val (.double (FP.ddiv (FP.l2d (-mg)) (FP.l2d oo))), .second, .unset, .unset, .unset, .unset, .unset, .unset] [(.double (FP.dneg (FP.ddiv (FP.l2d (-mg)) (FP.l2d oo))))])) _
      refine XS.goto X15.here hx rfl (pc0 := 88) (pc' := 93) rfl (hb hby at_88) (by decide) (by decide) ?_
      show Steps p.tables e below (T15.setTop (mkF m 93 #[.val (.int p0), .val (.int p1), .val (.int p2), .val (.int p3), .val (.long oo), .second, .val (.long qq), .second, .val (.long rr), .second, .val (.int (1 : Int32)), .val (.long mg), .second, .val (.long ((-mg))), .second, .val (.double (FP.ddiv (FP.l2d (-mg)) (FP.l2d oo))), .second, .unset, .unset, .unset, .unset, .unset, .unset] [(.double (FP.dneg (FP.ddiv (FP.l2d (-mg)) (FP.l2d oo))))])) _
      refine XS.dstore X15.here hx rfl (hb hby at_93) rfl (l' := #[.val (.int p0), .val (.int p1), .val (.int p2), .val (.int p3), .val (.long oo), .second, .val (.long qq), .second, .val (.long rr), .second, .val (.int (1 : Int32)), .val (.long mg), .second, .val (.long ((-mg))), .second, .val (.double (FP.ddiv (FP.l2d (-mg)) (FP.l2d oo))), .second, .val (.double (FP.dneg (FP.ddiv (FP.l2d (-mg)) (FP.l2d oo)))), .second, .unset, .unset, .unset, .unset]) rfl ?_
      show Steps p.tables e below (T15.setTop (mkF m 95 #[.val (.int p0), .val (.int p1), .val (.int p2), .val (.int p3), .val (.long oo), .second, .val (.long qq), .second, .val (.long rr), .second, .val (.int (1 : Int32)), .val (.long mg), .second, .val (.long ((-mg))), .second, .val (.double (FP.ddiv (FP.l2d (-mg)) (FP.l2d oo))), .second, .val (.double (FP.dneg (FP.ddiv (FP.l2d (-mg)) (FP.l2d oo)))), .second, .unset, .unset, .unset, .unset] [])) _
      refine XS.lload X15.here hx rfl (hb hby at_95) rfl ?_
      show Steps p.tables e below (T15.setTop (mkF m 97 #[.val (.int p0), .val (.int p1), .val (.int p2), .val (.int p3), .val (.long oo), .second, .val (.long qq), .second, .val (.long rr), .second, .val (.int (1 : Int32)), .val (.long mg), .second, .val (.long ((-mg))), .second, .val (.double (FP.ddiv (FP.l2d (-mg)) (FP.l2d oo))), .second, .val (.double (FP.dneg (FP.ddiv (FP.l2d (-mg)) (FP.l2d oo)))), .second, .unset, .unset, .unset, .unset] [(.long qq)])) _
      refine XS.l2dS X15.here hx rfl (hb hby at_97) rfl rfl ?_
      show Steps p.tables e below (T15.setTop (mkF m 98 #[.val (.int p0), .val (.int p1), .val (.int p2), .val (.int p3), .val (.long oo), .second, .val (.long qq), .second, .val (.long rr), .second, .val (.int (1 : Int32)), .val (.long mg), .second, .val (.long ((-mg))), .second, .val (.double (FP.ddiv (FP.l2d (-mg)) (FP.l2d oo))), .second, .val (.double (FP.dneg (FP.ddiv (FP.l2d (-mg)) (FP.l2d oo)))), .second, .unset, .unset, .unset, .unset] [(.double (FP.l2d qq))])) _
      refine XS.dstore X15.here hx rfl (hb hby at_98) rfl (l' := #[.val (.int p0), .val (.int p1), .val (.int p2), .val (.int p3), .val (.long oo), .second, .val (.long qq), .second, .val (.long rr), .second, .val (.int (1 : Int32)), .val (.long mg), .second, .val (.long ((-mg))), .second, .val (.double (FP.ddiv (FP.l2d (-mg)) (FP.l2d oo))), .second, .val (.double (FP.dneg (FP.ddiv (FP.l2d (-mg)) (FP.l2d oo)))), .second, .val (.double (FP.l2d qq)), .second, .unset, .unset]) rfl ?_
      show Steps p.tables e below (T15.setTop (mkF m 100 #[.val (.int p0), .val (.int p1), .val (.int p2), .val (.int p3), .val (.long oo), .second, .val (.long qq), .second, .val (.long rr), .second, .val (.int (1 : Int32)), .val (.long mg), .second, .val (.long ((-mg))), .second, .val (.double (FP.ddiv (FP.l2d (-mg)) (FP.l2d oo))), .second, .val (.double (FP.dneg (FP.ddiv (FP.l2d (-mg)) (FP.l2d oo)))), .second, .val (.double (FP.l2d qq)), .second, .unset, .unset] [])) _
      refine XS.lload X15.here hx rfl (hb hby at_100) rfl ?_
      show Steps p.tables e below (T15.setTop (mkF m 102 #[.val (.int p0), .val (.int p1), .val (.int p2), .val (.int p3), .val (.long oo), .second, .val (.long qq), .second, .val (.long rr), .second, .val (.int (1 : Int32)), .val (.long mg), .second, .val (.long ((-mg))), .second, .val (.double (FP.ddiv (FP.l2d (-mg)) (FP.l2d oo))), .second, .val (.double (FP.dneg (FP.ddiv (FP.l2d (-mg)) (FP.l2d oo)))), .second, .val (.double (FP.l2d qq)), .second, .unset, .unset] [(.long qq)])) _
      refine XS.lconst X15.here hx rfl (hb hby at_102) ?_
      show Steps p.tables e below (T15.setTop (mkF m 103 #[.val (.int p0), .val (.int p1), .val (.int p2), .val (.int p3), .val (.long oo), .second, .val (.long qq), .second, .val (.long rr), .second, .val (.int (1 : Int32)), .val (.long mg), .second, .val (.long ((-mg))), .second, .val (.double (FP.ddiv (FP.l2d (-mg)) (FP.l2d oo))), .second, .val (.double (FP.dneg (FP.ddiv (FP.l2d (-mg)) (FP.l2d oo)))), .second, .val (.double (FP.l2d qq)), .second, .unset, .unset] [(.long (1 : Int64)), (.long qq)])) _
      refine XS.ladd X15.here hx rfl (hb hby at_103) rfl ?_
      show Steps p.tables e below (T15.setTop (mkF m 104 #[.val (.int p0), .val (.int p1), .val (.int p2), .val (.int p3), .val (.long oo), .second, .val (.long qq), .second, .val (.long rr), .second, .val (.int (1 : Int32)), .val (.long mg), .second, .val (.long ((-mg))), .second, .val (.double (FP.ddiv (FP.l2d (-mg)) (FP.l2d oo))), .second, .val (.double (FP.dneg (FP.ddiv (FP.l2d (-mg)) (FP.l2d oo)))), .second, .val (.double (FP.l2d qq)), .second, .unset, .unset] [(.long (qq + (1 : Int64)))])) _
      refine XS.l2dS X15.here hx rfl (hb hby at_104) rfl rfl ?_
      show Steps p.tables e below (T15.setTop (mkF m 105 #[.val (.int p0), .val (.int p1), .val (.int p2), .val (.int p3), .val (.long oo), .second, .val (.long qq), .second, .val (.long rr), .second, .val (.int (1 : Int32)), .val (.long mg), .second, .val (.long ((-mg))), .second, .val (.double (FP.ddiv (FP.l2d (-mg)) (FP.l2d oo))), .second, .val (.double (FP.dneg (FP.ddiv (FP.l2d (-mg)) (FP.l2d oo)))), .second, .val (.double (FP.l2d qq)), .second, .unset, .unset] [(.double (FP.l2d (qq + (1 : Int64))))])) _
      refine XS.dstore X15.here hx rfl (hb hby at_105) rfl (l' := #[.val (.int p0), .val (.int p1), .val (.int p2), .val (.int p3), .val (.long oo), .second, .val (.long qq), .second, .val (.long rr), .second, .val (.int (1 : Int32)), .val (.long mg), .second, .val (.long ((-mg))), .second, .val (.double (FP.ddiv (FP.l2d (-mg)) (FP.l2d oo))), .second, .val (.double (FP.dneg (FP.ddiv (FP.l2d (-mg)) (FP.l2d oo)))), .second, .val (.double (FP.l2d qq)), .second, .val (.double (FP.l2d (qq + (1 : Int64)))), .second]) rfl ?_
      show Steps p.tables e below (T15.setTop (mkF m 107 #[.val (.int p0), .val (.int p1), .val (.int p2), .val (.int p3), .val (.long oo), .second, .val (.long qq), .second, .val (.long rr), .second, .val (.int (1 : Int32)), .val (.long mg), .second, .val (.long ((-mg))), .second, .val (.double (FP.ddiv (FP.l2d (-mg)) (FP.l2d oo))), .second, .val (.double (FP.dneg (FP.ddiv (FP.l2d (-mg)) (FP.l2d oo)))), .second, .val (.double (FP.l2d qq)), .second, .val (.double (FP.l2d (qq + (1 : Int64)))), .second] [])) _
      refine XS.lload X15.here hx rfl (hb hby at_107) rfl ?_
      show Steps p.tables e below (T15.setTop (mkF m 109 #[.val (.int p0), .val (.int p1), .val (.int p2), .val (.int p3), .val (.long oo), .second, .val (.long qq), .second, .val (.long rr), .second, .val (.int (1 : Int32)), .val (.long mg), .second, .val (.long ((-mg))), .second, .val (.double (FP.ddiv (FP.l2d (-mg)) (FP.l2d oo))), .second, .val (.double (FP.dneg (FP.ddiv (FP.l2d (-mg)) (FP.l2d oo)))), .second, .val (.double (FP.l2d qq)), .second, .val (.double (FP.l2d (qq + (1 : Int64)))), .second] [(.long rr)])) _
      refine XS.lconst X15.here hx rfl (hb hby at_109) ?_
      show Steps p.tables e below (T15.setTop (mkF m 110 #[.val (.int p0), .val (.int p1), .val (.int p2), .val (.int p3), .val (.long oo), .second, .val (.long qq), .second, .val (.long rr), .second, .val (.int (1 : Int32)), .val (.long mg), .second, .val (.long ((-mg))), .second, .val (.double (FP.ddiv (FP.l2d (-mg)) (FP.l2d oo))), .second, .val (.double (FP.dneg (FP.ddiv (FP.l2d (-mg)) (FP.l2d oo)))), .second, .val (.double (FP.l2d qq)), .second, .val (.double (FP.l2d (qq + (1 : Int64)))), .second] [(.long (0 : Int64)), (.long rr)])) _
      refine XS.lcmp X15.here hx rfl (hb hby at_110) rfl ?_
      show Steps p.tables e below (T15.setTop (mkF m 111 #[.val (.int p0), .val (.int p1), .val (.int p2), .val (.int p3), .val (.long oo), .second, .val (.long qq), .second, .val (.long rr), .second, .val (.int (1 : Int32)), .val (.long mg), .second, .val (.long ((-mg))), .second, .val (.double (FP.ddiv (FP.l2d (-mg)) (FP.l2d oo))), .second, .val (.double (FP.dneg (FP.ddiv (FP.l2d (-mg)) (FP.l2d oo)))), .second, .val (.double (FP.l2d qq)), .second, .val (.double (FP.l2d (qq + (1 : Int64)))), .second] [(.int (lcmpW rr (0 : Int64)))])) _
      exact k
    by_cases h111 : rr = (0 : Int64)
    · skip
      have pre17 : ∀ t, Steps p.tables e below (T15.setTop (mkF m 127 #[.val (.int p0), .val (.int p1), .val (.int p2), .val (.int p3), .val (.long oo), .second, .val (.long qq), .second, .val (.long rr), .second, .val (.int (1 : Int32)), .val (.long mg), .second, .val (.long ((-mg))), .second, .val (.double (FP.ddiv (FP.l2d (-mg)) (FP.l2d oo))), .second, .val (.double (FP.dneg (FP.ddiv (FP.l2d (-mg)) (FP.l2d oo)))), .second, .val (.double (FP.l2d qq)), .second, .val (.double (FP.l2d (qq + (1 : Int64)))), .second] [(.int (1 : Int32))])) t → Steps p.tables e below (s₁.setTop (entryFrame m #[(.int p0), (.int p1), (.int p2), (.int p3)] maxLocals)) t := by
        intro t k
        refine pre16 t ?_
        refine XS.ifNo X15.here hx rfl (hb hby at_111) rfl ((if0 _ _).trans (teq ((lw_eq rr (0 : Int64)).mpr h111)).2) ?_
        show Steps p.tables e below (T15.setTop (mkF m 114 #[.val (.int p0), .val (.int p1), .val (.int p2), .val (.int p3), .val (.long oo), .second, .val (.long qq), .second, .val (.long rr), .second, .val (.int (1 : Int32)), .val (.long mg), .second, .val (.long ((-mg))), .second, .val (.double (FP.ddiv (FP.l2d (-mg)) (FP.l2d oo))), .second, .val (.double (FP.dneg (FP.ddiv (FP.l2d (-mg)) (FP.l2d oo)))), .second, .val (.double (FP.l2d qq)), .second, .val (.double (FP.l2d (qq + (1 : Int64)))), .second] [])) _
        refine XS.dload X15.here hx rfl (hb hby at_114) rfl ?_
        show Steps p.tables e below (T15.setTop (mkF m 116 #[.val (.int p0), .val (.int p1), .val (.int p2), .val (.int p3), .val (.long oo), .second, .val (.long qq), .second, .val (.long rr), .second, .val (.int (1 : Int32)), .val (.long mg), .second, .val (.long ((-mg))), .second, .val (.double (FP.ddiv (FP.l2d (-mg)) (FP.l2d oo))), .second, .val (.double (FP.dneg (FP.ddiv (FP.l2d (-mg)) (FP.l2d oo)))), .second, .val (.double (FP.l2d qq)), .second, .val (.double (FP.l2d (qq + (1 : Int64)))), .second] [(.double (FP.dneg (FP.ddiv (FP.l2d (-mg)) (FP.l2d oo))))])) _
        refine XS.dload X15.here hx rfl (hb hby at_116) rfl ?_
        show Steps p.tables e below (T15.setTop (mkF m 118 #[.val (.int p0), .val (.int p1), .val (.int p2), .val (.int p3), .val (.long oo), .second, .val (.long qq), .second, .val (.long rr), .second, .val (.int (1 : Int32)), .val (.long mg), .second, .val (.long ((-mg))), .second, .val (.double (FP.ddiv (FP.l2d (-mg)) (FP.l2d oo))), .second, .val (.double (FP.dneg (FP.ddiv (FP.l2d (-mg)) (FP.l2d oo)))), .second, .val (.double (FP.l2d qq)), .second, .val (.double (FP.l2d (qq + (1 : Int64)))), .second] [(.double (FP.l2d qq)), (.double (FP.dneg (FP.ddiv (FP.l2d (-mg)) (FP.l2d oo))))])) _
        refine XS.dcmpS X15.here hx rfl (hb hby at_118) rfl (own_cv (c1 h111) rfl) ?_
        show Steps p.tables e below (T15.setTop (mkF m 119 #[.val (.int p0), .val (.int p1), .val (.int p2), .val (.int p3), .val (.long oo), .second, .val (.long qq), .second, .val (.long rr), .second, .val (.int (1 : Int32)), .val (.long mg), .second, .val (.long ((-mg))), .second, .val (.double (FP.ddiv (FP.l2d (-mg)) (FP.l2d oo))), .second, .val (.double (FP.dneg (FP.ddiv (FP.l2d (-mg)) (FP.l2d oo)))), .second, .val (.double (FP.l2d qq)), .second, .val (.double (FP.l2d (qq + (1 : Int64)))), .second] [(.int (0 : Int32))])) _
        refine XS.ifNo X15.here hx rfl (hb hby at_119) rfl ((if0 _ _).trans (teq (by decide : (0 : Int32) = (0 : Int32))).2) ?_
        show Steps p.tables e below (T15.setTop (mkF m 122 #[.val (.int p0), .val (.int p1), .val (.int p2), .val (.int p3), .val (.long oo), .second, .val (.long qq), .second, .val (.long rr), .second, .val (.int (1 : Int32)), .val (.long mg), .second, .val (.long ((-mg))), .second, .val (.double (FP.ddiv (FP.l2d (-mg)) (FP.l2d oo))), .second, .val (.double (FP.dneg (FP.ddiv (FP.l2d (-mg)) (FP.l2d oo)))), .second, .val (.double (FP.l2d qq)), .second, .val (.double (FP.l2d (qq + (1 : Int64)))), .second] [])) _
        refine XS.iconst X15.here hx rfl (hb hby at_122) ?_
        show Steps p.tables e below (T15.setTop (mkF m 123 #[.val (.int p0), .val (.int p1), .val (.int p2), .val (.int p3), .val (.long oo), .second, .val (.long qq), .second, .val (.long rr), .second, .val (.int (1 : Int32)), .val (.long mg), .second, .val (.long ((-mg))), .second, .val (.double (FP.ddiv (FP.l2d (-mg)) (FP.l2d oo))), .second, .val (.double (FP.dneg (FP.ddiv (FP.l2d (-mg)) (FP.l2d oo)))), .second, .val (.double (FP.l2d qq)), .second, .val (.double (FP.l2d (qq + (1 : Int64)))), .second] [(.int (1 : Int32))])) _
        refine XS.goto X15.here hx rfl (pc0 := 123) (pc' := 127) rfl (hb hby at_123) (by decide) (by decide) ?_
        show Steps p.tables e below (T15.setTop (mkF m 127 #[.val (.int p0), .val (.int p1), .val (.int p2), .val (.int p3), .val (.long oo), .second, .val (.long qq), .second, .val (.long rr), .second, .val (.int (1 : Int32)), .val (.long mg), .second, .val (.long ((-mg))), .second, .val (.double (FP.ddiv (FP.l2d (-mg)) (FP.l2d oo))), .second, .val (.double (FP.dneg (FP.ddiv (FP.l2d (-mg)) (FP.l2d oo)))), .second, .val (.double (FP.l2d qq)), .second, .val (.double (FP.l2d (qq + (1 : Int64)))), .second] [(.int (1 : Int32))])) _
        exact k
      obtain ⟨fs, hr, hrun, hended, hW, hsame⟩ := X15.leave (v := some (.int (1 : Int32))) (fun h => by rw [Bd.returns] at h; cases h)
      refine ⟨_, _, pre17 _ ?_, hrun, hended, _, _, rfl, ?_, ⟨_, rfl⟩, hW, hsame.mono (by decide) (by decide)⟩
      · exact retN X15 hx (t := .boolean) Bd.returns (by simp) (hb hby at_127) hr
      · show Q_rm0 Z p0 p1 p2 p3 h0 n0 _ T15.heap _
        rw [hq15]
        exact ⟨rfl, N15⟩
    · skip
      have pre18 : ∀ t, Steps p.tables e below (T15.setTop (mkF m 149 #[.val (.int p0), .val (.int p1), .val (.int p2), .val (.int p3), .val (.long oo), .second, .val (.long qq), .second, .val (.long rr), .second, .val (.int (1 : Int32)), .val (.long mg), .second, .val (.long ((-mg))), .second, .val (.double (FP.ddiv (FP.l2d (-mg)) (FP.l2d oo))), .second, .val (.double (FP.dneg (FP.ddiv (FP.l2d (-mg)) (FP.l2d oo)))), .second, .val (.double (FP.l2d qq)), .second, .val (.double (FP.l2d (qq + (1 : Int64)))), .second] [(.int (1 : Int32))])) t → Steps p.tables e below (s₁.setTop (entryFrame m #[(.int p0), (.int p1), (.int p2), (.int p3)] maxLocals)) t := by
        intro t k
        refine pre16 t ?_
        refine XS.ifYes X15.here hx rfl (pc0 := 111) (pc' := 128) rfl (hb hby at_111) rfl ((if0 _ _).trans (feq (mt (lw_eq rr (0 : Int64)).mp h111)).2) (by decide) (by decide) ?_
        show Steps p.tables e below (T15.setTop (mkF m 128 #[.val (.int p0), .val (.int p1), .val (.int p2), .val (.int p3), .val (.long oo), .second, .val (.long qq), .second, .val (.long rr), .second, .val (.int (1 : Int32)), .val (.long mg), .second, .val (.long ((-mg))), .second, .val (.double (FP.ddiv (FP.l2d (-mg)) (FP.l2d oo))), .second, .val (.double (FP.dneg (FP.ddiv (FP.l2d (-mg)) (FP.l2d oo)))), .second, .val (.double (FP.l2d qq)), .second, .val (.double (FP.l2d (qq + (1 : Int64)))), .second] [])) _
        refine XS.dload X15.here hx rfl (hb hby at_128) rfl ?_
        show Steps p.tables e below (T15.setTop (mkF m 130 #[.val (.int p0), .val (.int p1), .val (.int p2), .val (.int p3), .val (.long oo), .second, .val (.long qq), .second, .val (.long rr), .second, .val (.int (1 : Int32)), .val (.long mg), .second, .val (.long ((-mg))), .second, .val (.double (FP.ddiv (FP.l2d (-mg)) (FP.l2d oo))), .second, .val (.double (FP.dneg (FP.ddiv (FP.l2d (-mg)) (FP.l2d oo)))), .second, .val (.double (FP.l2d qq)), .second, .val (.double (FP.l2d (qq + (1 : Int64)))), .second] [(.double (FP.l2d qq))])) _
        refine XS.dload X15.here hx rfl (hb hby at_130) rfl ?_
        show Steps p.tables e below (T15.setTop (mkF m 132 #[.val (.int p0), .val (.int p1), .val (.int p2), .val (.int p3), .val (.long oo), .second, .val (.long qq), .second, .val (.long rr), .second, .val (.int (1 : Int32)), .val (.long mg), .second, .val (.long ((-mg))), .second, .val (.double (FP.ddiv (FP.l2d (-mg)) (FP.l2d oo))), .second, .val (.double (FP.dneg (FP.ddiv (FP.l2d (-mg)) (FP.l2d oo)))), .second, .val (.double (FP.l2d qq)), .second, .val (.double (FP.l2d (qq + (1 : Int64)))), .second] [(.double (FP.dneg (FP.ddiv (FP.l2d (-mg)) (FP.l2d oo)))), (.double (FP.l2d qq))])) _
        refine XS.dcmpS X15.here hx rfl (hb hby at_132) rfl (own_cv (c2 h111).1 rfl) ?_
        show Steps p.tables e below (T15.setTop (mkF m 133 #[.val (.int p0), .val (.int p1), .val (.int p2), .val (.int p3), .val (.long oo), .second, .val (.long qq), .second, .val (.long rr), .second, .val (.int (1 : Int32)), .val (.long mg), .second, .val (.long ((-mg))), .second, .val (.double (FP.ddiv (FP.l2d (-mg)) (FP.l2d oo))), .second, .val (.double (FP.dneg (FP.ddiv (FP.l2d (-mg)) (FP.l2d oo)))), .second, .val (.double (FP.l2d qq)), .second, .val (.double (FP.l2d (qq + (1 : Int64)))), .second] [(.int (-1 : Int32))])) _
        refine XS.ifNo X15.here hx rfl (hb hby at_133) rfl ((if0 _ _).trans (tlt (by decide : (-1 : Int32) < (0 : Int32))).2.1) ?_
        show Steps p.tables e below (T15.setTop (mkF m 136 #[.val (.int p0), .val (.int p1), .val (.int p2), .val (.int p3), .val (.long oo), .second, .val (.long qq), .second, .val (.long rr), .second, .val (.int (1 : Int32)), .val (.long mg), .second, .val (.long ((-mg))), .second, .val (.double (FP.ddiv (FP.l2d (-mg)) (FP.l2d oo))), .second, .val (.double (FP.dneg (FP.ddiv (FP.l2d (-mg)) (FP.l2d oo)))), .second, .val (.double (FP.l2d qq)), .second, .val (.double (FP.l2d (qq + (1 : Int64)))), .second] [])) _
        refine XS.dload X15.here hx rfl (hb hby at_136) rfl ?_
        show Steps p.tables e below (T15.setTop (mkF m 138 #[.val (.int p0), .val (.int p1), .val (.int p2), .val (.int p3), .val (.long oo), .second, .val (.long qq), .second, .val (.long rr), .second, .val (.int (1 : Int32)), .val (.long mg), .second, .val (.long ((-mg))), .second, .val (.double (FP.ddiv (FP.l2d (-mg)) (FP.l2d oo))), .second, .val (.double (FP.dneg (FP.ddiv (FP.l2d (-mg)) (FP.l2d oo)))), .second, .val (.double (FP.l2d qq)), .second, .val (.double (FP.l2d (qq + (1 : Int64)))), .second] [(.double (FP.dneg (FP.ddiv (FP.l2d (-mg)) (FP.l2d oo))))])) _
        refine XS.dload X15.here hx rfl (hb hby at_138) rfl ?_
        show Steps p.tables e below (T15.setTop (mkF m 140 #[.val (.int p0), .val (.int p1), .val (.int p2), .val (.int p3), .val (.long oo), .second, .val (.long qq), .second, .val (.long rr), .second, .val (.int (1 : Int32)), .val (.long mg), .second, .val (.long ((-mg))), .second, .val (.double (FP.ddiv (FP.l2d (-mg)) (FP.l2d oo))), .second, .val (.double (FP.dneg (FP.ddiv (FP.l2d (-mg)) (FP.l2d oo)))), .second, .val (.double (FP.l2d qq)), .second, .val (.double (FP.l2d (qq + (1 : Int64)))), .second] [(.double (FP.l2d (qq + (1 : Int64)))), (.double (FP.dneg (FP.ddiv (FP.l2d (-mg)) (FP.l2d oo))))])) _
        refine XS.dcmpS X15.here hx rfl (hb hby at_140) rfl (own_cv (c2 h111).2 rfl) ?_
        show Steps p.tables e below (T15.setTop (mkF m 141 #[.val (.int p0), .val (.int p1), .val (.int p2), .val (.int p3), .val (.long oo), .second, .val (.long qq), .second, .val (.long rr), .second, .val (.int (1 : Int32)), .val (.long mg), .second, .val (.long ((-mg))), .second, .val (.double (FP.ddiv (FP.l2d (-mg)) (FP.l2d oo))), .second, .val (.double (FP.dneg (FP.ddiv (FP.l2d (-mg)) (FP.l2d oo)))), .second, .val (.double (FP.l2d qq)), .second, .val (.double (FP.l2d (qq + (1 : Int64)))), .second] [(.int (-1 : Int32))])) _
        refine XS.ifNo X15.here hx rfl (hb hby at_141) rfl ((if0 _ _).trans (tlt (by decide : (-1 : Int32) < (0 : Int32))).2.1) ?_
        show Steps p.tables e below (T15.setTop (mkF m 144 #[.val (.int p0), .val (.int p1), .val (.int p2), .val (.int p3), .val (.long oo), .second, .val (.long qq), .second, .val (.long rr), .second, .val (.int (1 : Int32)), .val (.long mg), .second, .val (.long ((-mg))), .second, .val (.double (FP.ddiv (FP.l2d (-mg)) (FP.l2d oo))), .second, .val (.double (FP.dneg (FP.ddiv (FP.l2d (-mg)) (FP.l2d oo)))), .second, .val (.double (FP.l2d qq)), .second, .val (.double (FP.l2d (qq + (1 : Int64)))), .second] [])) _
        refine XS.iconst X15.here hx rfl (hb hby at_144) ?_
        show Steps p.tables e below (T15.setTop (mkF m 145 #[.val (.int p0), .val (.int p1), .val (.int p2), .val (.int p3), .val (.long oo), .second, .val (.long qq), .second, .val (.long rr), .second, .val (.int (1 : Int32)), .val (.long mg), .second, .val (.long ((-mg))), .second, .val (.double (FP.ddiv (FP.l2d (-mg)) (FP.l2d oo))), .second, .val (.double (FP.dneg (FP.ddiv (FP.l2d (-mg)) (FP.l2d oo)))), .second, .val (.double (FP.l2d qq)), .second, .val (.double (FP.l2d (qq + (1 : Int64)))), .second] [(.int (1 : Int32))])) _
        refine XS.goto X15.here hx rfl (pc0 := 145) (pc' := 149) rfl (hb hby at_145) (by decide) (by decide) ?_
        show Steps p.tables e below (T15.setTop (mkF m 149 #[.val (.int p0), .val (.int p1), .val (.int p2), .val (.int p3), .val (.long oo), .second, .val (.long qq), .second, .val (.long rr), .second, .val (.int (1 : Int32)), .val (.long mg), .second, .val (.long ((-mg))), .second, .val (.double (FP.ddiv (FP.l2d (-mg)) (FP.l2d oo))), .second, .val (.double (FP.dneg (FP.ddiv (FP.l2d (-mg)) (FP.l2d oo)))), .second, .val (.double (FP.l2d qq)), .second, .val (.double (FP.l2d (qq + (1 : Int64)))), .second] [(.int (1 : Int32))])) _
        exact k
      obtain ⟨fs, hr, hrun, hended, hW, hsame⟩ := X15.leave (v := some (.int (1 : Int32))) (fun h => by rw [Bd.returns] at h; cases h)
      refine ⟨_, _, pre18 _ ?_, hrun, hended, _, _, rfl, ?_, ⟨_, rfl⟩, hW, hsame.mono (by decide) (by decide)⟩
      · exact retN X15 hx (t := .boolean) Bd.returns (by simp) (hb hby at_149) hr
      · show Q_rm0 Z p0 p1 p2 p3 h0 n0 _ T15.heap _
        rw [hq15]
        exact ⟨rfl, N15⟩
set_option maxRecDepth 65536 in
set_option maxHeartbeats 40000000 in
theorem comes_1 {Post : Tables → Env → Array Value → State → Outcome → State → Prop} (hpost : ∀ tb e args s v u, (limb_1_1.after args s (.returned v) u = true ∧ limb_1_2.after args s (.returned v) u = true ∧ True) → FrameEnd s (.returned v) u (Jvm.fieldLocs frame_1_writes args s ++ Jvm.arrayLocs frame_1_arrays args s ++ Jvm.staticLocs frame_1_statics s) 16 128 → Post tb e args s (.returned v) u) :
    ArmFor flags0 classFile x code maxLocals ret World_1 tables_1 room_1 Calls_1 rest_1 Pre_1 Post := by
  intro l hfl _ _ p e ha hc hk s m args below hf hA hF happ hP
  obtain ⟨hcalls, hrest, hpre⟩ := hP
  obtain ⟨-, -, -, hnamed, -, -, -, hat⟩ := (Spec.applies_iff hf).mp happ
  obtain ⟨hg, hn⟩ := and_e (Cond.before_iff.mp (show (Jvm.Cond.and given_1 narrow_1).before args s = true from hpre))
  obtain ⟨g1, g2⟩ := and_e hg
  obtain ⟨g3, g4⟩ := and_e g2
  obtain ⟨g5, g6⟩ := and_e g4
  obtain ⟨g7, g8⟩ := and_e g6
  obtain ⟨w0, w1, w2, w3, rfl⟩ : ∃ w0 w1 w2 w3 : Value, args = #[w0, w1, w2, w3] := by
    have hs : args.size = 4 := by simpa [Cond.value, given_1] using g1
    obtain ⟨L⟩ := args
    match L, hs with
    | [w0, w1, w2, w3], _ => exact ⟨w0, w1, w2, w3, rfl⟩
  have hw := fun d (hd : d ∈ tables_1) => atoms_spec (ws := Jvm.Cond.code x code maxLocals ret :: tables_1) hat d (List.mem_cons_of_mem _ hd)
  obtain ⟨i0, ei0⟩ := is_v g3
  obtain rfl : w0 = (.int i0) := Option.some.inj ei0
  obtain ⟨i1, ei1⟩ := is_v g5
  obtain rfl : w1 = (.int i1) := Option.some.inj ei1
  obtain ⟨i2, ei2⟩ := is_v g7
  obtain rfl : w2 = (.int i2) := Option.some.inj ei2
  obtain ⟨i3, ei3⟩ := is_v g8
  obtain rfl : w3 = (.int i3) := Option.some.inj ei3
  obtain ⟨n, o, h1, h2, h3, _, L, rfl, ⟨rfl, N⟩, hq⟩ := rm0 l s _ hw tables_1 i0 i1 i2 i3 s.heap s.heap.size (Nat.le_refl _)  p e ha hc hk s m _ below hf ((Spec.applies_iff_loose hf).mp happ).1 ⟨rfl, State.Warmed39.refl s, rfl⟩ trivial
  refine ⟨n, _, h1, h2, h3, hpost _ _ _ _ _ _ ⟨Cond.after_iff.mpr rfl, Cond.after_iff.mpr (eq_i res_at (Term.int_eval (1)) rfl), trivial⟩ ⟨hq.1, hq.2.1, (hq.2.2.sift fun y hy => Or.inr (N y hy)).mono (by decide) (by decide)⟩⟩
theorem main_1_1 : Claimed_1_1 := comes_1 fun _ _ _ _ _ _ h hF => ⟨h.1, hF⟩
theorem main_1_2 : Claimed_1_2 := comes_1 fun _ _ _ _ _ _ h hF => ⟨h.2.1, hF⟩
end Jvm.Pilot.@@N@@
namespace Jvm.Pilot.@@N@@
open Jvm Jvm.ClassFile Sem Op Lib Jvm.Free Jvm.Stand Jvm.Pilot.@@N@@.Jvm.D
/-! MADE BY PROGRAM (witnessworld.py) out of the Statement's table words and the real class files: 10 classes; the members and pool entries that the words name. The judged class is class 1, her method 1. -/
namespace start1
open Jvm.ClassFile
def u (s : String) : CpInfo := .utf8 (stringToUtf16 s)
/-- a pool by its gaps: so many unusable entries, then the entry; so many at the end -/
def gap : Nat → List CpInfo → List CpInfo
  | 0, r => r
  | n + 1, r => .unusable :: gap n r
def poolList (es : List (Nat × CpInfo)) (last : Nat) : List CpInfo := es.foldr (fun e r => gap e.1 (e.2 :: r)) (gap last [])
def pool (es : List (Nat × CpInfo)) (last : Nat) : Array CpInfo := ⟨poolList es last⟩
def fileOf (pool : Array CpInfo) (this : Nat) (attrs : Array Attribute := #[]) (ms : Array MethodInfo := #[]) (fl : Nat := 33) (sup : Nat := 0) (ifs : Array Nat := #[]) (fds : Array FieldInfo := #[]) : ClassFile where
  minorVersion := 0
  majorVersion := 65
  constantPool := pool
  accessFlags := fl
  thisClass := this
  superClass := sup
  interfaces := ifs
  fields := fds
  methods := ms
  attributes := attrs
def plain (name : String) (sup : Option ClassId) : Class where
  name := name
  kind := .ordinary
  loader := none
  accessFlags := 33
  super := sup
  interfaces := #[]
  cf := none
  fields := #[]
  methods := #[]
  instanceTypes := #[]
  staticTypes := #[]
  resolved := #[]
  callSites := []
  init := .initialized
  statics := none
  mirror := none

def pool0 : Array CpInfo := pool [(5, u "<init>"), (0, u "()V"), (1, .class_ 10), (1, u "java/lang/Object")] 113

def k0c0 : Code := { maxStack := 0, maxLocals := 1, code := object_method_1_code, exceptionTable := #[], attributes := #[] }
def k0m0 : Method := { name := "<init>", desc := "()V", sig := { parameters := [], returnType := none }, accessFlags := 1, code := some k0c0 }
/-- java/lang/Object -/
def k0 : Class := { plain "java/lang/Object" none with
  accessFlags := 33
  interfaces := #[]
  cf := some (fileOf pool0 8 #[] #[{ accessFlags := 1, nameIndex := 5, descriptorIndex := 6, attributes := #[] }] 33 0 #[] #[])
  fields := #[]
  methods := #[k0m0]
  instanceTypes := #[]
  staticTypes := #[]
  resolved := Array.replicate 124 none
  statics := none }

def pool1 : Array CpInfo := pool [(2, .class_ 4), (1, u "java/lang/Object"), (0, u "<init>"), (0, u "()V"), (0, .integer 1048575), (0, .integer 268435455), (0, .integer 2147483647), (0, .class_ 11), (0, u "com/example/tallybuf/tallybuf/cli/SideBySide$Run"), (0, .methodref 10 13), (0, .nameAndType 5 14), (0, u "(JJ)V"), (0, .methodref 10 16), (0, .nameAndType 17 18), (0, u "nanosPerOperation"), (0, u "()D"), (0, .class_ 20), (0, u "com/example/tallybuf/tallybuf/cli/RunNanosPerOperationPinLaw"), (2, u "law"), (0, u "(IIII)Z")] 7

def k1m0 : Method := { name := "<init>", desc := "()V", sig := { parameters := [], returnType := none }, accessFlags := 2, code := none }
def k1c1 : Code := { maxStack := 6, maxLocals := 23, code := code, exceptionTable := #[], attributes := #[] }
def k1m1 : Method := { name := "law", desc := "(IIII)Z", sig := { parameters := [.int, .int, .int, .int], returnType := some .boolean }, accessFlags := 9, code := some k1c1 }
/-- com/example/tallybuf/tallybuf/cli/RunNanosPerOperationPinLaw -/
def k1 : Class := { plain "com/example/tallybuf/tallybuf/cli/RunNanosPerOperationPinLaw" (some 0) with
  accessFlags := 49
  interfaces := #[]
  cf := some (fileOf pool1 19 #[] #[{ accessFlags := 2, nameIndex := 5, descriptorIndex := 6, attributes := #[] }, { accessFlags := 9, nameIndex := 23, descriptorIndex := 24, attributes := #[] }] 49 2 #[] #[])
  fields := #[]
  methods := #[k1m0, k1m1]
  instanceTypes := #[]
  staticTypes := #[]
  resolved := Array.replicate 32 none
  statics := none }

def pool2 : Array CpInfo := pool [(1, .methodref 2 3), (0, .class_ 4), (0, .nameAndType 5 6), (0, u "java/lang/Object"), (0, u "<init>"), (0, u "()V"), (0, .class_ 8), (0, u "java/lang/Record")] 13

def k2c0 : Code := { maxStack := 1, maxLocals := 1, code := jdk_30_method_1_code, exceptionTable := #[], attributes := #[] }
def k2m0 : Method := { name := "<init>", desc := "()V", sig := { parameters := [], returnType := none }, accessFlags := 4, code := some k2c0 }
/-- java/lang/Record -/
def k2 : Class := { plain "java/lang/Record" (some 0) with
  accessFlags := 1057
  interfaces := #[]
  cf := some (fileOf pool2 7 #[] #[{ accessFlags := 4, nameIndex := 5, descriptorIndex := 6, attributes := #[] }] 1057 2 #[] #[])
  fields := #[]
  methods := #[k2m0]
  instanceTypes := #[]
  staticTypes := #[]
  resolved := Array.replicate 22 none
  statics := none }

def pool3 : Array CpInfo := pool [(1, .methodref 2 3), (0, .class_ 4), (0, .nameAndType 5 6), (0, u "java/lang/Record"), (0, u "<init>"), (0, u "()V"), (0, .fieldref 8 9), (0, .class_ 10), (0, .nameAndType 11 12), (0, u "com/example/tallybuf/tallybuf/cli/SideBySide$Run"), (0, u "operations"), (0, u "J"), (0, .fieldref 8 14), (0, .nameAndType 15 12), (0, u "nanos"), (12, u "(JJ)V"), (3, u "nanosPerOperation"), (0, u "()D"), (7, .class_ 42), (0, u "com/example/tallybuf/tallybuf/cli/SideBySide")] 20

def k3c0 : Code := { maxStack := 3, maxLocals := 5, code := prog_64_method_1_code, exceptionTable := #[], attributes := #[] }
def k3m0 : Method := { name := "<init>", desc := "(JJ)V", sig := { parameters := [.long, .long], returnType := none }, accessFlags := 0, code := some k3c0 }
def k3c1 : Code := { maxStack := 4, maxLocals := 1, code := prog_64_method_2_code, exceptionTable := #[], attributes := #[] }
def k3m1 : Method := { name := "nanosPerOperation", desc := "()D", sig := { parameters := [], returnType := some .double }, accessFlags := 0, code := some k3c1 }
/-- com/example/tallybuf/tallybuf/cli/SideBySide$Run -/
def k3 : Class := { plain "com/example/tallybuf/tallybuf/cli/SideBySide$Run" (some 2) with
  accessFlags := 48
  interfaces := #[]
  cf := some (fileOf pool3 8 #[.nestHost 41] #[{ accessFlags := 0, nameIndex := 5, descriptorIndex := 28, attributes := #[] }, { accessFlags := 0, nameIndex := 32, descriptorIndex := 33, attributes := #[] }] 48 2 #[] #[{ accessFlags := 18, nameIndex := 11, descriptorIndex := 12, attributes := #[] }, { accessFlags := 18, nameIndex := 15, descriptorIndex := 12, attributes := #[] }])
  fields := #[{ name := "operations", type := .long, accessFlags := 18, slot := 0, constantValue := 0 }, { name := "nanos", type := .long, accessFlags := 18, slot := 1, constantValue := 0 }]
  methods := #[k3m0, k3m1]
  instanceTypes := #[.long, .long]
  staticTypes := #[]
  resolved := Array.replicate 63 none
  statics := none }

def pool4 : Array CpInfo := pool [(1, u "java/lang/Cloneable"), (0, .class_ 1), (0, u "java/lang/Object"), (0, .class_ 3)] 3

/-- java/lang/Cloneable -/
def k4 : Class := { plain "java/lang/Cloneable" (some 0) with
  accessFlags := 1537
  interfaces := #[]
  cf := some (fileOf pool4 2 #[] #[] 1537 4 #[] #[])
  fields := #[]
  methods := #[]
  instanceTypes := #[]
  staticTypes := #[]
  resolved := Array.replicate 8 none
  statics := none }

def pool5 : Array CpInfo := pool [(1, u "java/io/Serializable"), (0, .class_ 1), (0, u "java/lang/Object"), (0, .class_ 3)] 3

/-- java/io/Serializable -/
def k5 : Class := { plain "java/io/Serializable" (some 0) with
  accessFlags := 1537
  interfaces := #[]
  cf := some (fileOf pool5 2 #[] #[] 1537 4 #[] #[])
  fields := #[]
  methods := #[]
  instanceTypes := #[]
  staticTypes := #[]
  resolved := Array.replicate 8 none
  statics := none }

/-- the primitive byte -/
def k6 : Class := { plain "byte" none with kind := .primitive 'B', accessFlags := 0x411 }
/-- [B -/
def k7 : Class := { plain "[B" (some 0) with kind := .array 6 .byte, interfaces := #[4, 5], accessFlags := 1041 }

/-- the primitive int -/
def k8 : Class := { plain "int" none with kind := .primitive 'I', accessFlags := 0x411 }
/-- [I -/
def k9 : Class := { plain "[I" (some 0) with kind := .array 8 .int, interfaces := #[4, 5], accessFlags := 1041 }

def heap : Heap := #[]
def classes : Array Class := #[k0, k1, k2, k3, k4, k5, k6, k7, k8, k9]
def interned : List (Array UInt16 × Addr) := []
def slotsUsed : Nat := 0
def theMethod : MethodId := ⟨1, 1⟩
def args0 : Array Value := #[.int 5, .int 7, .int 9, .int 3]
def aboutOver (below : List Frame) : State where
  vm := { classes := classes, interned := interned.toArray }
  heap := heap
  slotsUsed := slotsUsed
  threads := #[{ frames := .invoking theMethod args0 :: below }]
def below0 : List Frame := [.native { method := ⟨0, 0⟩, args := #[] }]
def about1 : State := aboutOver below0
def p0 : Program := .bare "" "" ""
def e0 : Env := launch0.env 0 0 0
theorem w_frames : about1.frames = Frame.invoking theMethod args0 :: below0 := rfl
set_option maxRecDepth 65536 in
theorem w_args : argsFit about1.vm theMethod args0 = true := by decide +kernel
set_option maxRecDepth 65536 in
theorem w_heap : heapFits about1 = true := by decide +kernel
set_option maxRecDepth 65536 in
theorem w_runnable : about1.curStatus? = some .runnable := by decide +kernel
set_option maxRecDepth 65536 in
theorem w_alone : about1.alone = true := by decide +kernel
set_option maxRecDepth 65536 in
theorem w_named : about1.methodNamed? x = some theMethod := by decide +kernel
set_option maxRecDepth 65536 in
theorem w_hears : about1.hears theMethod below0 = true := by decide +kernel
set_option maxRecDepth 65536 in
theorem w_ripe : about1.ripe theMethod args0 below0 = true := by decide +kernel
theorem w_running : about1.status = .running := rfl
set_option maxRecDepth 65536 in
theorem w_room : about1.hasRoom e0.platform room_1 = true :=
  launch0.hasRoom_least _ room_1 (by decide +kernel) (by decide +kernel) (by decide +kernel) (by decide +kernel) (by decide +kernel) (by decide +kernel)
theorem allAtoms_all (ts : List Jvm.Cond) (a : Array Jvm.Value) (st : Jvm.State) : (allAtoms ts).before a st = ts.all (fun c => c.before a st) := by
  induction ts with
  | nil => rfl
  | cons c t ih =>
    show (Jvm.Cond.and c (allAtoms t)).before a st = _
    rw [Jvm.Cond.before_and, ih, List.all_cons]
def words1 : List Jvm.Cond := Jvm.Cond.code x code maxLocals ret :: tables_1
/-- a 'code' word, met by the world's own term for the bytes: nothing is compared byte by byte -/
theorem code_word {y : MethodName} {bytes : ByteArray} {mx : Nat} {rt : Option FieldType} {a : Array Value} {s : State} {m : MethodId} {meth : Method} {c : Code} (h1 : s.methodNamed? y = some m) (h2 : s.vm.method? m = some meth) (h3 : meth.code = some c) (h4 : c.code = bytes)
    (h5 : (c.maxLocals == mx && c.exceptionTable.isEmpty && decide (c.maxStack ≤ mostOperands) && decide (meth.sig.returnType = rt) && !meth.locks && decide (parseMethodDescriptor y.desc = some meth.sig)) = true) : (Jvm.Cond.code y bytes mx rt).before a s = true := by
  simp only [Bool.and_eq_true, beq_iff_eq, Bool.not_eq_true', decide_eq_true_eq] at h5
  obtain ⟨⟨⟨⟨⟨g1, g2⟩, g3⟩, g4⟩, g5⟩, g6⟩ := h5
  simp [Cond.before, Cond.holds, Cond.value, h1, h2, h3, h4, g1, g2, g3, g4, g5, g6]
def isCode : Jvm.Cond → Bool
  | .code _ _ _ _ => true
  | _ => false
theorem all_split {L : List Jvm.Cond} {P : Jvm.Cond → Bool} (h1 : L.all (fun c => isCode c || P c) = true) (h2 : ∀ c ∈ L.filter isCode, P c = true) : L.all P = true := by
  refine List.all_eq_true.mpr fun c hc => ?_
  have h := List.all_eq_true.mp h1 c hc
  rcases Bool.eq_false_or_eq_true (isCode c) with hi | hi
  · exact h2 c (List.mem_filter.mpr ⟨hc, hi⟩)
  · simpa [hi] using h
set_option maxRecDepth 65536 in
theorem w_c0 : (Jvm.Cond.code x code maxLocals ret).before args0 about1 = true := code_word (m := ⟨1, 1⟩) (meth := k1m1) (c := k1c1) (by decide +kernel) rfl rfl rfl (by decide +kernel)
set_option maxRecDepth 65536 in
theorem w_c1 : (Jvm.Cond.code ({ cls := "com/example/tallybuf/tallybuf/cli/SideBySide$Run", name := "<init>", desc := "(JJ)V" } : Jvm.MethodName) prog_64_method_1_code (5 : Nat) (Option.none : Option Jvm.ClassFile.FieldType)).before args0 about1 = true := code_word (m := ⟨3, 0⟩) (meth := k3m0) (c := k3c0) (by decide +kernel) rfl rfl rfl (by decide +kernel)
set_option maxRecDepth 65536 in
theorem w_c2 : (Jvm.Cond.code ({ cls := "java/lang/Record", name := "<init>", desc := "()V" } : Jvm.MethodName) jdk_30_method_1_code (1 : Nat) (Option.none : Option Jvm.ClassFile.FieldType)).before args0 about1 = true := code_word (m := ⟨2, 0⟩) (meth := k2m0) (c := k2c0) (by decide +kernel) rfl rfl rfl (by decide +kernel)
set_option maxRecDepth 65536 in
theorem w_c3 : (Jvm.Cond.code ({ cls := "java/lang/Object", name := "<init>", desc := "()V" } : Jvm.MethodName) object_method_1_code (1 : Nat) (Option.none : Option Jvm.ClassFile.FieldType)).before args0 about1 = true := code_word (m := ⟨0, 0⟩) (meth := k0m0) (c := k0c0) (by decide +kernel) rfl rfl rfl (by decide +kernel)
set_option maxRecDepth 65536 in
theorem w_c4 : (Jvm.Cond.code ({ cls := "com/example/tallybuf/tallybuf/cli/SideBySide$Run", name := "nanosPerOperation", desc := "()D" } : Jvm.MethodName) prog_64_method_2_code (1 : Nat) (Option.some Jvm.ClassFile.FieldType.double)).before args0 about1 = true := code_word (m := ⟨3, 1⟩) (meth := k3m1) (c := k3c1) (by decide +kernel) rfl rfl rfl (by decide +kernel)
def codes1 : List Jvm.Cond := [Jvm.Cond.code x code maxLocals ret, Jvm.Cond.code ({ cls := "com/example/tallybuf/tallybuf/cli/SideBySide$Run", name := "<init>", desc := "(JJ)V" } : Jvm.MethodName) prog_64_method_1_code (5 : Nat) (Option.none : Option Jvm.ClassFile.FieldType), Jvm.Cond.code ({ cls := "java/lang/Record", name := "<init>", desc := "()V" } : Jvm.MethodName) jdk_30_method_1_code (1 : Nat) (Option.none : Option Jvm.ClassFile.FieldType), Jvm.Cond.code ({ cls := "java/lang/Object", name := "<init>", desc := "()V" } : Jvm.MethodName) object_method_1_code (1 : Nat) (Option.none : Option Jvm.ClassFile.FieldType), Jvm.Cond.code ({ cls := "com/example/tallybuf/tallybuf/cli/SideBySide$Run", name := "nanosPerOperation", desc := "()D" } : Jvm.MethodName) prog_64_method_2_code (1 : Nat) (Option.some Jvm.ClassFile.FieldType.double)]
set_option maxRecDepth 65536 in
theorem codes_eq : words1.filter isCode = codes1 := rfl
theorem w_codes : ∀ c ∈ words1.filter isCode, c.before args0 about1 = true := by
  rw [codes_eq]
  intro c hc
  simp only [codes1, List.mem_cons, List.not_mem_nil, or_false] at hc
  rcases hc with rfl | rfl | rfl | rfl | rfl
  · exact w_c0
  · exact w_c1
  · exact w_c2
  · exact w_c3
  · exact w_c4
set_option maxRecDepth 65536 in
theorem w_t1 : (words1.take 24).all (fun c => isCode c || c.before args0 about1) = true := by decide +kernel
set_option maxRecDepth 65536 in
theorem w_t2 : (words1.drop 24).all (fun c => isCode c || c.before args0 about1) = true := by decide +kernel
theorem w_tables : (allAtoms (Jvm.Cond.code x code maxLocals ret :: tables_1)).before args0 about1 = true := by
  rw [allAtoms_all]
  show words1.all (fun c => c.before args0 about1) = true
  refine all_split ?_ w_codes
  rw [← List.take_append_drop 24 words1, List.all_append, w_t1, w_t2]
  rfl
set_option maxRecDepth 65536 in
theorem w_case : (Jvm.Cond.and given_1 narrow_1).before args0 about1 = true := by decide +kernel
theorem w_applies : (headSpec (Jvm.Cond.code x code maxLocals ret :: tables_1) room_1).applies x e0.platform about1 = true :=
  (Spec.applies_iff w_frames).mpr ⟨w_running, w_runnable, w_alone, w_named, w_hears, w_ripe, w_room, w_tables⟩
theorem atStart : AtStart classFile x code maxLocals ret World_1 tables_1 room_1 Calls_1 rest_1 Pre_1 launch0 p0 e0 about1 theMethod args0 below0 :=
  ⟨lists_1, trivial, launch0.admits_env _ _ _, launch0.least_env, fairChoices_fair.cas, fairChoices_fair.clock, w_frames, w_args, w_heap, w_applies, trivial, trivial, w_case⟩
end start1
theorem witness_1 : WitnessClaimed_1 := ⟨start1.p0, start1.e0, start1.about1, start1.theMethod, start1.args0, start1.below0, start1.atStart⟩
end Jvm.Pilot.@@N@@
