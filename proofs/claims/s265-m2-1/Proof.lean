import JvmDerived
import JvmDerived.Pilot.@@N@@Statement
import JvmDerived.Pilot.@@N@@Code
set_option linter.unusedVariables false
set_option linter.unusedSimpArgs false
@@BLOCK:NumsL.lean.txt@@
namespace Jvm.Pilot.@@N@@
open Jvm Jvm.ClassFile Sem Op Lib Jvm.Free Jvm.Stand Jvm.LawKit Jvm.RoadKit Bundle Jvm.Pilot.@@N@@.Jvm.D

def own_R (x : Int64) (n : Int) : Prop := 0 ≤ x.toInt ∧ x.toInt ≤ n
instance own_Rd (x : Int64) (n : Int) : Decidable (own_R x n) := by unfold own_R; infer_instance
theorem own_RB {x : Int64} {n : Int} (h : own_R x n) (hn : n < 9007199254740992) : B53 x := ⟨by have := h.1; omega, by have := h.2; omega⟩
theorem own_Radd {x y : Int64} {a b : Int} (hx : own_R x a) (hy : own_R y b) (h : a + b < 9007199254740992) : own_R (x + y) (a + b) ∧ (x + y).toInt = x.toInt + y.toInt := by
  obtain ⟨x0, x1⟩ := hx
  obtain ⟨y0, y1⟩ := hy
  have e : (x + y).toInt = x.toInt + y.toInt := Jvm.Kit.i64_add (by omega) (by omega)
  exact ⟨⟨by omega, by omega⟩, e⟩
theorem own_dadd {x y : Int64} {a b : Int} (hx : own_R x a) (hy : own_R y b) (h : a + b < 9007199254740992) : FP.dadd (FP.l2d x) (FP.l2d y) = FP.l2d (x + y) :=
  dadd_w (own_RB hx (by have := hy.1; have := hy.2; omega)) (own_RB hy (by have := hx.1; have := hx.2; omega))
theorem own_Rmulc {y : Int64} {b : Int} (c : Int64) (C : Int) (hc : c.toInt = C) (h0 : 0 ≤ C) (h1 : C ≤ 64) (hy : own_R y b) (h : 64 * b < 9007199254740992) : own_R (c * y) (64 * b) ∧ (c * y).toInt = C * y.toInt := by
  obtain ⟨y0, y1⟩ := hy
  have n1 : 0 ≤ C * y.toInt := Int.mul_nonneg h0 y0
  have n2 : C * y.toInt ≤ 64 * b := Int.mul_le_mul h1 y1 y0 (by decide)
  have e : (c * y).toInt = C * y.toInt := by rw [Jvm.Kit.i64_mul (by rw [hc]; omega) (by rw [hc]; omega), hc]
  exact ⟨⟨by omega, by omega⟩, e⟩
theorem own_dmulc {y : Int64} {b : Int} (c : Int64) (C : Int) (hc : c.toInt = C) (h0 : 0 ≤ C) (h1 : C ≤ 64) (hy : own_R y b) (h : 64 * b < 9007199254740992) : FP.dmul (FP.l2d c) (FP.l2d y) = FP.l2d (c * y) := by
  obtain ⟨y0, y1⟩ := hy
  exact dmul_k (A := 64) (B := b) (by omega) (by omega) (by omega) (by omega) (by decide) (by omega) (by omega) (fun q => by rw [Int64.lt_iff_toInt_lt] at q; have : (0 : Int64).toInt = 0 := rfl; omega) (fun q => by rw [Int64.lt_iff_toInt_lt] at q; have : (0 : Int64).toInt = 0 := rfl; omega)
theorem own_c3 : (4613937818241073152 : UInt64) = FP.l2d 3 := by decide +kernel
theorem own_c2 : (4611686018427387904 : UInt64) = FP.l2d 2 := by decide +kernel
def own_I (r0 r1 r2 m1 m2 m3 m4 m5 m6 q1 q2 q3 q4 q5 q6 : Int64) : Prop :=
  (m1.toInt = r0.toInt + r1.toInt ∧ m2.toInt = m1.toInt + r1.toInt + r2.toInt ∧ m3.toInt = m2.toInt + r2.toInt + r0.toInt ∧ m4.toInt = m3.toInt + r0.toInt + r1.toInt ∧ m5.toInt = m4.toInt + r1.toInt + r2.toInt ∧ m6.toInt = m5.toInt + r2.toInt + r0.toInt) ∧
  (q1.toInt = r0.toInt + 2 * r1.toInt ∧ q2.toInt = q1.toInt + 3 * (r1.toInt + r2.toInt) + r1.toInt + 2 * r2.toInt ∧ q3.toInt = q2.toInt + 6 * (r2.toInt + r0.toInt) + r2.toInt + 2 * r0.toInt ∧ q4.toInt = q3.toInt + 9 * (r0.toInt + r1.toInt) + r0.toInt + 2 * r1.toInt ∧ q5.toInt = q4.toInt + 12 * (r1.toInt + r2.toInt) + r1.toInt + 2 * r2.toInt ∧ q6.toInt = q5.toInt + 15 * (r2.toInt + r0.toInt) + r2.toInt + 2 * r0.toInt)
def own_pk (i : Int32) (m1 m2 m3 m4 m5 m6 : Int64) : Int64 := if i = 0 then 0 else if i = 1 then m1 else if i = 2 then m2 else if i = 3 then m3 else if i = 4 then m4 else if i = 5 then m5 else m6
def own_pI (i m1 m2 m3 m4 m5 m6 : Int) : Int := if i = 0 then 0 else if i = 1 then m1 else if i = 2 then m2 else if i = 3 then m3 else if i = 4 then m4 else if i = 5 then m5 else m6
def own_6 (t : Int32) : Prop := t = 0 ∨ t = 1 ∨ t = 2 ∨ t = 3 ∨ t = 4 ∨ t = 5 ∨ t = 6
instance own_6d (t : Int32) : Decidable (own_6 t) := by unfold own_6; infer_instance
theorem own_6of {t : Int32} (h0 : 0 ≤ t.toInt) (h1 : t.toInt ≤ 6) : own_6 t := by
  unfold own_6
  simp only [← Int32.toInt_inj, show (0 : Int32).toInt = 0 from rfl, show (1 : Int32).toInt = 1 from rfl, show (2 : Int32).toInt = 2 from rfl, show (3 : Int32).toInt = 3 from rfl, show (4 : Int32).toInt = 4 from rfl, show (5 : Int32).toInt = 5 from rfl, show (6 : Int32).toInt = 6 from rfl]
  omega
theorem own_pkI {i : Int32} (h : own_6 i) (m1 m2 m3 m4 m5 m6 : Int64) : (own_pk i m1 m2 m3 m4 m5 m6).toInt = own_pI i.toInt m1.toInt m2.toInt m3.toInt m4.toInt m5.toInt m6.toInt := by
  rcases h with rfl | rfl | rfl | rfl | rfl | rfl | rfl <;> rfl
theorem own_pkG {i : Int32} (h : own_6 i) (m1 m2 m3 m4 m5 m6 : Int64) : ([.double (FP.l2d 0), .double (FP.l2d m1), .double (FP.l2d m2), .double (FP.l2d m3), .double (FP.l2d m4), .double (FP.l2d m5), .double (FP.l2d m6)] : List Value).getD i.toNatClampNeg (.double (FP.l2d 0)) = .double (FP.l2d (own_pk i m1 m2 m3 m4 m5 m6)) := by
  rcases h with rfl | rfl | rfl | rfl | rfl | rfl | rfl <;> rfl
theorem own_in7 {i : Int32} (h : own_6 i) : ¬ i < 0 ∧ i < 7 := by
  rcases h with rfl | rfl | rfl | rfl | rfl | rfl | rfl <;> decide
/-- the values at two places, ordered and bounded -/
theorem own_ord {f t : Int32} (hf : own_6 f) (ht : own_6 t) (hft : f.toInt ≤ t.toInt) {r0 r1 r2 m1 m2 m3 m4 m5 m6 q1 q2 q3 q4 q5 q6 : Int64} (h0 : own_R r0 17179869183) (h1 : own_R r1 17179869183) (h2 : own_R r2 17179869183) (hI : own_I r0 r1 r2 m1 m2 m3 m4 m5 m6 q1 q2 q3 q4 q5 q6) :
    0 ≤ (own_pk f m1 m2 m3 m4 m5 m6).toInt ∧ (own_pk f m1 m2 m3 m4 m5 m6).toInt ≤ (own_pk t m1 m2 m3 m4 m5 m6).toInt ∧ (own_pk t m1 m2 m3 m4 m5 m6).toInt ≤ 12 * 17179869183 ∧
    0 ≤ (own_pk f q1 q2 q3 q4 q5 q6).toInt ∧ (own_pk f q1 q2 q3 q4 q5 q6).toInt ≤ (own_pk t q1 q2 q3 q4 q5 q6).toInt ∧ (own_pk t q1 q2 q3 q4 q5 q6).toInt ≤ 128 * 17179869183 := by
  obtain ⟨a0, a1⟩ := h0
  obtain ⟨b0, b1⟩ := h1
  obtain ⟨c0, c1⟩ := h2
  obtain ⟨⟨e1, e2, e3, e4, e5, e6⟩, g1, g2, g3, g4, g5, g6⟩ := hI
  rw [own_pkI hf, own_pkI ht, own_pkI hf, own_pkI ht]
  generalize r0.toInt = r0 at *
  generalize r1.toInt = r1 at *
  generalize r2.toInt = r2 at *
  generalize m1.toInt = m1 at *
  generalize m2.toInt = m2 at *
  generalize m3.toInt = m3 at *
  generalize m4.toInt = m4 at *
  generalize m5.toInt = m5 at *
  generalize m6.toInt = m6 at *
  generalize q1.toInt = q1 at *
  generalize q2.toInt = q2 at *
  generalize q3.toInt = q3 at *
  generalize q4.toInt = q4 at *
  generalize q5.toInt = q5 at *
  generalize q6.toInt = q6 at *
  have z0 : (0 : Int32).toInt = 0 := rfl
  have z1 : (1 : Int32).toInt = 1 := rfl
  have z2 : (2 : Int32).toInt = 2 := rfl
  have z3 : (3 : Int32).toInt = 3 := rfl
  have z4 : (4 : Int32).toInt = 4 := rfl
  have z5 : (5 : Int32).toInt = 5 := rfl
  have z6 : (6 : Int32).toInt = 6 := rfl
  rcases hf with rfl | rfl | rfl | rfl | rfl | rfl | rfl <;> rcases ht with rfl | rfl | rfl | rfl | rfl | rfl | rfl <;> simp only [z0, z1, z2, z3, z4, z5, z6] at hft ⊢ <;> first | (exfalso; omega) | (simp [own_pI]; done) | (simp [own_pI]; omega)
def own_W (t : Int32) (mt mf qt qf : Int64) : Int64 := ((3 : Int64) * t.toInt64) * (mt - mf) - (qt - qf)
theorem own_wgen {t : Int32} {mt mf qt qf : Int64} (ht : own_6 t) (hz : t = 0 → mt = mf) (a0 : 0 ≤ mf.toInt) (a1 : mf.toInt ≤ mt.toInt) (a2 : mt.toInt ≤ 12 * 17179869183) (b0 : 0 ≤ qf.toInt) (b1 : qf.toInt ≤ qt.toInt) (b2 : qt.toInt ≤ 128 * 17179869183) :
    FP.dmul (4613937818241073152 : UInt64) (FP.l2d t.toInt64) = FP.l2d ((3 : Int64) * t.toInt64) ∧ FP.dsub (FP.l2d mt) (FP.l2d mf) = FP.l2d (mt - mf) ∧ FP.dmul (FP.l2d ((3 : Int64) * t.toInt64)) (FP.l2d (mt - mf)) = FP.l2d (((3 : Int64) * t.toInt64) * (mt - mf)) ∧
    FP.dsub (FP.l2d qt) (FP.l2d qf) = FP.l2d (qt - qf) ∧ FP.dsub (FP.l2d (((3 : Int64) * t.toInt64) * (mt - mf))) (FP.l2d (qt - qf)) = FP.l2d (own_W t mt mf qt qf) ∧ B53 (own_W t mt mf qt qf) ∧ (own_W t mt mf qt qf).toInt = (3 * t.toInt) * (mt.toInt - mf.toInt) - (qt.toInt - qf.toInt) := by
  have s1 : (mt - mf).toInt = mt.toInt - mf.toInt := Jvm.Kit.i64_sub (by omega) (by omega)
  have s2 : (qt - qf).toInt = qt.toInt - qf.toInt := Jvm.Kit.i64_sub (by omega) (by omega)
  have Bmt : B53 mt := ⟨by omega, by omega⟩
  have Bmf : B53 mf := ⟨by omega, by omega⟩
  have Bqt : B53 qt := ⟨by omega, by omega⟩
  have Bqf : B53 qf := ⟨by omega, by omega⟩
  have Rm : own_R (mt - mf) (12 * 17179869183) := ⟨by omega, by omega⟩
  have hc : ∃ C : Int, ((3 : Int64) * t.toInt64).toInt = C ∧ C = 3 * t.toInt ∧ 0 ≤ C ∧ C ≤ 18 ∧ own_R t.toInt64 6 := by
    rcases ht with rfl | rfl | rfl | rfl | rfl | rfl | rfl
    · exact ⟨0, by decide, by decide, by decide, by decide, by decide, by decide⟩
    · exact ⟨3, by decide, by decide, by decide, by decide, by decide, by decide⟩
    · exact ⟨6, by decide, by decide, by decide, by decide, by decide, by decide⟩
    · exact ⟨9, by decide, by decide, by decide, by decide, by decide, by decide⟩
    · exact ⟨12, by decide, by decide, by decide, by decide, by decide, by decide⟩
    · exact ⟨15, by decide, by decide, by decide, by decide, by decide, by decide⟩
    · exact ⟨18, by decide, by decide, by decide, by decide, by decide, by decide⟩
  obtain ⟨C, c1, c2, c3, c4, c5⟩ := hc
  unfold own_W
  rw [← c2]
  have k1 : FP.dmul (4613937818241073152 : UInt64) (FP.l2d t.toInt64) = FP.l2d ((3 : Int64) * t.toInt64) := by rw [own_c3]; exact own_dmulc 3 3 rfl (by decide) (by decide) c5 (by decide)
  have k2 : FP.dmul (FP.l2d ((3 : Int64) * t.toInt64)) (FP.l2d (mt - mf)) = FP.l2d (((3 : Int64) * t.toInt64) * (mt - mf)) := own_dmulc _ C c1 c3 (by omega) Rm (by decide)
  obtain ⟨k3, k4⟩ := own_Rmulc ((3 : Int64) * t.toInt64) C c1 c3 (by omega) Rm (by decide)
  generalize (3 : Int64) * t.toInt64 = u at *
  have n1 : C * (mt.toInt - mf.toInt) ≤ 18 * (12 * 17179869183) := Int.mul_le_mul c4 (by omega) (by omega) (by decide)
  have n0 : 0 ≤ C * (mt.toInt - mf.toInt) := Int.mul_nonneg c3 (by omega)
  rw [s1] at k4
  generalize hv : u * (mt - mf) = v at *
  generalize C * (mt.toInt - mf.toInt) = g at *
  have s3 : (v - (qt - qf)).toInt = v.toInt - (qt - qf).toInt := Jvm.Kit.i64_sub (by omega) (by omega)
  exact ⟨k1, dsub_w Bmt Bmf, k2, dsub_w Bqt Bqf, dsub_w ⟨by omega, by omega⟩ ⟨by omega, by omega⟩, ⟨by omega, by omega⟩, by omega⟩
def own_st (k f t : Int32) (ra rb : Int64) : Int64 := if k < f then 0 else if k < t then (ra * (((3 : Int64) * (t - k).toInt64) - (1 : Int64))) + (rb * (((3 : Int64) * (t - k).toInt64) - (2 : Int64))) else 0
def own_sI (k f t ra rb : Int) : Int := if k < f then 0 else if k < t then (3 * (t - k) - 1) * ra + (3 * (t - k) - 2) * rb else 0
theorem own_mulr {x c : Int64} {C : Int} (hx : own_R x 17179869183) (hc : c.toInt = C) (h0 : 0 ≤ C) (h1 : C ≤ 17) : (x * c).toInt = C * x.toInt ∧ 0 ≤ C * x.toInt ∧ C * x.toInt ≤ 17 * 17179869183 := by
  obtain ⟨x0, x1⟩ := hx
  have n1 : 0 ≤ C * x.toInt := Int.mul_nonneg h0 x0
  have n2 : C * x.toInt ≤ 17 * 17179869183 := Int.mul_le_mul h1 x1 x0 (by decide)
  have e : (x * c).toInt = C * x.toInt := by rw [Int64.mul_comm, Jvm.Kit.i64_mul (by rw [hc]; omega) (by rw [hc]; omega), hc]
  exact ⟨e, n1, n2⟩
theorem own_stI {k f t : Int32} {ra rb : Int64} (hk : own_6 k) (hf : own_6 f) (ht : own_6 t) (ha : own_R ra 17179869183) (hb : own_R rb 17179869183) : (own_st k f t ra rb).toInt = own_sI k.toInt f.toInt t.toInt ra.toInt rb.toInt ∧ 0 ≤ (own_st k f t ra rb).toInt ∧ (own_st k f t ra rb).toInt ≤ 34 * 17179869183 := by
  unfold own_st own_sI
  by_cases h1 : k < f
  · rw [if_pos h1, if_pos (Int32.lt_iff_toInt_lt.mp h1)]; exact ⟨rfl, by decide, by decide⟩
  · rw [if_neg h1, if_neg (fun z => h1 (Int32.lt_iff_toInt_lt.mpr z))]
    by_cases h2 : k < t
    · rw [if_pos h2, if_pos (Int32.lt_iff_toInt_lt.mp h2)]
      have hd : ((t - k).toInt64).toInt = t.toInt - k.toInt ∧ 1 ≤ t.toInt - k.toInt ∧ t.toInt - k.toInt ≤ 6 := by
        rw [Int32.lt_iff_toInt_lt] at h2
        have b1 : 0 ≤ k.toInt ∧ k.toInt ≤ 6 := by rcases hk with rfl | rfl | rfl | rfl | rfl | rfl | rfl <;> decide
        have b2 : 0 ≤ t.toInt ∧ t.toInt ≤ 6 := by rcases ht with rfl | rfl | rfl | rfl | rfl | rfl | rfl <;> decide
        refine ⟨?_, by omega, by omega⟩
        rw [Jvm.Kit.i64_of_i32, Jvm.Kit.i32_sub (by omega) (by omega)]
      obtain ⟨d1, d2, d3⟩ := hd
      generalize (t - k).toInt64 = d at *
      generalize t.toInt - k.toInt = D at *
      have o3 : (3 : Int64).toInt = 3 := rfl
      have o1 : (1 : Int64).toInt = 1 := rfl
      have o2 : (2 : Int64).toInt = 2 := rfl
      have m1 : ((3 : Int64) * d).toInt = 3 * D := by rw [Jvm.Kit.i64_mul (by rw [o3, d1]; omega) (by rw [o3, d1]; omega), o3, d1]
      have m2 : ((3 : Int64) * d - 1).toInt = 3 * D - 1 := by rw [Jvm.Kit.i64_sub (by rw [m1, o1]; omega) (by rw [m1, o1]; omega), m1, o1]
      have m3 : ((3 : Int64) * d - 2).toInt = 3 * D - 2 := by rw [Jvm.Kit.i64_sub (by rw [m1, o2]; omega) (by rw [m1, o2]; omega), m1, o2]
      obtain ⟨e1, e2, e3⟩ := own_mulr ha m2 (by omega) (by omega)
      obtain ⟨e4, e5, e6⟩ := own_mulr hb m3 (by omega) (by omega)
      generalize ra * ((3 : Int64) * d - 1) = x at *
      generalize rb * ((3 : Int64) * d - 2) = y at *
      generalize (3 * D - 1) * ra.toInt = g at *
      generalize (3 * D - 2) * rb.toInt = j at *
      have e : (x + y).toInt = x.toInt + y.toInt := Jvm.Kit.i64_add (by omega) (by omega)
      exact ⟨by omega, by omega, by omega⟩
    · rw [if_neg h2, if_neg (fun z => h2 (Int32.lt_iff_toInt_lt.mpr z))]; exact ⟨rfl, by decide, by decide⟩
def own_ref (f t : Int32) (r0 r1 r2 : Int64) : Int64 := ((((own_st 0 f t r0 r1 + own_st 1 f t r1 r2) + own_st 2 f t r2 r0) + own_st 3 f t r0 r1) + own_st 4 f t r1 r2) + own_st 5 f t r2 r0
theorem own_refI {f t : Int32} {r0 r1 r2 : Int64} (hf : own_6 f) (ht : own_6 t) (h0 : own_R r0 17179869183) (h1 : own_R r1 17179869183) (h2 : own_R r2 17179869183) :
    (own_ref f t r0 r1 r2).toInt = own_sI 0 f.toInt t.toInt r0.toInt r1.toInt + own_sI 1 f.toInt t.toInt r1.toInt r2.toInt + own_sI 2 f.toInt t.toInt r2.toInt r0.toInt + own_sI 3 f.toInt t.toInt r0.toInt r1.toInt + own_sI 4 f.toInt t.toInt r1.toInt r2.toInt + own_sI 5 f.toInt t.toInt r2.toInt r0.toInt := by
  obtain ⟨a1, a2, a3⟩ := own_stI (k := 0) (by decide : own_6 0) hf ht h0 h1
  obtain ⟨b1, b2, b3⟩ := own_stI (k := 1) (by decide : own_6 1) hf ht h1 h2
  obtain ⟨c1, c2, c3⟩ := own_stI (k := 2) (by decide : own_6 2) hf ht h2 h0
  obtain ⟨d1, d2, d3⟩ := own_stI (k := 3) (by decide : own_6 3) hf ht h0 h1
  obtain ⟨e1, e2, e3⟩ := own_stI (k := 4) (by decide : own_6 4) hf ht h1 h2
  obtain ⟨f1, f2, f3⟩ := own_stI (k := 5) (by decide : own_6 5) hf ht h2 h0
  rw [show (0 : Int32).toInt = 0 from rfl] at a1
  rw [show (1 : Int32).toInt = 1 from rfl] at b1
  rw [show (2 : Int32).toInt = 2 from rfl] at c1
  rw [show (3 : Int32).toInt = 3 from rfl] at d1
  rw [show (4 : Int32).toInt = 4 from rfl] at e1
  rw [show (5 : Int32).toInt = 5 from rfl] at f1
  rw [← a1, ← b1, ← c1, ← d1, ← e1, ← f1]
  unfold own_ref
  clear a1 b1 c1 d1 e1 f1
  generalize own_st 0 f t r0 r1 = w0 at *
  generalize own_st 1 f t r1 r2 = w1 at *
  generalize own_st 2 f t r2 r0 = w2 at *
  generalize own_st 3 f t r0 r1 = w3 at *
  generalize own_st 4 f t r1 r2 = w4 at *
  generalize own_st 5 f t r2 r0 = w5 at *
  have s1 : (w0 + w1).toInt = w0.toInt + w1.toInt := Jvm.Kit.i64_add (by omega) (by omega)
  have s2 : (w0 + w1 + w2).toInt = (w0 + w1).toInt + w2.toInt := Jvm.Kit.i64_add (by omega) (by omega)
  have s3 : (w0 + w1 + w2 + w3).toInt = (w0 + w1 + w2).toInt + w3.toInt := Jvm.Kit.i64_add (by omega) (by omega)
  have s4 : (w0 + w1 + w2 + w3 + w4).toInt = (w0 + w1 + w2 + w3).toInt + w4.toInt := Jvm.Kit.i64_add (by omega) (by omega)
  have s5 : (w0 + w1 + w2 + w3 + w4 + w5).toInt = (w0 + w1 + w2 + w3 + w4).toInt + w5.toInt := Jvm.Kit.i64_add (by omega) (by omega)
  omega
theorem own_same {f t : Int32} (hf : own_6 f) (ht : own_6 t) (hft : f.toInt ≤ t.toInt) {r0 r1 r2 m1 m2 m3 m4 m5 m6 q1 q2 q3 q4 q5 q6 : Int} (hI : (m1 = r0 + r1 ∧ m2 = m1 + r1 + r2 ∧ m3 = m2 + r2 + r0 ∧ m4 = m3 + r0 + r1 ∧ m5 = m4 + r1 + r2 ∧ m6 = m5 + r2 + r0) ∧
  (q1 = r0 + 2 * r1 ∧ q2 = q1 + 3 * (r1 + r2) + r1 + 2 * r2 ∧ q3 = q2 + 6 * (r2 + r0) + r2 + 2 * r0 ∧ q4 = q3 + 9 * (r0 + r1) + r0 + 2 * r1 ∧ q5 = q4 + 12 * (r1 + r2) + r1 + 2 * r2 ∧ q6 = q5 + 15 * (r2 + r0) + r2 + 2 * r0)) :
    (3 * t.toInt) * (own_pI t.toInt m1 m2 m3 m4 m5 m6 - own_pI f.toInt m1 m2 m3 m4 m5 m6) - (own_pI t.toInt q1 q2 q3 q4 q5 q6 - own_pI f.toInt q1 q2 q3 q4 q5 q6) =
    own_sI 0 f.toInt t.toInt r0 r1 + own_sI 1 f.toInt t.toInt r1 r2 + own_sI 2 f.toInt t.toInt r2 r0 + own_sI 3 f.toInt t.toInt r0 r1 + own_sI 4 f.toInt t.toInt r1 r2 + own_sI 5 f.toInt t.toInt r2 r0 := by
  obtain ⟨⟨e1, e2, e3, e4, e5, e6⟩, g1, g2, g3, g4, g5, g6⟩ := hI
  have z0 : (0 : Int32).toInt = 0 := rfl
  have z1 : (1 : Int32).toInt = 1 := rfl
  have z2 : (2 : Int32).toInt = 2 := rfl
  have z3 : (3 : Int32).toInt = 3 := rfl
  have z4 : (4 : Int32).toInt = 4 := rfl
  have z5 : (5 : Int32).toInt = 5 := rfl
  have z6 : (6 : Int32).toInt = 6 := rfl
  rcases hf with rfl | rfl | rfl | rfl | rfl | rfl | rfl <;> rcases ht with rfl | rfl | rfl | rfl | rfl | rfl | rfl <;> simp only [z0, z1, z2, z3, z4, z5, z6] at hft ⊢ <;> first | (exfalso; omega) | (simp [own_pI, own_sI]; done) | (simp [own_pI, own_sI]; omega)
/-- what the walk of waiting wants, and that its long is the reference's -/
theorem own_wait {f t : Int32} (hf : own_6 f) (ht : own_6 t) (hft : f.toInt ≤ t.toInt) {r0 r1 r2 m1 m2 m3 m4 m5 m6 q1 q2 q3 q4 q5 q6 : Int64} (h0 : own_R r0 17179869183) (h1 : own_R r1 17179869183) (h2 : own_R r2 17179869183) (hI : own_I r0 r1 r2 m1 m2 m3 m4 m5 m6 q1 q2 q3 q4 q5 q6) {mt mf qt qf : Int64}
    (e1 : mt = own_pk t m1 m2 m3 m4 m5 m6) (e2 : mf = own_pk f m1 m2 m3 m4 m5 m6) (e3 : qt = own_pk t q1 q2 q3 q4 q5 q6) (e4 : qf = own_pk f q1 q2 q3 q4 q5 q6) :
    FP.dmul (4613937818241073152 : UInt64) (FP.l2d t.toInt64) = FP.l2d ((3 : Int64) * t.toInt64) ∧ FP.dsub (FP.l2d mt) (FP.l2d mf) = FP.l2d (mt - mf) ∧ FP.dmul (FP.l2d ((3 : Int64) * t.toInt64)) (FP.l2d (mt - mf)) = FP.l2d (((3 : Int64) * t.toInt64) * (mt - mf)) ∧
    FP.dsub (FP.l2d qt) (FP.l2d qf) = FP.l2d (qt - qf) ∧ FP.dsub (FP.l2d (((3 : Int64) * t.toInt64) * (mt - mf))) (FP.l2d (qt - qf)) = FP.l2d (own_ref f t r0 r1 r2) := by
  obtain ⟨a0, a1, a2, b0, b1, b2⟩ := own_ord hf ht hft h0 h1 h2 hI
  have p1 := own_pkI ht m1 m2 m3 m4 m5 m6
  have p2 := own_pkI hf m1 m2 m3 m4 m5 m6
  have p3 := own_pkI ht q1 q2 q3 q4 q5 q6
  have p4 := own_pkI hf q1 q2 q3 q4 q5 q6
  have hz : t = 0 → mt = mf := fun z => by
    subst z
    have : f = 0 := by
      have z0 : (0 : Int32).toInt = 0 := rfl
      rcases hf with rfl | rfl | rfl | rfl | rfl | rfl | rfl
      · rfl
      all_goals exact absurd hft (by decide)
    rw [e1, e2, this]
  rw [← e1] at a1 a2 p1
  rw [← e2] at a0 a1 p2
  rw [← e3] at b1 b2 p3
  rw [← e4] at b0 b1 p4
  obtain ⟨k1, k2, k3, k4, k5, k6, k7⟩ := own_wgen ht hz a0 a1 a2 b0 b1 b2
  have hr := own_refI hf ht h0 h1 h2
  have hs := own_same hf ht hft hI
  have : own_W t mt mf qt qf = own_ref f t r0 r1 r2 := Int64.toInt_inj.mp (by rw [k7, p1, p2, p3, p4, hs, hr])
  exact ⟨k1, k2, k3, k4, by rw [k5, this]⟩

def own_max (i j : Int32) : Int32 := if i < j then j else i
def own_min (i j : Int32) : Int32 := if j < i then j else i
theorem ef_rmmax (m : MethodId) (x0 : Int32) (x1 : Int32) : entryFrame m #[(.int x0), (.int x1)] 2 = mkF m 0 #[.val (.int x0), .val (.int x1)] [] := by first | (simp [entryFrame, mkF, argsToLocals, Value.category]; done) | rfl
theorem d2_0 : decode jdk_29_method_65_code 0 = .ok (.iload_n 0, 1) := by decide +kernel
theorem d2_1 : decode jdk_29_method_65_code 1 = .ok (.iload_n 1, 1) := by decide +kernel
theorem d2_2 : decode jdk_29_method_65_code 2 = .ok (.if_icmp .lt 7, 3) := by decide +kernel
theorem d2_9 : decode jdk_29_method_65_code 9 = .ok (.iload_n 1, 1) := by decide +kernel
theorem d2_10 : decode jdk_29_method_65_code 10 = .ok (.ireturn, 1) := by decide +kernel
theorem d2_5 : decode jdk_29_method_65_code 5 = .ok (.iload_n 0, 1) := by decide +kernel
theorem d2_6 : decode jdk_29_method_65_code 6 = .ok (.goto 4, 3) := by decide +kernel
def Q_rmmax (Z : State) (p1 : Int32) (p2 : Int32) (h0 : Heap) (n0 : Nat) (v : Option Value) (h : Heap) (L : List Loc) : Prop := v = some (.int (own_max p1 p2)) ∧ Fr n0 L ∧ h = h0
set_option maxRecDepth 65536 in
set_option maxHeartbeats 40000000 in
theorem rmmax (l : Launch) (Z : State) (a0 : Array Value) (hw : ∀ d ∈ tables_1, d.before a0 Z = true) (ws : List Jvm.Cond) (p1 : Int32) (p2 : Int32) (h0 : Heap) (n0 : Nat) (Z0 : n0 ≤ h0.size) :
    MetFree l (⟨"java/lang/Math", "max", "(II)I"⟩ : MethodName) (head1 (Jvm.Cond.code (⟨"java/lang/Math", "max", "(II)I"⟩ : MethodName) jdk_29_method_65_code 2 (some .int) :: ws) ({ frames := 0, cells := 0, slots := 0, locals := 0 } : Room)) (fun a U => a = #[(.int p1), (.int p2)] ∧ Z.Warmed39 U.vm ∧ U.heap = h0) (fun _ _ _ _ _ => True) (fun _ U o U' => ∃ v L, o = .returned v ∧ Q_rmmax Z p1 p2 h0 n0 v U'.heap L ∧ FrameEnd U o U' L ({ frames := 0, cells := 0, slots := 0, locals := 0 } : Room).cells ({ frames := 0, cells := 0, slots := 0, locals := 0 } : Room).slots) := by
  refine MetFree.of_bodySF (Jvm.Free.JP.mathPlain rfl (by decide +kernel)) hisR ?_
  intro p e s m args below meth c s₁ Bd hml0 hP hK
  obtain ⟨rfl, hZ, hh⟩ := hP
  have hx := Bd.exec
  have hby := Bd.bytes
  have hml : c.maxLocals = 2 := hml0
  have hown : s.vm.findClass "java/lang/Math" = some m.cls := (findClass_of_methodNamed Bd.named :)
  have hnm := (name_of_methodNamed Bd.named Bd.method).1
  have X0 : Stand p l e ({ frames := 0, cells := 0, slots := 0, locals := 0 } : Room) s m #[(.int p1), (.int p2)] below meth c s₁ [] 0 0 := Stand.of_body Bd
  have e0 : s₁.heap = h0 := by rw [← hh, Bd.state]; rfl
  have N0 := Fr.nil n0
  have pre0 : ∀ t, Steps p.tables e below (s₁.setTop (mkF m 0 #[.val (.int p1), .val (.int p2)] [])) t → Steps p.tables e below (s₁.setTop (entryFrame m #[(.int p1), (.int p2)] 2)) t := fun t k => castTop (ef_rmmax m p1 p2) k
  have pre1 : ∀ t, Steps p.tables e below (s₁.setTop (mkF m 2 #[.val (.int p1), .val (.int p2)] [(.int p2), (.int p1)])) t → Steps p.tables e below (s₁.setTop (entryFrame m #[(.int p1), (.int p2)] 2)) t := by
    intro t k
    refine pre0 t ?_
    show Steps p.tables e below (s₁.setTop (mkF m 0 #[.val (.int p1), .val (.int p2)] [])) _
    refine XS.iloadN X0.here hx rfl (hb hby d2_0) rfl ?_
    show Steps p.tables e below (s₁.setTop (mkF m 1 #[.val (.int p1), .val (.int p2)] [(.int p1)])) _
    refine XS.iloadN X0.here hx rfl (hb hby d2_1) rfl ?_
    show Steps p.tables e below (s₁.setTop (mkF m 2 #[.val (.int p1), .val (.int p2)] [(.int p2), (.int p1)])) _
    exact k
  by_cases h2 : p1 < p2
  · skip
    have pre2 : ∀ t, Steps p.tables e below (s₁.setTop (mkF m 10 #[.val (.int p1), .val (.int p2)] [(.int p2)])) t → Steps p.tables e below (s₁.setTop (entryFrame m #[(.int p1), (.int p2)] 2)) t := by
      intro t k
      refine pre1 t ?_
      refine XS.icmpYes X0.here hx rfl (pc0 := 2) (pc' := 9) rfl (hb hby d2_2) rfl (tlt h2).1 (by decide) (by decide) ?_
      show Steps p.tables e below (s₁.setTop (mkF m 9 #[.val (.int p1), .val (.int p2)] [])) _
      refine XS.iloadN X0.here hx rfl (hb hby d2_9) rfl ?_
      show Steps p.tables e below (s₁.setTop (mkF m 10 #[.val (.int p1), .val (.int p2)] [(.int p2)])) _
      exact k
    obtain ⟨fs, hr, hrun, hended, hW, hsame⟩ := X0.leave (v := some (.int p2)) (fun h => by rw [Bd.returns] at h; cases h)
    refine ⟨_, _, pre2 _ ?_, hrun, hended, _, _, rfl, ?_, ⟨_, rfl⟩, hW, hsame.mono (by decide) (by decide)⟩
    · exact retOut X0 hx Bd.returns rfl (Or.inl ⟨rfl, Or.inl rfl, _, rfl⟩) (hb hby d2_10) hr
    · show Q_rmmax Z p1 p2 h0 n0 _ s₁.heap _
      rw [e0]
      exact ⟨by simp [own_max, h2], N0, rfl⟩
  · skip
    have pre3 : ∀ t, Steps p.tables e below (s₁.setTop (mkF m 10 #[.val (.int p1), .val (.int p2)] [(.int p1)])) t → Steps p.tables e below (s₁.setTop (entryFrame m #[(.int p1), (.int p2)] 2)) t := by
      intro t k
      refine pre1 t ?_
      refine XS.icmpNo X0.here hx rfl (hb hby d2_2) rfl (flt h2).1 ?_
      show Steps p.tables e below (s₁.setTop (mkF m 5 #[.val (.int p1), .val (.int p2)] [])) _
      refine XS.iloadN X0.here hx rfl (hb hby d2_5) rfl ?_
      show Steps p.tables e below (s₁.setTop (mkF m 6 #[.val (.int p1), .val (.int p2)] [(.int p1)])) _
      refine XS.goto X0.here hx rfl (pc0 := 6) (pc' := 10) rfl (hb hby d2_6) (by decide) (by decide) ?_
      show Steps p.tables e below (s₁.setTop (mkF m 10 #[.val (.int p1), .val (.int p2)] [(.int p1)])) _
      exact k
    obtain ⟨fs, hr, hrun, hended, hW, hsame⟩ := X0.leave (v := some (.int p1)) (fun h => by rw [Bd.returns] at h; cases h)
    refine ⟨_, _, pre3 _ ?_, hrun, hended, _, _, rfl, ?_, ⟨_, rfl⟩, hW, hsame.mono (by decide) (by decide)⟩
    · exact retOut X0 hx Bd.returns rfl (Or.inl ⟨rfl, Or.inl rfl, _, rfl⟩) (hb hby d2_10) hr
    · show Q_rmmax Z p1 p2 h0 n0 _ s₁.heap _
      rw [e0]
      exact ⟨by simp [own_max, h2], N0, rfl⟩
theorem ef_rmmin (m : MethodId) (x0 : Int32) (x1 : Int32) : entryFrame m #[(.int x0), (.int x1)] 2 = mkF m 0 #[.val (.int x0), .val (.int x1)] [] := by first | (simp [entryFrame, mkF, argsToLocals, Value.category]; done) | rfl
theorem d1_0 : decode jdk_29_method_69_code 0 = .ok (.iload_n 0, 1) := by decide +kernel
theorem d1_1 : decode jdk_29_method_69_code 1 = .ok (.iload_n 1, 1) := by decide +kernel
theorem d1_2 : decode jdk_29_method_69_code 2 = .ok (.if_icmp .gt 7, 3) := by decide +kernel
theorem d1_9 : decode jdk_29_method_69_code 9 = .ok (.iload_n 1, 1) := by decide +kernel
theorem d1_10 : decode jdk_29_method_69_code 10 = .ok (.ireturn, 1) := by decide +kernel
theorem d1_5 : decode jdk_29_method_69_code 5 = .ok (.iload_n 0, 1) := by decide +kernel
theorem d1_6 : decode jdk_29_method_69_code 6 = .ok (.goto 4, 3) := by decide +kernel
def Q_rmmin (Z : State) (p1 : Int32) (p2 : Int32) (h0 : Heap) (n0 : Nat) (v : Option Value) (h : Heap) (L : List Loc) : Prop := v = some (.int (own_min p1 p2)) ∧ Fr n0 L ∧ h = h0
set_option maxRecDepth 65536 in
set_option maxHeartbeats 40000000 in
theorem rmmin (l : Launch) (Z : State) (a0 : Array Value) (hw : ∀ d ∈ tables_1, d.before a0 Z = true) (ws : List Jvm.Cond) (p1 : Int32) (p2 : Int32) (h0 : Heap) (n0 : Nat) (Z0 : n0 ≤ h0.size) :
    MetFree l (⟨"java/lang/Math", "min", "(II)I"⟩ : MethodName) (head1 (Jvm.Cond.code (⟨"java/lang/Math", "min", "(II)I"⟩ : MethodName) jdk_29_method_69_code 2 (some .int) :: ws) ({ frames := 0, cells := 0, slots := 0, locals := 0 } : Room)) (fun a U => a = #[(.int p1), (.int p2)] ∧ Z.Warmed39 U.vm ∧ U.heap = h0) (fun _ _ _ _ _ => True) (fun _ U o U' => ∃ v L, o = .returned v ∧ Q_rmmin Z p1 p2 h0 n0 v U'.heap L ∧ FrameEnd U o U' L ({ frames := 0, cells := 0, slots := 0, locals := 0 } : Room).cells ({ frames := 0, cells := 0, slots := 0, locals := 0 } : Room).slots) := by
  refine MetFree.of_bodySF (Jvm.Free.JP.mathPlain rfl (by decide +kernel)) hisR ?_
  intro p e s m args below meth c s₁ Bd hml0 hP hK
  obtain ⟨rfl, hZ, hh⟩ := hP
  have hx := Bd.exec
  have hby := Bd.bytes
  have hml : c.maxLocals = 2 := hml0
  have hown : s.vm.findClass "java/lang/Math" = some m.cls := (findClass_of_methodNamed Bd.named :)
  have hnm := (name_of_methodNamed Bd.named Bd.method).1
  have X0 : Stand p l e ({ frames := 0, cells := 0, slots := 0, locals := 0 } : Room) s m #[(.int p1), (.int p2)] below meth c s₁ [] 0 0 := Stand.of_body Bd
  have e0 : s₁.heap = h0 := by rw [← hh, Bd.state]; rfl
  have N0 := Fr.nil n0
  have pre0 : ∀ t, Steps p.tables e below (s₁.setTop (mkF m 0 #[.val (.int p1), .val (.int p2)] [])) t → Steps p.tables e below (s₁.setTop (entryFrame m #[(.int p1), (.int p2)] 2)) t := fun t k => castTop (ef_rmmin m p1 p2) k
  have pre1 : ∀ t, Steps p.tables e below (s₁.setTop (mkF m 2 #[.val (.int p1), .val (.int p2)] [(.int p2), (.int p1)])) t → Steps p.tables e below (s₁.setTop (entryFrame m #[(.int p1), (.int p2)] 2)) t := by
    intro t k
    refine pre0 t ?_
    show Steps p.tables e below (s₁.setTop (mkF m 0 #[.val (.int p1), .val (.int p2)] [])) _
    refine XS.iloadN X0.here hx rfl (hb hby d1_0) rfl ?_
    show Steps p.tables e below (s₁.setTop (mkF m 1 #[.val (.int p1), .val (.int p2)] [(.int p1)])) _
    refine XS.iloadN X0.here hx rfl (hb hby d1_1) rfl ?_
    show Steps p.tables e below (s₁.setTop (mkF m 2 #[.val (.int p1), .val (.int p2)] [(.int p2), (.int p1)])) _
    exact k
  by_cases h2 : p2 < p1
  · skip
    have pre2 : ∀ t, Steps p.tables e below (s₁.setTop (mkF m 10 #[.val (.int p1), .val (.int p2)] [(.int p2)])) t → Steps p.tables e below (s₁.setTop (entryFrame m #[(.int p1), (.int p2)] 2)) t := by
      intro t k
      refine pre1 t ?_
      refine XS.icmpYes X0.here hx rfl (pc0 := 2) (pc' := 9) rfl (hb hby d1_2) rfl (tlt h2).2.2.1 (by decide) (by decide) ?_
      show Steps p.tables e below (s₁.setTop (mkF m 9 #[.val (.int p1), .val (.int p2)] [])) _
      refine XS.iloadN X0.here hx rfl (hb hby d1_9) rfl ?_
      show Steps p.tables e below (s₁.setTop (mkF m 10 #[.val (.int p1), .val (.int p2)] [(.int p2)])) _
      exact k
    obtain ⟨fs, hr, hrun, hended, hW, hsame⟩ := X0.leave (v := some (.int p2)) (fun h => by rw [Bd.returns] at h; cases h)
    refine ⟨_, _, pre2 _ ?_, hrun, hended, _, _, rfl, ?_, ⟨_, rfl⟩, hW, hsame.mono (by decide) (by decide)⟩
    · exact retOut X0 hx Bd.returns rfl (Or.inl ⟨rfl, Or.inl rfl, _, rfl⟩) (hb hby d1_10) hr
    · show Q_rmmin Z p1 p2 h0 n0 _ s₁.heap _
      rw [e0]
      exact ⟨by simp [own_min, h2], N0, rfl⟩
  · skip
    have pre3 : ∀ t, Steps p.tables e below (s₁.setTop (mkF m 10 #[.val (.int p1), .val (.int p2)] [(.int p1)])) t → Steps p.tables e below (s₁.setTop (entryFrame m #[(.int p1), (.int p2)] 2)) t := by
      intro t k
      refine pre1 t ?_
      refine XS.icmpNo X0.here hx rfl (hb hby d1_2) rfl (flt h2).2.2.1 ?_
      show Steps p.tables e below (s₁.setTop (mkF m 5 #[.val (.int p1), .val (.int p2)] [])) _
      refine XS.iloadN X0.here hx rfl (hb hby d1_5) rfl ?_
      show Steps p.tables e below (s₁.setTop (mkF m 6 #[.val (.int p1), .val (.int p2)] [(.int p1)])) _
      refine XS.goto X0.here hx rfl (pc0 := 6) (pc' := 10) rfl (hb hby d1_6) (by decide) (by decide) ?_
      show Steps p.tables e below (s₁.setTop (mkF m 10 #[.val (.int p1), .val (.int p2)] [(.int p1)])) _
      exact k
    obtain ⟨fs, hr, hrun, hended, hW, hsame⟩ := X0.leave (v := some (.int p1)) (fun h => by rw [Bd.returns] at h; cases h)
    refine ⟨_, _, pre3 _ ?_, hrun, hended, _, _, rfl, ?_, ⟨_, rfl⟩, hW, hsame.mono (by decide) (by decide)⟩
    · exact retOut X0 hx Bd.returns rfl (Or.inl ⟨rfl, Or.inl rfl, _, rfl⟩) (hb hby d1_10) hr
    · show Q_rmmin Z p1 p2 h0 n0 _ s₁.heap _
      rw [e0]
      exact ⟨by simp [own_min, h2], N0, rfl⟩
theorem ef_rmS0 (m : MethodId) (x0 : Addr) (x1 : Int32) (x2 : Int32) (x3 : Int32) : entryFrame m #[(.ref x0), (.int x1), (.int x2), (.int x3)] 10 = mkF m 0 #[.val (.ref x0), .val (.int x1), .val (.int x2), .val (.int x3), .unset, .unset, .unset, .unset, .unset, .unset] [] := by first | (simp [entryFrame, mkF, argsToLocals, Value.category]; done) | rfl
theorem pn_1 : plainName "com/example/hummingbird/hummingbird/engine/RhythmWaitingPinLaw" = true := by first | (simp [plainName, overriddenIn]; done) | decide +kernel
theorem d4_0 : decode method_2_code 0 = .ok (.iload_n 1, 1) := by decide +kernel
theorem d4_1 : decode method_2_code 1 = .ok (.iload_n 2, 1) := by decide +kernel
theorem d4_2 : decode method_2_code 2 = .ok (.if_icmp .lt 8, 3) := by decide +kernel
theorem d4_10 : decode method_2_code 10 = .ok (.lconst 0, 1) := by decide +kernel
theorem d4_11 : decode method_2_code 11 = .ok (.lreturn, 1) := by decide +kernel
theorem d4_5 : decode method_2_code 5 = .ok (.iload_n 1, 1) := by decide +kernel
theorem d4_6 : decode method_2_code 6 = .ok (.iload_n 3, 1) := by decide +kernel
theorem d4_7 : decode method_2_code 7 = .ok (.if_icmp .lt 5, 3) := by decide +kernel
theorem d4_12 : decode method_2_code 12 = .ok (.aload_n 0, 1) := by decide +kernel
theorem d4_13 : decode method_2_code 13 = .ok (.iload_n 1, 1) := by decide +kernel
theorem d4_14 : decode method_2_code 14 = .ok (.iconst 3, 1) := by decide +kernel
theorem d4_15 : decode method_2_code 15 = .ok (.irem, 1) := by decide +kernel
theorem d4_16 : decode method_2_code 16 = .ok (.laload, 1) := by decide +kernel
theorem d4_17 : decode method_2_code 17 = .ok (.lstore 4, 2) := by decide +kernel
theorem d4_19 : decode method_2_code 19 = .ok (.aload_n 0, 1) := by decide +kernel
theorem d4_20 : decode method_2_code 20 = .ok (.iload_n 1, 1) := by decide +kernel
theorem d4_21 : decode method_2_code 21 = .ok (.iconst 1, 1) := by decide +kernel
theorem d4_22 : decode method_2_code 22 = .ok (.iadd, 1) := by decide +kernel
theorem d4_23 : decode method_2_code 23 = .ok (.iconst 3, 1) := by decide +kernel
theorem d4_24 : decode method_2_code 24 = .ok (.irem, 1) := by decide +kernel
theorem d4_25 : decode method_2_code 25 = .ok (.laload, 1) := by decide +kernel
theorem d4_26 : decode method_2_code 26 = .ok (.lstore 6, 2) := by decide +kernel
theorem d4_28 : decode method_2_code 28 = .ok (.iload_n 3, 1) := by decide +kernel
theorem d4_29 : decode method_2_code 29 = .ok (.iload_n 1, 1) := by decide +kernel
theorem d4_30 : decode method_2_code 30 = .ok (.isub, 1) := by decide +kernel
theorem d4_31 : decode method_2_code 31 = .ok (.i2l, 1) := by decide +kernel
theorem d4_32 : decode method_2_code 32 = .ok (.lstore 8, 2) := by decide +kernel
theorem d4_34 : decode method_2_code 34 = .ok (.lload 4, 2) := by decide +kernel
theorem d4_36 : decode method_2_code 36 = .ok (.ldc2_w 7, 3) := by decide +kernel
theorem d4_39 : decode method_2_code 39 = .ok (.lload 8, 2) := by decide +kernel
theorem d4_41 : decode method_2_code 41 = .ok (.lmul, 1) := by decide +kernel
theorem d4_42 : decode method_2_code 42 = .ok (.lconst 1, 1) := by decide +kernel
theorem d4_43 : decode method_2_code 43 = .ok (.lsub, 1) := by decide +kernel
theorem d4_44 : decode method_2_code 44 = .ok (.lmul, 1) := by decide +kernel
theorem d4_45 : decode method_2_code 45 = .ok (.lload 6, 2) := by decide +kernel
theorem d4_47 : decode method_2_code 47 = .ok (.ldc2_w 7, 3) := by decide +kernel
theorem d4_50 : decode method_2_code 50 = .ok (.lload 8, 2) := by decide +kernel
theorem d4_52 : decode method_2_code 52 = .ok (.lmul, 1) := by decide +kernel
theorem d4_53 : decode method_2_code 53 = .ok (.ldc2_w 9, 3) := by decide +kernel
theorem d4_56 : decode method_2_code 56 = .ok (.lsub, 1) := by decide +kernel
theorem d4_57 : decode method_2_code 57 = .ok (.lmul, 1) := by decide +kernel
theorem d4_58 : decode method_2_code 58 = .ok (.ladd, 1) := by decide +kernel
theorem d4_59 : decode method_2_code 59 = .ok (.lreturn, 1) := by decide +kernel
def Q_rmS0 (Z : State) (a2 : Addr) (p1 : Int32) (p2 : Int32) (cl : Cell) (r0 : Int64) (r1 : Int64) (r2 : Int64) (h0 : Heap) (n0 : Nat) (v : Option Value) (h : Heap) (L : List Loc) : Prop := v = some (.long (own_st (0 : Int32) p1 p2 r0 r1)) ∧ Fr n0 L ∧ h = h0
set_option maxRecDepth 65536 in
set_option maxHeartbeats 40000000 in
theorem rmS0 (l : Launch) (Z : State) (a0 : Array Value) (hw : ∀ d ∈ tables_1, d.before a0 Z = true) (ws : List Jvm.Cond) (a2 : Addr) (p1 : Int32) (p2 : Int32) (cl : Cell) (r0 : Int64) (r1 : Int64) (r2 : Int64) (h0 : Heap) (n0 : Nat) (Z0 : n0 ≤ h0.size) (Ar : Arr Z h0 a2 cl .long) (Sz : cl.slots.size = (3 : Int32).toNatClampNeg) (t0 : cl.slots[0]? = some (.long r0)) (t1 : cl.slots[1]? = some (.long r1)) (t2 : cl.slots[2]? = some (.long r2)) :
    MetFree l (⟨"com/example/hummingbird/hummingbird/engine/RhythmWaitingPinLaw", "step", "([JIII)J"⟩ : MethodName) (head1 (Jvm.Cond.code (⟨"com/example/hummingbird/hummingbird/engine/RhythmWaitingPinLaw", "step", "([JIII)J"⟩ : MethodName) method_2_code 10 (some .long) :: ws) ({ frames := 0, cells := 0, slots := 0, locals := 0 } : Room)) (fun a U => a = #[(.ref a2), (.int (0 : Int32)), (.int p1), (.int p2)] ∧ Z.Warmed39 U.vm ∧ U.heap = h0) (fun _ _ _ _ _ => True) (fun _ U o U' => ∃ v L, o = .returned v ∧ Q_rmS0 Z a2 p1 p2 cl r0 r1 r2 h0 n0 v U'.heap L ∧ FrameEnd U o U' L ({ frames := 0, cells := 0, slots := 0, locals := 0 } : Room).cells ({ frames := 0, cells := 0, slots := 0, locals := 0 } : Room).slots) := by
  refine MetFree.of_bodySF (plainFor_of_name pn_1) hisR ?_
  intro p e s m args below meth c s₁ Bd hml0 hP hK
  obtain ⟨rfl, hZ, hh⟩ := hP
  have hx := Bd.exec
  have hby := Bd.bytes
  have hml : c.maxLocals = 10 := hml0
  have hown : s.vm.findClass "com/example/hummingbird/hummingbird/engine/RhythmWaitingPinLaw" = some m.cls := (findClass_of_methodNamed Bd.named :)
  have hnm := (name_of_methodNamed Bd.named Bd.method).1
  have X0 : Stand p l e ({ frames := 0, cells := 0, slots := 0, locals := 0 } : Room) s m #[(.ref a2), (.int (0 : Int32)), (.int p1), (.int p2)] below meth c s₁ [] 0 0 := Stand.of_body Bd
  have e0 : s₁.heap = h0 := by rw [← hh, Bd.state]; rfl
  have N0 := Fr.nil n0
  have pre0 : ∀ t, Steps p.tables e below (s₁.setTop (mkF m 0 #[.val (.ref a2), .val (.int (0 : Int32)), .val (.int p1), .val (.int p2), .unset, .unset, .unset, .unset, .unset, .unset] [])) t → Steps p.tables e below (s₁.setTop (entryFrame m #[(.ref a2), (.int (0 : Int32)), (.int p1), (.int p2)] 10)) t := fun t k => castTop (ef_rmS0 m a2 (0 : Int32) p1 p2) k
  have pre1 : ∀ t, Steps p.tables e below (s₁.setTop (mkF m 2 #[.val (.ref a2), .val (.int (0 : Int32)), .val (.int p1), .val (.int p2), .unset, .unset, .unset, .unset, .unset, .unset] [(.int p1), (.int (0 : Int32))])) t → Steps p.tables e below (s₁.setTop (entryFrame m #[(.ref a2), (.int (0 : Int32)), (.int p1), (.int p2)] 10)) t := by
    intro t k
    refine pre0 t ?_
    show Steps p.tables e below (s₁.setTop (mkF m 0 #[.val (.ref a2), .val (.int (0 : Int32)), .val (.int p1), .val (.int p2), .unset, .unset, .unset, .unset, .unset, .unset] [])) _
    refine XS.iloadN X0.here hx rfl (hb hby d4_0) rfl ?_
    show Steps p.tables e below (s₁.setTop (mkF m 1 #[.val (.ref a2), .val (.int (0 : Int32)), .val (.int p1), .val (.int p2), .unset, .unset, .unset, .unset, .unset, .unset] [(.int (0 : Int32))])) _
    refine XS.iloadN X0.here hx rfl (hb hby d4_1) rfl ?_
    show Steps p.tables e below (s₁.setTop (mkF m 2 #[.val (.ref a2), .val (.int (0 : Int32)), .val (.int p1), .val (.int p2), .unset, .unset, .unset, .unset, .unset, .unset] [(.int p1), (.int (0 : Int32))])) _
    exact k
  by_cases h2 : (0 : Int32) < p1
  · skip
    have pre2 : ∀ t, Steps p.tables e below (s₁.setTop (mkF m 11 #[.val (.ref a2), .val (.int (0 : Int32)), .val (.int p1), .val (.int p2), .unset, .unset, .unset, .unset, .unset, .unset] [(.long (0 : Int64))])) t → Steps p.tables e below (s₁.setTop (entryFrame m #[(.ref a2), (.int (0 : Int32)), (.int p1), (.int p2)] 10)) t := by
      intro t k
      refine pre1 t ?_
      refine XS.icmpYes X0.here hx rfl (pc0 := 2) (pc' := 10) rfl (hb hby d4_2) rfl (tlt h2).1 (by decide) (by decide) ?_
      show Steps p.tables e below (s₁.setTop (mkF m 10 #[.val (.ref a2), .val (.int (0 : Int32)), .val (.int p1), .val (.int p2), .unset, .unset, .unset, .unset, .unset, .unset] [])) _
      refine XS.lconst X0.here hx rfl (hb hby d4_10) ?_
      show Steps p.tables e below (s₁.setTop (mkF m 11 #[.val (.ref a2), .val (.int (0 : Int32)), .val (.int p1), .val (.int p2), .unset, .unset, .unset, .unset, .unset, .unset] [(.long (0 : Int64))])) _
      exact k
    obtain ⟨fs, hr, hrun, hended, hW, hsame⟩ := X0.leave (v := some (.long (0 : Int64))) (fun h => by rw [Bd.returns] at h; cases h)
    refine ⟨_, _, pre2 _ ?_, hrun, hended, _, _, rfl, ?_, ⟨_, rfl⟩, hW, hsame.mono (by decide) (by decide)⟩
    · exact retOut X0 hx Bd.returns rfl (Or.inr (Or.inl ⟨rfl, rfl, _, rfl⟩)) (hb hby d4_11) hr
    · show Q_rmS0 Z a2 p1 p2 cl r0 r1 r2 h0 n0 _ s₁.heap _
      rw [e0]
      exact ⟨by simp [own_st, h2], N0, rfl⟩
  · skip
    have pre3 : ∀ t, Steps p.tables e below (s₁.setTop (mkF m 7 #[.val (.ref a2), .val (.int (0 : Int32)), .val (.int p1), .val (.int p2), .unset, .unset, .unset, .unset, .unset, .unset] [(.int p2), (.int (0 : Int32))])) t → Steps p.tables e below (s₁.setTop (entryFrame m #[(.ref a2), (.int (0 : Int32)), (.int p1), (.int p2)] 10)) t := by
      intro t k
      refine pre1 t ?_
      refine XS.icmpNo X0.here hx rfl (hb hby d4_2) rfl (flt h2).1 ?_
      show Steps p.tables e below (s₁.setTop (mkF m 5 #[.val (.ref a2), .val (.int (0 : Int32)), .val (.int p1), .val (.int p2), .unset, .unset, .unset, .unset, .unset, .unset] [])) _
      refine XS.iloadN X0.here hx rfl (hb hby d4_5) rfl ?_
      show Steps p.tables e below (s₁.setTop (mkF m 6 #[.val (.ref a2), .val (.int (0 : Int32)), .val (.int p1), .val (.int p2), .unset, .unset, .unset, .unset, .unset, .unset] [(.int (0 : Int32))])) _
      refine XS.iloadN X0.here hx rfl (hb hby d4_6) rfl ?_
      show Steps p.tables e below (s₁.setTop (mkF m 7 #[.val (.ref a2), .val (.int (0 : Int32)), .val (.int p1), .val (.int p2), .unset, .unset, .unset, .unset, .unset, .unset] [(.int p2), (.int (0 : Int32))])) _
      exact k
    by_cases h7 : (0 : Int32) < p2
    · skip
      have pre4 : ∀ t, Steps p.tables e below (s₁.setTop (mkF m 59 #[.val (.ref a2), .val (.int (0 : Int32)), .val (.int p1), .val (.int p2), .val (.long r0), .second, .val (.long r1), .second, .val (.long ((p2 - (0 : Int32)).toInt64)), .second] [(.long ((r0 * (((3 : Int64) * ((p2 - (0 : Int32)).toInt64)) - (1 : Int64))) + (r1 * (((3 : Int64) * ((p2 - (0 : Int32)).toInt64)) - (2 : Int64)))))])) t → Steps p.tables e below (s₁.setTop (entryFrame m #[(.ref a2), (.int (0 : Int32)), (.int p1), (.int p2)] 10)) t := by
        intro t k
        refine pre3 t ?_
        refine XS.icmpYes X0.here hx rfl (pc0 := 7) (pc' := 12) rfl (hb hby d4_7) rfl (tlt h7).1 (by decide) (by decide) ?_
        show Steps p.tables e below (s₁.setTop (mkF m 12 #[.val (.ref a2), .val (.int (0 : Int32)), .val (.int p1), .val (.int p2), .unset, .unset, .unset, .unset, .unset, .unset] [])) _
        refine XS.aloadN X0.here hx rfl (hb hby d4_12) rfl (rfl) ?_
        show Steps p.tables e below (s₁.setTop (mkF m 13 #[.val (.ref a2), .val (.int (0 : Int32)), .val (.int p1), .val (.int p2), .unset, .unset, .unset, .unset, .unset, .unset] [(.ref a2)])) _
        refine XS.iloadN X0.here hx rfl (hb hby d4_13) rfl ?_
        show Steps p.tables e below (s₁.setTop (mkF m 14 #[.val (.ref a2), .val (.int (0 : Int32)), .val (.int p1), .val (.int p2), .unset, .unset, .unset, .unset, .unset, .unset] [(.int (0 : Int32)), (.ref a2)])) _
        refine XS.iconst X0.here hx rfl (hb hby d4_14) ?_
        show Steps p.tables e below (s₁.setTop (mkF m 15 #[.val (.ref a2), .val (.int (0 : Int32)), .val (.int p1), .val (.int p2), .unset, .unset, .unset, .unset, .unset, .unset] [(.int (3 : Int32)), (.int (0 : Int32)), (.ref a2)])) _
        refine iremM X0 hx rfl (hb hby d4_15) rfl (by decide) ?_
        show Steps p.tables e below (s₁.setTop (mkF m 16 #[.val (.ref a2), .val (.int (0 : Int32)), .val (.int p1), .val (.int p2), .unset, .unset, .unset, .unset, .unset, .unset] [(.int (0 : Int32)), (.ref a2)])) _
        refine X0.laload hx (j := (0 : Int32)) (v := (.long r0)) (by rw [e0]; exact Ar.1) (State.isArrayOf_alike hZ.alike Ar.2.1) Ar.2.2 (inb_of Sz ⟨by decide, by decide⟩) t0 (g := (mkF m 16 #[.val (.ref a2), .val (.int (0 : Int32)), .val (.int p1), .val (.int p2), .unset, .unset, .unset, .unset, .unset, .unset] [(.int (0 : Int32)), (.ref a2)])) rfl rfl (hb hby d4_16) _ ?_
        show Steps p.tables e below (s₁.setTop (mkF m 17 #[.val (.ref a2), .val (.int (0 : Int32)), .val (.int p1), .val (.int p2), .unset, .unset, .unset, .unset, .unset, .unset] [(.long r0)])) _
        refine XS.lstore X0.here hx rfl (hb hby d4_17) rfl (l' := #[.val (.ref a2), .val (.int (0 : Int32)), .val (.int p1), .val (.int p2), .val (.long r0), .second, .unset, .unset, .unset, .unset]) rfl ?_
        show Steps p.tables e below (s₁.setTop (mkF m 19 #[.val (.ref a2), .val (.int (0 : Int32)), .val (.int p1), .val (.int p2), .val (.long r0), .second, .unset, .unset, .unset, .unset] [])) _
        refine XS.aloadN X0.here hx rfl (hb hby d4_19) rfl (rfl) ?_
        show Steps p.tables e below (s₁.setTop (mkF m 20 #[.val (.ref a2), .val (.int (0 : Int32)), .val (.int p1), .val (.int p2), .val (.long r0), .second, .unset, .unset, .unset, .unset] [(.ref a2)])) _
        refine XS.iloadN X0.here hx rfl (hb hby d4_20) rfl ?_
        show Steps p.tables e below (s₁.setTop (mkF m 21 #[.val (.ref a2), .val (.int (0 : Int32)), .val (.int p1), .val (.int p2), .val (.long r0), .second, .unset, .unset, .unset, .unset] [(.int (0 : Int32)), (.ref a2)])) _
        refine XS.iconst X0.here hx rfl (hb hby d4_21) ?_
        show Steps p.tables e below (s₁.setTop (mkF m 22 #[.val (.ref a2), .val (.int (0 : Int32)), .val (.int p1), .val (.int p2), .val (.long r0), .second, .unset, .unset, .unset, .unset] [(.int (1 : Int32)), (.int (0 : Int32)), (.ref a2)])) _
        refine XS.iadd X0.here hx rfl (hb hby d4_22) rfl ?_
        show Steps p.tables e below (s₁.setTop (mkF m 23 #[.val (.ref a2), .val (.int (0 : Int32)), .val (.int p1), .val (.int p2), .val (.long r0), .second, .unset, .unset, .unset, .unset] [(.int (1 : Int32)), (.ref a2)])) _
        refine XS.iconst X0.here hx rfl (hb hby d4_23) ?_
        show Steps p.tables e below (s₁.setTop (mkF m 24 #[.val (.ref a2), .val (.int (0 : Int32)), .val (.int p1), .val (.int p2), .val (.long r0), .second, .unset, .unset, .unset, .unset] [(.int (3 : Int32)), (.int (1 : Int32)), (.ref a2)])) _
        refine iremM X0 hx rfl (hb hby d4_24) rfl (by decide) ?_
        show Steps p.tables e below (s₁.setTop (mkF m 25 #[.val (.ref a2), .val (.int (0 : Int32)), .val (.int p1), .val (.int p2), .val (.long r0), .second, .unset, .unset, .unset, .unset] [(.int (1 : Int32)), (.ref a2)])) _
        refine X0.laload hx (j := (1 : Int32)) (v := (.long r1)) (by rw [e0]; exact Ar.1) (State.isArrayOf_alike hZ.alike Ar.2.1) Ar.2.2 (inb_of Sz ⟨by decide, by decide⟩) t1 (g := (mkF m 25 #[.val (.ref a2), .val (.int (0 : Int32)), .val (.int p1), .val (.int p2), .val (.long r0), .second, .unset, .unset, .unset, .unset] [(.int (1 : Int32)), (.ref a2)])) rfl rfl (hb hby d4_25) _ ?_
        show Steps p.tables e below (s₁.setTop (mkF m 26 #[.val (.ref a2), .val (.int (0 : Int32)), .val (.int p1), .val (.int p2), .val (.long r0), .second, .unset, .unset, .unset, .unset] [(.long r1)])) _
        refine XS.lstore X0.here hx rfl (hb hby d4_26) rfl (l' := #[.val (.ref a2), .val (.int (0 : Int32)), .val (.int p1), .val (.int p2), .val (.long r0), .second, .val (.long r1), .second, .unset, .unset]) rfl ?_
        show Steps p.tables e below (s₁.setTop (mkF m 28 #[.val (.ref a2), .val (.int (0 : Int32)), .val (.int p1), .val (.int p2), .val (.long r0), .second, .val (.long r1), .second, .unset, .unset] [])) _
        refine XS.iloadN X0.here hx rfl (hb hby d4_28) rfl ?_
        show Steps p.tables e below (s₁.setTop (mkF m 29 #[.val (.ref a2), .val (.int (0 : Int32)), .val (.int p1), .val (.int p2), .val (.long r0), .second, .val (.long r1), .second, .unset, .unset] [(.int p2)])) _
        refine XS.iloadN X0.here hx rfl (hb hby d4_29) rfl ?_
        show Steps p.tables e below (s₁.setTop (mkF m 30 #[.val (.ref a2), .val (.int (0 : Int32)), .val (.int p1), .val (.int p2), .val (.long r0), .second, .val (.long r1), .second, .unset, .unset] [(.int (0 : Int32)), (.int p2)])) _
        refine XS.isub X0.here hx rfl (hb hby d4_30) rfl ?_
        show Steps p.tables e below (s₁.setTop (mkF m 31 #[.val (.ref a2), .val (.int (0 : Int32)), .val (.int p1), .val (.int p2), .val (.long r0), .second, .val (.long r1), .second, .unset, .unset] [(.int (p2 - (0 : Int32)))])) _
        refine XS.i2l X0.here hx rfl (hb hby d4_31) rfl ?_
        show Steps p.tables e below (s₁.setTop (mkF m 32 #[.val (.ref a2), .val (.int (0 : Int32)), .val (.int p1), .val (.int p2), .val (.long r0), .second, .val (.long r1), .second, .unset, .unset] [(.long ((p2 - (0 : Int32)).toInt64))])) _
        refine XS.lstore X0.here hx rfl (hb hby d4_32) rfl (l' := #[.val (.ref a2), .val (.int (0 : Int32)), .val (.int p1), .val (.int p2), .val (.long r0), .second, .val (.long r1), .second, .val (.long ((p2 - (0 : Int32)).toInt64)), .second]) rfl ?_
        show Steps p.tables e below (s₁.setTop (mkF m 34 #[.val (.ref a2), .val (.int (0 : Int32)), .val (.int p1), .val (.int p2), .val (.long r0), .second, .val (.long r1), .second, .val (.long ((p2 - (0 : Int32)).toInt64)), .second] [])) _
        refine XS.lload X0.here hx rfl (hb hby d4_34) rfl ?_
        show Steps p.tables e below (s₁.setTop (mkF m 36 #[.val (.ref a2), .val (.int (0 : Int32)), .val (.int p1), .val (.int p2), .val (.long r0), .second, .val (.long r1), .second, .val (.long ((p2 - (0 : Int32)).toInt64)), .second] [(.long r0)])) _
        refine X0.ldc2Long hx hown (mvT hZ (hw _ (List.mem_of_getElem? (i := 17) rfl))) (g := (mkF m 36 #[.val (.ref a2), .val (.int (0 : Int32)), .val (.int p1), .val (.int p2), .val (.long r0), .second, .val (.long r1), .second, .val (.long ((p2 - (0 : Int32)).toInt64)), .second] [(.long r0)])) rfl (hb hby d4_36) _ ?_
        show Steps p.tables e below (s₁.setTop (mkF m 39 #[.val (.ref a2), .val (.int (0 : Int32)), .val (.int p1), .val (.int p2), .val (.long r0), .second, .val (.long r1), .second, .val (.long ((p2 - (0 : Int32)).toInt64)), .second] [(.long (3 : Int64)), (.long r0)])) _
        refine XS.lload X0.here hx rfl (hb hby d4_39) rfl ?_
        show Steps p.tables e below (s₁.setTop (mkF m 41 #[.val (.ref a2), .val (.int (0 : Int32)), .val (.int p1), .val (.int p2), .val (.long r0), .second, .val (.long r1), .second, .val (.long ((p2 - (0 : Int32)).toInt64)), .second] [(.long ((p2 - (0 : Int32)).toInt64)), (.long (3 : Int64)), (.long r0)])) _
        refine XS.lmul X0.here hx rfl (hb hby d4_41) rfl ?_
        show Steps p.tables e below (s₁.setTop (mkF m 42 #[.val (.ref a2), .val (.int (0 : Int32)), .val (.int p1), .val (.int p2), .val (.long r0), .second, .val (.long r1), .second, .val (.long ((p2 - (0 : Int32)).toInt64)), .second] [(.long ((3 : Int64) * ((p2 - (0 : Int32)).toInt64))), (.long r0)])) _
        refine XS.lconst X0.here hx rfl (hb hby d4_42) ?_
        show Steps p.tables e below (s₁.setTop (mkF m 43 #[.val (.ref a2), .val (.int (0 : Int32)), .val (.int p1), .val (.int p2), .val (.long r0), .second, .val (.long r1), .second, .val (.long ((p2 - (0 : Int32)).toInt64)), .second] [(.long (1 : Int64)), (.long ((3 : Int64) * ((p2 - (0 : Int32)).toInt64))), (.long r0)])) _
        refine XS.lsub X0.here hx rfl (hb hby d4_43) rfl ?_
        show Steps p.tables e below (s₁.setTop (mkF m 44 #[.val (.ref a2), .val (.int (0 : Int32)), .val (.int p1), .val (.int p2), .val (.long r0), .second, .val (.long r1), .second, .val (.long ((p2 - (0 : Int32)).toInt64)), .second] [(.long (((3 : Int64) * ((p2 - (0 : Int32)).toInt64)) - (1 : Int64))), (.long r0)])) _
        refine XS.lmul X0.here hx rfl (hb hby d4_44) rfl ?_
        show Steps p.tables e below (s₁.setTop (mkF m 45 #[.val (.ref a2), .val (.int (0 : Int32)), .val (.int p1), .val (.int p2), .val (.long r0), .second, .val (.long r1), .second, .val (.long ((p2 - (0 : Int32)).toInt64)), .second] [(.long (r0 * (((3 : Int64) * ((p2 - (0 : Int32)).toInt64)) - (1 : Int64))))])) _
        refine XS.lload X0.here hx rfl (hb hby d4_45) rfl ?_
        show Steps p.tables e below (s₁.setTop (mkF m 47 #[.val (.ref a2), .val (.int (0 : Int32)), .val (.int p1), .val (.int p2), .val (.long r0), .second, .val (.long r1), .second, .val (.long ((p2 - (0 : Int32)).toInt64)), .second] [(.long r1), (.long (r0 * (((3 : Int64) * ((p2 - (0 : Int32)).toInt64)) - (1 : Int64))))])) _
        refine X0.ldc2Long hx hown (mvT hZ (hw _ (List.mem_of_getElem? (i := 17) rfl))) (g := (mkF m 47 #[.val (.ref a2), .val (.int (0 : Int32)), .val (.int p1), .val (.int p2), .val (.long r0), .second, .val (.long r1), .second, .val (.long ((p2 - (0 : Int32)).toInt64)), .second] [(.long r1), (.long (r0 * (((3 : Int64) * ((p2 - (0 : Int32)).toInt64)) - (1 : Int64))))])) rfl (hb hby d4_47) _ ?_
        show Steps p.tables e below (s₁.setTop (mkF m 50 #[.val (.ref a2), .val (.int (0 : Int32)), .val (.int p1), .val (.int p2), .val (.long r0), .second, .val (.long r1), .second, .val (.long ((p2 - (0 : Int32)).toInt64)), .second] [(.long (3 : Int64)), (.long r1), (.long (r0 * (((3 : Int64) * ((p2 - (0 : Int32)).toInt64)) - (1 : Int64))))])) _
        refine XS.lload X0.here hx rfl (hb hby d4_50) rfl ?_
        show Steps p.tables e below (s₁.setTop (mkF m 52 #[.val (.ref a2), .val (.int (0 : Int32)), .val (.int p1), .val (.int p2), .val (.long r0), .second, .val (.long r1), .second, .val (.long ((p2 - (0 : Int32)).toInt64)), .second] [(.long ((p2 - (0 : Int32)).toInt64)), (.long (3 : Int64)), (.long r1), (.long (r0 * (((3 : Int64) * ((p2 - (0 : Int32)).toInt64)) - (1 : Int64))))])) _
        refine XS.lmul X0.here hx rfl (hb hby d4_52) rfl ?_
        show Steps p.tables e below (s₁.setTop (mkF m 53 #[.val (.ref a2), .val (.int (0 : Int32)), .val (.int p1), .val (.int p2), .val (.long r0), .second, .val (.long r1), .second, .val (.long ((p2 - (0 : Int32)).toInt64)), .second] [(.long ((3 : Int64) * ((p2 - (0 : Int32)).toInt64))), (.long r1), (.long (r0 * (((3 : Int64) * ((p2 - (0 : Int32)).toInt64)) - (1 : Int64))))])) _
        refine X0.ldc2Long hx hown (mvT hZ (hw _ (List.mem_of_getElem? (i := 18) rfl))) (g := (mkF m 53 #[.val (.ref a2), .val (.int (0 : Int32)), .val (.int p1), .val (.int p2), .val (.long r0), .second, .val (.long r1), .second, .val (.long ((p2 - (0 : Int32)).toInt64)), .second] [(.long ((3 : Int64) * ((p2 - (0 : Int32)).toInt64))), (.long r1), (.long (r0 * (((3 : Int64) * ((p2 - (0 : Int32)).toInt64)) - (1 : Int64))))])) rfl (hb hby d4_53) _ ?_
        show Steps p.tables e below (s₁.setTop (mkF m 56 #[.val (.ref a2), .val (.int (0 : Int32)), .val (.int p1), .val (.int p2), .val (.long r0), .second, .val (.long r1), .second, .val (.long ((p2 - (0 : Int32)).toInt64)), .second] [(.long (2 : Int64)), (.long ((3 : Int64) * ((p2 - (0 : Int32)).toInt64))), (.long r1), (.long (r0 * (((3 : Int64) * ((p2 - (0 : Int32)).toInt64)) - (1 : Int64))))])) _
        refine XS.lsub X0.here hx rfl (hb hby d4_56) rfl ?_
        show Steps p.tables e below (s₁.setTop (mkF m 57 #[.val (.ref a2), .val (.int (0 : Int32)), .val (.int p1), .val (.int p2), .val (.long r0), .second, .val (.long r1), .second, .val (.long ((p2 - (0 : Int32)).toInt64)), .second] [(.long (((3 : Int64) * ((p2 - (0 : Int32)).toInt64)) - (2 : Int64))), (.long r1), (.long (r0 * (((3 : Int64) * ((p2 - (0 : Int32)).toInt64)) - (1 : Int64))))])) _
        refine XS.lmul X0.here hx rfl (hb hby d4_57) rfl ?_
        show Steps p.tables e below (s₁.setTop (mkF m 58 #[.val (.ref a2), .val (.int (0 : Int32)), .val (.int p1), .val (.int p2), .val (.long r0), .second, .val (.long r1), .second, .val (.long ((p2 - (0 : Int32)).toInt64)), .second] [(.long (r1 * (((3 : Int64) * ((p2 - (0 : Int32)).toInt64)) - (2 : Int64)))), (.long (r0 * (((3 : Int64) * ((p2 - (0 : Int32)).toInt64)) - (1 : Int64))))])) _
        refine XS.ladd X0.here hx rfl (hb hby d4_58) rfl ?_
        show Steps p.tables e below (s₁.setTop (mkF m 59 #[.val (.ref a2), .val (.int (0 : Int32)), .val (.int p1), .val (.int p2), .val (.long r0), .second, .val (.long r1), .second, .val (.long ((p2 - (0 : Int32)).toInt64)), .second] [(.long ((r0 * (((3 : Int64) * ((p2 - (0 : Int32)).toInt64)) - (1 : Int64))) + (r1 * (((3 : Int64) * ((p2 - (0 : Int32)).toInt64)) - (2 : Int64)))))])) _
        exact k
      obtain ⟨fs, hr, hrun, hended, hW, hsame⟩ := X0.leave (v := some (.long ((r0 * (((3 : Int64) * ((p2 - (0 : Int32)).toInt64)) - (1 : Int64))) + (r1 * (((3 : Int64) * ((p2 - (0 : Int32)).toInt64)) - (2 : Int64)))))) (fun h => by rw [Bd.returns] at h; cases h)
      refine ⟨_, _, pre4 _ ?_, hrun, hended, _, _, rfl, ?_, ⟨_, rfl⟩, hW, hsame.mono (by decide) (by decide)⟩
      · exact retOut X0 hx Bd.returns rfl (Or.inr (Or.inl ⟨rfl, rfl, _, rfl⟩)) (hb hby d4_59) hr
      · show Q_rmS0 Z a2 p1 p2 cl r0 r1 r2 h0 n0 _ s₁.heap _
        rw [e0]
        exact ⟨by simp [own_st, h2, h7], N0, rfl⟩
    · skip
      have pre5 : ∀ t, Steps p.tables e below (s₁.setTop (mkF m 11 #[.val (.ref a2), .val (.int (0 : Int32)), .val (.int p1), .val (.int p2), .unset, .unset, .unset, .unset, .unset, .unset] [(.long (0 : Int64))])) t → Steps p.tables e below (s₁.setTop (entryFrame m #[(.ref a2), (.int (0 : Int32)), (.int p1), (.int p2)] 10)) t := by
        intro t k
        refine pre3 t ?_
        refine XS.icmpNo X0.here hx rfl (hb hby d4_7) rfl (flt h7).1 ?_
        show Steps p.tables e below (s₁.setTop (mkF m 10 #[.val (.ref a2), .val (.int (0 : Int32)), .val (.int p1), .val (.int p2), .unset, .unset, .unset, .unset, .unset, .unset] [])) _
        refine XS.lconst X0.here hx rfl (hb hby d4_10) ?_
        show Steps p.tables e below (s₁.setTop (mkF m 11 #[.val (.ref a2), .val (.int (0 : Int32)), .val (.int p1), .val (.int p2), .unset, .unset, .unset, .unset, .unset, .unset] [(.long (0 : Int64))])) _
        exact k
      obtain ⟨fs, hr, hrun, hended, hW, hsame⟩ := X0.leave (v := some (.long (0 : Int64))) (fun h => by rw [Bd.returns] at h; cases h)
      refine ⟨_, _, pre5 _ ?_, hrun, hended, _, _, rfl, ?_, ⟨_, rfl⟩, hW, hsame.mono (by decide) (by decide)⟩
      · exact retOut X0 hx Bd.returns rfl (Or.inr (Or.inl ⟨rfl, rfl, _, rfl⟩)) (hb hby d4_11) hr
      · show Q_rmS0 Z a2 p1 p2 cl r0 r1 r2 h0 n0 _ s₁.heap _
        rw [e0]
        exact ⟨by simp [own_st, h2, h7], N0, rfl⟩
theorem ef_rmS1 (m : MethodId) (x0 : Addr) (x1 : Int32) (x2 : Int32) (x3 : Int32) : entryFrame m #[(.ref x0), (.int x1), (.int x2), (.int x3)] 10 = mkF m 0 #[.val (.ref x0), .val (.int x1), .val (.int x2), .val (.int x3), .unset, .unset, .unset, .unset, .unset, .unset] [] := by first | (simp [entryFrame, mkF, argsToLocals, Value.category]; done) | rfl
def Q_rmS1 (Z : State) (a2 : Addr) (p1 : Int32) (p2 : Int32) (cl : Cell) (r0 : Int64) (r1 : Int64) (r2 : Int64) (h0 : Heap) (n0 : Nat) (v : Option Value) (h : Heap) (L : List Loc) : Prop := v = some (.long (own_st (1 : Int32) p1 p2 r1 r2)) ∧ Fr n0 L ∧ h = h0
set_option maxRecDepth 65536 in
set_option maxHeartbeats 40000000 in
theorem rmS1 (l : Launch) (Z : State) (a0 : Array Value) (hw : ∀ d ∈ tables_1, d.before a0 Z = true) (ws : List Jvm.Cond) (a2 : Addr) (p1 : Int32) (p2 : Int32) (cl : Cell) (r0 : Int64) (r1 : Int64) (r2 : Int64) (h0 : Heap) (n0 : Nat) (Z0 : n0 ≤ h0.size) (Ar : Arr Z h0 a2 cl .long) (Sz : cl.slots.size = (3 : Int32).toNatClampNeg) (t0 : cl.slots[0]? = some (.long r0)) (t1 : cl.slots[1]? = some (.long r1)) (t2 : cl.slots[2]? = some (.long r2)) :
    MetFree l (⟨"com/example/hummingbird/hummingbird/engine/RhythmWaitingPinLaw", "step", "([JIII)J"⟩ : MethodName) (head1 (Jvm.Cond.code (⟨"com/example/hummingbird/hummingbird/engine/RhythmWaitingPinLaw", "step", "([JIII)J"⟩ : MethodName) method_2_code 10 (some .long) :: ws) ({ frames := 0, cells := 0, slots := 0, locals := 0 } : Room)) (fun a U => a = #[(.ref a2), (.int (1 : Int32)), (.int p1), (.int p2)] ∧ Z.Warmed39 U.vm ∧ U.heap = h0) (fun _ _ _ _ _ => True) (fun _ U o U' => ∃ v L, o = .returned v ∧ Q_rmS1 Z a2 p1 p2 cl r0 r1 r2 h0 n0 v U'.heap L ∧ FrameEnd U o U' L ({ frames := 0, cells := 0, slots := 0, locals := 0 } : Room).cells ({ frames := 0, cells := 0, slots := 0, locals := 0 } : Room).slots) := by
  refine MetFree.of_bodySF (plainFor_of_name pn_1) hisR ?_
  intro p e s m args below meth c s₁ Bd hml0 hP hK
  obtain ⟨rfl, hZ, hh⟩ := hP
  have hx := Bd.exec
  have hby := Bd.bytes
  have hml : c.maxLocals = 10 := hml0
  have hown : s.vm.findClass "com/example/hummingbird/hummingbird/engine/RhythmWaitingPinLaw" = some m.cls := (findClass_of_methodNamed Bd.named :)
  have hnm := (name_of_methodNamed Bd.named Bd.method).1
  have X0 : Stand p l e ({ frames := 0, cells := 0, slots := 0, locals := 0 } : Room) s m #[(.ref a2), (.int (1 : Int32)), (.int p1), (.int p2)] below meth c s₁ [] 0 0 := Stand.of_body Bd
  have e0 : s₁.heap = h0 := by rw [← hh, Bd.state]; rfl
  have N0 := Fr.nil n0
  have pre0 : ∀ t, Steps p.tables e below (s₁.setTop (mkF m 0 #[.val (.ref a2), .val (.int (1 : Int32)), .val (.int p1), .val (.int p2), .unset, .unset, .unset, .unset, .unset, .unset] [])) t → Steps p.tables e below (s₁.setTop (entryFrame m #[(.ref a2), (.int (1 : Int32)), (.int p1), (.int p2)] 10)) t := fun t k => castTop (ef_rmS1 m a2 (1 : Int32) p1 p2) k
  have pre1 : ∀ t, Steps p.tables e below (s₁.setTop (mkF m 2 #[.val (.ref a2), .val (.int (1 : Int32)), .val (.int p1), .val (.int p2), .unset, .unset, .unset, .unset, .unset, .unset] [(.int p1), (.int (1 : Int32))])) t → Steps p.tables e below (s₁.setTop (entryFrame m #[(.ref a2), (.int (1 : Int32)), (.int p1), (.int p2)] 10)) t := by
    intro t k
    refine pre0 t ?_
    show Steps p.tables e below (s₁.setTop (mkF m 0 #[.val (.ref a2), .val (.int (1 : Int32)), .val (.int p1), .val (.int p2), .unset, .unset, .unset, .unset, .unset, .unset] [])) _
    refine XS.iloadN X0.here hx rfl (hb hby d4_0) rfl ?_
    show Steps p.tables e below (s₁.setTop (mkF m 1 #[.val (.ref a2), .val (.int (1 : Int32)), .val (.int p1), .val (.int p2), .unset, .unset, .unset, .unset, .unset, .unset] [(.int (1 : Int32))])) _
    refine XS.iloadN X0.here hx rfl (hb hby d4_1) rfl ?_
    show Steps p.tables e below (s₁.setTop (mkF m 2 #[.val (.ref a2), .val (.int (1 : Int32)), .val (.int p1), .val (.int p2), .unset, .unset, .unset, .unset, .unset, .unset] [(.int p1), (.int (1 : Int32))])) _
    exact k
  by_cases h2 : (1 : Int32) < p1
  · skip
    have pre2 : ∀ t, Steps p.tables e below (s₁.setTop (mkF m 11 #[.val (.ref a2), .val (.int (1 : Int32)), .val (.int p1), .val (.int p2), .unset, .unset, .unset, .unset, .unset, .unset] [(.long (0 : Int64))])) t → Steps p.tables e below (s₁.setTop (entryFrame m #[(.ref a2), (.int (1 : Int32)), (.int p1), (.int p2)] 10)) t := by
      intro t k
      refine pre1 t ?_
      refine XS.icmpYes X0.here hx rfl (pc0 := 2) (pc' := 10) rfl (hb hby d4_2) rfl (tlt h2).1 (by decide) (by decide) ?_
      show Steps p.tables e below (s₁.setTop (mkF m 10 #[.val (.ref a2), .val (.int (1 : Int32)), .val (.int p1), .val (.int p2), .unset, .unset, .unset, .unset, .unset, .unset] [])) _
      refine XS.lconst X0.here hx rfl (hb hby d4_10) ?_
      show Steps p.tables e below (s₁.setTop (mkF m 11 #[.val (.ref a2), .val (.int (1 : Int32)), .val (.int p1), .val (.int p2), .unset, .unset, .unset, .unset, .unset, .unset] [(.long (0 : Int64))])) _
      exact k
    obtain ⟨fs, hr, hrun, hended, hW, hsame⟩ := X0.leave (v := some (.long (0 : Int64))) (fun h => by rw [Bd.returns] at h; cases h)
    refine ⟨_, _, pre2 _ ?_, hrun, hended, _, _, rfl, ?_, ⟨_, rfl⟩, hW, hsame.mono (by decide) (by decide)⟩
    · exact retOut X0 hx Bd.returns rfl (Or.inr (Or.inl ⟨rfl, rfl, _, rfl⟩)) (hb hby d4_11) hr
    · show Q_rmS1 Z a2 p1 p2 cl r0 r1 r2 h0 n0 _ s₁.heap _
      rw [e0]
      exact ⟨by simp [own_st, h2], N0, rfl⟩
  · skip
    have pre3 : ∀ t, Steps p.tables e below (s₁.setTop (mkF m 7 #[.val (.ref a2), .val (.int (1 : Int32)), .val (.int p1), .val (.int p2), .unset, .unset, .unset, .unset, .unset, .unset] [(.int p2), (.int (1 : Int32))])) t → Steps p.tables e below (s₁.setTop (entryFrame m #[(.ref a2), (.int (1 : Int32)), (.int p1), (.int p2)] 10)) t := by
      intro t k
      refine pre1 t ?_
      refine XS.icmpNo X0.here hx rfl (hb hby d4_2) rfl (flt h2).1 ?_
      show Steps p.tables e below (s₁.setTop (mkF m 5 #[.val (.ref a2), .val (.int (1 : Int32)), .val (.int p1), .val (.int p2), .unset, .unset, .unset, .unset, .unset, .unset] [])) _
      refine XS.iloadN X0.here hx rfl (hb hby d4_5) rfl ?_
      show Steps p.tables e below (s₁.setTop (mkF m 6 #[.val (.ref a2), .val (.int (1 : Int32)), .val (.int p1), .val (.int p2), .unset, .unset, .unset, .unset, .unset, .unset] [(.int (1 : Int32))])) _
      refine XS.iloadN X0.here hx rfl (hb hby d4_6) rfl ?_
      show Steps p.tables e below (s₁.setTop (mkF m 7 #[.val (.ref a2), .val (.int (1 : Int32)), .val (.int p1), .val (.int p2), .unset, .unset, .unset, .unset, .unset, .unset] [(.int p2), (.int (1 : Int32))])) _
      exact k
    by_cases h7 : (1 : Int32) < p2
    · skip
      have pre4 : ∀ t, Steps p.tables e below (s₁.setTop (mkF m 59 #[.val (.ref a2), .val (.int (1 : Int32)), .val (.int p1), .val (.int p2), .val (.long r1), .second, .val (.long r2), .second, .val (.long ((p2 - (1 : Int32)).toInt64)), .second] [(.long ((r1 * (((3 : Int64) * ((p2 - (1 : Int32)).toInt64)) - (1 : Int64))) + (r2 * (((3 : Int64) * ((p2 - (1 : Int32)).toInt64)) - (2 : Int64)))))])) t → Steps p.tables e below (s₁.setTop (entryFrame m #[(.ref a2), (.int (1 : Int32)), (.int p1), (.int p2)] 10)) t := by
        intro t k
        refine pre3 t ?_
        refine XS.icmpYes X0.here hx rfl (pc0 := 7) (pc' := 12) rfl (hb hby d4_7) rfl (tlt h7).1 (by decide) (by decide) ?_
        show Steps p.tables e below (s₁.setTop (mkF m 12 #[.val (.ref a2), .val (.int (1 : Int32)), .val (.int p1), .val (.int p2), .unset, .unset, .unset, .unset, .unset, .unset] [])) _
        refine XS.aloadN X0.here hx rfl (hb hby d4_12) rfl (rfl) ?_
        show Steps p.tables e below (s₁.setTop (mkF m 13 #[.val (.ref a2), .val (.int (1 : Int32)), .val (.int p1), .val (.int p2), .unset, .unset, .unset, .unset, .unset, .unset] [(.ref a2)])) _
        refine XS.iloadN X0.here hx rfl (hb hby d4_13) rfl ?_
        show Steps p.tables e below (s₁.setTop (mkF m 14 #[.val (.ref a2), .val (.int (1 : Int32)), .val (.int p1), .val (.int p2), .unset, .unset, .unset, .unset, .unset, .unset] [(.int (1 : Int32)), (.ref a2)])) _
        refine XS.iconst X0.here hx rfl (hb hby d4_14) ?_
        show Steps p.tables e below (s₁.setTop (mkF m 15 #[.val (.ref a2), .val (.int (1 : Int32)), .val (.int p1), .val (.int p2), .unset, .unset, .unset, .unset, .unset, .unset] [(.int (3 : Int32)), (.int (1 : Int32)), (.ref a2)])) _
        refine iremM X0 hx rfl (hb hby d4_15) rfl (by decide) ?_
        show Steps p.tables e below (s₁.setTop (mkF m 16 #[.val (.ref a2), .val (.int (1 : Int32)), .val (.int p1), .val (.int p2), .unset, .unset, .unset, .unset, .unset, .unset] [(.int (1 : Int32)), (.ref a2)])) _
        refine X0.laload hx (j := (1 : Int32)) (v := (.long r1)) (by rw [e0]; exact Ar.1) (State.isArrayOf_alike hZ.alike Ar.2.1) Ar.2.2 (inb_of Sz ⟨by decide, by decide⟩) t1 (g := (mkF m 16 #[.val (.ref a2), .val (.int (1 : Int32)), .val (.int p1), .val (.int p2), .unset, .unset, .unset, .unset, .unset, .unset] [(.int (1 : Int32)), (.ref a2)])) rfl rfl (hb hby d4_16) _ ?_
        show Steps p.tables e below (s₁.setTop (mkF m 17 #[.val (.ref a2), .val (.int (1 : Int32)), .val (.int p1), .val (.int p2), .unset, .unset, .unset, .unset, .unset, .unset] [(.long r1)])) _
        refine XS.lstore X0.here hx rfl (hb hby d4_17) rfl (l' := #[.val (.ref a2), .val (.int (1 : Int32)), .val (.int p1), .val (.int p2), .val (.long r1), .second, .unset, .unset, .unset, .unset]) rfl ?_
        show Steps p.tables e below (s₁.setTop (mkF m 19 #[.val (.ref a2), .val (.int (1 : Int32)), .val (.int p1), .val (.int p2), .val (.long r1), .second, .unset, .unset, .unset, .unset] [])) _
        refine XS.aloadN X0.here hx rfl (hb hby d4_19) rfl (rfl) ?_
        show Steps p.tables e below (s₁.setTop (mkF m 20 #[.val (.ref a2), .val (.int (1 : Int32)), .val (.int p1), .val (.int p2), .val (.long r1), .second, .unset, .unset, .unset, .unset] [(.ref a2)])) _
        refine XS.iloadN X0.here hx rfl (hb hby d4_20) rfl ?_
        show Steps p.tables e below (s₁.setTop (mkF m 21 #[.val (.ref a2), .val (.int (1 : Int32)), .val (.int p1), .val (.int p2), .val (.long r1), .second, .unset, .unset, .unset, .unset] [(.int (1 : Int32)), (.ref a2)])) _
        refine XS.iconst X0.here hx rfl (hb hby d4_21) ?_
        show Steps p.tables e below (s₁.setTop (mkF m 22 #[.val (.ref a2), .val (.int (1 : Int32)), .val (.int p1), .val (.int p2), .val (.long r1), .second, .unset, .unset, .unset, .unset] [(.int (1 : Int32)), (.int (1 : Int32)), (.ref a2)])) _
        refine XS.iadd X0.here hx rfl (hb hby d4_22) rfl ?_
        show Steps p.tables e below (s₁.setTop (mkF m 23 #[.val (.ref a2), .val (.int (1 : Int32)), .val (.int p1), .val (.int p2), .val (.long r1), .second, .unset, .unset, .unset, .unset] [(.int (2 : Int32)), (.ref a2)])) _
        refine XS.iconst X0.here hx rfl (hb hby d4_23) ?_
        show Steps p.tables e below (s₁.setTop (mkF m 24 #[.val (.ref a2), .val (.int (1 : Int32)), .val (.int p1), .val (.int p2), .val (.long r1), .second, .unset, .unset, .unset, .unset] [(.int (3 : Int32)), (.int (2 : Int32)), (.ref a2)])) _
        refine iremM X0 hx rfl (hb hby d4_24) rfl (by decide) ?_
        show Steps p.tables e below (s₁.setTop (mkF m 25 #[.val (.ref a2), .val (.int (1 : Int32)), .val (.int p1), .val (.int p2), .val (.long r1), .second, .unset, .unset, .unset, .unset] [(.int (2 : Int32)), (.ref a2)])) _
        refine X0.laload hx (j := (2 : Int32)) (v := (.long r2)) (by rw [e0]; exact Ar.1) (State.isArrayOf_alike hZ.alike Ar.2.1) Ar.2.2 (inb_of Sz ⟨by decide, by decide⟩) t2 (g := (mkF m 25 #[.val (.ref a2), .val (.int (1 : Int32)), .val (.int p1), .val (.int p2), .val (.long r1), .second, .unset, .unset, .unset, .unset] [(.int (2 : Int32)), (.ref a2)])) rfl rfl (hb hby d4_25) _ ?_
        show Steps p.tables e below (s₁.setTop (mkF m 26 #[.val (.ref a2), .val (.int (1 : Int32)), .val (.int p1), .val (.int p2), .val (.long r1), .second, .unset, .unset, .unset, .unset] [(.long r2)])) _
        refine XS.lstore X0.here hx rfl (hb hby d4_26) rfl (l' := #[.val (.ref a2), .val (.int (1 : Int32)), .val (.int p1), .val (.int p2), .val (.long r1), .second, .val (.long r2), .second, .unset, .unset]) rfl ?_
        show Steps p.tables e below (s₁.setTop (mkF m 28 #[.val (.ref a2), .val (.int (1 : Int32)), .val (.int p1), .val (.int p2), .val (.long r1), .second, .val (.long r2), .second, .unset, .unset] [])) _
        refine XS.iloadN X0.here hx rfl (hb hby d4_28) rfl ?_
        show Steps p.tables e below (s₁.setTop (mkF m 29 #[.val (.ref a2), .val (.int (1 : Int32)), .val (.int p1), .val (.int p2), .val (.long r1), .second, .val (.long r2), .second, .unset, .unset] [(.int p2)])) _
        refine XS.iloadN X0.here hx rfl (hb hby d4_29) rfl ?_
        show Steps p.tables e below (s₁.setTop (mkF m 30 #[.val (.ref a2), .val (.int (1 : Int32)), .val (.int p1), .val (.int p2), .val (.long r1), .second, .val (.long r2), .second, .unset, .unset] [(.int (1 : Int32)), (.int p2)])) _
        refine XS.isub X0.here hx rfl (hb hby d4_30) rfl ?_
        show Steps p.tables e below (s₁.setTop (mkF m 31 #[.val (.ref a2), .val (.int (1 : Int32)), .val (.int p1), .val (.int p2), .val (.long r1), .second, .val (.long r2), .second, .unset, .unset] [(.int (p2 - (1 : Int32)))])) _
        refine XS.i2l X0.here hx rfl (hb hby d4_31) rfl ?_
        show Steps p.tables e below (s₁.setTop (mkF m 32 #[.val (.ref a2), .val (.int (1 : Int32)), .val (.int p1), .val (.int p2), .val (.long r1), .second, .val (.long r2), .second, .unset, .unset] [(.long ((p2 - (1 : Int32)).toInt64))])) _
        refine XS.lstore X0.here hx rfl (hb hby d4_32) rfl (l' := #[.val (.ref a2), .val (.int (1 : Int32)), .val (.int p1), .val (.int p2), .val (.long r1), .second, .val (.long r2), .second, .val (.long ((p2 - (1 : Int32)).toInt64)), .second]) rfl ?_
        show Steps p.tables e below (s₁.setTop (mkF m 34 #[.val (.ref a2), .val (.int (1 : Int32)), .val (.int p1), .val (.int p2), .val (.long r1), .second, .val (.long r2), .second, .val (.long ((p2 - (1 : Int32)).toInt64)), .second] [])) _
        refine XS.lload X0.here hx rfl (hb hby d4_34) rfl ?_
        show Steps p.tables e below (s₁.setTop (mkF m 36 #[.val (.ref a2), .val (.int (1 : Int32)), .val (.int p1), .val (.int p2), .val (.long r1), .second, .val (.long r2), .second, .val (.long ((p2 - (1 : Int32)).toInt64)), .second] [(.long r1)])) _
        refine X0.ldc2Long hx hown (mvT hZ (hw _ (List.mem_of_getElem? (i := 17) rfl))) (g := (mkF m 36 #[.val (.ref a2), .val (.int (1 : Int32)), .val (.int p1), .val (.int p2), .val (.long r1), .second, .val (.long r2), .second, .val (.long ((p2 - (1 : Int32)).toInt64)), .second] [(.long r1)])) rfl (hb hby d4_36) _ ?_
        show Steps p.tables e below (s₁.setTop (mkF m 39 #[.val (.ref a2), .val (.int (1 : Int32)), .val (.int p1), .val (.int p2), .val (.long r1), .second, .val (.long r2), .second, .val (.long ((p2 - (1 : Int32)).toInt64)), .second] [(.long (3 : Int64)), (.long r1)])) _
        refine XS.lload X0.here hx rfl (hb hby d4_39) rfl ?_
        show Steps p.tables e below (s₁.setTop (mkF m 41 #[.val (.ref a2), .val (.int (1 : Int32)), .val (.int p1), .val (.int p2), .val (.long r1), .second, .val (.long r2), .second, .val (.long ((p2 - (1 : Int32)).toInt64)), .second] [(.long ((p2 - (1 : Int32)).toInt64)), (.long (3 : Int64)), (.long r1)])) _
        refine XS.lmul X0.here hx rfl (hb hby d4_41) rfl ?_
        show Steps p.tables e below (s₁.setTop (mkF m 42 #[.val (.ref a2), .val (.int (1 : Int32)), .val (.int p1), .val (.int p2), .val (.long r1), .second, .val (.long r2), .second, .val (.long ((p2 - (1 : Int32)).toInt64)), .second] [(.long ((3 : Int64) * ((p2 - (1 : Int32)).toInt64))), (.long r1)])) _
        refine XS.lconst X0.here hx rfl (hb hby d4_42) ?_
        show Steps p.tables e below (s₁.setTop (mkF m 43 #[.val (.ref a2), .val (.int (1 : Int32)), .val (.int p1), .val (.int p2), .val (.long r1), .second, .val (.long r2), .second, .val (.long ((p2 - (1 : Int32)).toInt64)), .second] [(.long (1 : Int64)), (.long ((3 : Int64) * ((p2 - (1 : Int32)).toInt64))), (.long r1)])) _
        refine XS.lsub X0.here hx rfl (hb hby d4_43) rfl ?_
        show Steps p.tables e below (s₁.setTop (mkF m 44 #[.val (.ref a2), .val (.int (1 : Int32)), .val (.int p1), .val (.int p2), .val (.long r1), .second, .val (.long r2), .second, .val (.long ((p2 - (1 : Int32)).toInt64)), .second] [(.long (((3 : Int64) * ((p2 - (1 : Int32)).toInt64)) - (1 : Int64))), (.long r1)])) _
        refine XS.lmul X0.here hx rfl (hb hby d4_44) rfl ?_
        show Steps p.tables e below (s₁.setTop (mkF m 45 #[.val (.ref a2), .val (.int (1 : Int32)), .val (.int p1), .val (.int p2), .val (.long r1), .second, .val (.long r2), .second, .val (.long ((p2 - (1 : Int32)).toInt64)), .second] [(.long (r1 * (((3 : Int64) * ((p2 - (1 : Int32)).toInt64)) - (1 : Int64))))])) _
        refine XS.lload X0.here hx rfl (hb hby d4_45) rfl ?_
        show Steps p.tables e below (s₁.setTop (mkF m 47 #[.val (.ref a2), .val (.int (1 : Int32)), .val (.int p1), .val (.int p2), .val (.long r1), .second, .val (.long r2), .second, .val (.long ((p2 - (1 : Int32)).toInt64)), .second] [(.long r2), (.long (r1 * (((3 : Int64) * ((p2 - (1 : Int32)).toInt64)) - (1 : Int64))))])) _
        refine X0.ldc2Long hx hown (mvT hZ (hw _ (List.mem_of_getElem? (i := 17) rfl))) (g := (mkF m 47 #[.val (.ref a2), .val (.int (1 : Int32)), .val (.int p1), .val (.int p2), .val (.long r1), .second, .val (.long r2), .second, .val (.long ((p2 - (1 : Int32)).toInt64)), .second] [(.long r2), (.long (r1 * (((3 : Int64) * ((p2 - (1 : Int32)).toInt64)) - (1 : Int64))))])) rfl (hb hby d4_47) _ ?_
        show Steps p.tables e below (s₁.setTop (mkF m 50 #[.val (.ref a2), .val (.int (1 : Int32)), .val (.int p1), .val (.int p2), .val (.long r1), .second, .val (.long r2), .second, .val (.long ((p2 - (1 : Int32)).toInt64)), .second] [(.long (3 : Int64)), (.long r2), (.long (r1 * (((3 : Int64) * ((p2 - (1 : Int32)).toInt64)) - (1 : Int64))))])) _
        refine XS.lload X0.here hx rfl (hb hby d4_50) rfl ?_
        show Steps p.tables e below (s₁.setTop (mkF m 52 #[.val (.ref a2), .val (.int (1 : Int32)), .val (.int p1), .val (.int p2), .val (.long r1), .second, .val (.long r2), .second, .val (.long ((p2 - (1 : Int32)).toInt64)), .second] [(.long ((p2 - (1 : Int32)).toInt64)), (.long (3 : Int64)), (.long r2), (.long (r1 * (((3 : Int64) * ((p2 - (1 : Int32)).toInt64)) - (1 : Int64))))])) _
        refine XS.lmul X0.here hx rfl (hb hby d4_52) rfl ?_
        show Steps p.tables e below (s₁.setTop (mkF m 53 #[.val (.ref a2), .val (.int (1 : Int32)), .val (.int p1), .val (.int p2), .val (.long r1), .second, .val (.long r2), .second, .val (.long ((p2 - (1 : Int32)).toInt64)), .second] [(.long ((3 : Int64) * ((p2 - (1 : Int32)).toInt64))), (.long r2), (.long (r1 * (((3 : Int64) * ((p2 - (1 : Int32)).toInt64)) - (1 : Int64))))])) _
        refine X0.ldc2Long hx hown (mvT hZ (hw _ (List.mem_of_getElem? (i := 18) rfl))) (g := (mkF m 53 #[.val (.ref a2), .val (.int (1 : Int32)), .val (.int p1), .val (.int p2), .val (.long r1), .second, .val (.long r2), .second, .val (.long ((p2 - (1 : Int32)).toInt64)), .second] [(.long ((3 : Int64) * ((p2 - (1 : Int32)).toInt64))), (.long r2), (.long (r1 * (((3 : Int64) * ((p2 - (1 : Int32)).toInt64)) - (1 : Int64))))])) rfl (hb hby d4_53) _ ?_
        show Steps p.tables e below (s₁.setTop (mkF m 56 #[.val (.ref a2), .val (.int (1 : Int32)), .val (.int p1), .val (.int p2), .val (.long r1), .second, .val (.long r2), .second, .val (.long ((p2 - (1 : Int32)).toInt64)), .second] [(.long (2 : Int64)), (.long ((3 : Int64) * ((p2 - (1 : Int32)).toInt64))), (.long r2), (.long (r1 * (((3 : Int64) * ((p2 - (1 : Int32)).toInt64)) - (1 : Int64))))])) _
        refine XS.lsub X0.here hx rfl (hb hby d4_56) rfl ?_
        show Steps p.tables e below (s₁.setTop (mkF m 57 #[.val (.ref a2), .val (.int (1 : Int32)), .val (.int p1), .val (.int p2), .val (.long r1), .second, .val (.long r2), .second, .val (.long ((p2 - (1 : Int32)).toInt64)), .second] [(.long (((3 : Int64) * ((p2 - (1 : Int32)).toInt64)) - (2 : Int64))), (.long r2), (.long (r1 * (((3 : Int64) * ((p2 - (1 : Int32)).toInt64)) - (1 : Int64))))])) _
        refine XS.lmul X0.here hx rfl (hb hby d4_57) rfl ?_
        show Steps p.tables e below (s₁.setTop (mkF m 58 #[.val (.ref a2), .val (.int (1 : Int32)), .val (.int p1), .val (.int p2), .val (.long r1), .second, .val (.long r2), .second, .val (.long ((p2 - (1 : Int32)).toInt64)), .second] [(.long (r2 * (((3 : Int64) * ((p2 - (1 : Int32)).toInt64)) - (2 : Int64)))), (.long (r1 * (((3 : Int64) * ((p2 - (1 : Int32)).toInt64)) - (1 : Int64))))])) _
        refine XS.ladd X0.here hx rfl (hb hby d4_58) rfl ?_
        show Steps p.tables e below (s₁.setTop (mkF m 59 #[.val (.ref a2), .val (.int (1 : Int32)), .val (.int p1), .val (.int p2), .val (.long r1), .second, .val (.long r2), .second, .val (.long ((p2 - (1 : Int32)).toInt64)), .second] [(.long ((r1 * (((3 : Int64) * ((p2 - (1 : Int32)).toInt64)) - (1 : Int64))) + (r2 * (((3 : Int64) * ((p2 - (1 : Int32)).toInt64)) - (2 : Int64)))))])) _
        exact k
      obtain ⟨fs, hr, hrun, hended, hW, hsame⟩ := X0.leave (v := some (.long ((r1 * (((3 : Int64) * ((p2 - (1 : Int32)).toInt64)) - (1 : Int64))) + (r2 * (((3 : Int64) * ((p2 - (1 : Int32)).toInt64)) - (2 : Int64)))))) (fun h => by rw [Bd.returns] at h; cases h)
      refine ⟨_, _, pre4 _ ?_, hrun, hended, _, _, rfl, ?_, ⟨_, rfl⟩, hW, hsame.mono (by decide) (by decide)⟩
      · exact retOut X0 hx Bd.returns rfl (Or.inr (Or.inl ⟨rfl, rfl, _, rfl⟩)) (hb hby d4_59) hr
      · show Q_rmS1 Z a2 p1 p2 cl r0 r1 r2 h0 n0 _ s₁.heap _
        rw [e0]
        exact ⟨by simp [own_st, h2, h7], N0, rfl⟩
    · skip
      have pre5 : ∀ t, Steps p.tables e below (s₁.setTop (mkF m 11 #[.val (.ref a2), .val (.int (1 : Int32)), .val (.int p1), .val (.int p2), .unset, .unset, .unset, .unset, .unset, .unset] [(.long (0 : Int64))])) t → Steps p.tables e below (s₁.setTop (entryFrame m #[(.ref a2), (.int (1 : Int32)), (.int p1), (.int p2)] 10)) t := by
        intro t k
        refine pre3 t ?_
        refine XS.icmpNo X0.here hx rfl (hb hby d4_7) rfl (flt h7).1 ?_
        show Steps p.tables e below (s₁.setTop (mkF m 10 #[.val (.ref a2), .val (.int (1 : Int32)), .val (.int p1), .val (.int p2), .unset, .unset, .unset, .unset, .unset, .unset] [])) _
        refine XS.lconst X0.here hx rfl (hb hby d4_10) ?_
        show Steps p.tables e below (s₁.setTop (mkF m 11 #[.val (.ref a2), .val (.int (1 : Int32)), .val (.int p1), .val (.int p2), .unset, .unset, .unset, .unset, .unset, .unset] [(.long (0 : Int64))])) _
        exact k
      obtain ⟨fs, hr, hrun, hended, hW, hsame⟩ := X0.leave (v := some (.long (0 : Int64))) (fun h => by rw [Bd.returns] at h; cases h)
      refine ⟨_, _, pre5 _ ?_, hrun, hended, _, _, rfl, ?_, ⟨_, rfl⟩, hW, hsame.mono (by decide) (by decide)⟩
      · exact retOut X0 hx Bd.returns rfl (Or.inr (Or.inl ⟨rfl, rfl, _, rfl⟩)) (hb hby d4_11) hr
      · show Q_rmS1 Z a2 p1 p2 cl r0 r1 r2 h0 n0 _ s₁.heap _
        rw [e0]
        exact ⟨by simp [own_st, h2, h7], N0, rfl⟩
theorem ef_rmS2 (m : MethodId) (x0 : Addr) (x1 : Int32) (x2 : Int32) (x3 : Int32) : entryFrame m #[(.ref x0), (.int x1), (.int x2), (.int x3)] 10 = mkF m 0 #[.val (.ref x0), .val (.int x1), .val (.int x2), .val (.int x3), .unset, .unset, .unset, .unset, .unset, .unset] [] := by first | (simp [entryFrame, mkF, argsToLocals, Value.category]; done) | rfl
def Q_rmS2 (Z : State) (a2 : Addr) (p1 : Int32) (p2 : Int32) (cl : Cell) (r0 : Int64) (r1 : Int64) (r2 : Int64) (h0 : Heap) (n0 : Nat) (v : Option Value) (h : Heap) (L : List Loc) : Prop := v = some (.long (own_st (2 : Int32) p1 p2 r2 r0)) ∧ Fr n0 L ∧ h = h0
set_option maxRecDepth 65536 in
set_option maxHeartbeats 40000000 in
theorem rmS2 (l : Launch) (Z : State) (a0 : Array Value) (hw : ∀ d ∈ tables_1, d.before a0 Z = true) (ws : List Jvm.Cond) (a2 : Addr) (p1 : Int32) (p2 : Int32) (cl : Cell) (r0 : Int64) (r1 : Int64) (r2 : Int64) (h0 : Heap) (n0 : Nat) (Z0 : n0 ≤ h0.size) (Ar : Arr Z h0 a2 cl .long) (Sz : cl.slots.size = (3 : Int32).toNatClampNeg) (t0 : cl.slots[0]? = some (.long r0)) (t1 : cl.slots[1]? = some (.long r1)) (t2 : cl.slots[2]? = some (.long r2)) :
    MetFree l (⟨"com/example/hummingbird/hummingbird/engine/RhythmWaitingPinLaw", "step", "([JIII)J"⟩ : MethodName) (head1 (Jvm.Cond.code (⟨"com/example/hummingbird/hummingbird/engine/RhythmWaitingPinLaw", "step", "([JIII)J"⟩ : MethodName) method_2_code 10 (some .long) :: ws) ({ frames := 0, cells := 0, slots := 0, locals := 0 } : Room)) (fun a U => a = #[(.ref a2), (.int (2 : Int32)), (.int p1), (.int p2)] ∧ Z.Warmed39 U.vm ∧ U.heap = h0) (fun _ _ _ _ _ => True) (fun _ U o U' => ∃ v L, o = .returned v ∧ Q_rmS2 Z a2 p1 p2 cl r0 r1 r2 h0 n0 v U'.heap L ∧ FrameEnd U o U' L ({ frames := 0, cells := 0, slots := 0, locals := 0 } : Room).cells ({ frames := 0, cells := 0, slots := 0, locals := 0 } : Room).slots) := by
  refine MetFree.of_bodySF (plainFor_of_name pn_1) hisR ?_
  intro p e s m args below meth c s₁ Bd hml0 hP hK
  obtain ⟨rfl, hZ, hh⟩ := hP
  have hx := Bd.exec
  have hby := Bd.bytes
  have hml : c.maxLocals = 10 := hml0
  have hown : s.vm.findClass "com/example/hummingbird/hummingbird/engine/RhythmWaitingPinLaw" = some m.cls := (findClass_of_methodNamed Bd.named :)
  have hnm := (name_of_methodNamed Bd.named Bd.method).1
  have X0 : Stand p l e ({ frames := 0, cells := 0, slots := 0, locals := 0 } : Room) s m #[(.ref a2), (.int (2 : Int32)), (.int p1), (.int p2)] below meth c s₁ [] 0 0 := Stand.of_body Bd
  have e0 : s₁.heap = h0 := by rw [← hh, Bd.state]; rfl
  have N0 := Fr.nil n0
  have pre0 : ∀ t, Steps p.tables e below (s₁.setTop (mkF m 0 #[.val (.ref a2), .val (.int (2 : Int32)), .val (.int p1), .val (.int p2), .unset, .unset, .unset, .unset, .unset, .unset] [])) t → Steps p.tables e below (s₁.setTop (entryFrame m #[(.ref a2), (.int (2 : Int32)), (.int p1), (.int p2)] 10)) t := fun t k => castTop (ef_rmS2 m a2 (2 : Int32) p1 p2) k
  have pre1 : ∀ t, Steps p.tables e below (s₁.setTop (mkF m 2 #[.val (.ref a2), .val (.int (2 : Int32)), .val (.int p1), .val (.int p2), .unset, .unset, .unset, .unset, .unset, .unset] [(.int p1), (.int (2 : Int32))])) t → Steps p.tables e below (s₁.setTop (entryFrame m #[(.ref a2), (.int (2 : Int32)), (.int p1), (.int p2)] 10)) t := by
    intro t k
    refine pre0 t ?_
    show Steps p.tables e below (s₁.setTop (mkF m 0 #[.val (.ref a2), .val (.int (2 : Int32)), .val (.int p1), .val (.int p2), .unset, .unset, .unset, .unset, .unset, .unset] [])) _
    refine XS.iloadN X0.here hx rfl (hb hby d4_0) rfl ?_
    show Steps p.tables e below (s₁.setTop (mkF m 1 #[.val (.ref a2), .val (.int (2 : Int32)), .val (.int p1), .val (.int p2), .unset, .unset, .unset, .unset, .unset, .unset] [(.int (2 : Int32))])) _
    refine XS.iloadN X0.here hx rfl (hb hby d4_1) rfl ?_
    show Steps p.tables e below (s₁.setTop (mkF m 2 #[.val (.ref a2), .val (.int (2 : Int32)), .val (.int p1), .val (.int p2), .unset, .unset, .unset, .unset, .unset, .unset] [(.int p1), (.int (2 : Int32))])) _
    exact k
  by_cases h2 : (2 : Int32) < p1
  · skip
    have pre2 : ∀ t, Steps p.tables e below (s₁.setTop (mkF m 11 #[.val (.ref a2), .val (.int (2 : Int32)), .val (.int p1), .val (.int p2), .unset, .unset, .unset, .unset, .unset, .unset] [(.long (0 : Int64))])) t → Steps p.tables e below (s₁.setTop (entryFrame m #[(.ref a2), (.int (2 : Int32)), (.int p1), (.int p2)] 10)) t := by
      intro t k
      refine pre1 t ?_
      refine XS.icmpYes X0.here hx rfl (pc0 := 2) (pc' := 10) rfl (hb hby d4_2) rfl (tlt h2).1 (by decide) (by decide) ?_
      show Steps p.tables e below (s₁.setTop (mkF m 10 #[.val (.ref a2), .val (.int (2 : Int32)), .val (.int p1), .val (.int p2), .unset, .unset, .unset, .unset, .unset, .unset] [])) _
      refine XS.lconst X0.here hx rfl (hb hby d4_10) ?_
      show Steps p.tables e below (s₁.setTop (mkF m 11 #[.val (.ref a2), .val (.int (2 : Int32)), .val (.int p1), .val (.int p2), .unset, .unset, .unset, .unset, .unset, .unset] [(.long (0 : Int64))])) _
      exact k
    obtain ⟨fs, hr, hrun, hended, hW, hsame⟩ := X0.leave (v := some (.long (0 : Int64))) (fun h => by rw [Bd.returns] at h; cases h)
    refine ⟨_, _, pre2 _ ?_, hrun, hended, _, _, rfl, ?_, ⟨_, rfl⟩, hW, hsame.mono (by decide) (by decide)⟩
    · exact retOut X0 hx Bd.returns rfl (Or.inr (Or.inl ⟨rfl, rfl, _, rfl⟩)) (hb hby d4_11) hr
    · show Q_rmS2 Z a2 p1 p2 cl r0 r1 r2 h0 n0 _ s₁.heap _
      rw [e0]
      exact ⟨by simp [own_st, h2], N0, rfl⟩
  · skip
    have pre3 : ∀ t, Steps p.tables e below (s₁.setTop (mkF m 7 #[.val (.ref a2), .val (.int (2 : Int32)), .val (.int p1), .val (.int p2), .unset, .unset, .unset, .unset, .unset, .unset] [(.int p2), (.int (2 : Int32))])) t → Steps p.tables e below (s₁.setTop (entryFrame m #[(.ref a2), (.int (2 : Int32)), (.int p1), (.int p2)] 10)) t := by
      intro t k
      refine pre1 t ?_
      refine XS.icmpNo X0.here hx rfl (hb hby d4_2) rfl (flt h2).1 ?_
      show Steps p.tables e below (s₁.setTop (mkF m 5 #[.val (.ref a2), .val (.int (2 : Int32)), .val (.int p1), .val (.int p2), .unset, .unset, .unset, .unset, .unset, .unset] [])) _
      refine XS.iloadN X0.here hx rfl (hb hby d4_5) rfl ?_
      show Steps p.tables e below (s₁.setTop (mkF m 6 #[.val (.ref a2), .val (.int (2 : Int32)), .val (.int p1), .val (.int p2), .unset, .unset, .unset, .unset, .unset, .unset] [(.int (2 : Int32))])) _
      refine XS.iloadN X0.here hx rfl (hb hby d4_6) rfl ?_
      show Steps p.tables e below (s₁.setTop (mkF m 7 #[.val (.ref a2), .val (.int (2 : Int32)), .val (.int p1), .val (.int p2), .unset, .unset, .unset, .unset, .unset, .unset] [(.int p2), (.int (2 : Int32))])) _
      exact k
    by_cases h7 : (2 : Int32) < p2
    · skip
      have pre4 : ∀ t, Steps p.tables e below (s₁.setTop (mkF m 59 #[.val (.ref a2), .val (.int (2 : Int32)), .val (.int p1), .val (.int p2), .val (.long r2), .second, .val (.long r0), .second, .val (.long ((p2 - (2 : Int32)).toInt64)), .second] [(.long ((r2 * (((3 : Int64) * ((p2 - (2 : Int32)).toInt64)) - (1 : Int64))) + (r0 * (((3 : Int64) * ((p2 - (2 : Int32)).toInt64)) - (2 : Int64)))))])) t → Steps p.tables e below (s₁.setTop (entryFrame m #[(.ref a2), (.int (2 : Int32)), (.int p1), (.int p2)] 10)) t := by
        intro t k
        refine pre3 t ?_
        refine XS.icmpYes X0.here hx rfl (pc0 := 7) (pc' := 12) rfl (hb hby d4_7) rfl (tlt h7).1 (by decide) (by decide) ?_
        show Steps p.tables e below (s₁.setTop (mkF m 12 #[.val (.ref a2), .val (.int (2 : Int32)), .val (.int p1), .val (.int p2), .unset, .unset, .unset, .unset, .unset, .unset] [])) _
        refine XS.aloadN X0.here hx rfl (hb hby d4_12) rfl (rfl) ?_
        show Steps p.tables e below (s₁.setTop (mkF m 13 #[.val (.ref a2), .val (.int (2 : Int32)), .val (.int p1), .val (.int p2), .unset, .unset, .unset, .unset, .unset, .unset] [(.ref a2)])) _
        refine XS.iloadN X0.here hx rfl (hb hby d4_13) rfl ?_
        show Steps p.tables e below (s₁.setTop (mkF m 14 #[.val (.ref a2), .val (.int (2 : Int32)), .val (.int p1), .val (.int p2), .unset, .unset, .unset, .unset, .unset, .unset] [(.int (2 : Int32)), (.ref a2)])) _
        refine XS.iconst X0.here hx rfl (hb hby d4_14) ?_
        show Steps p.tables e below (s₁.setTop (mkF m 15 #[.val (.ref a2), .val (.int (2 : Int32)), .val (.int p1), .val (.int p2), .unset, .unset, .unset, .unset, .unset, .unset] [(.int (3 : Int32)), (.int (2 : Int32)), (.ref a2)])) _
        refine iremM X0 hx rfl (hb hby d4_15) rfl (by decide) ?_
        show Steps p.tables e below (s₁.setTop (mkF m 16 #[.val (.ref a2), .val (.int (2 : Int32)), .val (.int p1), .val (.int p2), .unset, .unset, .unset, .unset, .unset, .unset] [(.int (2 : Int32)), (.ref a2)])) _
        refine X0.laload hx (j := (2 : Int32)) (v := (.long r2)) (by rw [e0]; exact Ar.1) (State.isArrayOf_alike hZ.alike Ar.2.1) Ar.2.2 (inb_of Sz ⟨by decide, by decide⟩) t2 (g := (mkF m 16 #[.val (.ref a2), .val (.int (2 : Int32)), .val (.int p1), .val (.int p2), .unset, .unset, .unset, .unset, .unset, .unset] [(.int (2 : Int32)), (.ref a2)])) rfl rfl (hb hby d4_16) _ ?_
        show Steps p.tables e below (s₁.setTop (mkF m 17 #[.val (.ref a2), .val (.int (2 : Int32)), .val (.int p1), .val (.int p2), .unset, .unset, .unset, .unset, .unset, .unset] [(.long r2)])) _
        refine XS.lstore X0.here hx rfl (hb hby d4_17) rfl (l' := #[.val (.ref a2), .val (.int (2 : Int32)), .val (.int p1), .val (.int p2), .val (.long r2), .second, .unset, .unset, .unset, .unset]) rfl ?_
        show Steps p.tables e below (s₁.setTop (mkF m 19 #[.val (.ref a2), .val (.int (2 : Int32)), .val (.int p1), .val (.int p2), .val (.long r2), .second, .unset, .unset, .unset, .unset] [])) _
        refine XS.aloadN X0.here hx rfl (hb hby d4_19) rfl (rfl) ?_
        show Steps p.tables e below (s₁.setTop (mkF m 20 #[.val (.ref a2), .val (.int (2 : Int32)), .val (.int p1), .val (.int p2), .val (.long r2), .second, .unset, .unset, .unset, .unset] [(.ref a2)])) _
        refine XS.iloadN X0.here hx rfl (hb hby d4_20) rfl ?_
        show Steps p.tables e below (s₁.setTop (mkF m 21 #[.val (.ref a2), .val (.int (2 : Int32)), .val (.int p1), .val (.int p2), .val (.long r2), .second, .unset, .unset, .unset, .unset] [(.int (2 : Int32)), (.ref a2)])) _
        refine XS.iconst X0.here hx rfl (hb hby d4_21) ?_
        show Steps p.tables e below (s₁.setTop (mkF m 22 #[.val (.ref a2), .val (.int (2 : Int32)), .val (.int p1), .val (.int p2), .val (.long r2), .second, .unset, .unset, .unset, .unset] [(.int (1 : Int32)), (.int (2 : Int32)), (.ref a2)])) _
        refine XS.iadd X0.here hx rfl (hb hby d4_22) rfl ?_
        show Steps p.tables e below (s₁.setTop (mkF m 23 #[.val (.ref a2), .val (.int (2 : Int32)), .val (.int p1), .val (.int p2), .val (.long r2), .second, .unset, .unset, .unset, .unset] [(.int (3 : Int32)), (.ref a2)])) _
        refine XS.iconst X0.here hx rfl (hb hby d4_23) ?_
        show Steps p.tables e below (s₁.setTop (mkF m 24 #[.val (.ref a2), .val (.int (2 : Int32)), .val (.int p1), .val (.int p2), .val (.long r2), .second, .unset, .unset, .unset, .unset] [(.int (3 : Int32)), (.int (3 : Int32)), (.ref a2)])) _
        refine iremM X0 hx rfl (hb hby d4_24) rfl (by decide) ?_
        show Steps p.tables e below (s₁.setTop (mkF m 25 #[.val (.ref a2), .val (.int (2 : Int32)), .val (.int p1), .val (.int p2), .val (.long r2), .second, .unset, .unset, .unset, .unset] [(.int (0 : Int32)), (.ref a2)])) _
        refine X0.laload hx (j := (0 : Int32)) (v := (.long r0)) (by rw [e0]; exact Ar.1) (State.isArrayOf_alike hZ.alike Ar.2.1) Ar.2.2 (inb_of Sz ⟨by decide, by decide⟩) t0 (g := (mkF m 25 #[.val (.ref a2), .val (.int (2 : Int32)), .val (.int p1), .val (.int p2), .val (.long r2), .second, .unset, .unset, .unset, .unset] [(.int (0 : Int32)), (.ref a2)])) rfl rfl (hb hby d4_25) _ ?_
        show Steps p.tables e below (s₁.setTop (mkF m 26 #[.val (.ref a2), .val (.int (2 : Int32)), .val (.int p1), .val (.int p2), .val (.long r2), .second, .unset, .unset, .unset, .unset] [(.long r0)])) _
        refine XS.lstore X0.here hx rfl (hb hby d4_26) rfl (l' := #[.val (.ref a2), .val (.int (2 : Int32)), .val (.int p1), .val (.int p2), .val (.long r2), .second, .val (.long r0), .second, .unset, .unset]) rfl ?_
        show Steps p.tables e below (s₁.setTop (mkF m 28 #[.val (.ref a2), .val (.int (2 : Int32)), .val (.int p1), .val (.int p2), .val (.long r2), .second, .val (.long r0), .second, .unset, .unset] [])) _
        refine XS.iloadN X0.here hx rfl (hb hby d4_28) rfl ?_
        show Steps p.tables e below (s₁.setTop (mkF m 29 #[.val (.ref a2), .val (.int (2 : Int32)), .val (.int p1), .val (.int p2), .val (.long r2), .second, .val (.long r0), .second, .unset, .unset] [(.int p2)])) _
        refine XS.iloadN X0.here hx rfl (hb hby d4_29) rfl ?_
        show Steps p.tables e below (s₁.setTop (mkF m 30 #[.val (.ref a2), .val (.int (2 : Int32)), .val (.int p1), .val (.int p2), .val (.long r2), .second, .val (.long r0), .second, .unset, .unset] [(.int (2 : Int32)), (.int p2)])) _
        refine XS.isub X0.here hx rfl (hb hby d4_30) rfl ?_
        show Steps p.tables e below (s₁.setTop (mkF m 31 #[.val (.ref a2), .val (.int (2 : Int32)), .val (.int p1), .val (.int p2), .val (.long r2), .second, .val (.long r0), .second, .unset, .unset] [(.int (p2 - (2 : Int32)))])) _
        refine XS.i2l X0.here hx rfl (hb hby d4_31) rfl ?_
        show Steps p.tables e below (s₁.setTop (mkF m 32 #[.val (.ref a2), .val (.int (2 : Int32)), .val (.int p1), .val (.int p2), .val (.long r2), .second, .val (.long r0), .second, .unset, .unset] [(.long ((p2 - (2 : Int32)).toInt64))])) _
        refine XS.lstore X0.here hx rfl (hb hby d4_32) rfl (l' := #[.val (.ref a2), .val (.int (2 : Int32)), .val (.int p1), .val (.int p2), .val (.long r2), .second, .val (.long r0), .second, .val (.long ((p2 - (2 : Int32)).toInt64)), .second]) rfl ?_
        show Steps p.tables e below (s₁.setTop (mkF m 34 #[.val (.ref a2), .val (.int (2 : Int32)), .val (.int p1), .val (.int p2), .val (.long r2), .second, .val (.long r0), .second, .val (.long ((p2 - (2 : Int32)).toInt64)), .second] [])) _
        refine XS.lload X0.here hx rfl (hb hby d4_34) rfl ?_
        show Steps p.tables e below (s₁.setTop (mkF m 36 #[.val (.ref a2), .val (.int (2 : Int32)), .val (.int p1), .val (.int p2), .val (.long r2), .second, .val (.long r0), .second, .val (.long ((p2 - (2 : Int32)).toInt64)), .second] [(.long r2)])) _
        refine X0.ldc2Long hx hown (mvT hZ (hw _ (List.mem_of_getElem? (i := 17) rfl))) (g := (mkF m 36 #[.val (.ref a2), .val (.int (2 : Int32)), .val (.int p1), .val (.int p2), .val (.long r2), .second, .val (.long r0), .second, .val (.long ((p2 - (2 : Int32)).toInt64)), .second] [(.long r2)])) rfl (hb hby d4_36) _ ?_
        show Steps p.tables e below (s₁.setTop (mkF m 39 #[.val (.ref a2), .val (.int (2 : Int32)), .val (.int p1), .val (.int p2), .val (.long r2), .second, .val (.long r0), .second, .val (.long ((p2 - (2 : Int32)).toInt64)), .second] [(.long (3 : Int64)), (.long r2)])) _
        refine XS.lload X0.here hx rfl (hb hby d4_39) rfl ?_
        show Steps p.tables e below (s₁.setTop (mkF m 41 #[.val (.ref a2), .val (.int (2 : Int32)), .val (.int p1), .val (.int p2), .val (.long r2), .second, .val (.long r0), .second, .val (.long ((p2 - (2 : Int32)).toInt64)), .second] [(.long ((p2 - (2 : Int32)).toInt64)), (.long (3 : Int64)), (.long r2)])) _
        refine XS.lmul X0.here hx rfl (hb hby d4_41) rfl ?_
        show Steps p.tables e below (s₁.setTop (mkF m 42 #[.val (.ref a2), .val (.int (2 : Int32)), .val (.int p1), .val (.int p2), .val (.long r2), .second, .val (.long r0), .second, .val (.long ((p2 - (2 : Int32)).toInt64)), .second] [(.long ((3 : Int64) * ((p2 - (2 : Int32)).toInt64))), (.long r2)])) _
        refine XS.lconst X0.here hx rfl (hb hby d4_42) ?_
        show Steps p.tables e below (s₁.setTop (mkF m 43 #[.val (.ref a2), .val (.int (2 : Int32)), .val (.int p1), .val (.int p2), .val (.long r2), .second, .val (.long r0), .second, .val (.long ((p2 - (2 : Int32)).toInt64)), .second] [(.long (1 : Int64)), (.long ((3 : Int64) * ((p2 - (2 : Int32)).toInt64))), (.long r2)])) _
        refine XS.lsub X0.here hx rfl (hb hby d4_43) rfl ?_
        show Steps p.tables e below (s₁.setTop (mkF m 44 #[.val (.ref a2), .val (.int (2 : Int32)), .val (.int p1), .val (.int p2), .val (.long r2), .second, .val (.long r0), .second, .val (.long ((p2 - (2 : Int32)).toInt64)), .second] [(.long (((3 : Int64) * ((p2 - (2 : Int32)).toInt64)) - (1 : Int64))), (.long r2)])) _
        refine XS.lmul X0.here hx rfl (hb hby d4_44) rfl ?_
        show Steps p.tables e below (s₁.setTop (mkF m 45 #[.val (.ref a2), .val (.int (2 : Int32)), .val (.int p1), .val (.int p2), .val (.long r2), .second, .val (.long r0), .second, .val (.long ((p2 - (2 : Int32)).toInt64)), .second] [(.long (r2 * (((3 : Int64) * ((p2 - (2 : Int32)).toInt64)) - (1 : Int64))))])) _
        refine XS.lload X0.here hx rfl (hb hby d4_45) rfl ?_
        show Steps p.tables e below (s₁.setTop (mkF m 47 #[.val (.ref a2), .val (.int (2 : Int32)), .val (.int p1), .val (.int p2), .val (.long r2), .second, .val (.long r0), .second, .val (.long ((p2 - (2 : Int32)).toInt64)), .second] [(.long r0), (.long (r2 * (((3 : Int64) * ((p2 - (2 : Int32)).toInt64)) - (1 : Int64))))])) _
        refine X0.ldc2Long hx hown (mvT hZ (hw _ (List.mem_of_getElem? (i := 17) rfl))) (g := (mkF m 47 #[.val (.ref a2), .val (.int (2 : Int32)), .val (.int p1), .val (.int p2), .val (.long r2), .second, .val (.long r0), .second, .val (.long ((p2 - (2 : Int32)).toInt64)), .second] [(.long r0), (.long (r2 * (((3 : Int64) * ((p2 - (2 : Int32)).toInt64)) - (1 : Int64))))])) rfl (hb hby d4_47) _ ?_
        show Steps p.tables e below (s₁.setTop (mkF m 50 #[.val (.ref a2), .val (.int (2 : Int32)), .val (.int p1), .val (.int p2), .val (.long r2), .second, .val (.long r0), .second, .val (.long ((p2 - (2 : Int32)).toInt64)), .second] [(.long (3 : Int64)), (.long r0), (.long (r2 * (((3 : Int64) * ((p2 - (2 : Int32)).toInt64)) - (1 : Int64))))])) _
        refine XS.lload X0.here hx rfl (hb hby d4_50) rfl ?_
        show Steps p.tables e below (s₁.setTop (mkF m 52 #[.val (.ref a2), .val (.int (2 : Int32)), .val (.int p1), .val (.int p2), .val (.long r2), .second, .val (.long r0), .second, .val (.long ((p2 - (2 : Int32)).toInt64)), .second] [(.long ((p2 - (2 : Int32)).toInt64)), (.long (3 : Int64)), (.long r0), (.long (r2 * (((3 : Int64) * ((p2 - (2 : Int32)).toInt64)) - (1 : Int64))))])) _
        refine XS.lmul X0.here hx rfl (hb hby d4_52) rfl ?_
        show Steps p.tables e below (s₁.setTop (mkF m 53 #[.val (.ref a2), .val (.int (2 : Int32)), .val (.int p1), .val (.int p2), .val (.long r2), .second, .val (.long r0), .second, .val (.long ((p2 - (2 : Int32)).toInt64)), .second] [(.long ((3 : Int64) * ((p2 - (2 : Int32)).toInt64))), (.long r0), (.long (r2 * (((3 : Int64) * ((p2 - (2 : Int32)).toInt64)) - (1 : Int64))))])) _
        refine X0.ldc2Long hx hown (mvT hZ (hw _ (List.mem_of_getElem? (i := 18) rfl))) (g := (mkF m 53 #[.val (.ref a2), .val (.int (2 : Int32)), .val (.int p1), .val (.int p2), .val (.long r2), .second, .val (.long r0), .second, .val (.long ((p2 - (2 : Int32)).toInt64)), .second] [(.long ((3 : Int64) * ((p2 - (2 : Int32)).toInt64))), (.long r0), (.long (r2 * (((3 : Int64) * ((p2 - (2 : Int32)).toInt64)) - (1 : Int64))))])) rfl (hb hby d4_53) _ ?_
        show Steps p.tables e below (s₁.setTop (mkF m 56 #[.val (.ref a2), .val (.int (2 : Int32)), .val (.int p1), .val (.int p2), .val (.long r2), .second, .val (.long r0), .second, .val (.long ((p2 - (2 : Int32)).toInt64)), .second] [(.long (2 : Int64)), (.long ((3 : Int64) * ((p2 - (2 : Int32)).toInt64))), (.long r0), (.long (r2 * (((3 : Int64) * ((p2 - (2 : Int32)).toInt64)) - (1 : Int64))))])) _
        refine XS.lsub X0.here hx rfl (hb hby d4_56) rfl ?_
        show Steps p.tables e below (s₁.setTop (mkF m 57 #[.val (.ref a2), .val (.int (2 : Int32)), .val (.int p1), .val (.int p2), .val (.long r2), .second, .val (.long r0), .second, .val (.long ((p2 - (2 : Int32)).toInt64)), .second] [(.long (((3 : Int64) * ((p2 - (2 : Int32)).toInt64)) - (2 : Int64))), (.long r0), (.long (r2 * (((3 : Int64) * ((p2 - (2 : Int32)).toInt64)) - (1 : Int64))))])) _
        refine XS.lmul X0.here hx rfl (hb hby d4_57) rfl ?_
        show Steps p.tables e below (s₁.setTop (mkF m 58 #[.val (.ref a2), .val (.int (2 : Int32)), .val (.int p1), .val (.int p2), .val (.long r2), .second, .val (.long r0), .second, .val (.long ((p2 - (2 : Int32)).toInt64)), .second] [(.long (r0 * (((3 : Int64) * ((p2 - (2 : Int32)).toInt64)) - (2 : Int64)))), (.long (r2 * (((3 : Int64) * ((p2 - (2 : Int32)).toInt64)) - (1 : Int64))))])) _
        refine XS.ladd X0.here hx rfl (hb hby d4_58) rfl ?_
        show Steps p.tables e below (s₁.setTop (mkF m 59 #[.val (.ref a2), .val (.int (2 : Int32)), .val (.int p1), .val (.int p2), .val (.long r2), .second, .val (.long r0), .second, .val (.long ((p2 - (2 : Int32)).toInt64)), .second] [(.long ((r2 * (((3 : Int64) * ((p2 - (2 : Int32)).toInt64)) - (1 : Int64))) + (r0 * (((3 : Int64) * ((p2 - (2 : Int32)).toInt64)) - (2 : Int64)))))])) _
        exact k
      obtain ⟨fs, hr, hrun, hended, hW, hsame⟩ := X0.leave (v := some (.long ((r2 * (((3 : Int64) * ((p2 - (2 : Int32)).toInt64)) - (1 : Int64))) + (r0 * (((3 : Int64) * ((p2 - (2 : Int32)).toInt64)) - (2 : Int64)))))) (fun h => by rw [Bd.returns] at h; cases h)
      refine ⟨_, _, pre4 _ ?_, hrun, hended, _, _, rfl, ?_, ⟨_, rfl⟩, hW, hsame.mono (by decide) (by decide)⟩
      · exact retOut X0 hx Bd.returns rfl (Or.inr (Or.inl ⟨rfl, rfl, _, rfl⟩)) (hb hby d4_59) hr
      · show Q_rmS2 Z a2 p1 p2 cl r0 r1 r2 h0 n0 _ s₁.heap _
        rw [e0]
        exact ⟨by simp [own_st, h2, h7], N0, rfl⟩
    · skip
      have pre5 : ∀ t, Steps p.tables e below (s₁.setTop (mkF m 11 #[.val (.ref a2), .val (.int (2 : Int32)), .val (.int p1), .val (.int p2), .unset, .unset, .unset, .unset, .unset, .unset] [(.long (0 : Int64))])) t → Steps p.tables e below (s₁.setTop (entryFrame m #[(.ref a2), (.int (2 : Int32)), (.int p1), (.int p2)] 10)) t := by
        intro t k
        refine pre3 t ?_
        refine XS.icmpNo X0.here hx rfl (hb hby d4_7) rfl (flt h7).1 ?_
        show Steps p.tables e below (s₁.setTop (mkF m 10 #[.val (.ref a2), .val (.int (2 : Int32)), .val (.int p1), .val (.int p2), .unset, .unset, .unset, .unset, .unset, .unset] [])) _
        refine XS.lconst X0.here hx rfl (hb hby d4_10) ?_
        show Steps p.tables e below (s₁.setTop (mkF m 11 #[.val (.ref a2), .val (.int (2 : Int32)), .val (.int p1), .val (.int p2), .unset, .unset, .unset, .unset, .unset, .unset] [(.long (0 : Int64))])) _
        exact k
      obtain ⟨fs, hr, hrun, hended, hW, hsame⟩ := X0.leave (v := some (.long (0 : Int64))) (fun h => by rw [Bd.returns] at h; cases h)
      refine ⟨_, _, pre5 _ ?_, hrun, hended, _, _, rfl, ?_, ⟨_, rfl⟩, hW, hsame.mono (by decide) (by decide)⟩
      · exact retOut X0 hx Bd.returns rfl (Or.inr (Or.inl ⟨rfl, rfl, _, rfl⟩)) (hb hby d4_11) hr
      · show Q_rmS2 Z a2 p1 p2 cl r0 r1 r2 h0 n0 _ s₁.heap _
        rw [e0]
        exact ⟨by simp [own_st, h2, h7], N0, rfl⟩
theorem ef_rmS3 (m : MethodId) (x0 : Addr) (x1 : Int32) (x2 : Int32) (x3 : Int32) : entryFrame m #[(.ref x0), (.int x1), (.int x2), (.int x3)] 10 = mkF m 0 #[.val (.ref x0), .val (.int x1), .val (.int x2), .val (.int x3), .unset, .unset, .unset, .unset, .unset, .unset] [] := by first | (simp [entryFrame, mkF, argsToLocals, Value.category]; done) | rfl
def Q_rmS3 (Z : State) (a2 : Addr) (p1 : Int32) (p2 : Int32) (cl : Cell) (r0 : Int64) (r1 : Int64) (r2 : Int64) (h0 : Heap) (n0 : Nat) (v : Option Value) (h : Heap) (L : List Loc) : Prop := v = some (.long (own_st (3 : Int32) p1 p2 r0 r1)) ∧ Fr n0 L ∧ h = h0
set_option maxRecDepth 65536 in
set_option maxHeartbeats 40000000 in
theorem rmS3 (l : Launch) (Z : State) (a0 : Array Value) (hw : ∀ d ∈ tables_1, d.before a0 Z = true) (ws : List Jvm.Cond) (a2 : Addr) (p1 : Int32) (p2 : Int32) (cl : Cell) (r0 : Int64) (r1 : Int64) (r2 : Int64) (h0 : Heap) (n0 : Nat) (Z0 : n0 ≤ h0.size) (Ar : Arr Z h0 a2 cl .long) (Sz : cl.slots.size = (3 : Int32).toNatClampNeg) (t0 : cl.slots[0]? = some (.long r0)) (t1 : cl.slots[1]? = some (.long r1)) (t2 : cl.slots[2]? = some (.long r2)) :
    MetFree l (⟨"com/example/hummingbird/hummingbird/engine/RhythmWaitingPinLaw", "step", "([JIII)J"⟩ : MethodName) (head1 (Jvm.Cond.code (⟨"com/example/hummingbird/hummingbird/engine/RhythmWaitingPinLaw", "step", "([JIII)J"⟩ : MethodName) method_2_code 10 (some .long) :: ws) ({ frames := 0, cells := 0, slots := 0, locals := 0 } : Room)) (fun a U => a = #[(.ref a2), (.int (3 : Int32)), (.int p1), (.int p2)] ∧ Z.Warmed39 U.vm ∧ U.heap = h0) (fun _ _ _ _ _ => True) (fun _ U o U' => ∃ v L, o = .returned v ∧ Q_rmS3 Z a2 p1 p2 cl r0 r1 r2 h0 n0 v U'.heap L ∧ FrameEnd U o U' L ({ frames := 0, cells := 0, slots := 0, locals := 0 } : Room).cells ({ frames := 0, cells := 0, slots := 0, locals := 0 } : Room).slots) := by
  refine MetFree.of_bodySF (plainFor_of_name pn_1) hisR ?_
  intro p e s m args below meth c s₁ Bd hml0 hP hK
  obtain ⟨rfl, hZ, hh⟩ := hP
  have hx := Bd.exec
  have hby := Bd.bytes
  have hml : c.maxLocals = 10 := hml0
  have hown : s.vm.findClass "com/example/hummingbird/hummingbird/engine/RhythmWaitingPinLaw" = some m.cls := (findClass_of_methodNamed Bd.named :)
  have hnm := (name_of_methodNamed Bd.named Bd.method).1
  have X0 : Stand p l e ({ frames := 0, cells := 0, slots := 0, locals := 0 } : Room) s m #[(.ref a2), (.int (3 : Int32)), (.int p1), (.int p2)] below meth c s₁ [] 0 0 := Stand.of_body Bd
  have e0 : s₁.heap = h0 := by rw [← hh, Bd.state]; rfl
  have N0 := Fr.nil n0
  have pre0 : ∀ t, Steps p.tables e below (s₁.setTop (mkF m 0 #[.val (.ref a2), .val (.int (3 : Int32)), .val (.int p1), .val (.int p2), .unset, .unset, .unset, .unset, .unset, .unset] [])) t → Steps p.tables e below (s₁.setTop (entryFrame m #[(.ref a2), (.int (3 : Int32)), (.int p1), (.int p2)] 10)) t := fun t k => castTop (ef_rmS3 m a2 (3 : Int32) p1 p2) k
  have pre1 : ∀ t, Steps p.tables e below (s₁.setTop (mkF m 2 #[.val (.ref a2), .val (.int (3 : Int32)), .val (.int p1), .val (.int p2), .unset, .unset, .unset, .unset, .unset, .unset] [(.int p1), (.int (3 : Int32))])) t → Steps p.tables e below (s₁.setTop (entryFrame m #[(.ref a2), (.int (3 : Int32)), (.int p1), (.int p2)] 10)) t := by
    intro t k
    refine pre0 t ?_
    show Steps p.tables e below (s₁.setTop (mkF m 0 #[.val (.ref a2), .val (.int (3 : Int32)), .val (.int p1), .val (.int p2), .unset, .unset, .unset, .unset, .unset, .unset] [])) _
    refine XS.iloadN X0.here hx rfl (hb hby d4_0) rfl ?_
    show Steps p.tables e below (s₁.setTop (mkF m 1 #[.val (.ref a2), .val (.int (3 : Int32)), .val (.int p1), .val (.int p2), .unset, .unset, .unset, .unset, .unset, .unset] [(.int (3 : Int32))])) _
    refine XS.iloadN X0.here hx rfl (hb hby d4_1) rfl ?_
    show Steps p.tables e below (s₁.setTop (mkF m 2 #[.val (.ref a2), .val (.int (3 : Int32)), .val (.int p1), .val (.int p2), .unset, .unset, .unset, .unset, .unset, .unset] [(.int p1), (.int (3 : Int32))])) _
    exact k
  by_cases h2 : (3 : Int32) < p1
  · skip
    have pre2 : ∀ t, Steps p.tables e below (s₁.setTop (mkF m 11 #[.val (.ref a2), .val (.int (3 : Int32)), .val (.int p1), .val (.int p2), .unset, .unset, .unset, .unset, .unset, .unset] [(.long (0 : Int64))])) t → Steps p.tables e below (s₁.setTop (entryFrame m #[(.ref a2), (.int (3 : Int32)), (.int p1), (.int p2)] 10)) t := by
      intro t k
      refine pre1 t ?_
      refine XS.icmpYes X0.here hx rfl (pc0 := 2) (pc' := 10) rfl (hb hby d4_2) rfl (tlt h2).1 (by decide) (by decide) ?_
      show Steps p.tables e below (s₁.setTop (mkF m 10 #[.val (.ref a2), .val (.int (3 : Int32)), .val (.int p1), .val (.int p2), .unset, .unset, .unset, .unset, .unset, .unset] [])) _
      refine XS.lconst X0.here hx rfl (hb hby d4_10) ?_
      show Steps p.tables e below (s₁.setTop (mkF m 11 #[.val (.ref a2), .val (.int (3 : Int32)), .val (.int p1), .val (.int p2), .unset, .unset, .unset, .unset, .unset, .unset] [(.long (0 : Int64))])) _
      exact k
    obtain ⟨fs, hr, hrun, hended, hW, hsame⟩ := X0.leave (v := some (.long (0 : Int64))) (fun h => by rw [Bd.returns] at h; cases h)
    refine ⟨_, _, pre2 _ ?_, hrun, hended, _, _, rfl, ?_, ⟨_, rfl⟩, hW, hsame.mono (by decide) (by decide)⟩
    · exact retOut X0 hx Bd.returns rfl (Or.inr (Or.inl ⟨rfl, rfl, _, rfl⟩)) (hb hby d4_11) hr
    · show Q_rmS3 Z a2 p1 p2 cl r0 r1 r2 h0 n0 _ s₁.heap _
      rw [e0]
      exact ⟨by simp [own_st, h2], N0, rfl⟩
  · skip
    have pre3 : ∀ t, Steps p.tables e below (s₁.setTop (mkF m 7 #[.val (.ref a2), .val (.int (3 : Int32)), .val (.int p1), .val (.int p2), .unset, .unset, .unset, .unset, .unset, .unset] [(.int p2), (.int (3 : Int32))])) t → Steps p.tables e below (s₁.setTop (entryFrame m #[(.ref a2), (.int (3 : Int32)), (.int p1), (.int p2)] 10)) t := by
      intro t k
      refine pre1 t ?_
      refine XS.icmpNo X0.here hx rfl (hb hby d4_2) rfl (flt h2).1 ?_
      show Steps p.tables e below (s₁.setTop (mkF m 5 #[.val (.ref a2), .val (.int (3 : Int32)), .val (.int p1), .val (.int p2), .unset, .unset, .unset, .unset, .unset, .unset] [])) _
      refine XS.iloadN X0.here hx rfl (hb hby d4_5) rfl ?_
      show Steps p.tables e below (s₁.setTop (mkF m 6 #[.val (.ref a2), .val (.int (3 : Int32)), .val (.int p1), .val (.int p2), .unset, .unset, .unset, .unset, .unset, .unset] [(.int (3 : Int32))])) _
      refine XS.iloadN X0.here hx rfl (hb hby d4_6) rfl ?_
      show Steps p.tables e below (s₁.setTop (mkF m 7 #[.val (.ref a2), .val (.int (3 : Int32)), .val (.int p1), .val (.int p2), .unset, .unset, .unset, .unset, .unset, .unset] [(.int p2), (.int (3 : Int32))])) _
      exact k
    by_cases h7 : (3 : Int32) < p2
    · skip
      have pre4 : ∀ t, Steps p.tables e below (s₁.setTop (mkF m 59 #[.val (.ref a2), .val (.int (3 : Int32)), .val (.int p1), .val (.int p2), .val (.long r0), .second, .val (.long r1), .second, .val (.long ((p2 - (3 : Int32)).toInt64)), .second] [(.long ((r0 * (((3 : Int64) * ((p2 - (3 : Int32)).toInt64)) - (1 : Int64))) + (r1 * (((3 : Int64) * ((p2 - (3 : Int32)).toInt64)) - (2 : Int64)))))])) t → Steps p.tables e below (s₁.setTop (entryFrame m #[(.ref a2), (.int (3 : Int32)), (.int p1), (.int p2)] 10)) t := by
        intro t k
        refine pre3 t ?_
        refine XS.icmpYes X0.here hx rfl (pc0 := 7) (pc' := 12) rfl (hb hby d4_7) rfl (tlt h7).1 (by decide) (by decide) ?_
        show Steps p.tables e below (s₁.setTop (mkF m 12 #[.val (.ref a2), .val (.int (3 : Int32)), .val (.int p1), .val (.int p2), .unset, .unset, .unset, .unset, .unset, .unset] [])) _
        refine XS.aloadN X0.here hx rfl (hb hby d4_12) rfl (rfl) ?_
        show Steps p.tables e below (s₁.setTop (mkF m 13 #[.val (.ref a2), .val (.int (3 : Int32)), .val (.int p1), .val (.int p2), .unset, .unset, .unset, .unset, .unset, .unset] [(.ref a2)])) _
        refine XS.iloadN X0.here hx rfl (hb hby d4_13) rfl ?_
        show Steps p.tables e below (s₁.setTop (mkF m 14 #[.val (.ref a2), .val (.int (3 : Int32)), .val (.int p1), .val (.int p2), .unset, .unset, .unset, .unset, .unset, .unset] [(.int (3 : Int32)), (.ref a2)])) _
        refine XS.iconst X0.here hx rfl (hb hby d4_14) ?_
        show Steps p.tables e below (s₁.setTop (mkF m 15 #[.val (.ref a2), .val (.int (3 : Int32)), .val (.int p1), .val (.int p2), .unset, .unset, .unset, .unset, .unset, .unset] [(.int (3 : Int32)), (.int (3 : Int32)), (.ref a2)])) _
        refine iremM X0 hx rfl (hb hby d4_15) rfl (by decide) ?_
        show Steps p.tables e below (s₁.setTop (mkF m 16 #[.val (.ref a2), .val (.int (3 : Int32)), .val (.int p1), .val (.int p2), .unset, .unset, .unset, .unset, .unset, .unset] [(.int (0 : Int32)), (.ref a2)])) _
        refine X0.laload hx (j := (0 : Int32)) (v := (.long r0)) (by rw [e0]; exact Ar.1) (State.isArrayOf_alike hZ.alike Ar.2.1) Ar.2.2 (inb_of Sz ⟨by decide, by decide⟩) t0 (g := (mkF m 16 #[.val (.ref a2), .val (.int (3 : Int32)), .val (.int p1), .val (.int p2), .unset, .unset, .unset, .unset, .unset, .unset] [(.int (0 : Int32)), (.ref a2)])) rfl rfl (hb hby d4_16) _ ?_
        show Steps p.tables e below (s₁.setTop (mkF m 17 #[.val (.ref a2), .val (.int (3 : Int32)), .val (.int p1), .val (.int p2), .unset, .unset, .unset, .unset, .unset, .unset] [(.long r0)])) _
        refine XS.lstore X0.here hx rfl (hb hby d4_17) rfl (l' := #[.val (.ref a2), .val (.int (3 : Int32)), .val (.int p1), .val (.int p2), .val (.long r0), .second, .unset, .unset, .unset, .unset]) rfl ?_
        show Steps p.tables e below (s₁.setTop (mkF m 19 #[.val (.ref a2), .val (.int (3 : Int32)), .val (.int p1), .val (.int p2), .val (.long r0), .second, .unset, .unset, .unset, .unset] [])) _
        refine XS.aloadN X0.here hx rfl (hb hby d4_19) rfl (rfl) ?_
        show Steps p.tables e below (s₁.setTop (mkF m 20 #[.val (.ref a2), .val (.int (3 : Int32)), .val (.int p1), .val (.int p2), .val (.long r0), .second, .unset, .unset, .unset, .unset] [(.ref a2)])) _
        refine XS.iloadN X0.here hx rfl (hb hby d4_20) rfl ?_
        show Steps p.tables e below (s₁.setTop (mkF m 21 #[.val (.ref a2), .val (.int (3 : Int32)), .val (.int p1), .val (.int p2), .val (.long r0), .second, .unset, .unset, .unset, .unset] [(.int (3 : Int32)), (.ref a2)])) _
        refine XS.iconst X0.here hx rfl (hb hby d4_21) ?_
        show Steps p.tables e below (s₁.setTop (mkF m 22 #[.val (.ref a2), .val (.int (3 : Int32)), .val (.int p1), .val (.int p2), .val (.long r0), .second, .unset, .unset, .unset, .unset] [(.int (1 : Int32)), (.int (3 : Int32)), (.ref a2)])) _
        refine XS.iadd X0.here hx rfl (hb hby d4_22) rfl ?_
        show Steps p.tables e below (s₁.setTop (mkF m 23 #[.val (.ref a2), .val (.int (3 : Int32)), .val (.int p1), .val (.int p2), .val (.long r0), .second, .unset, .unset, .unset, .unset] [(.int (4 : Int32)), (.ref a2)])) _
        refine XS.iconst X0.here hx rfl (hb hby d4_23) ?_
        show Steps p.tables e below (s₁.setTop (mkF m 24 #[.val (.ref a2), .val (.int (3 : Int32)), .val (.int p1), .val (.int p2), .val (.long r0), .second, .unset, .unset, .unset, .unset] [(.int (3 : Int32)), (.int (4 : Int32)), (.ref a2)])) _
        refine iremM X0 hx rfl (hb hby d4_24) rfl (by decide) ?_
        show Steps p.tables e below (s₁.setTop (mkF m 25 #[.val (.ref a2), .val (.int (3 : Int32)), .val (.int p1), .val (.int p2), .val (.long r0), .second, .unset, .unset, .unset, .unset] [(.int (1 : Int32)), (.ref a2)])) _
        refine X0.laload hx (j := (1 : Int32)) (v := (.long r1)) (by rw [e0]; exact Ar.1) (State.isArrayOf_alike hZ.alike Ar.2.1) Ar.2.2 (inb_of Sz ⟨by decide, by decide⟩) t1 (g := (mkF m 25 #[.val (.ref a2), .val (.int (3 : Int32)), .val (.int p1), .val (.int p2), .val (.long r0), .second, .unset, .unset, .unset, .unset] [(.int (1 : Int32)), (.ref a2)])) rfl rfl (hb hby d4_25) _ ?_
        show Steps p.tables e below (s₁.setTop (mkF m 26 #[.val (.ref a2), .val (.int (3 : Int32)), .val (.int p1), .val (.int p2), .val (.long r0), .second, .unset, .unset, .unset, .unset] [(.long r1)])) _
        refine XS.lstore X0.here hx rfl (hb hby d4_26) rfl (l' := #[.val (.ref a2), .val (.int (3 : Int32)), .val (.int p1), .val (.int p2), .val (.long r0), .second, .val (.long r1), .second, .unset, .unset]) rfl ?_
        show Steps p.tables e below (s₁.setTop (mkF m 28 #[.val (.ref a2), .val (.int (3 : Int32)), .val (.int p1), .val (.int p2), .val (.long r0), .second, .val (.long r1), .second, .unset, .unset] [])) _
        refine XS.iloadN X0.here hx rfl (hb hby d4_28) rfl ?_
        show Steps p.tables e below (s₁.setTop (mkF m 29 #[.val (.ref a2), .val (.int (3 : Int32)), .val (.int p1), .val (.int p2), .val (.long r0), .second, .val (.long r1), .second, .unset, .unset] [(.int p2)])) _
        refine XS.iloadN X0.here hx rfl (hb hby d4_29) rfl ?_
        show Steps p.tables e below (s₁.setTop (mkF m 30 #[.val (.ref a2), .val (.int (3 : Int32)), .val (.int p1), .val (.int p2), .val (.long r0), .second, .val (.long r1), .second, .unset, .unset] [(.int (3 : Int32)), (.int p2)])) _
        refine XS.isub X0.here hx rfl (hb hby d4_30) rfl ?_
        show Steps p.tables e below (s₁.setTop (mkF m 31 #[.val (.ref a2), .val (.int (3 : Int32)), .val (.int p1), .val (.int p2), .val (.long r0), .second, .val (.long r1), .second, .unset, .unset] [(.int (p2 - (3 : Int32)))])) _
        refine XS.i2l X0.here hx rfl (hb hby d4_31) rfl ?_
        show Steps p.tables e below (s₁.setTop (mkF m 32 #[.val (.ref a2), .val (.int (3 : Int32)), .val (.int p1), .val (.int p2), .val (.long r0), .second, .val (.long r1), .second, .unset, .unset] [(.long ((p2 - (3 : Int32)).toInt64))])) _
        refine XS.lstore X0.here hx rfl (hb hby d4_32) rfl (l' := #[.val (.ref a2), .val (.int (3 : Int32)), .val (.int p1), .val (.int p2), .val (.long r0), .second, .val (.long r1), .second, .val (.long ((p2 - (3 : Int32)).toInt64)), .second]) rfl ?_
        show Steps p.tables e below (s₁.setTop (mkF m 34 #[.val (.ref a2), .val (.int (3 : Int32)), .val (.int p1), .val (.int p2), .val (.long r0), .second, .val (.long r1), .second, .val (.long ((p2 - (3 : Int32)).toInt64)), .second] [])) _
        refine XS.lload X0.here hx rfl (hb hby d4_34) rfl ?_
        show Steps p.tables e below (s₁.setTop (mkF m 36 #[.val (.ref a2), .val (.int (3 : Int32)), .val (.int p1), .val (.int p2), .val (.long r0), .second, .val (.long r1), .second, .val (.long ((p2 - (3 : Int32)).toInt64)), .second] [(.long r0)])) _
        refine X0.ldc2Long hx hown (mvT hZ (hw _ (List.mem_of_getElem? (i := 17) rfl))) (g := (mkF m 36 #[.val (.ref a2), .val (.int (3 : Int32)), .val (.int p1), .val (.int p2), .val (.long r0), .second, .val (.long r1), .second, .val (.long ((p2 - (3 : Int32)).toInt64)), .second] [(.long r0)])) rfl (hb hby d4_36) _ ?_
        show Steps p.tables e below (s₁.setTop (mkF m 39 #[.val (.ref a2), .val (.int (3 : Int32)), .val (.int p1), .val (.int p2), .val (.long r0), .second, .val (.long r1), .second, .val (.long ((p2 - (3 : Int32)).toInt64)), .second] [(.long (3 : Int64)), (.long r0)])) _
        refine XS.lload X0.here hx rfl (hb hby d4_39) rfl ?_
        show Steps p.tables e below (s₁.setTop (mkF m 41 #[.val (.ref a2), .val (.int (3 : Int32)), .val (.int p1), .val (.int p2), .val (.long r0), .second, .val (.long r1), .second, .val (.long ((p2 - (3 : Int32)).toInt64)), .second] [(.long ((p2 - (3 : Int32)).toInt64)), (.long (3 : Int64)), (.long r0)])) _
        refine XS.lmul X0.here hx rfl (hb hby d4_41) rfl ?_
        show Steps p.tables e below (s₁.setTop (mkF m 42 #[.val (.ref a2), .val (.int (3 : Int32)), .val (.int p1), .val (.int p2), .val (.long r0), .second, .val (.long r1), .second, .val (.long ((p2 - (3 : Int32)).toInt64)), .second] [(.long ((3 : Int64) * ((p2 - (3 : Int32)).toInt64))), (.long r0)])) _
        refine XS.lconst X0.here hx rfl (hb hby d4_42) ?_
        show Steps p.tables e below (s₁.setTop (mkF m 43 #[.val (.ref a2), .val (.int (3 : Int32)), .val (.int p1), .val (.int p2), .val (.long r0), .second, .val (.long r1), .second, .val (.long ((p2 - (3 : Int32)).toInt64)), .second] [(.long (1 : Int64)), (.long ((3 : Int64) * ((p2 - (3 : Int32)).toInt64))), (.long r0)])) _
        refine XS.lsub X0.here hx rfl (hb hby d4_43) rfl ?_
        show Steps p.tables e below (s₁.setTop (mkF m 44 #[.val (.ref a2), .val (.int (3 : Int32)), .val (.int p1), .val (.int p2), .val (.long r0), .second, .val (.long r1), .second, .val (.long ((p2 - (3 : Int32)).toInt64)), .second] [(.long (((3 : Int64) * ((p2 - (3 : Int32)).toInt64)) - (1 : Int64))), (.long r0)])) _
        refine XS.lmul X0.here hx rfl (hb hby d4_44) rfl ?_
        show Steps p.tables e below (s₁.setTop (mkF m 45 #[.val (.ref a2), .val (.int (3 : Int32)), .val (.int p1), .val (.int p2), .val (.long r0), .second, .val (.long r1), .second, .val (.long ((p2 - (3 : Int32)).toInt64)), .second] [(.long (r0 * (((3 : Int64) * ((p2 - (3 : Int32)).toInt64)) - (1 : Int64))))])) _
        refine XS.lload X0.here hx rfl (hb hby d4_45) rfl ?_
        show Steps p.tables e below (s₁.setTop (mkF m 47 #[.val (.ref a2), .val (.int (3 : Int32)), .val (.int p1), .val (.int p2), .val (.long r0), .second, .val (.long r1), .second, .val (.long ((p2 - (3 : Int32)).toInt64)), .second] [(.long r1), (.long (r0 * (((3 : Int64) * ((p2 - (3 : Int32)).toInt64)) - (1 : Int64))))])) _
        refine X0.ldc2Long hx hown (mvT hZ (hw _ (List.mem_of_getElem? (i := 17) rfl))) (g := (mkF m 47 #[.val (.ref a2), .val (.int (3 : Int32)), .val (.int p1), .val (.int p2), .val (.long r0), .second, .val (.long r1), .second, .val (.long ((p2 - (3 : Int32)).toInt64)), .second] [(.long r1), (.long (r0 * (((3 : Int64) * ((p2 - (3 : Int32)).toInt64)) - (1 : Int64))))])) rfl (hb hby d4_47) _ ?_
        show Steps p.tables e below (s₁.setTop (mkF m 50 #[.val (.ref a2), .val (.int (3 : Int32)), .val (.int p1), .val (.int p2), .val (.long r0), .second, .val (.long r1), .second, .val (.long ((p2 - (3 : Int32)).toInt64)), .second] [(.long (3 : Int64)), (.long r1), (.long (r0 * (((3 : Int64) * ((p2 - (3 : Int32)).toInt64)) - (1 : Int64))))])) _
        refine XS.lload X0.here hx rfl (hb hby d4_50) rfl ?_
        show Steps p.tables e below (s₁.setTop (mkF m 52 #[.val (.ref a2), .val (.int (3 : Int32)), .val (.int p1), .val (.int p2), .val (.long r0), .second, .val (.long r1), .second, .val (.long ((p2 - (3 : Int32)).toInt64)), .second] [(.long ((p2 - (3 : Int32)).toInt64)), (.long (3 : Int64)), (.long r1), (.long (r0 * (((3 : Int64) * ((p2 - (3 : Int32)).toInt64)) - (1 : Int64))))])) _
        refine XS.lmul X0.here hx rfl (hb hby d4_52) rfl ?_
        show Steps p.tables e below (s₁.setTop (mkF m 53 #[.val (.ref a2), .val (.int (3 : Int32)), .val (.int p1), .val (.int p2), .val (.long r0), .second, .val (.long r1), .second, .val (.long ((p2 - (3 : Int32)).toInt64)), .second] [(.long ((3 : Int64) * ((p2 - (3 : Int32)).toInt64))), (.long r1), (.long (r0 * (((3 : Int64) * ((p2 - (3 : Int32)).toInt64)) - (1 : Int64))))])) _
        refine X0.ldc2Long hx hown (mvT hZ (hw _ (List.mem_of_getElem? (i := 18) rfl))) (g := (mkF m 53 #[.val (.ref a2), .val (.int (3 : Int32)), .val (.int p1), .val (.int p2), .val (.long r0), .second, .val (.long r1), .second, .val (.long ((p2 - (3 : Int32)).toInt64)), .second] [(.long ((3 : Int64) * ((p2 - (3 : Int32)).toInt64))), (.long r1), (.long (r0 * (((3 : Int64) * ((p2 - (3 : Int32)).toInt64)) - (1 : Int64))))])) rfl (hb hby d4_53) _ ?_
        show Steps p.tables e below (s₁.setTop (mkF m 56 #[.val (.ref a2), .val (.int (3 : Int32)), .val (.int p1), .val (.int p2), .val (.long r0), .second, .val (.long r1), .second, .val (.long ((p2 - (3 : Int32)).toInt64)), .second] [(.long (2 : Int64)), (.long ((3 : Int64) * ((p2 - (3 : Int32)).toInt64))), (.long r1), (.long (r0 * (((3 : Int64) * ((p2 - (3 : Int32)).toInt64)) - (1 : Int64))))])) _
        refine XS.lsub X0.here hx rfl (hb hby d4_56) rfl ?_
        show Steps p.tables e below (s₁.setTop (mkF m 57 #[.val (.ref a2), .val (.int (3 : Int32)), .val (.int p1), .val (.int p2), .val (.long r0), .second, .val (.long r1), .second, .val (.long ((p2 - (3 : Int32)).toInt64)), .second] [(.long (((3 : Int64) * ((p2 - (3 : Int32)).toInt64)) - (2 : Int64))), (.long r1), (.long (r0 * (((3 : Int64) * ((p2 - (3 : Int32)).toInt64)) - (1 : Int64))))])) _
        refine XS.lmul X0.here hx rfl (hb hby d4_57) rfl ?_
        show Steps p.tables e below (s₁.setTop (mkF m 58 #[.val (.ref a2), .val (.int (3 : Int32)), .val (.int p1), .val (.int p2), .val (.long r0), .second, .val (.long r1), .second, .val (.long ((p2 - (3 : Int32)).toInt64)), .second] [(.long (r1 * (((3 : Int64) * ((p2 - (3 : Int32)).toInt64)) - (2 : Int64)))), (.long (r0 * (((3 : Int64) * ((p2 - (3 : Int32)).toInt64)) - (1 : Int64))))])) _
        refine XS.ladd X0.here hx rfl (hb hby d4_58) rfl ?_
        show Steps p.tables e below (s₁.setTop (mkF m 59 #[.val (.ref a2), .val (.int (3 : Int32)), .val (.int p1), .val (.int p2), .val (.long r0), .second, .val (.long r1), .second, .val (.long ((p2 - (3 : Int32)).toInt64)), .second] [(.long ((r0 * (((3 : Int64) * ((p2 - (3 : Int32)).toInt64)) - (1 : Int64))) + (r1 * (((3 : Int64) * ((p2 - (3 : Int32)).toInt64)) - (2 : Int64)))))])) _
        exact k
      obtain ⟨fs, hr, hrun, hended, hW, hsame⟩ := X0.leave (v := some (.long ((r0 * (((3 : Int64) * ((p2 - (3 : Int32)).toInt64)) - (1 : Int64))) + (r1 * (((3 : Int64) * ((p2 - (3 : Int32)).toInt64)) - (2 : Int64)))))) (fun h => by rw [Bd.returns] at h; cases h)
      refine ⟨_, _, pre4 _ ?_, hrun, hended, _, _, rfl, ?_, ⟨_, rfl⟩, hW, hsame.mono (by decide) (by decide)⟩
      · exact retOut X0 hx Bd.returns rfl (Or.inr (Or.inl ⟨rfl, rfl, _, rfl⟩)) (hb hby d4_59) hr
      · show Q_rmS3 Z a2 p1 p2 cl r0 r1 r2 h0 n0 _ s₁.heap _
        rw [e0]
        exact ⟨by simp [own_st, h2, h7], N0, rfl⟩
    · skip
      have pre5 : ∀ t, Steps p.tables e below (s₁.setTop (mkF m 11 #[.val (.ref a2), .val (.int (3 : Int32)), .val (.int p1), .val (.int p2), .unset, .unset, .unset, .unset, .unset, .unset] [(.long (0 : Int64))])) t → Steps p.tables e below (s₁.setTop (entryFrame m #[(.ref a2), (.int (3 : Int32)), (.int p1), (.int p2)] 10)) t := by
        intro t k
        refine pre3 t ?_
        refine XS.icmpNo X0.here hx rfl (hb hby d4_7) rfl (flt h7).1 ?_
        show Steps p.tables e below (s₁.setTop (mkF m 10 #[.val (.ref a2), .val (.int (3 : Int32)), .val (.int p1), .val (.int p2), .unset, .unset, .unset, .unset, .unset, .unset] [])) _
        refine XS.lconst X0.here hx rfl (hb hby d4_10) ?_
        show Steps p.tables e below (s₁.setTop (mkF m 11 #[.val (.ref a2), .val (.int (3 : Int32)), .val (.int p1), .val (.int p2), .unset, .unset, .unset, .unset, .unset, .unset] [(.long (0 : Int64))])) _
        exact k
      obtain ⟨fs, hr, hrun, hended, hW, hsame⟩ := X0.leave (v := some (.long (0 : Int64))) (fun h => by rw [Bd.returns] at h; cases h)
      refine ⟨_, _, pre5 _ ?_, hrun, hended, _, _, rfl, ?_, ⟨_, rfl⟩, hW, hsame.mono (by decide) (by decide)⟩
      · exact retOut X0 hx Bd.returns rfl (Or.inr (Or.inl ⟨rfl, rfl, _, rfl⟩)) (hb hby d4_11) hr
      · show Q_rmS3 Z a2 p1 p2 cl r0 r1 r2 h0 n0 _ s₁.heap _
        rw [e0]
        exact ⟨by simp [own_st, h2, h7], N0, rfl⟩
theorem ef_rmS4 (m : MethodId) (x0 : Addr) (x1 : Int32) (x2 : Int32) (x3 : Int32) : entryFrame m #[(.ref x0), (.int x1), (.int x2), (.int x3)] 10 = mkF m 0 #[.val (.ref x0), .val (.int x1), .val (.int x2), .val (.int x3), .unset, .unset, .unset, .unset, .unset, .unset] [] := by first | (simp [entryFrame, mkF, argsToLocals, Value.category]; done) | rfl
def Q_rmS4 (Z : State) (a2 : Addr) (p1 : Int32) (p2 : Int32) (cl : Cell) (r0 : Int64) (r1 : Int64) (r2 : Int64) (h0 : Heap) (n0 : Nat) (v : Option Value) (h : Heap) (L : List Loc) : Prop := v = some (.long (own_st (4 : Int32) p1 p2 r1 r2)) ∧ Fr n0 L ∧ h = h0
set_option maxRecDepth 65536 in
set_option maxHeartbeats 40000000 in
theorem rmS4 (l : Launch) (Z : State) (a0 : Array Value) (hw : ∀ d ∈ tables_1, d.before a0 Z = true) (ws : List Jvm.Cond) (a2 : Addr) (p1 : Int32) (p2 : Int32) (cl : Cell) (r0 : Int64) (r1 : Int64) (r2 : Int64) (h0 : Heap) (n0 : Nat) (Z0 : n0 ≤ h0.size) (Ar : Arr Z h0 a2 cl .long) (Sz : cl.slots.size = (3 : Int32).toNatClampNeg) (t0 : cl.slots[0]? = some (.long r0)) (t1 : cl.slots[1]? = some (.long r1)) (t2 : cl.slots[2]? = some (.long r2)) :
    MetFree l (⟨"com/example/hummingbird/hummingbird/engine/RhythmWaitingPinLaw", "step", "([JIII)J"⟩ : MethodName) (head1 (Jvm.Cond.code (⟨"com/example/hummingbird/hummingbird/engine/RhythmWaitingPinLaw", "step", "([JIII)J"⟩ : MethodName) method_2_code 10 (some .long) :: ws) ({ frames := 0, cells := 0, slots := 0, locals := 0 } : Room)) (fun a U => a = #[(.ref a2), (.int (4 : Int32)), (.int p1), (.int p2)] ∧ Z.Warmed39 U.vm ∧ U.heap = h0) (fun _ _ _ _ _ => True) (fun _ U o U' => ∃ v L, o = .returned v ∧ Q_rmS4 Z a2 p1 p2 cl r0 r1 r2 h0 n0 v U'.heap L ∧ FrameEnd U o U' L ({ frames := 0, cells := 0, slots := 0, locals := 0 } : Room).cells ({ frames := 0, cells := 0, slots := 0, locals := 0 } : Room).slots) := by
  refine MetFree.of_bodySF (plainFor_of_name pn_1) hisR ?_
  intro p e s m args below meth c s₁ Bd hml0 hP hK
  obtain ⟨rfl, hZ, hh⟩ := hP
  have hx := Bd.exec
  have hby := Bd.bytes
  have hml : c.maxLocals = 10 := hml0
  have hown : s.vm.findClass "com/example/hummingbird/hummingbird/engine/RhythmWaitingPinLaw" = some m.cls := (findClass_of_methodNamed Bd.named :)
  have hnm := (name_of_methodNamed Bd.named Bd.method).1
  have X0 : Stand p l e ({ frames := 0, cells := 0, slots := 0, locals := 0 } : Room) s m #[(.ref a2), (.int (4 : Int32)), (.int p1), (.int p2)] below meth c s₁ [] 0 0 := Stand.of_body Bd
  have e0 : s₁.heap = h0 := by rw [← hh, Bd.state]; rfl
  have N0 := Fr.nil n0
  have pre0 : ∀ t, Steps p.tables e below (s₁.setTop (mkF m 0 #[.val (.ref a2), .val (.int (4 : Int32)), .val (.int p1), .val (.int p2), .unset, .unset, .unset, .unset, .unset, .unset] [])) t → Steps p.tables e below (s₁.setTop (entryFrame m #[(.ref a2), (.int (4 : Int32)), (.int p1), (.int p2)] 10)) t := fun t k => castTop (ef_rmS4 m a2 (4 : Int32) p1 p2) k
  have pre1 : ∀ t, Steps p.tables e below (s₁.setTop (mkF m 2 #[.val (.ref a2), .val (.int (4 : Int32)), .val (.int p1), .val (.int p2), .unset, .unset, .unset, .unset, .unset, .unset] [(.int p1), (.int (4 : Int32))])) t → Steps p.tables e below (s₁.setTop (entryFrame m #[(.ref a2), (.int (4 : Int32)), (.int p1), (.int p2)] 10)) t := by
    intro t k
    refine pre0 t ?_
    show Steps p.tables e below (s₁.setTop (mkF m 0 #[.val (.ref a2), .val (.int (4 : Int32)), .val (.int p1), .val (.int p2), .unset, .unset, .unset, .unset, .unset, .unset] [])) _
    refine XS.iloadN X0.here hx rfl (hb hby d4_0) rfl ?_
    show Steps p.tables e below (s₁.setTop (mkF m 1 #[.val (.ref a2), .val (.int (4 : Int32)), .val (.int p1), .val (.int p2), .unset, .unset, .unset, .unset, .unset, .unset] [(.int (4 : Int32))])) _
    refine XS.iloadN X0.here hx rfl (hb hby d4_1) rfl ?_
    show Steps p.tables e below (s₁.setTop (mkF m 2 #[.val (.ref a2), .val (.int (4 : Int32)), .val (.int p1), .val (.int p2), .unset, .unset, .unset, .unset, .unset, .unset] [(.int p1), (.int (4 : Int32))])) _
    exact k
  by_cases h2 : (4 : Int32) < p1
  · skip
    have pre2 : ∀ t, Steps p.tables e below (s₁.setTop (mkF m 11 #[.val (.ref a2), .val (.int (4 : Int32)), .val (.int p1), .val (.int p2), .unset, .unset, .unset, .unset, .unset, .unset] [(.long (0 : Int64))])) t → Steps p.tables e below (s₁.setTop (entryFrame m #[(.ref a2), (.int (4 : Int32)), (.int p1), (.int p2)] 10)) t := by
      intro t k
      refine pre1 t ?_
      refine XS.icmpYes X0.here hx rfl (pc0 := 2) (pc' := 10) rfl (hb hby d4_2) rfl (tlt h2).1 (by decide) (by decide) ?_
      show Steps p.tables e below (s₁.setTop (mkF m 10 #[.val (.ref a2), .val (.int (4 : Int32)), .val (.int p1), .val (.int p2), .unset, .unset, .unset, .unset, .unset, .unset] [])) _
      refine XS.lconst X0.here hx rfl (hb hby d4_10) ?_
      show Steps p.tables e below (s₁.setTop (mkF m 11 #[.val (.ref a2), .val (.int (4 : Int32)), .val (.int p1), .val (.int p2), .unset, .unset, .unset, .unset, .unset, .unset] [(.long (0 : Int64))])) _
      exact k
    obtain ⟨fs, hr, hrun, hended, hW, hsame⟩ := X0.leave (v := some (.long (0 : Int64))) (fun h => by rw [Bd.returns] at h; cases h)
    refine ⟨_, _, pre2 _ ?_, hrun, hended, _, _, rfl, ?_, ⟨_, rfl⟩, hW, hsame.mono (by decide) (by decide)⟩
    · exact retOut X0 hx Bd.returns rfl (Or.inr (Or.inl ⟨rfl, rfl, _, rfl⟩)) (hb hby d4_11) hr
    · show Q_rmS4 Z a2 p1 p2 cl r0 r1 r2 h0 n0 _ s₁.heap _
      rw [e0]
      exact ⟨by simp [own_st, h2], N0, rfl⟩
  · skip
    have pre3 : ∀ t, Steps p.tables e below (s₁.setTop (mkF m 7 #[.val (.ref a2), .val (.int (4 : Int32)), .val (.int p1), .val (.int p2), .unset, .unset, .unset, .unset, .unset, .unset] [(.int p2), (.int (4 : Int32))])) t → Steps p.tables e below (s₁.setTop (entryFrame m #[(.ref a2), (.int (4 : Int32)), (.int p1), (.int p2)] 10)) t := by
      intro t k
      refine pre1 t ?_
      refine XS.icmpNo X0.here hx rfl (hb hby d4_2) rfl (flt h2).1 ?_
      show Steps p.tables e below (s₁.setTop (mkF m 5 #[.val (.ref a2), .val (.int (4 : Int32)), .val (.int p1), .val (.int p2), .unset, .unset, .unset, .unset, .unset, .unset] [])) _
      refine XS.iloadN X0.here hx rfl (hb hby d4_5) rfl ?_
      show Steps p.tables e below (s₁.setTop (mkF m 6 #[.val (.ref a2), .val (.int (4 : Int32)), .val (.int p1), .val (.int p2), .unset, .unset, .unset, .unset, .unset, .unset] [(.int (4 : Int32))])) _
      refine XS.iloadN X0.here hx rfl (hb hby d4_6) rfl ?_
      show Steps p.tables e below (s₁.setTop (mkF m 7 #[.val (.ref a2), .val (.int (4 : Int32)), .val (.int p1), .val (.int p2), .unset, .unset, .unset, .unset, .unset, .unset] [(.int p2), (.int (4 : Int32))])) _
      exact k
    by_cases h7 : (4 : Int32) < p2
    · skip
      have pre4 : ∀ t, Steps p.tables e below (s₁.setTop (mkF m 59 #[.val (.ref a2), .val (.int (4 : Int32)), .val (.int p1), .val (.int p2), .val (.long r1), .second, .val (.long r2), .second, .val (.long ((p2 - (4 : Int32)).toInt64)), .second] [(.long ((r1 * (((3 : Int64) * ((p2 - (4 : Int32)).toInt64)) - (1 : Int64))) + (r2 * (((3 : Int64) * ((p2 - (4 : Int32)).toInt64)) - (2 : Int64)))))])) t → Steps p.tables e below (s₁.setTop (entryFrame m #[(.ref a2), (.int (4 : Int32)), (.int p1), (.int p2)] 10)) t := by
        intro t k
        refine pre3 t ?_
        refine XS.icmpYes X0.here hx rfl (pc0 := 7) (pc' := 12) rfl (hb hby d4_7) rfl (tlt h7).1 (by decide) (by decide) ?_
        show Steps p.tables e below (s₁.setTop (mkF m 12 #[.val (.ref a2), .val (.int (4 : Int32)), .val (.int p1), .val (.int p2), .unset, .unset, .unset, .unset, .unset, .unset] [])) _
        refine XS.aloadN X0.here hx rfl (hb hby d4_12) rfl (rfl) ?_
        show Steps p.tables e below (s₁.setTop (mkF m 13 #[.val (.ref a2), .val (.int (4 : Int32)), .val (.int p1), .val (.int p2), .unset, .unset, .unset, .unset, .unset, .unset] [(.ref a2)])) _
        refine XS.iloadN X0.here hx rfl (hb hby d4_13) rfl ?_
        show Steps p.tables e below (s₁.setTop (mkF m 14 #[.val (.ref a2), .val (.int (4 : Int32)), .val (.int p1), .val (.int p2), .unset, .unset, .unset, .unset, .unset, .unset] [(.int (4 : Int32)), (.ref a2)])) _
        refine XS.iconst X0.here hx rfl (hb hby d4_14) ?_
        show Steps p.tables e below (s₁.setTop (mkF m 15 #[.val (.ref a2), .val (.int (4 : Int32)), .val (.int p1), .val (.int p2), .unset, .unset, .unset, .unset, .unset, .unset] [(.int (3 : Int32)), (.int (4 : Int32)), (.ref a2)])) _
        refine iremM X0 hx rfl (hb hby d4_15) rfl (by decide) ?_
        show Steps p.tables e below (s₁.setTop (mkF m 16 #[.val (.ref a2), .val (.int (4 : Int32)), .val (.int p1), .val (.int p2), .unset, .unset, .unset, .unset, .unset, .unset] [(.int (1 : Int32)), (.ref a2)])) _
        refine X0.laload hx (j := (1 : Int32)) (v := (.long r1)) (by rw [e0]; exact Ar.1) (State.isArrayOf_alike hZ.alike Ar.2.1) Ar.2.2 (inb_of Sz ⟨by decide, by decide⟩) t1 (g := (mkF m 16 #[.val (.ref a2), .val (.int (4 : Int32)), .val (.int p1), .val (.int p2), .unset, .unset, .unset, .unset, .unset, .unset] [(.int (1 : Int32)), (.ref a2)])) rfl rfl (hb hby d4_16) _ ?_
        show Steps p.tables e below (s₁.setTop (mkF m 17 #[.val (.ref a2), .val (.int (4 : Int32)), .val (.int p1), .val (.int p2), .unset, .unset, .unset, .unset, .unset, .unset] [(.long r1)])) _
        refine XS.lstore X0.here hx rfl (hb hby d4_17) rfl (l' := #[.val (.ref a2), .val (.int (4 : Int32)), .val (.int p1), .val (.int p2), .val (.long r1), .second, .unset, .unset, .unset, .unset]) rfl ?_
        show Steps p.tables e below (s₁.setTop (mkF m 19 #[.val (.ref a2), .val (.int (4 : Int32)), .val (.int p1), .val (.int p2), .val (.long r1), .second, .unset, .unset, .unset, .unset] [])) _
        refine XS.aloadN X0.here hx rfl (hb hby d4_19) rfl (rfl) ?_
        show Steps p.tables e below (s₁.setTop (mkF m 20 #[.val (.ref a2), .val (.int (4 : Int32)), .val (.int p1), .val (.int p2), .val (.long r1), .second, .unset, .unset, .unset, .unset] [(.ref a2)])) _
        refine XS.iloadN X0.here hx rfl (hb hby d4_20) rfl ?_
        show Steps p.tables e below (s₁.setTop (mkF m 21 #[.val (.ref a2), .val (.int (4 : Int32)), .val (.int p1), .val (.int p2), .val (.long r1), .second, .unset, .unset, .unset, .unset] [(.int (4 : Int32)), (.ref a2)])) _
        refine XS.iconst X0.here hx rfl (hb hby d4_21) ?_
        show Steps p.tables e below (s₁.setTop (mkF m 22 #[.val (.ref a2), .val (.int (4 : Int32)), .val (.int p1), .val (.int p2), .val (.long r1), .second, .unset, .unset, .unset, .unset] [(.int (1 : Int32)), (.int (4 : Int32)), (.ref a2)])) _
        refine XS.iadd X0.here hx rfl (hb hby d4_22) rfl ?_
        show Steps p.tables e below (s₁.setTop (mkF m 23 #[.val (.ref a2), .val (.int (4 : Int32)), .val (.int p1), .val (.int p2), .val (.long r1), .second, .unset, .unset, .unset, .unset] [(.int (5 : Int32)), (.ref a2)])) _
        refine XS.iconst X0.here hx rfl (hb hby d4_23) ?_
        show Steps p.tables e below (s₁.setTop (mkF m 24 #[.val (.ref a2), .val (.int (4 : Int32)), .val (.int p1), .val (.int p2), .val (.long r1), .second, .unset, .unset, .unset, .unset] [(.int (3 : Int32)), (.int (5 : Int32)), (.ref a2)])) _
        refine iremM X0 hx rfl (hb hby d4_24) rfl (by decide) ?_
        show Steps p.tables e below (s₁.setTop (mkF m 25 #[.val (.ref a2), .val (.int (4 : Int32)), .val (.int p1), .val (.int p2), .val (.long r1), .second, .unset, .unset, .unset, .unset] [(.int (2 : Int32)), (.ref a2)])) _
        refine X0.laload hx (j := (2 : Int32)) (v := (.long r2)) (by rw [e0]; exact Ar.1) (State.isArrayOf_alike hZ.alike Ar.2.1) Ar.2.2 (inb_of Sz ⟨by decide, by decide⟩) t2 (g := (mkF m 25 #[.val (.ref a2), .val (.int (4 : Int32)), .val (.int p1), .val (.int p2), .val (.long r1), .second, .unset, .unset, .unset, .unset] [(.int (2 : Int32)), (.ref a2)])) rfl rfl (hb hby d4_25) _ ?_
        show Steps p.tables e below (s₁.setTop (mkF m 26 #[.val (.ref a2), .val (.int (4 : Int32)), .val (.int p1), .val (.int p2), .val (.long r1), .second, .unset, .unset, .unset, .unset] [(.long r2)])) _
        refine XS.lstore X0.here hx rfl (hb hby d4_26) rfl (l' := #[.val (.ref a2), .val (.int (4 : Int32)), .val (.int p1), .val (.int p2), .val (.long r1), .second, .val (.long r2), .second, .unset, .unset]) rfl ?_
        show Steps p.tables e below (s₁.setTop (mkF m 28 #[.val (.ref a2), .val (.int (4 : Int32)), .val (.int p1), .val (.int p2), .val (.long r1), .second, .val (.long r2), .second, .unset, .unset] [])) _
        refine XS.iloadN X0.here hx rfl (hb hby d4_28) rfl ?_
        show Steps p.tables e below (s₁.setTop (mkF m 29 #[.val (.ref a2), .val (.int (4 : Int32)), .val (.int p1), .val (.int p2), .val (.long r1), .second, .val (.long r2), .second, .unset, .unset] [(.int p2)])) _
        refine XS.iloadN X0.here hx rfl (hb hby d4_29) rfl ?_
        show Steps p.tables e below (s₁.setTop (mkF m 30 #[.val (.ref a2), .val (.int (4 : Int32)), .val (.int p1), .val (.int p2), .val (.long r1), .second, .val (.long r2), .second, .unset, .unset] [(.int (4 : Int32)), (.int p2)])) _
        refine XS.isub X0.here hx rfl (hb hby d4_30) rfl ?_
        show Steps p.tables e below (s₁.setTop (mkF m 31 #[.val (.ref a2), .val (.int (4 : Int32)), .val (.int p1), .val (.int p2), .val (.long r1), .second, .val (.long r2), .second, .unset, .unset] [(.int (p2 - (4 : Int32)))])) _
        refine XS.i2l X0.here hx rfl (hb hby d4_31) rfl ?_
        show Steps p.tables e below (s₁.setTop (mkF m 32 #[.val (.ref a2), .val (.int (4 : Int32)), .val (.int p1), .val (.int p2), .val (.long r1), .second, .val (.long r2), .second, .unset, .unset] [(.long ((p2 - (4 : Int32)).toInt64))])) _
        refine XS.lstore X0.here hx rfl (hb hby d4_32) rfl (l' := #[.val (.ref a2), .val (.int (4 : Int32)), .val (.int p1), .val (.int p2), .val (.long r1), .second, .val (.long r2), .second, .val (.long ((p2 - (4 : Int32)).toInt64)), .second]) rfl ?_
        show Steps p.tables e below (s₁.setTop (mkF m 34 #[.val (.ref a2), .val (.int (4 : Int32)), .val (.int p1), .val (.int p2), .val (.long r1), .second, .val (.long r2), .second, .val (.long ((p2 - (4 : Int32)).toInt64)), .second] [])) _
        refine XS.lload X0.here hx rfl (hb hby d4_34) rfl ?_
        show Steps p.tables e below (s₁.setTop (mkF m 36 #[.val (.ref a2), .val (.int (4 : Int32)), .val (.int p1), .val (.int p2), .val (.long r1), .second, .val (.long r2), .second, .val (.long ((p2 - (4 : Int32)).toInt64)), .second] [(.long r1)])) _
        refine X0.ldc2Long hx hown (mvT hZ (hw _ (List.mem_of_getElem? (i := 17) rfl))) (g := (mkF m 36 #[.val (.ref a2), .val (.int (4 : Int32)), .val (.int p1), .val (.int p2), .val (.long r1), .second, .val (.long r2), .second, .val (.long ((p2 - (4 : Int32)).toInt64)), .second] [(.long r1)])) rfl (hb hby d4_36) _ ?_
        show Steps p.tables e below (s₁.setTop (mkF m 39 #[.val (.ref a2), .val (.int (4 : Int32)), .val (.int p1), .val (.int p2), .val (.long r1), .second, .val (.long r2), .second, .val (.long ((p2 - (4 : Int32)).toInt64)), .second] [(.long (3 : Int64)), (.long r1)])) _
        refine XS.lload X0.here hx rfl (hb hby d4_39) rfl ?_
        show Steps p.tables e below (s₁.setTop (mkF m 41 #[.val (.ref a2), .val (.int (4 : Int32)), .val (.int p1), .val (.int p2), .val (.long r1), .second, .val (.long r2), .second, .val (.long ((p2 - (4 : Int32)).toInt64)), .second] [(.long ((p2 - (4 : Int32)).toInt64)), (.long (3 : Int64)), (.long r1)])) _
        refine XS.lmul X0.here hx rfl (hb hby d4_41) rfl ?_
        show Steps p.tables e below (s₁.setTop (mkF m 42 #[.val (.ref a2), .val (.int (4 : Int32)), .val (.int p1), .val (.int p2), .val (.long r1), .second, .val (.long r2), .second, .val (.long ((p2 - (4 : Int32)).toInt64)), .second] [(.long ((3 : Int64) * ((p2 - (4 : Int32)).toInt64))), (.long r1)])) _
        refine XS.lconst X0.here hx rfl (hb hby d4_42) ?_
        show Steps p.tables e below (s₁.setTop (mkF m 43 #[.val (.ref a2), .val (.int (4 : Int32)), .val (.int p1), .val (.int p2), .val (.long r1), .second, .val (.long r2), .second, .val (.long ((p2 - (4 : Int32)).toInt64)), .second] [(.long (1 : Int64)), (.long ((3 : Int64) * ((p2 - (4 : Int32)).toInt64))), (.long r1)])) _
        refine XS.lsub X0.here hx rfl (hb hby d4_43) rfl ?_
        show Steps p.tables e below (s₁.setTop (mkF m 44 #[.val (.ref a2), .val (.int (4 : Int32)), .val (.int p1), .val (.int p2), .val (.long r1), .second, .val (.long r2), .second, .val (.long ((p2 - (4 : Int32)).toInt64)), .second] [(.long (((3 : Int64) * ((p2 - (4 : Int32)).toInt64)) - (1 : Int64))), (.long r1)])) _
        refine XS.lmul X0.here hx rfl (hb hby d4_44) rfl ?_
        show Steps p.tables e below (s₁.setTop (mkF m 45 #[.val (.ref a2), .val (.int (4 : Int32)), .val (.int p1), .val (.int p2), .val (.long r1), .second, .val (.long r2), .second, .val (.long ((p2 - (4 : Int32)).toInt64)), .second] [(.long (r1 * (((3 : Int64) * ((p2 - (4 : Int32)).toInt64)) - (1 : Int64))))])) _
        refine XS.lload X0.here hx rfl (hb hby d4_45) rfl ?_
        show Steps p.tables e below (s₁.setTop (mkF m 47 #[.val (.ref a2), .val (.int (4 : Int32)), .val (.int p1), .val (.int p2), .val (.long r1), .second, .val (.long r2), .second, .val (.long ((p2 - (4 : Int32)).toInt64)), .second] [(.long r2), (.long (r1 * (((3 : Int64) * ((p2 - (4 : Int32)).toInt64)) - (1 : Int64))))])) _
        refine X0.ldc2Long hx hown (mvT hZ (hw _ (List.mem_of_getElem? (i := 17) rfl))) (g := (mkF m 47 #[.val (.ref a2), .val (.int (4 : Int32)), .val (.int p1), .val (.int p2), .val (.long r1), .second, .val (.long r2), .second, .val (.long ((p2 - (4 : Int32)).toInt64)), .second] [(.long r2), (.long (r1 * (((3 : Int64) * ((p2 - (4 : Int32)).toInt64)) - (1 : Int64))))])) rfl (hb hby d4_47) _ ?_
        show Steps p.tables e below (s₁.setTop (mkF m 50 #[.val (.ref a2), .val (.int (4 : Int32)), .val (.int p1), .val (.int p2), .val (.long r1), .second, .val (.long r2), .second, .val (.long ((p2 - (4 : Int32)).toInt64)), .second] [(.long (3 : Int64)), (.long r2), (.long (r1 * (((3 : Int64) * ((p2 - (4 : Int32)).toInt64)) - (1 : Int64))))])) _
        refine XS.lload X0.here hx rfl (hb hby d4_50) rfl ?_
        show Steps p.tables e below (s₁.setTop (mkF m 52 #[.val (.ref a2), .val (.int (4 : Int32)), .val (.int p1), .val (.int p2), .val (.long r1), .second, .val (.long r2), .second, .val (.long ((p2 - (4 : Int32)).toInt64)), .second] [(.long ((p2 - (4 : Int32)).toInt64)), (.long (3 : Int64)), (.long r2), (.long (r1 * (((3 : Int64) * ((p2 - (4 : Int32)).toInt64)) - (1 : Int64))))])) _
        refine XS.lmul X0.here hx rfl (hb hby d4_52) rfl ?_
        show Steps p.tables e below (s₁.setTop (mkF m 53 #[.val (.ref a2), .val (.int (4 : Int32)), .val (.int p1), .val (.int p2), .val (.long r1), .second, .val (.long r2), .second, .val (.long ((p2 - (4 : Int32)).toInt64)), .second] [(.long ((3 : Int64) * ((p2 - (4 : Int32)).toInt64))), (.long r2), (.long (r1 * (((3 : Int64) * ((p2 - (4 : Int32)).toInt64)) - (1 : Int64))))])) _
        refine X0.ldc2Long hx hown (mvT hZ (hw _ (List.mem_of_getElem? (i := 18) rfl))) (g := (mkF m 53 #[.val (.ref a2), .val (.int (4 : Int32)), .val (.int p1), .val (.int p2), .val (.long r1), .second, .val (.long r2), .second, .val (.long ((p2 - (4 : Int32)).toInt64)), .second] [(.long ((3 : Int64) * ((p2 - (4 : Int32)).toInt64))), (.long r2), (.long (r1 * (((3 : Int64) * ((p2 - (4 : Int32)).toInt64)) - (1 : Int64))))])) rfl (hb hby d4_53) _ ?_
        show Steps p.tables e below (s₁.setTop (mkF m 56 #[.val (.ref a2), .val (.int (4 : Int32)), .val (.int p1), .val (.int p2), .val (.long r1), .second, .val (.long r2), .second, .val (.long ((p2 - (4 : Int32)).toInt64)), .second] [(.long (2 : Int64)), (.long ((3 : Int64) * ((p2 - (4 : Int32)).toInt64))), (.long r2), (.long (r1 * (((3 : Int64) * ((p2 - (4 : Int32)).toInt64)) - (1 : Int64))))])) _
        refine XS.lsub X0.here hx rfl (hb hby d4_56) rfl ?_
        show Steps p.tables e below (s₁.setTop (mkF m 57 #[.val (.ref a2), .val (.int (4 : Int32)), .val (.int p1), .val (.int p2), .val (.long r1), .second, .val (.long r2), .second, .val (.long ((p2 - (4 : Int32)).toInt64)), .second] [(.long (((3 : Int64) * ((p2 - (4 : Int32)).toInt64)) - (2 : Int64))), (.long r2), (.long (r1 * (((3 : Int64) * ((p2 - (4 : Int32)).toInt64)) - (1 : Int64))))])) _
        refine XS.lmul X0.here hx rfl (hb hby d4_57) rfl ?_
        show Steps p.tables e below (s₁.setTop (mkF m 58 #[.val (.ref a2), .val (.int (4 : Int32)), .val (.int p1), .val (.int p2), .val (.long r1), .second, .val (.long r2), .second, .val (.long ((p2 - (4 : Int32)).toInt64)), .second] [(.long (r2 * (((3 : Int64) * ((p2 - (4 : Int32)).toInt64)) - (2 : Int64)))), (.long (r1 * (((3 : Int64) * ((p2 - (4 : Int32)).toInt64)) - (1 : Int64))))])) _
        refine XS.ladd X0.here hx rfl (hb hby d4_58) rfl ?_
        show Steps p.tables e below (s₁.setTop (mkF m 59 #[.val (.ref a2), .val (.int (4 : Int32)), .val (.int p1), .val (.int p2), .val (.long r1), .second, .val (.long r2), .second, .val (.long ((p2 - (4 : Int32)).toInt64)), .second] [(.long ((r1 * (((3 : Int64) * ((p2 - (4 : Int32)).toInt64)) - (1 : Int64))) + (r2 * (((3 : Int64) * ((p2 - (4 : Int32)).toInt64)) - (2 : Int64)))))])) _
        exact k
      obtain ⟨fs, hr, hrun, hended, hW, hsame⟩ := X0.leave (v := some (.long ((r1 * (((3 : Int64) * ((p2 - (4 : Int32)).toInt64)) - (1 : Int64))) + (r2 * (((3 : Int64) * ((p2 - (4 : Int32)).toInt64)) - (2 : Int64)))))) (fun h => by rw [Bd.returns] at h; cases h)
      refine ⟨_, _, pre4 _ ?_, hrun, hended, _, _, rfl, ?_, ⟨_, rfl⟩, hW, hsame.mono (by decide) (by decide)⟩
      · exact retOut X0 hx Bd.returns rfl (Or.inr (Or.inl ⟨rfl, rfl, _, rfl⟩)) (hb hby d4_59) hr
      · show Q_rmS4 Z a2 p1 p2 cl r0 r1 r2 h0 n0 _ s₁.heap _
        rw [e0]
        exact ⟨by simp [own_st, h2, h7], N0, rfl⟩
    · skip
      have pre5 : ∀ t, Steps p.tables e below (s₁.setTop (mkF m 11 #[.val (.ref a2), .val (.int (4 : Int32)), .val (.int p1), .val (.int p2), .unset, .unset, .unset, .unset, .unset, .unset] [(.long (0 : Int64))])) t → Steps p.tables e below (s₁.setTop (entryFrame m #[(.ref a2), (.int (4 : Int32)), (.int p1), (.int p2)] 10)) t := by
        intro t k
        refine pre3 t ?_
        refine XS.icmpNo X0.here hx rfl (hb hby d4_7) rfl (flt h7).1 ?_
        show Steps p.tables e below (s₁.setTop (mkF m 10 #[.val (.ref a2), .val (.int (4 : Int32)), .val (.int p1), .val (.int p2), .unset, .unset, .unset, .unset, .unset, .unset] [])) _
        refine XS.lconst X0.here hx rfl (hb hby d4_10) ?_
        show Steps p.tables e below (s₁.setTop (mkF m 11 #[.val (.ref a2), .val (.int (4 : Int32)), .val (.int p1), .val (.int p2), .unset, .unset, .unset, .unset, .unset, .unset] [(.long (0 : Int64))])) _
        exact k
      obtain ⟨fs, hr, hrun, hended, hW, hsame⟩ := X0.leave (v := some (.long (0 : Int64))) (fun h => by rw [Bd.returns] at h; cases h)
      refine ⟨_, _, pre5 _ ?_, hrun, hended, _, _, rfl, ?_, ⟨_, rfl⟩, hW, hsame.mono (by decide) (by decide)⟩
      · exact retOut X0 hx Bd.returns rfl (Or.inr (Or.inl ⟨rfl, rfl, _, rfl⟩)) (hb hby d4_11) hr
      · show Q_rmS4 Z a2 p1 p2 cl r0 r1 r2 h0 n0 _ s₁.heap _
        rw [e0]
        exact ⟨by simp [own_st, h2, h7], N0, rfl⟩
theorem ef_rmS5 (m : MethodId) (x0 : Addr) (x1 : Int32) (x2 : Int32) (x3 : Int32) : entryFrame m #[(.ref x0), (.int x1), (.int x2), (.int x3)] 10 = mkF m 0 #[.val (.ref x0), .val (.int x1), .val (.int x2), .val (.int x3), .unset, .unset, .unset, .unset, .unset, .unset] [] := by first | (simp [entryFrame, mkF, argsToLocals, Value.category]; done) | rfl
def Q_rmS5 (Z : State) (a2 : Addr) (p1 : Int32) (p2 : Int32) (cl : Cell) (r0 : Int64) (r1 : Int64) (r2 : Int64) (h0 : Heap) (n0 : Nat) (v : Option Value) (h : Heap) (L : List Loc) : Prop := v = some (.long (own_st (5 : Int32) p1 p2 r2 r0)) ∧ Fr n0 L ∧ h = h0
set_option maxRecDepth 65536 in
set_option maxHeartbeats 40000000 in
theorem rmS5 (l : Launch) (Z : State) (a0 : Array Value) (hw : ∀ d ∈ tables_1, d.before a0 Z = true) (ws : List Jvm.Cond) (a2 : Addr) (p1 : Int32) (p2 : Int32) (cl : Cell) (r0 : Int64) (r1 : Int64) (r2 : Int64) (h0 : Heap) (n0 : Nat) (Z0 : n0 ≤ h0.size) (Ar : Arr Z h0 a2 cl .long) (Sz : cl.slots.size = (3 : Int32).toNatClampNeg) (t0 : cl.slots[0]? = some (.long r0)) (t1 : cl.slots[1]? = some (.long r1)) (t2 : cl.slots[2]? = some (.long r2)) :
    MetFree l (⟨"com/example/hummingbird/hummingbird/engine/RhythmWaitingPinLaw", "step", "([JIII)J"⟩ : MethodName) (head1 (Jvm.Cond.code (⟨"com/example/hummingbird/hummingbird/engine/RhythmWaitingPinLaw", "step", "([JIII)J"⟩ : MethodName) method_2_code 10 (some .long) :: ws) ({ frames := 0, cells := 0, slots := 0, locals := 0 } : Room)) (fun a U => a = #[(.ref a2), (.int (5 : Int32)), (.int p1), (.int p2)] ∧ Z.Warmed39 U.vm ∧ U.heap = h0) (fun _ _ _ _ _ => True) (fun _ U o U' => ∃ v L, o = .returned v ∧ Q_rmS5 Z a2 p1 p2 cl r0 r1 r2 h0 n0 v U'.heap L ∧ FrameEnd U o U' L ({ frames := 0, cells := 0, slots := 0, locals := 0 } : Room).cells ({ frames := 0, cells := 0, slots := 0, locals := 0 } : Room).slots) := by
  refine MetFree.of_bodySF (plainFor_of_name pn_1) hisR ?_
  intro p e s m args below meth c s₁ Bd hml0 hP hK
  obtain ⟨rfl, hZ, hh⟩ := hP
  have hx := Bd.exec
  have hby := Bd.bytes
  have hml : c.maxLocals = 10 := hml0
  have hown : s.vm.findClass "com/example/hummingbird/hummingbird/engine/RhythmWaitingPinLaw" = some m.cls := (findClass_of_methodNamed Bd.named :)
  have hnm := (name_of_methodNamed Bd.named Bd.method).1
  have X0 : Stand p l e ({ frames := 0, cells := 0, slots := 0, locals := 0 } : Room) s m #[(.ref a2), (.int (5 : Int32)), (.int p1), (.int p2)] below meth c s₁ [] 0 0 := Stand.of_body Bd
  have e0 : s₁.heap = h0 := by rw [← hh, Bd.state]; rfl
  have N0 := Fr.nil n0
  have pre0 : ∀ t, Steps p.tables e below (s₁.setTop (mkF m 0 #[.val (.ref a2), .val (.int (5 : Int32)), .val (.int p1), .val (.int p2), .unset, .unset, .unset, .unset, .unset, .unset] [])) t → Steps p.tables e below (s₁.setTop (entryFrame m #[(.ref a2), (.int (5 : Int32)), (.int p1), (.int p2)] 10)) t := fun t k => castTop (ef_rmS5 m a2 (5 : Int32) p1 p2) k
  have pre1 : ∀ t, Steps p.tables e below (s₁.setTop (mkF m 2 #[.val (.ref a2), .val (.int (5 : Int32)), .val (.int p1), .val (.int p2), .unset, .unset, .unset, .unset, .unset, .unset] [(.int p1), (.int (5 : Int32))])) t → Steps p.tables e below (s₁.setTop (entryFrame m #[(.ref a2), (.int (5 : Int32)), (.int p1), (.int p2)] 10)) t := by
    intro t k
    refine pre0 t ?_
    show Steps p.tables e below (s₁.setTop (mkF m 0 #[.val (.ref a2), .val (.int (5 : Int32)), .val (.int p1), .val (.int p2), .unset, .unset, .unset, .unset, .unset, .unset] [])) _
    refine XS.iloadN X0.here hx rfl (hb hby d4_0) rfl ?_
    show Steps p.tables e below (s₁.setTop (mkF m 1 #[.val (.ref a2), .val (.int (5 : Int32)), .val (.int p1), .val (.int p2), .unset, .unset, .unset, .unset, .unset, .unset] [(.int (5 : Int32))])) _
    refine XS.iloadN X0.here hx rfl (hb hby d4_1) rfl ?_
    show Steps p.tables e below (s₁.setTop (mkF m 2 #[.val (.ref a2), .val (.int (5 : Int32)), .val (.int p1), .val (.int p2), .unset, .unset, .unset, .unset, .unset, .unset] [(.int p1), (.int (5 : Int32))])) _
    exact k
  by_cases h2 : (5 : Int32) < p1
  · skip
    have pre2 : ∀ t, Steps p.tables e below (s₁.setTop (mkF m 11 #[.val (.ref a2), .val (.int (5 : Int32)), .val (.int p1), .val (.int p2), .unset, .unset, .unset, .unset, .unset, .unset] [(.long (0 : Int64))])) t → Steps p.tables e below (s₁.setTop (entryFrame m #[(.ref a2), (.int (5 : Int32)), (.int p1), (.int p2)] 10)) t := by
      intro t k
      refine pre1 t ?_
      refine XS.icmpYes X0.here hx rfl (pc0 := 2) (pc' := 10) rfl (hb hby d4_2) rfl (tlt h2).1 (by decide) (by decide) ?_
      show Steps p.tables e below (s₁.setTop (mkF m 10 #[.val (.ref a2), .val (.int (5 : Int32)), .val (.int p1), .val (.int p2), .unset, .unset, .unset, .unset, .unset, .unset] [])) _
      refine XS.lconst X0.here hx rfl (hb hby d4_10) ?_
      show Steps p.tables e below (s₁.setTop (mkF m 11 #[.val (.ref a2), .val (.int (5 : Int32)), .val (.int p1), .val (.int p2), .unset, .unset, .unset, .unset, .unset, .unset] [(.long (0 : Int64))])) _
      exact k
    obtain ⟨fs, hr, hrun, hended, hW, hsame⟩ := X0.leave (v := some (.long (0 : Int64))) (fun h => by rw [Bd.returns] at h; cases h)
    refine ⟨_, _, pre2 _ ?_, hrun, hended, _, _, rfl, ?_, ⟨_, rfl⟩, hW, hsame.mono (by decide) (by decide)⟩
    · exact retOut X0 hx Bd.returns rfl (Or.inr (Or.inl ⟨rfl, rfl, _, rfl⟩)) (hb hby d4_11) hr
    · show Q_rmS5 Z a2 p1 p2 cl r0 r1 r2 h0 n0 _ s₁.heap _
      rw [e0]
      exact ⟨by simp [own_st, h2], N0, rfl⟩
  · skip
    have pre3 : ∀ t, Steps p.tables e below (s₁.setTop (mkF m 7 #[.val (.ref a2), .val (.int (5 : Int32)), .val (.int p1), .val (.int p2), .unset, .unset, .unset, .unset, .unset, .unset] [(.int p2), (.int (5 : Int32))])) t → Steps p.tables e below (s₁.setTop (entryFrame m #[(.ref a2), (.int (5 : Int32)), (.int p1), (.int p2)] 10)) t := by
      intro t k
      refine pre1 t ?_
      refine XS.icmpNo X0.here hx rfl (hb hby d4_2) rfl (flt h2).1 ?_
      show Steps p.tables e below (s₁.setTop (mkF m 5 #[.val (.ref a2), .val (.int (5 : Int32)), .val (.int p1), .val (.int p2), .unset, .unset, .unset, .unset, .unset, .unset] [])) _
      refine XS.iloadN X0.here hx rfl (hb hby d4_5) rfl ?_
      show Steps p.tables e below (s₁.setTop (mkF m 6 #[.val (.ref a2), .val (.int (5 : Int32)), .val (.int p1), .val (.int p2), .unset, .unset, .unset, .unset, .unset, .unset] [(.int (5 : Int32))])) _
      refine XS.iloadN X0.here hx rfl (hb hby d4_6) rfl ?_
      show Steps p.tables e below (s₁.setTop (mkF m 7 #[.val (.ref a2), .val (.int (5 : Int32)), .val (.int p1), .val (.int p2), .unset, .unset, .unset, .unset, .unset, .unset] [(.int p2), (.int (5 : Int32))])) _
      exact k
    by_cases h7 : (5 : Int32) < p2
    · skip
      have pre4 : ∀ t, Steps p.tables e below (s₁.setTop (mkF m 59 #[.val (.ref a2), .val (.int (5 : Int32)), .val (.int p1), .val (.int p2), .val (.long r2), .second, .val (.long r0), .second, .val (.long ((p2 - (5 : Int32)).toInt64)), .second] [(.long ((r2 * (((3 : Int64) * ((p2 - (5 : Int32)).toInt64)) - (1 : Int64))) + (r0 * (((3 : Int64) * ((p2 - (5 : Int32)).toInt64)) - (2 : Int64)))))])) t → Steps p.tables e below (s₁.setTop (entryFrame m #[(.ref a2), (.int (5 : Int32)), (.int p1), (.int p2)] 10)) t := by
        intro t k
        refine pre3 t ?_
        refine XS.icmpYes X0.here hx rfl (pc0 := 7) (pc' := 12) rfl (hb hby d4_7) rfl (tlt h7).1 (by decide) (by decide) ?_
        show Steps p.tables e below (s₁.setTop (mkF m 12 #[.val (.ref a2), .val (.int (5 : Int32)), .val (.int p1), .val (.int p2), .unset, .unset, .unset, .unset, .unset, .unset] [])) _
        refine XS.aloadN X0.here hx rfl (hb hby d4_12) rfl (rfl) ?_
        show Steps p.tables e below (s₁.setTop (mkF m 13 #[.val (.ref a2), .val (.int (5 : Int32)), .val (.int p1), .val (.int p2), .unset, .unset, .unset, .unset, .unset, .unset] [(.ref a2)])) _
        refine XS.iloadN X0.here hx rfl (hb hby d4_13) rfl ?_
        show Steps p.tables e below (s₁.setTop (mkF m 14 #[.val (.ref a2), .val (.int (5 : Int32)), .val (.int p1), .val (.int p2), .unset, .unset, .unset, .unset, .unset, .unset] [(.int (5 : Int32)), (.ref a2)])) _
        refine XS.iconst X0.here hx rfl (hb hby d4_14) ?_
        show Steps p.tables e below (s₁.setTop (mkF m 15 #[.val (.ref a2), .val (.int (5 : Int32)), .val (.int p1), .val (.int p2), .unset, .unset, .unset, .unset, .unset, .unset] [(.int (3 : Int32)), (.int (5 : Int32)), (.ref a2)])) _
        refine iremM X0 hx rfl (hb hby d4_15) rfl (by decide) ?_
        show Steps p.tables e below (s₁.setTop (mkF m 16 #[.val (.ref a2), .val (.int (5 : Int32)), .val (.int p1), .val (.int p2), .unset, .unset, .unset, .unset, .unset, .unset] [(.int (2 : Int32)), (.ref a2)])) _
        refine X0.laload hx (j := (2 : Int32)) (v := (.long r2)) (by rw [e0]; exact Ar.1) (State.isArrayOf_alike hZ.alike Ar.2.1) Ar.2.2 (inb_of Sz ⟨by decide, by decide⟩) t2 (g := (mkF m 16 #[.val (.ref a2), .val (.int (5 : Int32)), .val (.int p1), .val (.int p2), .unset, .unset, .unset, .unset, .unset, .unset] [(.int (2 : Int32)), (.ref a2)])) rfl rfl (hb hby d4_16) _ ?_
        show Steps p.tables e below (s₁.setTop (mkF m 17 #[.val (.ref a2), .val (.int (5 : Int32)), .val (.int p1), .val (.int p2), .unset, .unset, .unset, .unset, .unset, .unset] [(.long r2)])) _
        refine XS.lstore X0.here hx rfl (hb hby d4_17) rfl (l' := #[.val (.ref a2), .val (.int (5 : Int32)), .val (.int p1), .val (.int p2), .val (.long r2), .second, .unset, .unset, .unset, .unset]) rfl ?_
        show Steps p.tables e below (s₁.setTop (mkF m 19 #[.val (.ref a2), .val (.int (5 : Int32)), .val (.int p1), .val (.int p2), .val (.long r2), .second, .unset, .unset, .unset, .unset] [])) _
        refine XS.aloadN X0.here hx rfl (hb hby d4_19) rfl (rfl) ?_
        show Steps p.tables e below (s₁.setTop (mkF m 20 #[.val (.ref a2), .val (.int (5 : Int32)), .val (.int p1), .val (.int p2), .val (.long r2), .second, .unset, .unset, .unset, .unset] [(.ref a2)])) _
        refine XS.iloadN X0.here hx rfl (hb hby d4_20) rfl ?_
        show Steps p.tables e below (s₁.setTop (mkF m 21 #[.val (.ref a2), .val (.int (5 : Int32)), .val (.int p1), .val (.int p2), .val (.long r2), .second, .unset, .unset, .unset, .unset] [(.int (5 : Int32)), (.ref a2)])) _
        refine XS.iconst X0.here hx rfl (hb hby d4_21) ?_
        show Steps p.tables e below (s₁.setTop (mkF m 22 #[.val (.ref a2), .val (.int (5 : Int32)), .val (.int p1), .val (.int p2), .val (.long r2), .second, .unset, .unset, .unset, .unset] [(.int (1 : Int32)), (.int (5 : Int32)), (.ref a2)])) _
        refine XS.iadd X0.here hx rfl (hb hby d4_22) rfl ?_
        show Steps p.tables e below (s₁.setTop (mkF m 23 #[.val (.ref a2), .val (.int (5 : Int32)), .val (.int p1), .val (.int p2), .val (.long r2), .second, .unset, .unset, .unset, .unset] [(.int (6 : Int32)), (.ref a2)])) _
        refine XS.iconst X0.here hx rfl (hb hby d4_23) ?_
        show Steps p.tables e below (s₁.setTop (mkF m 24 #[.val (.ref a2), .val (.int (5 : Int32)), .val (.int p1), .val (.int p2), .val (.long r2), .second, .unset, .unset, .unset, .unset] [(.int (3 : Int32)), (.int (6 : Int32)), (.ref a2)])) _
        refine iremM X0 hx rfl (hb hby d4_24) rfl (by decide) ?_
        show Steps p.tables e below (s₁.setTop (mkF m 25 #[.val (.ref a2), .val (.int (5 : Int32)), .val (.int p1), .val (.int p2), .val (.long r2), .second, .unset, .unset, .unset, .unset] [(.int (0 : Int32)), (.ref a2)])) _
        refine X0.laload hx (j := (0 : Int32)) (v := (.long r0)) (by rw [e0]; exact Ar.1) (State.isArrayOf_alike hZ.alike Ar.2.1) Ar.2.2 (inb_of Sz ⟨by decide, by decide⟩) t0 (g := (mkF m 25 #[.val (.ref a2), .val (.int (5 : Int32)), .val (.int p1), .val (.int p2), .val (.long r2), .second, .unset, .unset, .unset, .unset] [(.int (0 : Int32)), (.ref a2)])) rfl rfl (hb hby d4_25) _ ?_
        show Steps p.tables e below (s₁.setTop (mkF m 26 #[.val (.ref a2), .val (.int (5 : Int32)), .val (.int p1), .val (.int p2), .val (.long r2), .second, .unset, .unset, .unset, .unset] [(.long r0)])) _
        refine XS.lstore X0.here hx rfl (hb hby d4_26) rfl (l' := #[.val (.ref a2), .val (.int (5 : Int32)), .val (.int p1), .val (.int p2), .val (.long r2), .second, .val (.long r0), .second, .unset, .unset]) rfl ?_
        show Steps p.tables e below (s₁.setTop (mkF m 28 #[.val (.ref a2), .val (.int (5 : Int32)), .val (.int p1), .val (.int p2), .val (.long r2), .second, .val (.long r0), .second, .unset, .unset] [])) _
        refine XS.iloadN X0.here hx rfl (hb hby d4_28) rfl ?_
        show Steps p.tables e below (s₁.setTop (mkF m 29 #[.val (.ref a2), .val (.int (5 : Int32)), .val (.int p1), .val (.int p2), .val (.long r2), .second, .val (.long r0), .second, .unset, .unset] [(.int p2)])) _
        refine XS.iloadN X0.here hx rfl (hb hby d4_29) rfl ?_
        show Steps p.tables e below (s₁.setTop (mkF m 30 #[.val (.ref a2), .val (.int (5 : Int32)), .val (.int p1), .val (.int p2), .val (.long r2), .second, .val (.long r0), .second, .unset, .unset] [(.int (5 : Int32)), (.int p2)])) _
        refine XS.isub X0.here hx rfl (hb hby d4_30) rfl ?_
        show Steps p.tables e below (s₁.setTop (mkF m 31 #[.val (.ref a2), .val (.int (5 : Int32)), .val (.int p1), .val (.int p2), .val (.long r2), .second, .val (.long r0), .second, .unset, .unset] [(.int (p2 - (5 : Int32)))])) _
        refine XS.i2l X0.here hx rfl (hb hby d4_31) rfl ?_
        show Steps p.tables e below (s₁.setTop (mkF m 32 #[.val (.ref a2), .val (.int (5 : Int32)), .val (.int p1), .val (.int p2), .val (.long r2), .second, .val (.long r0), .second, .unset, .unset] [(.long ((p2 - (5 : Int32)).toInt64))])) _
        refine XS.lstore X0.here hx rfl (hb hby d4_32) rfl (l' := #[.val (.ref a2), .val (.int (5 : Int32)), .val (.int p1), .val (.int p2), .val (.long r2), .second, .val (.long r0), .second, .val (.long ((p2 - (5 : Int32)).toInt64)), .second]) rfl ?_
        show Steps p.tables e below (s₁.setTop (mkF m 34 #[.val (.ref a2), .val (.int (5 : Int32)), .val (.int p1), .val (.int p2), .val (.long r2), .second, .val (.long r0), .second, .val (.long ((p2 - (5 : Int32)).toInt64)), .second] [])) _
        refine XS.lload X0.here hx rfl (hb hby d4_34) rfl ?_
        show Steps p.tables e below (s₁.setTop (mkF m 36 #[.val (.ref a2), .val (.int (5 : Int32)), .val (.int p1), .val (.int p2), .val (.long r2), .second, .val (.long r0), .second, .val (.long ((p2 - (5 : Int32)).toInt64)), .second] [(.long r2)])) _
        refine X0.ldc2Long hx hown (mvT hZ (hw _ (List.mem_of_getElem? (i := 17) rfl))) (g := (mkF m 36 #[.val (.ref a2), .val (.int (5 : Int32)), .val (.int p1), .val (.int p2), .val (.long r2), .second, .val (.long r0), .second, .val (.long ((p2 - (5 : Int32)).toInt64)), .second] [(.long r2)])) rfl (hb hby d4_36) _ ?_
        show Steps p.tables e below (s₁.setTop (mkF m 39 #[.val (.ref a2), .val (.int (5 : Int32)), .val (.int p1), .val (.int p2), .val (.long r2), .second, .val (.long r0), .second, .val (.long ((p2 - (5 : Int32)).toInt64)), .second] [(.long (3 : Int64)), (.long r2)])) _
        refine XS.lload X0.here hx rfl (hb hby d4_39) rfl ?_
        show Steps p.tables e below (s₁.setTop (mkF m 41 #[.val (.ref a2), .val (.int (5 : Int32)), .val (.int p1), .val (.int p2), .val (.long r2), .second, .val (.long r0), .second, .val (.long ((p2 - (5 : Int32)).toInt64)), .second] [(.long ((p2 - (5 : Int32)).toInt64)), (.long (3 : Int64)), (.long r2)])) _
        refine XS.lmul X0.here hx rfl (hb hby d4_41) rfl ?_
        show Steps p.tables e below (s₁.setTop (mkF m 42 #[.val (.ref a2), .val (.int (5 : Int32)), .val (.int p1), .val (.int p2), .val (.long r2), .second, .val (.long r0), .second, .val (.long ((p2 - (5 : Int32)).toInt64)), .second] [(.long ((3 : Int64) * ((p2 - (5 : Int32)).toInt64))), (.long r2)])) _
        refine XS.lconst X0.here hx rfl (hb hby d4_42) ?_
        show Steps p.tables e below (s₁.setTop (mkF m 43 #[.val (.ref a2), .val (.int (5 : Int32)), .val (.int p1), .val (.int p2), .val (.long r2), .second, .val (.long r0), .second, .val (.long ((p2 - (5 : Int32)).toInt64)), .second] [(.long (1 : Int64)), (.long ((3 : Int64) * ((p2 - (5 : Int32)).toInt64))), (.long r2)])) _
        refine XS.lsub X0.here hx rfl (hb hby d4_43) rfl ?_
        show Steps p.tables e below (s₁.setTop (mkF m 44 #[.val (.ref a2), .val (.int (5 : Int32)), .val (.int p1), .val (.int p2), .val (.long r2), .second, .val (.long r0), .second, .val (.long ((p2 - (5 : Int32)).toInt64)), .second] [(.long (((3 : Int64) * ((p2 - (5 : Int32)).toInt64)) - (1 : Int64))), (.long r2)])) _
        refine XS.lmul X0.here hx rfl (hb hby d4_44) rfl ?_
        show Steps p.tables e below (s₁.setTop (mkF m 45 #[.val (.ref a2), .val (.int (5 : Int32)), .val (.int p1), .val (.int p2), .val (.long r2), .second, .val (.long r0), .second, .val (.long ((p2 - (5 : Int32)).toInt64)), .second] [(.long (r2 * (((3 : Int64) * ((p2 - (5 : Int32)).toInt64)) - (1 : Int64))))])) _
        refine XS.lload X0.here hx rfl (hb hby d4_45) rfl ?_
        show Steps p.tables e below (s₁.setTop (mkF m 47 #[.val (.ref a2), .val (.int (5 : Int32)), .val (.int p1), .val (.int p2), .val (.long r2), .second, .val (.long r0), .second, .val (.long ((p2 - (5 : Int32)).toInt64)), .second] [(.long r0), (.long (r2 * (((3 : Int64) * ((p2 - (5 : Int32)).toInt64)) - (1 : Int64))))])) _
        refine X0.ldc2Long hx hown (mvT hZ (hw _ (List.mem_of_getElem? (i := 17) rfl))) (g := (mkF m 47 #[.val (.ref a2), .val (.int (5 : Int32)), .val (.int p1), .val (.int p2), .val (.long r2), .second, .val (.long r0), .second, .val (.long ((p2 - (5 : Int32)).toInt64)), .second] [(.long r0), (.long (r2 * (((3 : Int64) * ((p2 - (5 : Int32)).toInt64)) - (1 : Int64))))])) rfl (hb hby d4_47) _ ?_
        show Steps p.tables e below (s₁.setTop (mkF m 50 #[.val (.ref a2), .val (.int (5 : Int32)), .val (.int p1), .val (.int p2), .val (.long r2), .second, .val (.long r0), .second, .val (.long ((p2 - (5 : Int32)).toInt64)), .second] [(.long (3 : Int64)), (.long r0), (.long (r2 * (((3 : Int64) * ((p2 - (5 : Int32)).toInt64)) - (1 : Int64))))])) _
        refine XS.lload X0.here hx rfl (hb hby d4_50) rfl ?_
        show Steps p.tables e below (s₁.setTop (mkF m 52 #[.val (.ref a2), .val (.int (5 : Int32)), .val (.int p1), .val (.int p2), .val (.long r2), .second, .val (.long r0), .second, .val (.long ((p2 - (5 : Int32)).toInt64)), .second] [(.long ((p2 - (5 : Int32)).toInt64)), (.long (3 : Int64)), (.long r0), (.long (r2 * (((3 : Int64) * ((p2 - (5 : Int32)).toInt64)) - (1 : Int64))))])) _
        refine XS.lmul X0.here hx rfl (hb hby d4_52) rfl ?_
        show Steps p.tables e below (s₁.setTop (mkF m 53 #[.val (.ref a2), .val (.int (5 : Int32)), .val (.int p1), .val (.int p2), .val (.long r2), .second, .val (.long r0), .second, .val (.long ((p2 - (5 : Int32)).toInt64)), .second] [(.long ((3 : Int64) * ((p2 - (5 : Int32)).toInt64))), (.long r0), (.long (r2 * (((3 : Int64) * ((p2 - (5 : Int32)).toInt64)) - (1 : Int64))))])) _
        refine X0.ldc2Long hx hown (mvT hZ (hw _ (List.mem_of_getElem? (i := 18) rfl))) (g := (mkF m 53 #[.val (.ref a2), .val (.int (5 : Int32)), .val (.int p1), .val (.int p2), .val (.long r2), .second, .val (.long r0), .second, .val (.long ((p2 - (5 : Int32)).toInt64)), .second] [(.long ((3 : Int64) * ((p2 - (5 : Int32)).toInt64))), (.long r0), (.long (r2 * (((3 : Int64) * ((p2 - (5 : Int32)).toInt64)) - (1 : Int64))))])) rfl (hb hby d4_53) _ ?_
        show Steps p.tables e below (s₁.setTop (mkF m 56 #[.val (.ref a2), .val (.int (5 : Int32)), .val (.int p1), .val (.int p2), .val (.long r2), .second, .val (.long r0), .second, .val (.long ((p2 - (5 : Int32)).toInt64)), .second] [(.long (2 : Int64)), (.long ((3 : Int64) * ((p2 - (5 : Int32)).toInt64))), (.long r0), (.long (r2 * (((3 : Int64) * ((p2 - (5 : Int32)).toInt64)) - (1 : Int64))))])) _
        refine XS.lsub X0.here hx rfl (hb hby d4_56) rfl ?_
        show Steps p.tables e below (s₁.setTop (mkF m 57 #[.val (.ref a2), .val (.int (5 : Int32)), .val (.int p1), .val (.int p2), .val (.long r2), .second, .val (.long r0), .second, .val (.long ((p2 - (5 : Int32)).toInt64)), .second] [(.long (((3 : Int64) * ((p2 - (5 : Int32)).toInt64)) - (2 : Int64))), (.long r0), (.long (r2 * (((3 : Int64) * ((p2 - (5 : Int32)).toInt64)) - (1 : Int64))))])) _
        refine XS.lmul X0.here hx rfl (hb hby d4_57) rfl ?_
        show Steps p.tables e below (s₁.setTop (mkF m 58 #[.val (.ref a2), .val (.int (5 : Int32)), .val (.int p1), .val (.int p2), .val (.long r2), .second, .val (.long r0), .second, .val (.long ((p2 - (5 : Int32)).toInt64)), .second] [(.long (r0 * (((3 : Int64) * ((p2 - (5 : Int32)).toInt64)) - (2 : Int64)))), (.long (r2 * (((3 : Int64) * ((p2 - (5 : Int32)).toInt64)) - (1 : Int64))))])) _
        refine XS.ladd X0.here hx rfl (hb hby d4_58) rfl ?_
        show Steps p.tables e below (s₁.setTop (mkF m 59 #[.val (.ref a2), .val (.int (5 : Int32)), .val (.int p1), .val (.int p2), .val (.long r2), .second, .val (.long r0), .second, .val (.long ((p2 - (5 : Int32)).toInt64)), .second] [(.long ((r2 * (((3 : Int64) * ((p2 - (5 : Int32)).toInt64)) - (1 : Int64))) + (r0 * (((3 : Int64) * ((p2 - (5 : Int32)).toInt64)) - (2 : Int64)))))])) _
        exact k
      obtain ⟨fs, hr, hrun, hended, hW, hsame⟩ := X0.leave (v := some (.long ((r2 * (((3 : Int64) * ((p2 - (5 : Int32)).toInt64)) - (1 : Int64))) + (r0 * (((3 : Int64) * ((p2 - (5 : Int32)).toInt64)) - (2 : Int64)))))) (fun h => by rw [Bd.returns] at h; cases h)
      refine ⟨_, _, pre4 _ ?_, hrun, hended, _, _, rfl, ?_, ⟨_, rfl⟩, hW, hsame.mono (by decide) (by decide)⟩
      · exact retOut X0 hx Bd.returns rfl (Or.inr (Or.inl ⟨rfl, rfl, _, rfl⟩)) (hb hby d4_59) hr
      · show Q_rmS5 Z a2 p1 p2 cl r0 r1 r2 h0 n0 _ s₁.heap _
        rw [e0]
        exact ⟨by simp [own_st, h2, h7], N0, rfl⟩
    · skip
      have pre5 : ∀ t, Steps p.tables e below (s₁.setTop (mkF m 11 #[.val (.ref a2), .val (.int (5 : Int32)), .val (.int p1), .val (.int p2), .unset, .unset, .unset, .unset, .unset, .unset] [(.long (0 : Int64))])) t → Steps p.tables e below (s₁.setTop (entryFrame m #[(.ref a2), (.int (5 : Int32)), (.int p1), (.int p2)] 10)) t := by
        intro t k
        refine pre3 t ?_
        refine XS.icmpNo X0.here hx rfl (hb hby d4_7) rfl (flt h7).1 ?_
        show Steps p.tables e below (s₁.setTop (mkF m 10 #[.val (.ref a2), .val (.int (5 : Int32)), .val (.int p1), .val (.int p2), .unset, .unset, .unset, .unset, .unset, .unset] [])) _
        refine XS.lconst X0.here hx rfl (hb hby d4_10) ?_
        show Steps p.tables e below (s₁.setTop (mkF m 11 #[.val (.ref a2), .val (.int (5 : Int32)), .val (.int p1), .val (.int p2), .unset, .unset, .unset, .unset, .unset, .unset] [(.long (0 : Int64))])) _
        exact k
      obtain ⟨fs, hr, hrun, hended, hW, hsame⟩ := X0.leave (v := some (.long (0 : Int64))) (fun h => by rw [Bd.returns] at h; cases h)
      refine ⟨_, _, pre5 _ ?_, hrun, hended, _, _, rfl, ?_, ⟨_, rfl⟩, hW, hsame.mono (by decide) (by decide)⟩
      · exact retOut X0 hx Bd.returns rfl (Or.inr (Or.inl ⟨rfl, rfl, _, rfl⟩)) (hb hby d4_11) hr
      · show Q_rmS5 Z a2 p1 p2 cl r0 r1 r2 h0 n0 _ s₁.heap _
        rw [e0]
        exact ⟨by simp [own_st, h2, h7], N0, rfl⟩
theorem ef_rmRef (m : MethodId) (x0 : Addr) (x1 : Int32) (x2 : Int32) : entryFrame m #[(.ref x0), (.int x1), (.int x2)] 3 = mkF m 0 #[.val (.ref x0), .val (.int x1), .val (.int x2)] [] := by first | (simp [entryFrame, mkF, argsToLocals, Value.category]; done) | rfl
theorem d3_0 : decode method_3_code 0 = .ok (.aload_n 0, 1) := by decide +kernel
theorem d3_1 : decode method_3_code 1 = .ok (.iconst 0, 1) := by decide +kernel
theorem d3_2 : decode method_3_code 2 = .ok (.iload_n 1, 1) := by decide +kernel
theorem d3_3 : decode method_3_code 3 = .ok (.iload_n 2, 1) := by decide +kernel
theorem d3_4 : decode method_3_code 4 = .ok (.invokestatic 11, 3) := by decide +kernel
theorem pd_0 : parseMethodDescriptor "([JIII)J" = some ⟨[(.array .long), .int, .int, .int], some .long⟩ := by decide +kernel
theorem d3_7 : decode method_3_code 7 = .ok (.aload_n 0, 1) := by decide +kernel
theorem d3_8 : decode method_3_code 8 = .ok (.iconst 1, 1) := by decide +kernel
theorem d3_9 : decode method_3_code 9 = .ok (.iload_n 1, 1) := by decide +kernel
theorem d3_10 : decode method_3_code 10 = .ok (.iload_n 2, 1) := by decide +kernel
theorem d3_11 : decode method_3_code 11 = .ok (.invokestatic 11, 3) := by decide +kernel
theorem d3_14 : decode method_3_code 14 = .ok (.ladd, 1) := by decide +kernel
theorem d3_15 : decode method_3_code 15 = .ok (.aload_n 0, 1) := by decide +kernel
theorem d3_16 : decode method_3_code 16 = .ok (.iconst 2, 1) := by decide +kernel
theorem d3_17 : decode method_3_code 17 = .ok (.iload_n 1, 1) := by decide +kernel
theorem d3_18 : decode method_3_code 18 = .ok (.iload_n 2, 1) := by decide +kernel
theorem d3_19 : decode method_3_code 19 = .ok (.invokestatic 11, 3) := by decide +kernel
theorem d3_22 : decode method_3_code 22 = .ok (.ladd, 1) := by decide +kernel
theorem d3_23 : decode method_3_code 23 = .ok (.aload_n 0, 1) := by decide +kernel
theorem d3_24 : decode method_3_code 24 = .ok (.iconst 3, 1) := by decide +kernel
theorem d3_25 : decode method_3_code 25 = .ok (.iload_n 1, 1) := by decide +kernel
theorem d3_26 : decode method_3_code 26 = .ok (.iload_n 2, 1) := by decide +kernel
theorem d3_27 : decode method_3_code 27 = .ok (.invokestatic 11, 3) := by decide +kernel
theorem d3_30 : decode method_3_code 30 = .ok (.ladd, 1) := by decide +kernel
theorem d3_31 : decode method_3_code 31 = .ok (.aload_n 0, 1) := by decide +kernel
theorem d3_32 : decode method_3_code 32 = .ok (.iconst 4, 1) := by decide +kernel
theorem d3_33 : decode method_3_code 33 = .ok (.iload_n 1, 1) := by decide +kernel
theorem d3_34 : decode method_3_code 34 = .ok (.iload_n 2, 1) := by decide +kernel
theorem d3_35 : decode method_3_code 35 = .ok (.invokestatic 11, 3) := by decide +kernel
theorem d3_38 : decode method_3_code 38 = .ok (.ladd, 1) := by decide +kernel
theorem d3_39 : decode method_3_code 39 = .ok (.aload_n 0, 1) := by decide +kernel
theorem d3_40 : decode method_3_code 40 = .ok (.iconst 5, 1) := by decide +kernel
theorem d3_41 : decode method_3_code 41 = .ok (.iload_n 1, 1) := by decide +kernel
theorem d3_42 : decode method_3_code 42 = .ok (.iload_n 2, 1) := by decide +kernel
theorem d3_43 : decode method_3_code 43 = .ok (.invokestatic 11, 3) := by decide +kernel
theorem d3_46 : decode method_3_code 46 = .ok (.ladd, 1) := by decide +kernel
theorem d3_47 : decode method_3_code 47 = .ok (.lreturn, 1) := by decide +kernel
def Q_rmRef (Z : State) (a2 : Addr) (p1 : Int32) (p2 : Int32) (cl : Cell) (r0 : Int64) (r1 : Int64) (r2 : Int64) (h0 : Heap) (n0 : Nat) (v : Option Value) (h : Heap) (L : List Loc) : Prop := v = some (.long (own_ref p1 p2 r0 r1 r2)) ∧ Fr n0 L ∧ h = h0
set_option maxRecDepth 65536 in
set_option maxHeartbeats 40000000 in
theorem rmRef (l : Launch) (Z : State) (a0 : Array Value) (hw : ∀ d ∈ tables_1, d.before a0 Z = true) (ws : List Jvm.Cond) (a2 : Addr) (p1 : Int32) (p2 : Int32) (cl : Cell) (r0 : Int64) (r1 : Int64) (r2 : Int64) (h0 : Heap) (n0 : Nat) (Z0 : n0 ≤ h0.size) (Ar : Arr Z h0 a2 cl .long) (Sz : cl.slots.size = (3 : Int32).toNatClampNeg) (t0 : cl.slots[0]? = some (.long r0)) (t1 : cl.slots[1]? = some (.long r1)) (t2 : cl.slots[2]? = some (.long r2)) :
    MetFree l (⟨"com/example/hummingbird/hummingbird/engine/RhythmWaitingPinLaw", "reference", "([JII)J"⟩ : MethodName) (head1 (Jvm.Cond.code (⟨"com/example/hummingbird/hummingbird/engine/RhythmWaitingPinLaw", "reference", "([JII)J"⟩ : MethodName) method_3_code 3 (some .long) :: ws) ({ frames := 1, cells := 0, slots := 0, locals := 40 } : Room)) (fun a U => a = #[(.ref a2), (.int p1), (.int p2)] ∧ Z.Warmed39 U.vm ∧ U.heap = h0) (fun _ _ _ _ _ => True) (fun _ U o U' => ∃ v L, o = .returned v ∧ Q_rmRef Z a2 p1 p2 cl r0 r1 r2 h0 n0 v U'.heap L ∧ FrameEnd U o U' L ({ frames := 1, cells := 0, slots := 0, locals := 40 } : Room).cells ({ frames := 1, cells := 0, slots := 0, locals := 40 } : Room).slots) := by
  refine MetFree.of_bodySF (plainFor_of_name pn_1) hisR ?_
  intro p e s m args below meth c s₁ Bd hml0 hP hK
  obtain ⟨rfl, hZ, hh⟩ := hP
  have hx := Bd.exec
  have hby := Bd.bytes
  have hml : c.maxLocals = 3 := hml0
  have hown : s.vm.findClass "com/example/hummingbird/hummingbird/engine/RhythmWaitingPinLaw" = some m.cls := (findClass_of_methodNamed Bd.named :)
  have hnm := (name_of_methodNamed Bd.named Bd.method).1
  have X0 : Stand p l e ({ frames := 1, cells := 0, slots := 0, locals := 40 } : Room) s m #[(.ref a2), (.int p1), (.int p2)] below meth c s₁ [] 0 0 := Stand.of_body Bd
  have e0 : s₁.heap = h0 := by rw [← hh, Bd.state]; rfl
  have N0 := Fr.nil n0
  have pre0 : ∀ t, Steps p.tables e below (s₁.setTop (mkF m 0 #[.val (.ref a2), .val (.int p1), .val (.int p2)] [])) t → Steps p.tables e below (s₁.setTop (entryFrame m #[(.ref a2), (.int p1), (.int p2)] 3)) t := fun t k => castTop (ef_rmRef m a2 p1 p2) k
  obtain ⟨_, _, ⟨T1, L1, k1, n1⟩, -, X1, ⟨Lc1, hQ1, l1, y1, z1⟩, st1⟩ := Jvm.LawKit.callS X0 hx (y := (⟨"com/example/hummingbird/hummingbird/engine/RhythmWaitingPinLaw", "step", "([JIII)J"⟩ : MethodName)) hown (mvT hZ (hw _ (List.mem_of_getElem? (i := 14) rfl))) (mvT hZ (hw _ (List.mem_of_getElem? (i := 15) rfl))) (mvT hZ (hw _ (List.mem_of_getElem? (i := 12) rfl))) (mvT hZ (hw _ (List.mem_of_getElem? (i := 16) rfl))) (by decide) (backOf (W := 0) (rmS0 l Z a0 hw [] a2 p1 p2 cl r0 r1 r2 h0 n0 Z0 Ar Sz t0 t1 t2) hZ (hw _ (List.mem_of_getElem? (i := 16) rfl)) (hw _ (List.mem_of_getElem? (i := 12) rfl)) (by decide) (by decide)) (g := (mkF m 4 #[.val (.ref a2), .val (.int p1), .val (.int p2)] [(.int p2), (.int p1), (.int (0 : Int32)), (.ref a2)])) rfl (by rw [hml]; rfl) (argsL := [(.ref a2), (.int (0 : Int32)), (.int p1), (.int p2)]) (rest := []) (lenOf pd_0 rfl) rfl (by show 2 * 0 + _ ≤ _; exact Nat.le_of_eq rfl) (hb hby d3_4) (fun _ _ => ⟨rfl, e0, (by decide : 0 + 0 ≤ _), (by decide : 0 + 0 ≤ _)⟩)
  dsimp only [Pt.U, Pt.locs, Pt.cells, Pt.slots] at X1 l1 y1 z1 st1 hQ1
  subst l1 y1 z1
  obtain ⟨rfl, N1q, hq1⟩ := hQ1
  have N1 := Fr.app N0 N1q
  obtain ⟨_, _, ⟨T2, L2, k2, n2⟩, -, X2, ⟨Lc2, hQ2, l2, y2, z2⟩, st2⟩ := Jvm.LawKit.callS X1 hx (y := (⟨"com/example/hummingbird/hummingbird/engine/RhythmWaitingPinLaw", "step", "([JIII)J"⟩ : MethodName)) hown (mvT hZ (hw _ (List.mem_of_getElem? (i := 14) rfl))) (mvT hZ (hw _ (List.mem_of_getElem? (i := 15) rfl))) (mvT hZ (hw _ (List.mem_of_getElem? (i := 12) rfl))) (mvT hZ (hw _ (List.mem_of_getElem? (i := 16) rfl))) (by decide) (backOf (W := 2) (rmS1 l Z a0 hw [] a2 p1 p2 cl r0 r1 r2 h0 n0 Z0 Ar Sz t0 t1 t2) hZ (hw _ (List.mem_of_getElem? (i := 16) rfl)) (hw _ (List.mem_of_getElem? (i := 12) rfl)) (by decide) (by decide)) (g := (mkF m 11 #[.val (.ref a2), .val (.int p1), .val (.int p2)] [(.int p2), (.int p1), (.int (1 : Int32)), (.ref a2), (.long (own_st (0 : Int32) p1 p2 r0 r1))])) rfl (by rw [hml]; rfl) (argsL := [(.ref a2), (.int (1 : Int32)), (.int p1), (.int p2)]) (rest := [(.long (own_st (0 : Int32) p1 p2 r0 r1))]) (lenOf pd_0 rfl) rfl (by show 2 * 0 + _ ≤ _; exact Nat.le_of_eq rfl) (hb hby d3_11) (fun _ _ => ⟨rfl, hq1, (by decide : 0 + 0 ≤ _), (by decide : 0 + 0 ≤ _)⟩)
  dsimp only [Pt.U, Pt.locs, Pt.cells, Pt.slots] at X2 l2 y2 z2 st2 hQ2
  subst l2 y2 z2
  obtain ⟨rfl, N2q, hq2⟩ := hQ2
  have N2 := Fr.app N1 N2q
  obtain ⟨_, _, ⟨T3, L3, k3, n3⟩, -, X3, ⟨Lc3, hQ3, l3, y3, z3⟩, st3⟩ := Jvm.LawKit.callS X2 hx (y := (⟨"com/example/hummingbird/hummingbird/engine/RhythmWaitingPinLaw", "step", "([JIII)J"⟩ : MethodName)) hown (mvT hZ (hw _ (List.mem_of_getElem? (i := 14) rfl))) (mvT hZ (hw _ (List.mem_of_getElem? (i := 15) rfl))) (mvT hZ (hw _ (List.mem_of_getElem? (i := 12) rfl))) (mvT hZ (hw _ (List.mem_of_getElem? (i := 16) rfl))) (by decide) (backOf (W := 2) (rmS2 l Z a0 hw [] a2 p1 p2 cl r0 r1 r2 h0 n0 Z0 Ar Sz t0 t1 t2) hZ (hw _ (List.mem_of_getElem? (i := 16) rfl)) (hw _ (List.mem_of_getElem? (i := 12) rfl)) (by decide) (by decide)) (g := (mkF m 19 #[.val (.ref a2), .val (.int p1), .val (.int p2)] [(.int p2), (.int p1), (.int (2 : Int32)), (.ref a2), (.long ((own_st (0 : Int32) p1 p2 r0 r1) + (own_st (1 : Int32) p1 p2 r1 r2)))])) rfl (by rw [hml]; rfl) (argsL := [(.ref a2), (.int (2 : Int32)), (.int p1), (.int p2)]) (rest := [(.long ((own_st (0 : Int32) p1 p2 r0 r1) + (own_st (1 : Int32) p1 p2 r1 r2)))]) (lenOf pd_0 rfl) rfl (by show 2 * 0 + _ ≤ _; exact Nat.le_of_eq rfl) (hb hby d3_19) (fun _ _ => ⟨rfl, hq2, (by decide : 0 + 0 ≤ _), (by decide : 0 + 0 ≤ _)⟩)
  dsimp only [Pt.U, Pt.locs, Pt.cells, Pt.slots] at X3 l3 y3 z3 st3 hQ3
  subst l3 y3 z3
  obtain ⟨rfl, N3q, hq3⟩ := hQ3
  have N3 := Fr.app N2 N3q
  obtain ⟨_, _, ⟨T4, L4, k4, n4⟩, -, X4, ⟨Lc4, hQ4, l4, y4, z4⟩, st4⟩ := Jvm.LawKit.callS X3 hx (y := (⟨"com/example/hummingbird/hummingbird/engine/RhythmWaitingPinLaw", "step", "([JIII)J"⟩ : MethodName)) hown (mvT hZ (hw _ (List.mem_of_getElem? (i := 14) rfl))) (mvT hZ (hw _ (List.mem_of_getElem? (i := 15) rfl))) (mvT hZ (hw _ (List.mem_of_getElem? (i := 12) rfl))) (mvT hZ (hw _ (List.mem_of_getElem? (i := 16) rfl))) (by decide) (backOf (W := 2) (rmS3 l Z a0 hw [] a2 p1 p2 cl r0 r1 r2 h0 n0 Z0 Ar Sz t0 t1 t2) hZ (hw _ (List.mem_of_getElem? (i := 16) rfl)) (hw _ (List.mem_of_getElem? (i := 12) rfl)) (by decide) (by decide)) (g := (mkF m 27 #[.val (.ref a2), .val (.int p1), .val (.int p2)] [(.int p2), (.int p1), (.int (3 : Int32)), (.ref a2), (.long (((own_st (0 : Int32) p1 p2 r0 r1) + (own_st (1 : Int32) p1 p2 r1 r2)) + (own_st (2 : Int32) p1 p2 r2 r0)))])) rfl (by rw [hml]; rfl) (argsL := [(.ref a2), (.int (3 : Int32)), (.int p1), (.int p2)]) (rest := [(.long (((own_st (0 : Int32) p1 p2 r0 r1) + (own_st (1 : Int32) p1 p2 r1 r2)) + (own_st (2 : Int32) p1 p2 r2 r0)))]) (lenOf pd_0 rfl) rfl (by show 2 * 0 + _ ≤ _; exact Nat.le_of_eq rfl) (hb hby d3_27) (fun _ _ => ⟨rfl, hq3, (by decide : 0 + 0 ≤ _), (by decide : 0 + 0 ≤ _)⟩)
  dsimp only [Pt.U, Pt.locs, Pt.cells, Pt.slots] at X4 l4 y4 z4 st4 hQ4
  subst l4 y4 z4
  obtain ⟨rfl, N4q, hq4⟩ := hQ4
  have N4 := Fr.app N3 N4q
  obtain ⟨_, _, ⟨T5, L5, k5, n5⟩, -, X5, ⟨Lc5, hQ5, l5, y5, z5⟩, st5⟩ := Jvm.LawKit.callS X4 hx (y := (⟨"com/example/hummingbird/hummingbird/engine/RhythmWaitingPinLaw", "step", "([JIII)J"⟩ : MethodName)) hown (mvT hZ (hw _ (List.mem_of_getElem? (i := 14) rfl))) (mvT hZ (hw _ (List.mem_of_getElem? (i := 15) rfl))) (mvT hZ (hw _ (List.mem_of_getElem? (i := 12) rfl))) (mvT hZ (hw _ (List.mem_of_getElem? (i := 16) rfl))) (by decide) (backOf (W := 2) (rmS4 l Z a0 hw [] a2 p1 p2 cl r0 r1 r2 h0 n0 Z0 Ar Sz t0 t1 t2) hZ (hw _ (List.mem_of_getElem? (i := 16) rfl)) (hw _ (List.mem_of_getElem? (i := 12) rfl)) (by decide) (by decide)) (g := (mkF m 35 #[.val (.ref a2), .val (.int p1), .val (.int p2)] [(.int p2), (.int p1), (.int (4 : Int32)), (.ref a2), (.long ((((own_st (0 : Int32) p1 p2 r0 r1) + (own_st (1 : Int32) p1 p2 r1 r2)) + (own_st (2 : Int32) p1 p2 r2 r0)) + (own_st (3 : Int32) p1 p2 r0 r1)))])) rfl (by rw [hml]; rfl) (argsL := [(.ref a2), (.int (4 : Int32)), (.int p1), (.int p2)]) (rest := [(.long ((((own_st (0 : Int32) p1 p2 r0 r1) + (own_st (1 : Int32) p1 p2 r1 r2)) + (own_st (2 : Int32) p1 p2 r2 r0)) + (own_st (3 : Int32) p1 p2 r0 r1)))]) (lenOf pd_0 rfl) rfl (by show 2 * 0 + _ ≤ _; exact Nat.le_of_eq rfl) (hb hby d3_35) (fun _ _ => ⟨rfl, hq4, (by decide : 0 + 0 ≤ _), (by decide : 0 + 0 ≤ _)⟩)
  dsimp only [Pt.U, Pt.locs, Pt.cells, Pt.slots] at X5 l5 y5 z5 st5 hQ5
  subst l5 y5 z5
  obtain ⟨rfl, N5q, hq5⟩ := hQ5
  have N5 := Fr.app N4 N5q
  obtain ⟨_, _, ⟨T6, L6, k6, n6⟩, -, X6, ⟨Lc6, hQ6, l6, y6, z6⟩, st6⟩ := Jvm.LawKit.callS X5 hx (y := (⟨"com/example/hummingbird/hummingbird/engine/RhythmWaitingPinLaw", "step", "([JIII)J"⟩ : MethodName)) hown (mvT hZ (hw _ (List.mem_of_getElem? (i := 14) rfl))) (mvT hZ (hw _ (List.mem_of_getElem? (i := 15) rfl))) (mvT hZ (hw _ (List.mem_of_getElem? (i := 12) rfl))) (mvT hZ (hw _ (List.mem_of_getElem? (i := 16) rfl))) (by decide) (backOf (W := 2) (rmS5 l Z a0 hw [] a2 p1 p2 cl r0 r1 r2 h0 n0 Z0 Ar Sz t0 t1 t2) hZ (hw _ (List.mem_of_getElem? (i := 16) rfl)) (hw _ (List.mem_of_getElem? (i := 12) rfl)) (by decide) (by decide)) (g := (mkF m 43 #[.val (.ref a2), .val (.int p1), .val (.int p2)] [(.int p2), (.int p1), (.int (5 : Int32)), (.ref a2), (.long (((((own_st (0 : Int32) p1 p2 r0 r1) + (own_st (1 : Int32) p1 p2 r1 r2)) + (own_st (2 : Int32) p1 p2 r2 r0)) + (own_st (3 : Int32) p1 p2 r0 r1)) + (own_st (4 : Int32) p1 p2 r1 r2)))])) rfl (by rw [hml]; rfl) (argsL := [(.ref a2), (.int (5 : Int32)), (.int p1), (.int p2)]) (rest := [(.long (((((own_st (0 : Int32) p1 p2 r0 r1) + (own_st (1 : Int32) p1 p2 r1 r2)) + (own_st (2 : Int32) p1 p2 r2 r0)) + (own_st (3 : Int32) p1 p2 r0 r1)) + (own_st (4 : Int32) p1 p2 r1 r2)))]) (lenOf pd_0 rfl) rfl (by show 2 * 0 + _ ≤ _; exact Nat.le_of_eq rfl) (hb hby d3_43) (fun _ _ => ⟨rfl, hq5, (by decide : 0 + 0 ≤ _), (by decide : 0 + 0 ≤ _)⟩)
  dsimp only [Pt.U, Pt.locs, Pt.cells, Pt.slots] at X6 l6 y6 z6 st6 hQ6
  subst l6 y6 z6
  obtain ⟨rfl, N6q, hq6⟩ := hQ6
  have N6 := Fr.app N5 N6q
  have pre7 : ∀ t, Steps p.tables e below (T6.setTop (mkF m 47 #[.val (.ref a2), .val (.int p1), .val (.int p2)] [(.long ((((((own_st (0 : Int32) p1 p2 r0 r1) + (own_st (1 : Int32) p1 p2 r1 r2)) + (own_st (2 : Int32) p1 p2 r2 r0)) + (own_st (3 : Int32) p1 p2 r0 r1)) + (own_st (4 : Int32) p1 p2 r1 r2)) + (own_st (5 : Int32) p1 p2 r2 r0)))])) t → Steps p.tables e below (s₁.setTop (entryFrame m #[(.ref a2), (.int p1), (.int p2)] 3)) t := by
    intro t k
    refine pre0 t ?_
    show Steps p.tables e below (s₁.setTop (mkF m 0 #[.val (.ref a2), .val (.int p1), .val (.int p2)] [])) _
    refine XS.aloadN X0.here hx rfl (hb hby d3_0) rfl (rfl) ?_
    show Steps p.tables e below (s₁.setTop (mkF m 1 #[.val (.ref a2), .val (.int p1), .val (.int p2)] [(.ref a2)])) _
    refine XS.iconst X0.here hx rfl (hb hby d3_1) ?_
    show Steps p.tables e below (s₁.setTop (mkF m 2 #[.val (.ref a2), .val (.int p1), .val (.int p2)] [(.int (0 : Int32)), (.ref a2)])) _
    refine XS.iloadN X0.here hx rfl (hb hby d3_2) rfl ?_
    show Steps p.tables e below (s₁.setTop (mkF m 3 #[.val (.ref a2), .val (.int p1), .val (.int p2)] [(.int p1), (.int (0 : Int32)), (.ref a2)])) _
    refine XS.iloadN X0.here hx rfl (hb hby d3_3) rfl ?_
    show Steps p.tables e below (s₁.setTop (mkF m 4 #[.val (.ref a2), .val (.int p1), .val (.int p2)] [(.int p2), (.int p1), (.int (0 : Int32)), (.ref a2)])) _
    refine st1 _ ?_
    show Steps p.tables e below (T1.setTop (mkF m 7 #[.val (.ref a2), .val (.int p1), .val (.int p2)] [(.long (own_st (0 : Int32) p1 p2 r0 r1))])) _
    refine XS.aloadN X1.here hx rfl (hb hby d3_7) rfl (rfl) ?_
    show Steps p.tables e below (T1.setTop (mkF m 8 #[.val (.ref a2), .val (.int p1), .val (.int p2)] [(.ref a2), (.long (own_st (0 : Int32) p1 p2 r0 r1))])) _
    refine XS.iconst X1.here hx rfl (hb hby d3_8) ?_
    show Steps p.tables e below (T1.setTop (mkF m 9 #[.val (.ref a2), .val (.int p1), .val (.int p2)] [(.int (1 : Int32)), (.ref a2), (.long (own_st (0 : Int32) p1 p2 r0 r1))])) _
    refine XS.iloadN X1.here hx rfl (hb hby d3_9) rfl ?_
    show Steps p.tables e below (T1.setTop (mkF m 10 #[.val (.ref a2), .val (.int p1), .val (.int p2)] [(.int p1), (.int (1 : Int32)), (.ref a2), (.long (own_st (0 : Int32) p1 p2 r0 r1))])) _
    refine XS.iloadN X1.here hx rfl (hb hby d3_10) rfl ?_
    show Steps p.tables e below (T1.setTop (mkF m 11 #[.val (.ref a2), .val (.int p1), .val (.int p2)] [(.int p2), (.int p1), (.int (1 : Int32)), (.ref a2), (.long (own_st (0 : Int32) p1 p2 r0 r1))])) _
    refine st2 _ ?_
    show Steps p.tables e below (T2.setTop (mkF m 14 #[.val (.ref a2), .val (.int p1), .val (.int p2)] [(.long (own_st (1 : Int32) p1 p2 r1 r2)), (.long (own_st (0 : Int32) p1 p2 r0 r1))])) _
    refine XS.ladd X2.here hx rfl (hb hby d3_14) rfl ?_
    show Steps p.tables e below (T2.setTop (mkF m 15 #[.val (.ref a2), .val (.int p1), .val (.int p2)] [(.long ((own_st (0 : Int32) p1 p2 r0 r1) + (own_st (1 : Int32) p1 p2 r1 r2)))])) _
    refine XS.aloadN X2.here hx rfl (hb hby d3_15) rfl (rfl) ?_
    show Steps p.tables e below (T2.setTop (mkF m 16 #[.val (.ref a2), .val (.int p1), .val (.int p2)] [(.ref a2), (.long ((own_st (0 : Int32) p1 p2 r0 r1) + (own_st (1 : Int32) p1 p2 r1 r2)))])) _
    refine XS.iconst X2.here hx rfl (hb hby d3_16) ?_
    show Steps p.tables e below (T2.setTop (mkF m 17 #[.val (.ref a2), .val (.int p1), .val (.int p2)] [(.int (2 : Int32)), (.ref a2), (.long ((own_st (0 : Int32) p1 p2 r0 r1) + (own_st (1 : Int32) p1 p2 r1 r2)))])) _
    refine XS.iloadN X2.here hx rfl (hb hby d3_17) rfl ?_
    show Steps p.tables e below (T2.setTop (mkF m 18 #[.val (.ref a2), .val (.int p1), .val (.int p2)] [(.int p1), (.int (2 : Int32)), (.ref a2), (.long ((own_st (0 : Int32) p1 p2 r0 r1) + (own_st (1 : Int32) p1 p2 r1 r2)))])) _
    refine XS.iloadN X2.here hx rfl (hb hby d3_18) rfl ?_
    show Steps p.tables e below (T2.setTop (mkF m 19 #[.val (.ref a2), .val (.int p1), .val (.int p2)] [(.int p2), (.int p1), (.int (2 : Int32)), (.ref a2), (.long ((own_st (0 : Int32) p1 p2 r0 r1) + (own_st (1 : Int32) p1 p2 r1 r2)))])) _
    refine st3 _ ?_
    show Steps p.tables e below (T3.setTop (mkF m 22 #[.val (.ref a2), .val (.int p1), .val (.int p2)] [(.long (own_st (2 : Int32) p1 p2 r2 r0)), (.long ((own_st (0 : Int32) p1 p2 r0 r1) + (own_st (1 : Int32) p1 p2 r1 r2)))])) _
    refine XS.ladd X3.here hx rfl (hb hby d3_22) rfl ?_
    show Steps p.tables e below (T3.setTop (mkF m 23 #[.val (.ref a2), .val (.int p1), .val (.int p2)] [(.long (((own_st (0 : Int32) p1 p2 r0 r1) + (own_st (1 : Int32) p1 p2 r1 r2)) + (own_st (2 : Int32) p1 p2 r2 r0)))])) _
    refine XS.aloadN X3.here hx rfl (hb hby d3_23) rfl (rfl) ?_
    show Steps p.tables e below (T3.setTop (mkF m 24 #[.val (.ref a2), .val (.int p1), .val (.int p2)] [(.ref a2), (.long (((own_st (0 : Int32) p1 p2 r0 r1) + (own_st (1 : Int32) p1 p2 r1 r2)) + (own_st (2 : Int32) p1 p2 r2 r0)))])) _
    refine XS.iconst X3.here hx rfl (hb hby d3_24) ?_
    show Steps p.tables e below (T3.setTop (mkF m 25 #[.val (.ref a2), .val (.int p1), .val (.int p2)] [(.int (3 : Int32)), (.ref a2), (.long (((own_st (0 : Int32) p1 p2 r0 r1) + (own_st (1 : Int32) p1 p2 r1 r2)) + (own_st (2 : Int32) p1 p2 r2 r0)))])) _
    refine XS.iloadN X3.here hx rfl (hb hby d3_25) rfl ?_
    show Steps p.tables e below (T3.setTop (mkF m 26 #[.val (.ref a2), .val (.int p1), .val (.int p2)] [(.int p1), (.int (3 : Int32)), (.ref a2), (.long (((own_st (0 : Int32) p1 p2 r0 r1) + (own_st (1 : Int32) p1 p2 r1 r2)) + (own_st (2 : Int32) p1 p2 r2 r0)))])) _
    refine XS.iloadN X3.here hx rfl (hb hby d3_26) rfl ?_
    show Steps p.tables e below (T3.setTop (mkF m 27 #[.val (.ref a2), .val (.int p1), .val (.int p2)] [(.int p2), (.int p1), (.int (3 : Int32)), (.ref a2), (.long (((own_st (0 : Int32) p1 p2 r0 r1) + (own_st (1 : Int32) p1 p2 r1 r2)) + (own_st (2 : Int32) p1 p2 r2 r0)))])) _
    refine st4 _ ?_
    show Steps p.tables e below (T4.setTop (mkF m 30 #[.val (.ref a2), .val (.int p1), .val (.int p2)] [(.long (own_st (3 : Int32) p1 p2 r0 r1)), (.long (((own_st (0 : Int32) p1 p2 r0 r1) + (own_st (1 : Int32) p1 p2 r1 r2)) + (own_st (2 : Int32) p1 p2 r2 r0)))])) _
    refine XS.ladd X4.here hx rfl (hb hby d3_30) rfl ?_
    show Steps p.tables e below (T4.setTop (mkF m 31 #[.val (.ref a2), .val (.int p1), .val (.int p2)] [(.long ((((own_st (0 : Int32) p1 p2 r0 r1) + (own_st (1 : Int32) p1 p2 r1 r2)) + (own_st (2 : Int32) p1 p2 r2 r0)) + (own_st (3 : Int32) p1 p2 r0 r1)))])) _
    refine XS.aloadN X4.here hx rfl (hb hby d3_31) rfl (rfl) ?_
    show Steps p.tables e below (T4.setTop (mkF m 32 #[.val (.ref a2), .val (.int p1), .val (.int p2)] [(.ref a2), (.long ((((own_st (0 : Int32) p1 p2 r0 r1) + (own_st (1 : Int32) p1 p2 r1 r2)) + (own_st (2 : Int32) p1 p2 r2 r0)) + (own_st (3 : Int32) p1 p2 r0 r1)))])) _
    refine XS.iconst X4.here hx rfl (hb hby d3_32) ?_
    show Steps p.tables e below (T4.setTop (mkF m 33 #[.val (.ref a2), .val (.int p1), .val (.int p2)] [(.int (4 : Int32)), (.ref a2), (.long ((((own_st (0 : Int32) p1 p2 r0 r1) + (own_st (1 : Int32) p1 p2 r1 r2)) + (own_st (2 : Int32) p1 p2 r2 r0)) + (own_st (3 : Int32) p1 p2 r0 r1)))])) _
    refine XS.iloadN X4.here hx rfl (hb hby d3_33) rfl ?_
    show Steps p.tables e below (T4.setTop (mkF m 34 #[.val (.ref a2), .val (.int p1), .val (.int p2)] [(.int p1), (.int (4 : Int32)), (.ref a2), (.long ((((own_st (0 : Int32) p1 p2 r0 r1) + (own_st (1 : Int32) p1 p2 r1 r2)) + (own_st (2 : Int32) p1 p2 r2 r0)) + (own_st (3 : Int32) p1 p2 r0 r1)))])) _
    refine XS.iloadN X4.here hx rfl (hb hby d3_34) rfl ?_
    show Steps p.tables e below (T4.setTop (mkF m 35 #[.val (.ref a2), .val (.int p1), .val (.int p2)] [(.int p2), (.int p1), (.int (4 : Int32)), (.ref a2), (.long ((((own_st (0 : Int32) p1 p2 r0 r1) + (own_st (1 : Int32) p1 p2 r1 r2)) + (own_st (2 : Int32) p1 p2 r2 r0)) + (own_st (3 : Int32) p1 p2 r0 r1)))])) _
    refine st5 _ ?_
    show Steps p.tables e below (T5.setTop (mkF m 38 #[.val (.ref a2), .val (.int p1), .val (.int p2)] [(.long (own_st (4 : Int32) p1 p2 r1 r2)), (.long ((((own_st (0 : Int32) p1 p2 r0 r1) + (own_st (1 : Int32) p1 p2 r1 r2)) + (own_st (2 : Int32) p1 p2 r2 r0)) + (own_st (3 : Int32) p1 p2 r0 r1)))])) _
    refine XS.ladd X5.here hx rfl (hb hby d3_38) rfl ?_
    show Steps p.tables e below (T5.setTop (mkF m 39 #[.val (.ref a2), .val (.int p1), .val (.int p2)] [(.long (((((own_st (0 : Int32) p1 p2 r0 r1) + (own_st (1 : Int32) p1 p2 r1 r2)) + (own_st (2 : Int32) p1 p2 r2 r0)) + (own_st (3 : Int32) p1 p2 r0 r1)) + (own_st (4 : Int32) p1 p2 r1 r2)))])) _
    refine XS.aloadN X5.here hx rfl (hb hby d3_39) rfl (rfl) ?_
    show Steps p.tables e below (T5.setTop (mkF m 40 #[.val (.ref a2), .val (.int p1), .val (.int p2)] [(.ref a2), (.long (((((own_st (0 : Int32) p1 p2 r0 r1) + (own_st (1 : Int32) p1 p2 r1 r2)) + (own_st (2 : Int32) p1 p2 r2 r0)) + (own_st (3 : Int32) p1 p2 r0 r1)) + (own_st (4 : Int32) p1 p2 r1 r2)))])) _
    refine XS.iconst X5.here hx rfl (hb hby d3_40) ?_
    show Steps p.tables e below (T5.setTop (mkF m 41 #[.val (.ref a2), .val (.int p1), .val (.int p2)] [(.int (5 : Int32)), (.ref a2), (.long (((((own_st (0 : Int32) p1 p2 r0 r1) + (own_st (1 : Int32) p1 p2 r1 r2)) + (own_st (2 : Int32) p1 p2 r2 r0)) + (own_st (3 : Int32) p1 p2 r0 r1)) + (own_st (4 : Int32) p1 p2 r1 r2)))])) _
    refine XS.iloadN X5.here hx rfl (hb hby d3_41) rfl ?_
    show Steps p.tables e below (T5.setTop (mkF m 42 #[.val (.ref a2), .val (.int p1), .val (.int p2)] [(.int p1), (.int (5 : Int32)), (.ref a2), (.long (((((own_st (0 : Int32) p1 p2 r0 r1) + (own_st (1 : Int32) p1 p2 r1 r2)) + (own_st (2 : Int32) p1 p2 r2 r0)) + (own_st (3 : Int32) p1 p2 r0 r1)) + (own_st (4 : Int32) p1 p2 r1 r2)))])) _
    refine XS.iloadN X5.here hx rfl (hb hby d3_42) rfl ?_
    show Steps p.tables e below (T5.setTop (mkF m 43 #[.val (.ref a2), .val (.int p1), .val (.int p2)] [(.int p2), (.int p1), (.int (5 : Int32)), (.ref a2), (.long (((((own_st (0 : Int32) p1 p2 r0 r1) + (own_st (1 : Int32) p1 p2 r1 r2)) + (own_st (2 : Int32) p1 p2 r2 r0)) + (own_st (3 : Int32) p1 p2 r0 r1)) + (own_st (4 : Int32) p1 p2 r1 r2)))])) _
    refine st6 _ ?_
    show Steps p.tables e below (T6.setTop (mkF m 46 #[.val (.ref a2), .val (.int p1), .val (.int p2)] [(.long (own_st (5 : Int32) p1 p2 r2 r0)), (.long (((((own_st (0 : Int32) p1 p2 r0 r1) + (own_st (1 : Int32) p1 p2 r1 r2)) + (own_st (2 : Int32) p1 p2 r2 r0)) + (own_st (3 : Int32) p1 p2 r0 r1)) + (own_st (4 : Int32) p1 p2 r1 r2)))])) _
    refine XS.ladd X6.here hx rfl (hb hby d3_46) rfl ?_
    show Steps p.tables e below (T6.setTop (mkF m 47 #[.val (.ref a2), .val (.int p1), .val (.int p2)] [(.long ((((((own_st (0 : Int32) p1 p2 r0 r1) + (own_st (1 : Int32) p1 p2 r1 r2)) + (own_st (2 : Int32) p1 p2 r2 r0)) + (own_st (3 : Int32) p1 p2 r0 r1)) + (own_st (4 : Int32) p1 p2 r1 r2)) + (own_st (5 : Int32) p1 p2 r2 r0)))])) _
    exact k
  obtain ⟨fs, hr, hrun, hended, hW, hsame⟩ := X6.leave (v := some (.long ((((((own_st (0 : Int32) p1 p2 r0 r1) + (own_st (1 : Int32) p1 p2 r1 r2)) + (own_st (2 : Int32) p1 p2 r2 r0)) + (own_st (3 : Int32) p1 p2 r0 r1)) + (own_st (4 : Int32) p1 p2 r1 r2)) + (own_st (5 : Int32) p1 p2 r2 r0)))) (fun h => by rw [Bd.returns] at h; cases h)
  refine ⟨_, _, pre7 _ ?_, hrun, hended, _, _, rfl, ?_, ⟨_, rfl⟩, hW, hsame.mono (by decide) (by decide)⟩
  · exact retOut X6 hx Bd.returns rfl (Or.inr (Or.inl ⟨rfl, rfl, _, rfl⟩)) (hb hby d3_47) hr
  · show Q_rmRef Z a2 p1 p2 cl r0 r1 r2 h0 n0 _ T6.heap _
    rw [hq6]
    exact ⟨rfl, N6, rfl⟩
theorem ef_rmI (m : MethodId) (x0 : Addr) (x1 : Addr) : entryFrame m #[(.ref x0), (.ref x1)] 2 = mkF m 0 #[.val (.ref x0), .val (.ref x1)] [] := by first | (simp [entryFrame, mkF, argsToLocals, Value.category]; done) | rfl
theorem pn_0 : plainName "com/example/hummingbird/hummingbird/engine/Rhythm" = true := by first | (simp [plainName, overriddenIn]; done) | decide +kernel
theorem d5_0 : decode prog_9_method_1_code 0 = .ok (.aload_n 0, 1) := by decide +kernel
theorem d5_1 : decode prog_9_method_1_code 1 = .ok (.invokespecial 3, 3) := by decide +kernel
theorem d5_4 : decode prog_9_method_1_code 4 = .ok (.aload_n 0, 1) := by decide +kernel
theorem d5_5 : decode prog_9_method_1_code 5 = .ok (.aload_n 1, 1) := by decide +kernel
theorem d5_6 : decode prog_9_method_1_code 6 = .ok (.arraylength, 1) := by decide +kernel
theorem d5_7 : decode prog_9_method_1_code 7 = .ok (.putfield 9, 3) := by decide +kernel
theorem d5_10 : decode prog_9_method_1_code 10 = .ok (.aload_n 0, 1) := by decide +kernel
theorem d5_11 : decode prog_9_method_1_code 11 = .ok (.aload_n 1, 1) := by decide +kernel
theorem d5_12 : decode prog_9_method_1_code 12 = .ok (.putfield 13, 3) := by decide +kernel
theorem d5_15 : decode prog_9_method_1_code 15 = .ok (.return_, 1) := by decide +kernel
def Q_rmI (Z : State) (a1 : Addr) (a2 : Addr) (cl : Cell) (zn : Int32) (h0 : Heap) (n0 : Nat) (v : Option Value) (h : Heap) (L : List Loc) : Prop := v = none ∧ Fr n0 L ∧ Keep h0 h [a1] ∧ Exa Z h a1 "com/example/hummingbird/hummingbird/engine/Rhythm" ∧ Fld Z h a1 "com/example/hummingbird/hummingbird/engine/Rhythm" "points" "I" (.int zn) ∧ Fld Z h a1 "com/example/hummingbird/hummingbird/engine/Rhythm" "rates" "[J" (.ref a2) ∧ Fld Z h a1 "com/example/hummingbird/hummingbird/engine/Rhythm" "mass" "[D" .null ∧ Fld Z h a1 "com/example/hummingbird/hummingbird/engine/Rhythm" "moment" "[D" .null
set_option maxRecDepth 65536 in
set_option maxHeartbeats 40000000 in
theorem rmI (l : Launch) (Z : State) (a0 : Array Value) (hw : ∀ d ∈ tables_1, d.before a0 Z = true) (ws : List Jvm.Cond) (a1 : Addr) (a2 : Addr) (cl : Cell) (zn : Int32) (h0 : Heap) (n0 : Nat) (Z0 : n0 ≤ h0.size) (F0 : Fld Z h0 a1 "com/example/hummingbird/hummingbird/engine/Rhythm" "points" "I" (.int (0 : Int32))) (F1 : Fld Z h0 a1 "com/example/hummingbird/hummingbird/engine/Rhythm" "rates" "[J" .null) (F2 : Fld Z h0 a1 "com/example/hummingbird/hummingbird/engine/Rhythm" "mass" "[D" .null) (F3 : Fld Z h0 a1 "com/example/hummingbird/hummingbird/engine/Rhythm" "moment" "[D" .null) (E1 : Exa Z h0 a1 "com/example/hummingbird/hummingbird/engine/Rhythm") (g_a1 : n0 ≤ a1) (Ar : Arr Z h0 a2 cl .long) (Sz : cl.slots.size = zn.toNatClampNeg) (Mz : ¬ zn < 0) :
    MetFree l (⟨"com/example/hummingbird/hummingbird/engine/Rhythm", "<init>", "([J)V"⟩ : MethodName) (head1 (Jvm.Cond.code (⟨"com/example/hummingbird/hummingbird/engine/Rhythm", "<init>", "([J)V"⟩ : MethodName) prog_9_method_1_code 2 none :: ws) ({ frames := 1, cells := 0, slots := 0, locals := 12 } : Room)) (fun a U => a = #[(.ref a1), (.ref a2)] ∧ Z.Warmed39 U.vm ∧ U.heap = h0) (fun _ _ _ _ _ => True) (fun _ U o U' => ∃ v L, o = .returned v ∧ Q_rmI Z a1 a2 cl zn h0 n0 v U'.heap L ∧ FrameEnd U o U' L ({ frames := 1, cells := 0, slots := 0, locals := 12 } : Room).cells ({ frames := 1, cells := 0, slots := 0, locals := 12 } : Room).slots) := by
  refine MetFree.of_bodySF (plainFor_of_name pn_0) hisR ?_
  intro p e s m args below meth c s₁ Bd hml0 hP hK
  obtain ⟨rfl, hZ, hh⟩ := hP
  have hx := Bd.exec
  have hby := Bd.bytes
  have hml : c.maxLocals = 2 := hml0
  have hown : s.vm.findClass "com/example/hummingbird/hummingbird/engine/Rhythm" = some m.cls := (findClass_of_methodNamed Bd.named :)
  have hnm := (name_of_methodNamed Bd.named Bd.method).1
  have X0 : Stand p l e ({ frames := 1, cells := 0, slots := 0, locals := 12 } : Room) s m #[(.ref a1), (.ref a2)] below meth c s₁ [] 0 0 := Stand.of_body Bd
  have e0 : s₁.heap = h0 := by rw [← hh, Bd.state]; rfl
  have N0 := Fr.nil n0
  have pre0 : ∀ t, Steps p.tables e below (s₁.setTop (mkF m 0 #[.val (.ref a1), .val (.ref a2)] [])) t → Steps p.tables e below (s₁.setTop (entryFrame m #[(.ref a1), (.ref a2)] 2)) t := fun t k => castTop (ef_rmI m a1 a2) k
  obtain ⟨T1, X1, e1, st1⟩ := initO X0 hx hZ hown (hw _ (List.mem_of_getElem? (i := 25) rfl)) (hw _ (List.mem_of_getElem? (i := 26) rfl)) (hw _ (List.mem_of_getElem? (i := 27) rfl)) e0 (g := (mkF m 1 #[.val (.ref a1), .val (.ref a2)] [(.ref a1)])) rfl (by rw [hml]; rfl) rfl (hb hby d5_1) (by decide) (W := 0) (by show 2 * 0 + _ ≤ _; exact Nat.le_of_eq rfl) (by decide)
  obtain ⟨T2, h2, X2, e2, W2, st2⟩ := putF X1 hx hZ hown (host := "") (Or.inl (hw _ (List.mem_of_getElem? (i := 28) rfl))) Via.refl e1 F0 E1 (Or.inr ⟨(hw _ (List.mem_of_getElem? (i := 29) rfl)), rfl, hnm⟩) (hw _ (List.mem_of_getElem? (i := 20) rfl)) (ty := .int) (by decide) rfl rfl (g := (mkF m 7 #[.val (.ref a1), .val (.ref a2)] [(.int zn), (.ref a1)])) rfl rfl (hb hby d5_7)
  have Fw2 := F0.same W2
  have K2 : Keep h0 h2 [a1] := (Keep.refl h0 [a1]).wr W2 (Or.inl (List.mem_of_getElem? (i := 0) rfl))
  have N2 := Fr.snoc X2 N0 g_a1
  obtain ⟨T3, h3, X3, e3, W3, st3⟩ := putF X2 hx hZ hown (host := "") (Or.inl (hw _ (List.mem_of_getElem? (i := 30) rfl))) Via.refl e2 (F1.other W2 (Or.inr (slot_ne (Or.inr (hw _ (List.mem_of_getElem? (i := 31) rfl))) (Or.inr (hw _ (List.mem_of_getElem? (i := 29) rfl))) (by decide) (t := (.array .long)) (t' := .int) (by decide) (by decide)))) (E1.wr W2) (Or.inr ⟨(hw _ (List.mem_of_getElem? (i := 31) rfl)), rfl, hnm⟩) (hw _ (List.mem_of_getElem? (i := 20) rfl)) (ty := (.array .long)) (by decide) rfl rfl (g := (mkF m 12 #[.val (.ref a1), .val (.ref a2)] [(.ref a2), (.ref a1)])) rfl rfl (hb hby d5_12)
  have Fw3 := (F1.other W2 (Or.inr (slot_ne (Or.inr (hw _ (List.mem_of_getElem? (i := 31) rfl))) (Or.inr (hw _ (List.mem_of_getElem? (i := 29) rfl))) (by decide) (t := (.array .long)) (t' := .int) (by decide) (by decide)))).same W3
  have K3 : Keep h0 h3 [a1] := K2.wr W3 (Or.inl (List.mem_of_getElem? (i := 0) rfl))
  have N3 := Fr.snoc X3 N2 g_a1
  have pre4 : ∀ t, Steps p.tables e below (T3.setTop (mkF m 15 #[.val (.ref a1), .val (.ref a2)] [])) t → Steps p.tables e below (s₁.setTop (entryFrame m #[(.ref a1), (.ref a2)] 2)) t := by
    intro t k
    refine pre0 t ?_
    show Steps p.tables e below (s₁.setTop (mkF m 0 #[.val (.ref a1), .val (.ref a2)] [])) _
    refine XS.aloadN X0.here hx rfl (hb hby d5_0) rfl (rfl) ?_
    show Steps p.tables e below (s₁.setTop (mkF m 1 #[.val (.ref a1), .val (.ref a2)] [(.ref a1)])) _
    refine st1 _ ?_
    show Steps p.tables e below (T1.setTop (mkF m 4 #[.val (.ref a1), .val (.ref a2)] [])) _
    refine XS.aloadN X1.here hx rfl (hb hby d5_4) rfl (rfl) ?_
    show Steps p.tables e below (T1.setTop (mkF m 5 #[.val (.ref a1), .val (.ref a2)] [(.ref a1)])) _
    refine XS.aloadN X1.here hx rfl (hb hby d5_5) rfl (rfl) ?_
    show Steps p.tables e below (T1.setTop (mkF m 6 #[.val (.ref a1), .val (.ref a2)] [(.ref a2), (.ref a1)])) _
    refine X1.arraylength hx (by rw [e1]; exact Ar.1) (State.isArrayOf_alike hZ.alike Ar.2.1) (g := (mkF m 6 #[.val (.ref a1), .val (.ref a2)] [(.ref a2), (.ref a1)])) rfl rfl (hb hby d5_6) _ ?_
    rw [len_of Sz Mz]
    show Steps p.tables e below (T1.setTop (mkF m 7 #[.val (.ref a1), .val (.ref a2)] [(.int zn), (.ref a1)])) _
    refine st2 _ ?_
    show Steps p.tables e below (T2.setTop (mkF m 10 #[.val (.ref a1), .val (.ref a2)] [])) _
    refine XS.aloadN X2.here hx rfl (hb hby d5_10) rfl (rfl) ?_
    show Steps p.tables e below (T2.setTop (mkF m 11 #[.val (.ref a1), .val (.ref a2)] [(.ref a1)])) _
    refine XS.aloadN X2.here hx rfl (hb hby d5_11) rfl (rfl) ?_
    show Steps p.tables e below (T2.setTop (mkF m 12 #[.val (.ref a1), .val (.ref a2)] [(.ref a2), (.ref a1)])) _
    refine st3 _ ?_
    show Steps p.tables e below (T3.setTop (mkF m 15 #[.val (.ref a1), .val (.ref a2)] [])) _
    exact k
  obtain ⟨fs, hr, hrun, hended, hW, hsame⟩ := X3.leave (v := none) (fun _ => rfl)
  refine ⟨_, _, pre4 _ ?_, hrun, hended, _, _, rfl, ?_, ⟨_, rfl⟩, hW, hsame.mono (by decide) (by decide)⟩
  · exact X3.returnOut hx Bd.returns (hb hby d5_15) hr
  · show Q_rmI Z a1 a2 cl zn h0 n0 _ T3.heap _
    rw [e3]
    exact ⟨rfl, N3, K3, ((E1.wr W2).wr W3), (Fw2.other W3 (Or.inr (slot_ne (Or.inr (hw _ (List.mem_of_getElem? (i := 29) rfl))) (Or.inr (hw _ (List.mem_of_getElem? (i := 31) rfl))) (by decide) (t := .int) (t' := (.array .long)) (by decide) (by decide)))), Fw3, ((F2.other W2 (Or.inr (slot_ne (Or.inl (hw _ (List.mem_of_getElem? (i := 38) rfl))) (Or.inr (hw _ (List.mem_of_getElem? (i := 29) rfl))) (by decide) (t := (.array .double)) (t' := .int) (by decide) (by decide)))).other W3 (Or.inr (slot_ne (Or.inl (hw _ (List.mem_of_getElem? (i := 38) rfl))) (Or.inr (hw _ (List.mem_of_getElem? (i := 31) rfl))) (by decide) (t := (.array .double)) (t' := (.array .long)) (by decide) (by decide)))), ((F3.other W2 (Or.inr (slot_ne (Or.inl (hw _ (List.mem_of_getElem? (i := 45) rfl))) (Or.inr (hw _ (List.mem_of_getElem? (i := 29) rfl))) (by decide) (t := (.array .double)) (t' := .int) (by decide) (by decide)))).other W3 (Or.inr (slot_ne (Or.inl (hw _ (List.mem_of_getElem? (i := 45) rfl))) (Or.inr (hw _ (List.mem_of_getElem? (i := 31) rfl))) (by decide) (t := (.array .double)) (t' := (.array .long)) (by decide) (by decide))))⟩
theorem ef_rmInt (m : MethodId) (x0 : Addr) : entryFrame m #[(.ref x0)] 7 = mkF m 0 #[.val (.ref x0), .unset, .unset, .unset, .unset, .unset, .unset] [] := by first | (simp [entryFrame, mkF, argsToLocals, Value.category]; done) | rfl
theorem d8_0 : decode prog_9_method_11_code 0 = .ok (.aload_n 0, 1) := by decide +kernel
theorem d8_1 : decode prog_9_method_11_code 1 = .ok (.iconst 2, 1) := by decide +kernel
theorem d8_2 : decode prog_9_method_11_code 2 = .ok (.aload_n 0, 1) := by decide +kernel
theorem d8_3 : decode prog_9_method_11_code 3 = .ok (.getfield 9, 3) := by decide +kernel
theorem d8_6 : decode prog_9_method_11_code 6 = .ok (.imul, 1) := by decide +kernel
theorem d8_7 : decode prog_9_method_11_code 7 = .ok (.iconst 1, 1) := by decide +kernel
theorem d8_8 : decode prog_9_method_11_code 8 = .ok (.iadd, 1) := by decide +kernel
theorem d8_9 : decode prog_9_method_11_code 9 = .ok (.newarray .double, 2) := by decide +kernel
theorem d8_11 : decode prog_9_method_11_code 11 = .ok (.putfield 26, 3) := by decide +kernel
theorem d8_14 : decode prog_9_method_11_code 14 = .ok (.aload_n 0, 1) := by decide +kernel
theorem d8_15 : decode prog_9_method_11_code 15 = .ok (.iconst 2, 1) := by decide +kernel
theorem d8_16 : decode prog_9_method_11_code 16 = .ok (.aload_n 0, 1) := by decide +kernel
theorem d8_17 : decode prog_9_method_11_code 17 = .ok (.getfield 9, 3) := by decide +kernel
theorem d8_20 : decode prog_9_method_11_code 20 = .ok (.imul, 1) := by decide +kernel
theorem d8_21 : decode prog_9_method_11_code 21 = .ok (.iconst 1, 1) := by decide +kernel
theorem d8_22 : decode prog_9_method_11_code 22 = .ok (.iadd, 1) := by decide +kernel
theorem d8_23 : decode prog_9_method_11_code 23 = .ok (.newarray .double, 2) := by decide +kernel
theorem d8_25 : decode prog_9_method_11_code 25 = .ok (.putfield 35, 3) := by decide +kernel
theorem d8_28 : decode prog_9_method_11_code 28 = .ok (.iconst 0, 1) := by decide +kernel
theorem d8_29 : decode prog_9_method_11_code 29 = .ok (.istore_n 1, 1) := by decide +kernel
theorem d8_30 : decode prog_9_method_11_code 30 = .ok (.iload_n 1, 1) := by decide +kernel
theorem d8_31 : decode prog_9_method_11_code 31 = .ok (.iconst 2, 1) := by decide +kernel
theorem d8_32 : decode prog_9_method_11_code 32 = .ok (.aload_n 0, 1) := by decide +kernel
theorem d8_33 : decode prog_9_method_11_code 33 = .ok (.getfield 9, 3) := by decide +kernel
theorem d8_36 : decode prog_9_method_11_code 36 = .ok (.imul, 1) := by decide +kernel
theorem d8_37 : decode prog_9_method_11_code 37 = .ok (.if_icmp .ge 115, 3) := by decide +kernel
theorem d8_40 : decode prog_9_method_11_code 40 = .ok (.iload_n 1, 1) := by decide +kernel
theorem d8_41 : decode prog_9_method_11_code 41 = .ok (.aload_n 0, 1) := by decide +kernel
theorem d8_42 : decode prog_9_method_11_code 42 = .ok (.getfield 9, 3) := by decide +kernel
theorem d8_45 : decode prog_9_method_11_code 45 = .ok (.if_icmp .ge 7, 3) := by decide +kernel
theorem d8_48 : decode prog_9_method_11_code 48 = .ok (.iload_n 1, 1) := by decide +kernel
theorem d8_49 : decode prog_9_method_11_code 49 = .ok (.goto 9, 3) := by decide +kernel
theorem d8_58 : decode prog_9_method_11_code 58 = .ok (.istore_n 2, 1) := by decide +kernel
theorem d8_59 : decode prog_9_method_11_code 59 = .ok (.aload_n 0, 1) := by decide +kernel
theorem d8_60 : decode prog_9_method_11_code 60 = .ok (.getfield 13, 3) := by decide +kernel
theorem d8_63 : decode prog_9_method_11_code 63 = .ok (.iload_n 2, 1) := by decide +kernel
theorem d8_64 : decode prog_9_method_11_code 64 = .ok (.laload, 1) := by decide +kernel
theorem d8_65 : decode prog_9_method_11_code 65 = .ok (.l2d, 1) := by decide +kernel
theorem d8_66 : decode prog_9_method_11_code 66 = .ok (.dstore_n 3, 1) := by decide +kernel
theorem d8_67 : decode prog_9_method_11_code 67 = .ok (.aload_n 0, 1) := by decide +kernel
theorem d8_68 : decode prog_9_method_11_code 68 = .ok (.getfield 13, 3) := by decide +kernel
theorem d8_71 : decode prog_9_method_11_code 71 = .ok (.iload_n 2, 1) := by decide +kernel
theorem d8_72 : decode prog_9_method_11_code 72 = .ok (.iconst 1, 1) := by decide +kernel
theorem d8_73 : decode prog_9_method_11_code 73 = .ok (.iadd, 1) := by decide +kernel
theorem d8_74 : decode prog_9_method_11_code 74 = .ok (.aload_n 0, 1) := by decide +kernel
theorem d8_75 : decode prog_9_method_11_code 75 = .ok (.getfield 9, 3) := by decide +kernel
theorem d8_78 : decode prog_9_method_11_code 78 = .ok (.if_icmp .ge 9, 3) := by decide +kernel
theorem d8_81 : decode prog_9_method_11_code 81 = .ok (.iload_n 2, 1) := by decide +kernel
theorem d8_82 : decode prog_9_method_11_code 82 = .ok (.iconst 1, 1) := by decide +kernel
theorem d8_83 : decode prog_9_method_11_code 83 = .ok (.iadd, 1) := by decide +kernel
theorem d8_84 : decode prog_9_method_11_code 84 = .ok (.goto 4, 3) := by decide +kernel
theorem d8_88 : decode prog_9_method_11_code 88 = .ok (.laload, 1) := by decide +kernel
theorem d8_89 : decode prog_9_method_11_code 89 = .ok (.l2d, 1) := by decide +kernel
theorem d8_90 : decode prog_9_method_11_code 90 = .ok (.dstore 5, 2) := by decide +kernel
theorem d8_92 : decode prog_9_method_11_code 92 = .ok (.aload_n 0, 1) := by decide +kernel
theorem d8_93 : decode prog_9_method_11_code 93 = .ok (.getfield 26, 3) := by decide +kernel
theorem d8_96 : decode prog_9_method_11_code 96 = .ok (.iload_n 1, 1) := by decide +kernel
theorem d8_97 : decode prog_9_method_11_code 97 = .ok (.iconst 1, 1) := by decide +kernel
theorem d8_98 : decode prog_9_method_11_code 98 = .ok (.iadd, 1) := by decide +kernel
theorem d8_99 : decode prog_9_method_11_code 99 = .ok (.aload_n 0, 1) := by decide +kernel
theorem d8_100 : decode prog_9_method_11_code 100 = .ok (.getfield 26, 3) := by decide +kernel
theorem d8_103 : decode prog_9_method_11_code 103 = .ok (.iload_n 1, 1) := by decide +kernel
theorem d8_104 : decode prog_9_method_11_code 104 = .ok (.daload, 1) := by decide +kernel
theorem d8_105 : decode prog_9_method_11_code 105 = .ok (.dload_n 3, 1) := by decide +kernel
theorem d8_106 : decode prog_9_method_11_code 106 = .ok (.dadd, 1) := by decide +kernel
theorem d8_107 : decode prog_9_method_11_code 107 = .ok (.dload 5, 2) := by decide +kernel
theorem d8_109 : decode prog_9_method_11_code 109 = .ok (.dadd, 1) := by decide +kernel
theorem d8_110 : decode prog_9_method_11_code 110 = .ok (.dastore, 1) := by decide +kernel
theorem d8_111 : decode prog_9_method_11_code 111 = .ok (.aload_n 0, 1) := by decide +kernel
theorem d8_112 : decode prog_9_method_11_code 112 = .ok (.getfield 35, 3) := by decide +kernel
theorem d8_115 : decode prog_9_method_11_code 115 = .ok (.iload_n 1, 1) := by decide +kernel
theorem d8_116 : decode prog_9_method_11_code 116 = .ok (.iconst 1, 1) := by decide +kernel
theorem d8_117 : decode prog_9_method_11_code 117 = .ok (.iadd, 1) := by decide +kernel
theorem d8_118 : decode prog_9_method_11_code 118 = .ok (.aload_n 0, 1) := by decide +kernel
theorem d8_119 : decode prog_9_method_11_code 119 = .ok (.getfield 35, 3) := by decide +kernel
theorem d8_122 : decode prog_9_method_11_code 122 = .ok (.iload_n 1, 1) := by decide +kernel
theorem d8_123 : decode prog_9_method_11_code 123 = .ok (.daload, 1) := by decide +kernel
theorem d8_124 : decode prog_9_method_11_code 124 = .ok (.ldc2_w 33, 3) := by decide +kernel
theorem d8_127 : decode prog_9_method_11_code 127 = .ok (.iload_n 1, 1) := by decide +kernel
theorem d8_128 : decode prog_9_method_11_code 128 = .ok (.i2d, 1) := by decide +kernel
theorem d8_129 : decode prog_9_method_11_code 129 = .ok (.dmul, 1) := by decide +kernel
theorem d8_130 : decode prog_9_method_11_code 130 = .ok (.dload_n 3, 1) := by decide +kernel
theorem d8_131 : decode prog_9_method_11_code 131 = .ok (.dload 5, 2) := by decide +kernel
theorem d8_133 : decode prog_9_method_11_code 133 = .ok (.dadd, 1) := by decide +kernel
theorem d8_134 : decode prog_9_method_11_code 134 = .ok (.dmul, 1) := by decide +kernel
theorem d8_135 : decode prog_9_method_11_code 135 = .ok (.dadd, 1) := by decide +kernel
theorem d8_136 : decode prog_9_method_11_code 136 = .ok (.dload_n 3, 1) := by decide +kernel
theorem d8_137 : decode prog_9_method_11_code 137 = .ok (.dadd, 1) := by decide +kernel
theorem d8_138 : decode prog_9_method_11_code 138 = .ok (.ldc2_w 72, 3) := by decide +kernel
theorem d8_141 : decode prog_9_method_11_code 141 = .ok (.dload 5, 2) := by decide +kernel
theorem d8_143 : decode prog_9_method_11_code 143 = .ok (.dmul, 1) := by decide +kernel
theorem d8_144 : decode prog_9_method_11_code 144 = .ok (.dadd, 1) := by decide +kernel
theorem d8_145 : decode prog_9_method_11_code 145 = .ok (.dastore, 1) := by decide +kernel
theorem d8_146 : decode prog_9_method_11_code 146 = .ok (.iinc 1 1, 3) := by decide +kernel
theorem d8_149 : decode prog_9_method_11_code 149 = .ok (.goto (-119), 3) := by decide +kernel
theorem d8_87 : decode prog_9_method_11_code 87 = .ok (.iconst 0, 1) := by decide +kernel
theorem d8_52 : decode prog_9_method_11_code 52 = .ok (.iload_n 1, 1) := by decide +kernel
theorem d8_53 : decode prog_9_method_11_code 53 = .ok (.aload_n 0, 1) := by decide +kernel
theorem d8_54 : decode prog_9_method_11_code 54 = .ok (.getfield 9, 3) := by decide +kernel
theorem d8_57 : decode prog_9_method_11_code 57 = .ok (.isub, 1) := by decide +kernel
theorem d8_152 : decode prog_9_method_11_code 152 = .ok (.return_, 1) := by decide +kernel
def Q_rmInt (Z : State) (a1 : Addr) (a2 : Addr) (cl : Cell) (r0 : Int64) (r1 : Int64) (r2 : Int64) (h0 : Heap) (n0 : Nat) (v : Option Value) (h : Heap) (L : List Loc) : Prop := ∃ (bm : Addr) (km : ClassId) (bq : Addr) (kq : ClassId) (m1 m2 m3 m4 m5 m6 w1 w2 w3 w4 w5 w6 : Int64), v = none ∧ Fr n0 L ∧ Keep h0 h [a1] ∧ Exa Z h a1 "com/example/hummingbird/hummingbird/engine/Rhythm" ∧ Fld Z h a1 "com/example/hummingbird/hummingbird/engine/Rhythm" "points" "I" (.int (3 : Int32)) ∧ Fld Z h a1 "com/example/hummingbird/hummingbird/engine/Rhythm" "rates" "[J" (.ref a2) ∧ Fld Z h a1 "com/example/hummingbird/hummingbird/engine/Rhythm" "mass" "[D" (.ref bm) ∧ Fld Z h a1 "com/example/hummingbird/hummingbird/engine/Rhythm" "moment" "[D" (.ref bq) ∧ Arv Z h bm km .double (7 : Int32) [(.double (FP.l2d 0)), (.double (FP.l2d m1)), (.double (FP.l2d m2)), (.double (FP.l2d m3)), (.double (FP.l2d m4)), (.double (FP.l2d m5)), (.double (FP.l2d m6))] (.double (FP.l2d 0)) ∧ Arv Z h bq kq .double (7 : Int32) [(.double (FP.l2d 0)), (.double (FP.l2d w1)), (.double (FP.l2d w2)), (.double (FP.l2d w3)), (.double (FP.l2d w4)), (.double (FP.l2d w5)), (.double (FP.l2d w6))] (.double (FP.l2d 0)) ∧ own_I r0 r1 r2 m1 m2 m3 m4 m5 m6 w1 w2 w3 w4 w5 w6
set_option maxRecDepth 65536 in
set_option maxHeartbeats 40000000 in
theorem rmInt (l : Launch) (Z : State) (a0 : Array Value) (hw : ∀ d ∈ tables_1, d.before a0 Z = true) (ws : List Jvm.Cond) (a1 : Addr) (a2 : Addr) (cl : Cell) (r0 : Int64) (r1 : Int64) (r2 : Int64) (h0 : Heap) (n0 : Nat) (Z0 : n0 ≤ h0.size) (F0 : Fld Z h0 a1 "com/example/hummingbird/hummingbird/engine/Rhythm" "points" "I" (.int (3 : Int32))) (F1 : Fld Z h0 a1 "com/example/hummingbird/hummingbird/engine/Rhythm" "rates" "[J" (.ref a2)) (F2 : Fld Z h0 a1 "com/example/hummingbird/hummingbird/engine/Rhythm" "mass" "[D" .null) (F3 : Fld Z h0 a1 "com/example/hummingbird/hummingbird/engine/Rhythm" "moment" "[D" .null) (E1 : Exa Z h0 a1 "com/example/hummingbird/hummingbird/engine/Rhythm") (g_a1 : n0 ≤ a1) (ne_a2_a1 : a2 ≠ a1) (Ar : Arr Z h0 a2 cl .long) (Sz : cl.slots.size = (3 : Int32).toNatClampNeg) (t0 : cl.slots[0]? = some (.long r0)) (t1 : cl.slots[1]? = some (.long r1)) (t2 : cl.slots[2]? = some (.long r2)) (hr0 : own_R r0 17179869183) (hr1 : own_R r1 17179869183) (hr2 : own_R r2 17179869183) :
    MetFree l (⟨"com/example/hummingbird/hummingbird/engine/Rhythm", "integrate", "()V"⟩ : MethodName) (head1 (Jvm.Cond.code (⟨"com/example/hummingbird/hummingbird/engine/Rhythm", "integrate", "()V"⟩ : MethodName) prog_9_method_11_code 7 none :: ws) ({ frames := 0, cells := 2, slots := 14, locals := 0 } : Room)) (fun a U => a = #[(.ref a1)] ∧ Z.Warmed39 U.vm ∧ U.heap = h0) (fun _ _ _ _ _ => True) (fun _ U o U' => ∃ v L, o = .returned v ∧ Q_rmInt Z a1 a2 cl r0 r1 r2 h0 n0 v U'.heap L ∧ FrameEnd U o U' L ({ frames := 0, cells := 2, slots := 14, locals := 0 } : Room).cells ({ frames := 0, cells := 2, slots := 14, locals := 0 } : Room).slots) := by
  refine MetFree.of_bodySF (plainFor_of_name pn_0) hisR ?_
  intro p e s m args below meth c s₁ Bd hml0 hP hK
  obtain ⟨rfl, hZ, hh⟩ := hP
  have hx := Bd.exec
  have hby := Bd.bytes
  have hml : c.maxLocals = 7 := hml0
  have hown : s.vm.findClass "com/example/hummingbird/hummingbird/engine/Rhythm" = some m.cls := (findClass_of_methodNamed Bd.named :)
  have hnm := (name_of_methodNamed Bd.named Bd.method).1
  have X0 : Stand p l e ({ frames := 0, cells := 2, slots := 14, locals := 0 } : Room) s m #[(.ref a1)] below meth c s₁ [] 0 0 := Stand.of_body Bd
  have e0 : s₁.heap = h0 := by rw [← hh, Bd.state]; rfl
  have N0 := Fr.nil n0
  have pre0 : ∀ t, Steps p.tables e below (s₁.setTop (mkF m 0 #[.val (.ref a1), .unset, .unset, .unset, .unset, .unset, .unset] [])) t → Steps p.tables e below (s₁.setTop (entryFrame m #[(.ref a1)] 7)) t := fun t k => castTop (ef_rmInt m a1) k
  have R00 : own_R (0 : Int64) 0 := by decide
  obtain ⟨T1, X1, e1, st1⟩ := getF X0 hx hZ hown (host := "") (Or.inl (hw _ (List.mem_of_getElem? (i := 28) rfl))) Via.refl e0 F0 (g := (mkF m 3 #[.val (.ref a1), .unset, .unset, .unset, .unset, .unset, .unset] [(.ref a1), (.int (2 : Int32)), (.ref a1)])) rfl rfl (hb hby d8_3)
  obtain ⟨T2, h2, k2, X2, e2, E2, A2, st2⟩ := newP X1 hx hZ (hw _ (List.mem_of_getElem? (i := 43) rfl)) e1 (g := (mkF m 9 #[.val (.ref a1), .unset, .unset, .unset, .unset, .unset, .unset] [(.int (7 : Int32)), (.ref a1)])) rfl (hb hby d8_9) rfl (by decide) (cap := 7) (by decide) (by decide) (by decide) (by decide)
  obtain ⟨b2, g2⟩ : ∃ z, z = h0.size := ⟨_, rfl⟩
  rw [← g2] at A2 st2
  have V2 : Arv Z h2 b2 k2 .double (7 : Int32) [(.double (FP.l2d 0)), (.double (FP.l2d 0)), (.double (FP.l2d 0)), (.double (FP.l2d 0)), (.double (FP.l2d 0)), (.double (FP.l2d 0)), (.double (FP.l2d 0))] (.double (FP.l2d 0)) := (Arv.newD A2 (by decide)).pad (pad_rep [] (.double (FP.l2d 0)) 7)
  have ne_a1_b2 : a1 ≠ b2 := Nat.ne_of_lt (Nat.lt_of_lt_of_le F0.lt (Nat.le_of_eq g2.symm))
  have ne_a2_b2 : a2 ≠ b2 := Nat.ne_of_lt (Nat.lt_of_lt_of_le Ar.lt (Nat.le_of_eq g2.symm))
  have g_b2 : n0 ≤ b2 := Nat.le_trans Z0 (Nat.le_of_eq g2.symm)
  have sz_b2 : h0.size ≤ b2 := (Nat.le_trans (Keep.refl h0 [a1]).1 (Nat.le_of_eq g2.symm))
  have K2 : Keep h0 h2 [a1] := (Keep.refl h0 [a1]).ext E2
  obtain ⟨T3, h3, X3, e3, W3, st3⟩ := putF X2 hx hZ hown (host := "") (Or.inl (hw _ (List.mem_of_getElem? (i := 37) rfl))) Via.refl e2 (F2.ext E2) (E1.ext E2) (Or.inl (hw _ (List.mem_of_getElem? (i := 38) rfl))) (hw _ (List.mem_of_getElem? (i := 20) rfl)) (ty := (.array .double)) (by decide) rfl rfl (g := (mkF m 11 #[.val (.ref a1), .unset, .unset, .unset, .unset, .unset, .unset] [(.ref b2), (.ref a1)])) rfl rfl (hb hby d8_11)
  have Fw3 := (F2.ext E2).same W3
  have K3 : Keep h0 h3 [a1] := K2.wr W3 (Or.inl (List.mem_of_getElem? (i := 0) rfl))
  have N3 := Fr.snoc X3 N0 g_a1
  obtain ⟨T4, X4, e4, st4⟩ := getF X3 hx hZ hown (host := "") (Or.inl (hw _ (List.mem_of_getElem? (i := 28) rfl))) Via.refl e3 ((F0.ext E2).other W3 (Or.inr (slot_ne (Or.inr (hw _ (List.mem_of_getElem? (i := 29) rfl))) (Or.inl (hw _ (List.mem_of_getElem? (i := 38) rfl))) (by decide) (t := .int) (t' := (.array .double)) (by decide) (by decide)))) (g := (mkF m 17 #[.val (.ref a1), .unset, .unset, .unset, .unset, .unset, .unset] [(.ref a1), (.int (2 : Int32)), (.ref a1)])) rfl rfl (hb hby d8_17)
  obtain ⟨T5, h5, k5, X5, e5, E5, A5, st5⟩ := newP X4 hx hZ (hw _ (List.mem_of_getElem? (i := 43) rfl)) e4 (g := (mkF m 23 #[.val (.ref a1), .unset, .unset, .unset, .unset, .unset, .unset] [(.int (7 : Int32)), (.ref a1)])) rfl (hb hby d8_23) rfl (by decide) (cap := 7) (by decide) (by decide) (by decide) (by decide)
  obtain ⟨b5, g5⟩ : ∃ z, z = h3.size := ⟨_, rfl⟩
  rw [← g5] at A5 st5
  have V5 : Arv Z h5 b5 k5 .double (7 : Int32) [(.double (FP.l2d 0)), (.double (FP.l2d 0)), (.double (FP.l2d 0)), (.double (FP.l2d 0)), (.double (FP.l2d 0)), (.double (FP.l2d 0)), (.double (FP.l2d 0))] (.double (FP.l2d 0)) := (Arv.newD A5 (by decide)).pad (pad_rep [] (.double (FP.l2d 0)) 7)
  have ne_a1_b5 : a1 ≠ b5 := Nat.ne_of_lt (Nat.lt_of_lt_of_le ((F0.ext E2).other W3 (Or.inr (slot_ne (Or.inr (hw _ (List.mem_of_getElem? (i := 29) rfl))) (Or.inl (hw _ (List.mem_of_getElem? (i := 38) rfl))) (by decide) (t := .int) (t' := (.array .double)) (by decide) (by decide)))).lt (Nat.le_of_eq g5.symm))
  have ne_a2_b5 : a2 ≠ b5 := Nat.ne_of_lt (Nat.lt_of_lt_of_le ((Ar.ext E2).other W3 (ne_a2_a1)).lt (Nat.le_of_eq g5.symm))
  have ne_b2_b5 : b2 ≠ b5 := Nat.ne_of_lt (Nat.lt_of_lt_of_le (V2.other W3 (Ne.symm ne_a1_b2)).lt (Nat.le_of_eq g5.symm))
  have g_b5 : n0 ≤ b5 := Nat.le_trans (Nat.le_trans (Nat.le_trans Z0 E2.1) (Keep.of_wr W3).1) (Nat.le_of_eq g5.symm)
  have sz_b5 : h0.size ≤ b5 := (Nat.le_trans K3.1 (Nat.le_of_eq g5.symm))
  have K5 : Keep h0 h5 [a1] := K3.ext E5
  obtain ⟨T6, h6, X6, e6, W6, st6⟩ := putF X5 hx hZ hown (host := "") (Or.inl (hw _ (List.mem_of_getElem? (i := 44) rfl))) Via.refl e5 (((F3.ext E2).other W3 (Or.inr (slot_ne (Or.inl (hw _ (List.mem_of_getElem? (i := 45) rfl))) (Or.inl (hw _ (List.mem_of_getElem? (i := 38) rfl))) (by decide) (t := (.array .double)) (t' := (.array .double)) (by decide) (by decide)))).ext E5) (((E1.ext E2).wr W3).ext E5) (Or.inl (hw _ (List.mem_of_getElem? (i := 45) rfl))) (hw _ (List.mem_of_getElem? (i := 20) rfl)) (ty := (.array .double)) (by decide) rfl rfl (g := (mkF m 25 #[.val (.ref a1), .unset, .unset, .unset, .unset, .unset, .unset] [(.ref b5), (.ref a1)])) rfl rfl (hb hby d8_25)
  have Fw6 := (((F3.ext E2).other W3 (Or.inr (slot_ne (Or.inl (hw _ (List.mem_of_getElem? (i := 45) rfl))) (Or.inl (hw _ (List.mem_of_getElem? (i := 38) rfl))) (by decide) (t := (.array .double)) (t' := (.array .double)) (by decide) (by decide)))).ext E5).same W6
  have K6 : Keep h0 h6 [a1] := K5.wr W6 (Or.inl (List.mem_of_getElem? (i := 0) rfl))
  have N6 := Fr.snoc X6 N3 g_a1
  obtain ⟨T7, X7, e7, st7⟩ := getF X6 hx hZ hown (host := "") (Or.inl (hw _ (List.mem_of_getElem? (i := 28) rfl))) Via.refl e6 ((((F0.ext E2).other W3 (Or.inr (slot_ne (Or.inr (hw _ (List.mem_of_getElem? (i := 29) rfl))) (Or.inl (hw _ (List.mem_of_getElem? (i := 38) rfl))) (by decide) (t := .int) (t' := (.array .double)) (by decide) (by decide)))).ext E5).other W6 (Or.inr (slot_ne (Or.inr (hw _ (List.mem_of_getElem? (i := 29) rfl))) (Or.inl (hw _ (List.mem_of_getElem? (i := 45) rfl))) (by decide) (t := .int) (t' := (.array .double)) (by decide) (by decide)))) (g := (mkF m 33 #[.val (.ref a1), .val (.int (0 : Int32)), .unset, .unset, .unset, .unset, .unset] [(.ref a1), (.int (2 : Int32)), (.int (0 : Int32))])) rfl rfl (hb hby d8_33)
  obtain ⟨T8, X8, e8, st8⟩ := getF X7 hx hZ hown (host := "") (Or.inl (hw _ (List.mem_of_getElem? (i := 28) rfl))) Via.refl e7 ((((F0.ext E2).other W3 (Or.inr (slot_ne (Or.inr (hw _ (List.mem_of_getElem? (i := 29) rfl))) (Or.inl (hw _ (List.mem_of_getElem? (i := 38) rfl))) (by decide) (t := .int) (t' := (.array .double)) (by decide) (by decide)))).ext E5).other W6 (Or.inr (slot_ne (Or.inr (hw _ (List.mem_of_getElem? (i := 29) rfl))) (Or.inl (hw _ (List.mem_of_getElem? (i := 45) rfl))) (by decide) (t := .int) (t' := (.array .double)) (by decide) (by decide)))) (g := (mkF m 42 #[.val (.ref a1), .val (.int (0 : Int32)), .unset, .unset, .unset, .unset, .unset] [(.ref a1), (.int (0 : Int32))])) rfl rfl (hb hby d8_42)
  obtain ⟨T9, X9, e9, st9⟩ := getF X8 hx hZ hown (host := "") (Or.inl (hw _ (List.mem_of_getElem? (i := 30) rfl))) Via.refl e8 ((((F1.ext E2).other W3 (Or.inr (slot_ne (Or.inr (hw _ (List.mem_of_getElem? (i := 31) rfl))) (Or.inl (hw _ (List.mem_of_getElem? (i := 38) rfl))) (by decide) (t := (.array .long)) (t' := (.array .double)) (by decide) (by decide)))).ext E5).other W6 (Or.inr (slot_ne (Or.inr (hw _ (List.mem_of_getElem? (i := 31) rfl))) (Or.inl (hw _ (List.mem_of_getElem? (i := 45) rfl))) (by decide) (t := (.array .long)) (t' := (.array .double)) (by decide) (by decide)))) (g := (mkF m 60 #[.val (.ref a1), .val (.int (0 : Int32)), .val (.int (0 : Int32)), .unset, .unset, .unset, .unset] [(.ref a1)])) rfl rfl (hb hby d8_60)
  obtain ⟨T10, X10, e10, st10⟩ := getF X9 hx hZ hown (host := "") (Or.inl (hw _ (List.mem_of_getElem? (i := 30) rfl))) Via.refl e9 ((((F1.ext E2).other W3 (Or.inr (slot_ne (Or.inr (hw _ (List.mem_of_getElem? (i := 31) rfl))) (Or.inl (hw _ (List.mem_of_getElem? (i := 38) rfl))) (by decide) (t := (.array .long)) (t' := (.array .double)) (by decide) (by decide)))).ext E5).other W6 (Or.inr (slot_ne (Or.inr (hw _ (List.mem_of_getElem? (i := 31) rfl))) (Or.inl (hw _ (List.mem_of_getElem? (i := 45) rfl))) (by decide) (t := (.array .long)) (t' := (.array .double)) (by decide) (by decide)))) (g := (mkF m 68 #[.val (.ref a1), .val (.int (0 : Int32)), .val (.int (0 : Int32)), .val (.double (FP.l2d r0)), .second, .unset, .unset] [(.ref a1)])) rfl rfl (hb hby d8_68)
  obtain ⟨T11, X11, e11, st11⟩ := getF X10 hx hZ hown (host := "") (Or.inl (hw _ (List.mem_of_getElem? (i := 28) rfl))) Via.refl e10 ((((F0.ext E2).other W3 (Or.inr (slot_ne (Or.inr (hw _ (List.mem_of_getElem? (i := 29) rfl))) (Or.inl (hw _ (List.mem_of_getElem? (i := 38) rfl))) (by decide) (t := .int) (t' := (.array .double)) (by decide) (by decide)))).ext E5).other W6 (Or.inr (slot_ne (Or.inr (hw _ (List.mem_of_getElem? (i := 29) rfl))) (Or.inl (hw _ (List.mem_of_getElem? (i := 45) rfl))) (by decide) (t := .int) (t' := (.array .double)) (by decide) (by decide)))) (g := (mkF m 75 #[.val (.ref a1), .val (.int (0 : Int32)), .val (.int (0 : Int32)), .val (.double (FP.l2d r0)), .second, .unset, .unset] [(.ref a1), (.int (1 : Int32)), (.ref a2)])) rfl rfl (hb hby d8_75)
  obtain ⟨T12, X12, e12, st12⟩ := getF X11 hx hZ hown (host := "") (Or.inl (hw _ (List.mem_of_getElem? (i := 37) rfl))) Via.refl e11 ((Fw3.ext E5).other W6 (Or.inr (slot_ne (Or.inl (hw _ (List.mem_of_getElem? (i := 38) rfl))) (Or.inl (hw _ (List.mem_of_getElem? (i := 45) rfl))) (by decide) (t := (.array .double)) (t' := (.array .double)) (by decide) (by decide)))) (g := (mkF m 93 #[.val (.ref a1), .val (.int (0 : Int32)), .val (.int (0 : Int32)), .val (.double (FP.l2d r0)), .second, .val (.double (FP.l2d r1)), .second] [(.ref a1)])) rfl rfl (hb hby d8_93)
  obtain ⟨T13, X13, e13, st13⟩ := getF X12 hx hZ hown (host := "") (Or.inl (hw _ (List.mem_of_getElem? (i := 37) rfl))) Via.refl e12 ((Fw3.ext E5).other W6 (Or.inr (slot_ne (Or.inl (hw _ (List.mem_of_getElem? (i := 38) rfl))) (Or.inl (hw _ (List.mem_of_getElem? (i := 45) rfl))) (by decide) (t := (.array .double)) (t' := (.array .double)) (by decide) (by decide)))) (g := (mkF m 100 #[.val (.ref a1), .val (.int (0 : Int32)), .val (.int (0 : Int32)), .val (.double (FP.l2d r0)), .second, .val (.double (FP.l2d r1)), .second] [(.ref a1), (.int (1 : Int32)), (.ref b2)])) rfl rfl (hb hby d8_100)
  obtain ⟨cl14, Ar14, q14, S14, M14, H14, G14⟩ := id (((V2.other W3 (Ne.symm ne_a1_b2)).ext E5).other W6 (Ne.symm ne_a1_b2))
  have Ed15 : FP.dadd (FP.l2d 0) (FP.l2d r0) = FP.l2d (0 + r0) := own_dadd R00 hr0 (by decide)
  obtain ⟨Rd15, Td15⟩ := own_Radd R00 hr0 (by decide)
  have Ed16 : FP.dadd (FP.l2d (0 + r0)) (FP.l2d r1) = FP.l2d ((0 + r0) + r1) := own_dadd Rd15 hr1 (by decide)
  obtain ⟨Rd16, Td16⟩ := own_Radd Rd15 hr1 (by decide)
  have pre17 : ∀ t, Steps p.tables e below (T13.setTop (mkF m 110 #[.val (.ref a1), .val (.int (0 : Int32)), .val (.int (0 : Int32)), .val (.double (FP.l2d r0)), .second, .val (.double (FP.l2d r1)), .second] [(.double (FP.l2d ((0 + r0) + r1))), (.int (1 : Int32)), (.ref b2)])) t → Steps p.tables e below (s₁.setTop (entryFrame m #[(.ref a1)] 7)) t := by
    intro t k
    refine pre0 t ?_
    show Steps p.tables e below (s₁.setTop (mkF m 0 #[.val (.ref a1), .unset, .unset, .unset, .unset, .unset, .unset] [])) _
    refine XS.aloadN X0.here hx rfl (hb hby d8_0) rfl (rfl) ?_
    show Steps p.tables e below (s₁.setTop (mkF m 1 #[.val (.ref a1), .unset, .unset, .unset, .unset, .unset, .unset] [(.ref a1)])) _
    refine XS.iconst X0.here hx rfl (hb hby d8_1) ?_
    show Steps p.tables e below (s₁.setTop (mkF m 2 #[.val (.ref a1), .unset, .unset, .unset, .unset, .unset, .unset] [(.int (2 : Int32)), (.ref a1)])) _
    refine XS.aloadN X0.here hx rfl (hb hby d8_2) rfl (rfl) ?_
    show Steps p.tables e below (s₁.setTop (mkF m 3 #[.val (.ref a1), .unset, .unset, .unset, .unset, .unset, .unset] [(.ref a1), (.int (2 : Int32)), (.ref a1)])) _
    refine st1 _ ?_
    show Steps p.tables e below (T1.setTop (mkF m 6 #[.val (.ref a1), .unset, .unset, .unset, .unset, .unset, .unset] [(.int (3 : Int32)), (.int (2 : Int32)), (.ref a1)])) _
    refine XS.imul X1.here hx rfl (hb hby d8_6) rfl ?_
    show Steps p.tables e below (T1.setTop (mkF m 7 #[.val (.ref a1), .unset, .unset, .unset, .unset, .unset, .unset] [(.int (6 : Int32)), (.ref a1)])) _
    refine XS.iconst X1.here hx rfl (hb hby d8_7) ?_
    show Steps p.tables e below (T1.setTop (mkF m 8 #[.val (.ref a1), .unset, .unset, .unset, .unset, .unset, .unset] [(.int (1 : Int32)), (.int (6 : Int32)), (.ref a1)])) _
    refine XS.iadd X1.here hx rfl (hb hby d8_8) rfl ?_
    show Steps p.tables e below (T1.setTop (mkF m 9 #[.val (.ref a1), .unset, .unset, .unset, .unset, .unset, .unset] [(.int (7 : Int32)), (.ref a1)])) _
    refine st2 _ ?_
    show Steps p.tables e below (T2.setTop (mkF m 11 #[.val (.ref a1), .unset, .unset, .unset, .unset, .unset, .unset] [(.ref b2), (.ref a1)])) _
    refine st3 _ ?_
    show Steps p.tables e below (T3.setTop (mkF m 14 #[.val (.ref a1), .unset, .unset, .unset, .unset, .unset, .unset] [])) _
    refine XS.aloadN X3.here hx rfl (hb hby d8_14) rfl (rfl) ?_
    show Steps p.tables e below (T3.setTop (mkF m 15 #[.val (.ref a1), .unset, .unset, .unset, .unset, .unset, .unset] [(.ref a1)])) _
    refine XS.iconst X3.here hx rfl (hb hby d8_15) ?_
    show Steps p.tables e below (T3.setTop (mkF m 16 #[.val (.ref a1), .unset, .unset, .unset, .unset, .unset, .unset] [(.int (2 : Int32)), (.ref a1)])) _
    refine XS.aloadN X3.here hx rfl (hb hby d8_16) rfl (rfl) ?_
    show Steps p.tables e below (T3.setTop (mkF m 17 #[.val (.ref a1), .unset, .unset, .unset, .unset, .unset, .unset] [(.ref a1), (.int (2 : Int32)), (.ref a1)])) _
    refine st4 _ ?_
    show Steps p.tables e below (T4.setTop (mkF m 20 #[.val (.ref a1), .unset, .unset, .unset, .unset, .unset, .unset] [(.int (3 : Int32)), (.int (2 : Int32)), (.ref a1)])) _
    refine XS.imul X4.here hx rfl (hb hby d8_20) rfl ?_
    show Steps p.tables e below (T4.setTop (mkF m 21 #[.val (.ref a1), .unset, .unset, .unset, .unset, .unset, .unset] [(.int (6 : Int32)), (.ref a1)])) _
    refine XS.iconst X4.here hx rfl (hb hby d8_21) ?_
    show Steps p.tables e below (T4.setTop (mkF m 22 #[.val (.ref a1), .unset, .unset, .unset, .unset, .unset, .unset] [(.int (1 : Int32)), (.int (6 : Int32)), (.ref a1)])) _
    refine XS.iadd X4.here hx rfl (hb hby d8_22) rfl ?_
    show Steps p.tables e below (T4.setTop (mkF m 23 #[.val (.ref a1), .unset, .unset, .unset, .unset, .unset, .unset] [(.int (7 : Int32)), (.ref a1)])) _
    refine st5 _ ?_
    show Steps p.tables e below (T5.setTop (mkF m 25 #[.val (.ref a1), .unset, .unset, .unset, .unset, .unset, .unset] [(.ref b5), (.ref a1)])) _
    refine st6 _ ?_
    show Steps p.tables e below (T6.setTop (mkF m 28 #[.val (.ref a1), .unset, .unset, .unset, .unset, .unset, .unset] [])) _
    refine XS.iconst X6.here hx rfl (hb hby d8_28) ?_
    show Steps p.tables e below (T6.setTop (mkF m 29 #[.val (.ref a1), .unset, .unset, .unset, .unset, .unset, .unset] [(.int (0 : Int32))])) _
    refine XS.istoreN X6.here hx rfl (hb hby d8_29) rfl (l' := #[.val (.ref a1), .val (.int (0 : Int32)), .unset, .unset, .unset, .unset, .unset]) rfl ?_
    show Steps p.tables e below (T6.setTop (mkF m 30 #[.val (.ref a1), .val (.int (0 : Int32)), .unset, .unset, .unset, .unset, .unset] [])) _
    refine XS.iloadN X6.here hx rfl (hb hby d8_30) rfl ?_
    show Steps p.tables e below (T6.setTop (mkF m 31 #[.val (.ref a1), .val (.int (0 : Int32)), .unset, .unset, .unset, .unset, .unset] [(.int (0 : Int32))])) _
    refine XS.iconst X6.here hx rfl (hb hby d8_31) ?_
    show Steps p.tables e below (T6.setTop (mkF m 32 #[.val (.ref a1), .val (.int (0 : Int32)), .unset, .unset, .unset, .unset, .unset] [(.int (2 : Int32)), (.int (0 : Int32))])) _
    refine XS.aloadN X6.here hx rfl (hb hby d8_32) rfl (rfl) ?_
    show Steps p.tables e below (T6.setTop (mkF m 33 #[.val (.ref a1), .val (.int (0 : Int32)), .unset, .unset, .unset, .unset, .unset] [(.ref a1), (.int (2 : Int32)), (.int (0 : Int32))])) _
    refine st7 _ ?_
    show Steps p.tables e below (T7.setTop (mkF m 36 #[.val (.ref a1), .val (.int (0 : Int32)), .unset, .unset, .unset, .unset, .unset] [(.int (3 : Int32)), (.int (2 : Int32)), (.int (0 : Int32))])) _
    refine XS.imul X7.here hx rfl (hb hby d8_36) rfl ?_
    show Steps p.tables e below (T7.setTop (mkF m 37 #[.val (.ref a1), .val (.int (0 : Int32)), .unset, .unset, .unset, .unset, .unset] [(.int (6 : Int32)), (.int (0 : Int32))])) _
    refine XS.icmpNo X7.here hx rfl (hb hby d8_37) rfl (tlt (by decide : (0 : Int32) < (6 : Int32))).2.1 ?_
    show Steps p.tables e below (T7.setTop (mkF m 40 #[.val (.ref a1), .val (.int (0 : Int32)), .unset, .unset, .unset, .unset, .unset] [])) _
    refine XS.iloadN X7.here hx rfl (hb hby d8_40) rfl ?_
    show Steps p.tables e below (T7.setTop (mkF m 41 #[.val (.ref a1), .val (.int (0 : Int32)), .unset, .unset, .unset, .unset, .unset] [(.int (0 : Int32))])) _
    refine XS.aloadN X7.here hx rfl (hb hby d8_41) rfl (rfl) ?_
    show Steps p.tables e below (T7.setTop (mkF m 42 #[.val (.ref a1), .val (.int (0 : Int32)), .unset, .unset, .unset, .unset, .unset] [(.ref a1), (.int (0 : Int32))])) _
    refine st8 _ ?_
    show Steps p.tables e below (T8.setTop (mkF m 45 #[.val (.ref a1), .val (.int (0 : Int32)), .unset, .unset, .unset, .unset, .unset] [(.int (3 : Int32)), (.int (0 : Int32))])) _
    refine XS.icmpNo X8.here hx rfl (hb hby d8_45) rfl (tlt (by decide : (0 : Int32) < (3 : Int32))).2.1 ?_
    show Steps p.tables e below (T8.setTop (mkF m 48 #[.val (.ref a1), .val (.int (0 : Int32)), .unset, .unset, .unset, .unset, .unset] [])) _
    refine XS.iloadN X8.here hx rfl (hb hby d8_48) rfl ?_
    show Steps p.tables e below (T8.setTop (mkF m 49 #[.val (.ref a1), .val (.int (0 : Int32)), .unset, .unset, .unset, .unset, .unset] [(.int (0 : Int32))])) _
    refine XS.goto X8.here hx rfl (pc0 := 49) (pc' := 58) rfl (hb hby d8_49) (by decide) (by decide) ?_
    show Steps p.tables e below (T8.setTop (mkF m 58 #[.val (.ref a1), .val (.int (0 : Int32)), .unset, .unset, .unset, .unset, .unset] [(.int (0 : Int32))])) _
    refine XS.istoreN X8.here hx rfl (hb hby d8_58) rfl (l' := #[.val (.ref a1), .val (.int (0 : Int32)), .val (.int (0 : Int32)), .unset, .unset, .unset, .unset]) rfl ?_
    show Steps p.tables e below (T8.setTop (mkF m 59 #[.val (.ref a1), .val (.int (0 : Int32)), .val (.int (0 : Int32)), .unset, .unset, .unset, .unset] [])) _
    refine XS.aloadN X8.here hx rfl (hb hby d8_59) rfl (rfl) ?_
    show Steps p.tables e below (T8.setTop (mkF m 60 #[.val (.ref a1), .val (.int (0 : Int32)), .val (.int (0 : Int32)), .unset, .unset, .unset, .unset] [(.ref a1)])) _
    refine st9 _ ?_
    show Steps p.tables e below (T9.setTop (mkF m 63 #[.val (.ref a1), .val (.int (0 : Int32)), .val (.int (0 : Int32)), .unset, .unset, .unset, .unset] [(.ref a2)])) _
    refine XS.iloadN X9.here hx rfl (hb hby d8_63) rfl ?_
    show Steps p.tables e below (T9.setTop (mkF m 64 #[.val (.ref a1), .val (.int (0 : Int32)), .val (.int (0 : Int32)), .unset, .unset, .unset, .unset] [(.int (0 : Int32)), (.ref a2)])) _
    refine X9.laload hx (j := (0 : Int32)) (v := (.long r0)) (by rw [e9]; exact ((((Ar.ext E2).other W3 (ne_a2_a1)).ext E5).other W6 (ne_a2_a1)).1) (State.isArrayOf_alike hZ.alike ((((Ar.ext E2).other W3 (ne_a2_a1)).ext E5).other W6 (ne_a2_a1)).2.1) ((((Ar.ext E2).other W3 (ne_a2_a1)).ext E5).other W6 (ne_a2_a1)).2.2 (inb_of Sz ⟨by decide, by decide⟩) t0 (g := (mkF m 64 #[.val (.ref a1), .val (.int (0 : Int32)), .val (.int (0 : Int32)), .unset, .unset, .unset, .unset] [(.int (0 : Int32)), (.ref a2)])) rfl rfl (hb hby d8_64) _ ?_
    show Steps p.tables e below (T9.setTop (mkF m 65 #[.val (.ref a1), .val (.int (0 : Int32)), .val (.int (0 : Int32)), .unset, .unset, .unset, .unset] [(.long r0)])) _
    refine XS.l2dS X9.here hx rfl (hb hby d8_65) rfl rfl ?_
    show Steps p.tables e below (T9.setTop (mkF m 66 #[.val (.ref a1), .val (.int (0 : Int32)), .val (.int (0 : Int32)), .unset, .unset, .unset, .unset] [(.double (FP.l2d r0))])) _
    refine XS.dstoreN X9.here hx rfl (hb hby d8_66) rfl (l' := #[.val (.ref a1), .val (.int (0 : Int32)), .val (.int (0 : Int32)), .val (.double (FP.l2d r0)), .second, .unset, .unset]) rfl ?_
    show Steps p.tables e below (T9.setTop (mkF m 67 #[.val (.ref a1), .val (.int (0 : Int32)), .val (.int (0 : Int32)), .val (.double (FP.l2d r0)), .second, .unset, .unset] [])) _
    refine XS.aloadN X9.here hx rfl (hb hby d8_67) rfl (rfl) ?_
    show Steps p.tables e below (T9.setTop (mkF m 68 #[.val (.ref a1), .val (.int (0 : Int32)), .val (.int (0 : Int32)), .val (.double (FP.l2d r0)), .second, .unset, .unset] [(.ref a1)])) _
    refine st10 _ ?_
    show Steps p.tables e below (T10.setTop (mkF m 71 #[.val (.ref a1), .val (.int (0 : Int32)), .val (.int (0 : Int32)), .val (.double (FP.l2d r0)), .second, .unset, .unset] [(.ref a2)])) _
    refine XS.iloadN X10.here hx rfl (hb hby d8_71) rfl ?_
    show Steps p.tables e below (T10.setTop (mkF m 72 #[.val (.ref a1), .val (.int (0 : Int32)), .val (.int (0 : Int32)), .val (.double (FP.l2d r0)), .second, .unset, .unset] [(.int (0 : Int32)), (.ref a2)])) _
    refine XS.iconst X10.here hx rfl (hb hby d8_72) ?_
    show Steps p.tables e below (T10.setTop (mkF m 73 #[.val (.ref a1), .val (.int (0 : Int32)), .val (.int (0 : Int32)), .val (.double (FP.l2d r0)), .second, .unset, .unset] [(.int (1 : Int32)), (.int (0 : Int32)), (.ref a2)])) _
    refine XS.iadd X10.here hx rfl (hb hby d8_73) rfl ?_
    show Steps p.tables e below (T10.setTop (mkF m 74 #[.val (.ref a1), .val (.int (0 : Int32)), .val (.int (0 : Int32)), .val (.double (FP.l2d r0)), .second, .unset, .unset] [(.int (1 : Int32)), (.ref a2)])) _
    refine XS.aloadN X10.here hx rfl (hb hby d8_74) rfl (rfl) ?_
    show Steps p.tables e below (T10.setTop (mkF m 75 #[.val (.ref a1), .val (.int (0 : Int32)), .val (.int (0 : Int32)), .val (.double (FP.l2d r0)), .second, .unset, .unset] [(.ref a1), (.int (1 : Int32)), (.ref a2)])) _
    refine st11 _ ?_
    show Steps p.tables e below (T11.setTop (mkF m 78 #[.val (.ref a1), .val (.int (0 : Int32)), .val (.int (0 : Int32)), .val (.double (FP.l2d r0)), .second, .unset, .unset] [(.int (3 : Int32)), (.int (1 : Int32)), (.ref a2)])) _
    refine XS.icmpNo X11.here hx rfl (hb hby d8_78) rfl (tlt (by decide : (1 : Int32) < (3 : Int32))).2.1 ?_
    show Steps p.tables e below (T11.setTop (mkF m 81 #[.val (.ref a1), .val (.int (0 : Int32)), .val (.int (0 : Int32)), .val (.double (FP.l2d r0)), .second, .unset, .unset] [(.ref a2)])) _
    refine XS.iloadN X11.here hx rfl (hb hby d8_81) rfl ?_
    show Steps p.tables e below (T11.setTop (mkF m 82 #[.val (.ref a1), .val (.int (0 : Int32)), .val (.int (0 : Int32)), .val (.double (FP.l2d r0)), .second, .unset, .unset] [(.int (0 : Int32)), (.ref a2)])) _
    refine XS.iconst X11.here hx rfl (hb hby d8_82) ?_
    show Steps p.tables e below (T11.setTop (mkF m 83 #[.val (.ref a1), .val (.int (0 : Int32)), .val (.int (0 : Int32)), .val (.double (FP.l2d r0)), .second, .unset, .unset] [(.int (1 : Int32)), (.int (0 : Int32)), (.ref a2)])) _
    refine XS.iadd X11.here hx rfl (hb hby d8_83) rfl ?_
    show Steps p.tables e below (T11.setTop (mkF m 84 #[.val (.ref a1), .val (.int (0 : Int32)), .val (.int (0 : Int32)), .val (.double (FP.l2d r0)), .second, .unset, .unset] [(.int (1 : Int32)), (.ref a2)])) _
    refine XS.goto X11.here hx rfl (pc0 := 84) (pc' := 88) rfl (hb hby d8_84) (by decide) (by decide) ?_
    show Steps p.tables e below (T11.setTop (mkF m 88 #[.val (.ref a1), .val (.int (0 : Int32)), .val (.int (0 : Int32)), .val (.double (FP.l2d r0)), .second, .unset, .unset] [(.int (1 : Int32)), (.ref a2)])) _
    refine X11.laload hx (j := (1 : Int32)) (v := (.long r1)) (by rw [e11]; exact ((((Ar.ext E2).other W3 (ne_a2_a1)).ext E5).other W6 (ne_a2_a1)).1) (State.isArrayOf_alike hZ.alike ((((Ar.ext E2).other W3 (ne_a2_a1)).ext E5).other W6 (ne_a2_a1)).2.1) ((((Ar.ext E2).other W3 (ne_a2_a1)).ext E5).other W6 (ne_a2_a1)).2.2 (inb_of Sz ⟨by decide, by decide⟩) t1 (g := (mkF m 88 #[.val (.ref a1), .val (.int (0 : Int32)), .val (.int (0 : Int32)), .val (.double (FP.l2d r0)), .second, .unset, .unset] [(.int (1 : Int32)), (.ref a2)])) rfl rfl (hb hby d8_88) _ ?_
    show Steps p.tables e below (T11.setTop (mkF m 89 #[.val (.ref a1), .val (.int (0 : Int32)), .val (.int (0 : Int32)), .val (.double (FP.l2d r0)), .second, .unset, .unset] [(.long r1)])) _
    refine XS.l2dS X11.here hx rfl (hb hby d8_89) rfl rfl ?_
    show Steps p.tables e below (T11.setTop (mkF m 90 #[.val (.ref a1), .val (.int (0 : Int32)), .val (.int (0 : Int32)), .val (.double (FP.l2d r0)), .second, .unset, .unset] [(.double (FP.l2d r1))])) _
    refine XS.dstore X11.here hx rfl (hb hby d8_90) rfl (l' := #[.val (.ref a1), .val (.int (0 : Int32)), .val (.int (0 : Int32)), .val (.double (FP.l2d r0)), .second, .val (.double (FP.l2d r1)), .second]) rfl ?_
    show Steps p.tables e below (T11.setTop (mkF m 92 #[.val (.ref a1), .val (.int (0 : Int32)), .val (.int (0 : Int32)), .val (.double (FP.l2d r0)), .second, .val (.double (FP.l2d r1)), .second] [])) _
    refine XS.aloadN X11.here hx rfl (hb hby d8_92) rfl (rfl) ?_
    show Steps p.tables e below (T11.setTop (mkF m 93 #[.val (.ref a1), .val (.int (0 : Int32)), .val (.int (0 : Int32)), .val (.double (FP.l2d r0)), .second, .val (.double (FP.l2d r1)), .second] [(.ref a1)])) _
    refine st12 _ ?_
    show Steps p.tables e below (T12.setTop (mkF m 96 #[.val (.ref a1), .val (.int (0 : Int32)), .val (.int (0 : Int32)), .val (.double (FP.l2d r0)), .second, .val (.double (FP.l2d r1)), .second] [(.ref b2)])) _
    refine XS.iloadN X12.here hx rfl (hb hby d8_96) rfl ?_
    show Steps p.tables e below (T12.setTop (mkF m 97 #[.val (.ref a1), .val (.int (0 : Int32)), .val (.int (0 : Int32)), .val (.double (FP.l2d r0)), .second, .val (.double (FP.l2d r1)), .second] [(.int (0 : Int32)), (.ref b2)])) _
    refine XS.iconst X12.here hx rfl (hb hby d8_97) ?_
    show Steps p.tables e below (T12.setTop (mkF m 98 #[.val (.ref a1), .val (.int (0 : Int32)), .val (.int (0 : Int32)), .val (.double (FP.l2d r0)), .second, .val (.double (FP.l2d r1)), .second] [(.int (1 : Int32)), (.int (0 : Int32)), (.ref b2)])) _
    refine XS.iadd X12.here hx rfl (hb hby d8_98) rfl ?_
    show Steps p.tables e below (T12.setTop (mkF m 99 #[.val (.ref a1), .val (.int (0 : Int32)), .val (.int (0 : Int32)), .val (.double (FP.l2d r0)), .second, .val (.double (FP.l2d r1)), .second] [(.int (1 : Int32)), (.ref b2)])) _
    refine XS.aloadN X12.here hx rfl (hb hby d8_99) rfl (rfl) ?_
    show Steps p.tables e below (T12.setTop (mkF m 100 #[.val (.ref a1), .val (.int (0 : Int32)), .val (.int (0 : Int32)), .val (.double (FP.l2d r0)), .second, .val (.double (FP.l2d r1)), .second] [(.ref a1), (.int (1 : Int32)), (.ref b2)])) _
    refine st13 _ ?_
    show Steps p.tables e below (T13.setTop (mkF m 103 #[.val (.ref a1), .val (.int (0 : Int32)), .val (.int (0 : Int32)), .val (.double (FP.l2d r0)), .second, .val (.double (FP.l2d r1)), .second] [(.ref b2), (.int (1 : Int32)), (.ref b2)])) _
    refine XS.iloadN X13.here hx rfl (hb hby d8_103) rfl ?_
    show Steps p.tables e below (T13.setTop (mkF m 104 #[.val (.ref a1), .val (.int (0 : Int32)), .val (.int (0 : Int32)), .val (.double (FP.l2d r0)), .second, .val (.double (FP.l2d r1)), .second] [(.int (0 : Int32)), (.ref b2), (.int (1 : Int32)), (.ref b2)])) _
    refine X13.daload hx (j := (0 : Int32)) (v := (.double (FP.l2d 0))) (by rw [e13]; exact Ar14.1) (State.isArrayOf_alike hZ.alike Ar14.2.1) Ar14.2.2 (inb_of S14 ⟨by decide, by decide⟩) (H14 0 (by rw [S14]; decide)) (g := (mkF m 104 #[.val (.ref a1), .val (.int (0 : Int32)), .val (.int (0 : Int32)), .val (.double (FP.l2d r0)), .second, .val (.double (FP.l2d r1)), .second] [(.int (0 : Int32)), (.ref b2), (.int (1 : Int32)), (.ref b2)])) rfl rfl (hb hby d8_104) _ ?_
    show Steps p.tables e below (T13.setTop (mkF m 105 #[.val (.ref a1), .val (.int (0 : Int32)), .val (.int (0 : Int32)), .val (.double (FP.l2d r0)), .second, .val (.double (FP.l2d r1)), .second] [(.double (FP.l2d 0)), (.int (1 : Int32)), (.ref b2)])) _
    refine XS.dloadN X13.here hx rfl (hb hby d8_105) rfl ?_
    show Steps p.tables e below (T13.setTop (mkF m 106 #[.val (.ref a1), .val (.int (0 : Int32)), .val (.int (0 : Int32)), .val (.double (FP.l2d r0)), .second, .val (.double (FP.l2d r1)), .second] [(.double (FP.l2d r0)), (.double (FP.l2d 0)), (.int (1 : Int32)), (.ref b2)])) _
    refine XS.daddS X13.here hx rfl (hb hby d8_106) rfl (nn_w Ed15) Ed15 ?_
    show Steps p.tables e below (T13.setTop (mkF m 107 #[.val (.ref a1), .val (.int (0 : Int32)), .val (.int (0 : Int32)), .val (.double (FP.l2d r0)), .second, .val (.double (FP.l2d r1)), .second] [(.double (FP.l2d (0 + r0))), (.int (1 : Int32)), (.ref b2)])) _
    refine XS.dload X13.here hx rfl (hb hby d8_107) rfl ?_
    show Steps p.tables e below (T13.setTop (mkF m 109 #[.val (.ref a1), .val (.int (0 : Int32)), .val (.int (0 : Int32)), .val (.double (FP.l2d r0)), .second, .val (.double (FP.l2d r1)), .second] [(.double (FP.l2d r1)), (.double (FP.l2d (0 + r0))), (.int (1 : Int32)), (.ref b2)])) _
    refine XS.daddS X13.here hx rfl (hb hby d8_109) rfl (nn_w Ed16) Ed16 ?_
    show Steps p.tables e below (T13.setTop (mkF m 110 #[.val (.ref a1), .val (.int (0 : Int32)), .val (.int (0 : Int32)), .val (.double (FP.l2d r0)), .second, .val (.double (FP.l2d r1)), .second] [(.double (FP.l2d ((0 + r0) + r1))), (.int (1 : Int32)), (.ref b2)])) _
    exact k
  obtain ⟨m1, hm1⟩ : ∃ z : Int64, z = ((0 + r0) + r1) := ⟨_, rfl⟩
  rw [← hm1] at pre17 Rd16 Td16
  have z0' : (0 : Int64).toInt = 0 := rfl
  have Tm1 : m1.toInt = 0 + r0.toInt + r1.toInt := by omega
  clear Td15 Td16
  obtain ⟨cl18, Ar18, q18, S18, M18, H18, G18⟩ := id (((V2.other W3 (Ne.symm ne_a1_b2)).ext E5).other W6 (Ne.symm ne_a1_b2))
  have hin18 : ¬ ((1 : Int32) < 0 ∨ cl18.slots.size ≤ ((1 : Int32)).toNatClampNeg) := inb_of S18 ⟨by decide, by decide⟩
  obtain ⟨T19, h19, X19, e19, W19, st19⟩ := stD X13 hx hZ e13 Ar18 (j := (1 : Int32)) hin18 (g := (mkF m 110 #[.val (.ref a1), .val (.int (0 : Int32)), .val (.int (0 : Int32)), .val (.double (FP.l2d r0)), .second, .val (.double (FP.l2d r1)), .second] [(.double (FP.l2d m1)), (.int (1 : Int32)), (.ref b2)])) rfl rfl (hb hby d8_110)
  have V19 : Arv Z h19 b2 k2 .double (7 : Int32) [(.double (FP.l2d 0)), (.double (FP.l2d m1)), (.double (FP.l2d 0)), (.double (FP.l2d 0)), (.double (FP.l2d 0)), (.double (FP.l2d 0)), (.double (FP.l2d 0))] (.double (FP.l2d 0)) := Arv.set Ar18 q18 S18 M18 H18 G18 rfl W19 1 rfl (Nat.le_of_ble_eq_true rfl)
  have K19 : Keep h0 h19 [a1] := K6.wr W19 (Or.inr sz_b2)
  have N19 := Fr.snoc X19 N6 g_b2
  obtain ⟨T20, X20, e20, st20⟩ := getF X19 hx hZ hown (host := "") (Or.inl (hw _ (List.mem_of_getElem? (i := 44) rfl))) Via.refl e19 (Fw6.other W19 (Or.inl ne_a1_b2)) (g := (mkF m 112 #[.val (.ref a1), .val (.int (0 : Int32)), .val (.int (0 : Int32)), .val (.double (FP.l2d r0)), .second, .val (.double (FP.l2d r1)), .second] [(.ref a1)])) rfl rfl (hb hby d8_112)
  obtain ⟨T21, X21, e21, st21⟩ := getF X20 hx hZ hown (host := "") (Or.inl (hw _ (List.mem_of_getElem? (i := 44) rfl))) Via.refl e20 (Fw6.other W19 (Or.inl ne_a1_b2)) (g := (mkF m 119 #[.val (.ref a1), .val (.int (0 : Int32)), .val (.int (0 : Int32)), .val (.double (FP.l2d r0)), .second, .val (.double (FP.l2d r1)), .second] [(.ref a1), (.int (1 : Int32)), (.ref b5)])) rfl rfl (hb hby d8_119)
  obtain ⟨cl22, Ar22, q22, S22, M22, H22, G22⟩ := id ((V5.other W6 (Ne.symm ne_a1_b5)).other W19 (Ne.symm ne_b2_b5))
  have Ed23 : FP.dmul (4613937818241073152 : UInt64) (FP.l2d (0 : Int64)) = FP.l2d (0 : Int64) := by decide +kernel
  have Ed24 : FP.dadd (FP.l2d r0) (FP.l2d r1) = FP.l2d (r0 + r1) := own_dadd hr0 hr1 (by decide)
  obtain ⟨Rd24, Td24⟩ := own_Radd hr0 hr1 (by decide)
  have Ed25 : FP.dmul (FP.l2d (0 : Int64)) (FP.l2d (r0 + r1)) = FP.l2d ((0 : Int64) * (r0 + r1)) := by exact own_dmulc (0 : Int64) 0 rfl (by decide) (by decide) Rd24 (by decide)
  obtain ⟨Rd25, Td25⟩ := own_Rmulc (0 : Int64) 0 rfl (by decide) (by decide) Rd24 (by decide)
  have Ed26 : FP.dadd (FP.l2d 0) (FP.l2d ((0 : Int64) * (r0 + r1))) = FP.l2d (0 + ((0 : Int64) * (r0 + r1))) := own_dadd R00 Rd25 (by decide)
  obtain ⟨Rd26, Td26⟩ := own_Radd R00 Rd25 (by decide)
  have Ed27 : FP.dadd (FP.l2d (0 + ((0 : Int64) * (r0 + r1)))) (FP.l2d r0) = FP.l2d ((0 + ((0 : Int64) * (r0 + r1))) + r0) := own_dadd Rd26 hr0 (by decide)
  obtain ⟨Rd27, Td27⟩ := own_Radd Rd26 hr0 (by decide)
  have Ed28 : FP.dmul (4611686018427387904 : UInt64) (FP.l2d r1) = FP.l2d ((2 : Int64) * r1) := by rw [own_c2]; exact own_dmulc (2 : Int64) 2 rfl (by decide) (by decide) hr1 (by decide)
  obtain ⟨Rd28, Td28⟩ := own_Rmulc (2 : Int64) 2 rfl (by decide) (by decide) hr1 (by decide)
  have Ed29 : FP.dadd (FP.l2d ((0 + ((0 : Int64) * (r0 + r1))) + r0)) (FP.l2d ((2 : Int64) * r1)) = FP.l2d (((0 + ((0 : Int64) * (r0 + r1))) + r0) + ((2 : Int64) * r1)) := own_dadd Rd27 Rd28 (by decide)
  obtain ⟨Rd29, Td29⟩ := own_Radd Rd27 Rd28 (by decide)
  have pre30 : ∀ t, Steps p.tables e below (T21.setTop (mkF m 145 #[.val (.ref a1), .val (.int (0 : Int32)), .val (.int (0 : Int32)), .val (.double (FP.l2d r0)), .second, .val (.double (FP.l2d r1)), .second] [(.double (FP.l2d (((0 + ((0 : Int64) * (r0 + r1))) + r0) + ((2 : Int64) * r1)))), (.int (1 : Int32)), (.ref b5)])) t → Steps p.tables e below (s₁.setTop (entryFrame m #[(.ref a1)] 7)) t := by
    intro t k
    refine pre17 t ?_
    refine st19 _ ?_
    show Steps p.tables e below (T19.setTop (mkF m 111 #[.val (.ref a1), .val (.int (0 : Int32)), .val (.int (0 : Int32)), .val (.double (FP.l2d r0)), .second, .val (.double (FP.l2d r1)), .second] [])) _
    refine XS.aloadN X19.here hx rfl (hb hby d8_111) rfl (rfl) ?_
    show Steps p.tables e below (T19.setTop (mkF m 112 #[.val (.ref a1), .val (.int (0 : Int32)), .val (.int (0 : Int32)), .val (.double (FP.l2d r0)), .second, .val (.double (FP.l2d r1)), .second] [(.ref a1)])) _
    refine st20 _ ?_
    show Steps p.tables e below (T20.setTop (mkF m 115 #[.val (.ref a1), .val (.int (0 : Int32)), .val (.int (0 : Int32)), .val (.double (FP.l2d r0)), .second, .val (.double (FP.l2d r1)), .second] [(.ref b5)])) _
    refine XS.iloadN X20.here hx rfl (hb hby d8_115) rfl ?_
    show Steps p.tables e below (T20.setTop (mkF m 116 #[.val (.ref a1), .val (.int (0 : Int32)), .val (.int (0 : Int32)), .val (.double (FP.l2d r0)), .second, .val (.double (FP.l2d r1)), .second] [(.int (0 : Int32)), (.ref b5)])) _
    refine XS.iconst X20.here hx rfl (hb hby d8_116) ?_
    show Steps p.tables e below (T20.setTop (mkF m 117 #[.val (.ref a1), .val (.int (0 : Int32)), .val (.int (0 : Int32)), .val (.double (FP.l2d r0)), .second, .val (.double (FP.l2d r1)), .second] [(.int (1 : Int32)), (.int (0 : Int32)), (.ref b5)])) _
    refine XS.iadd X20.here hx rfl (hb hby d8_117) rfl ?_
    show Steps p.tables e below (T20.setTop (mkF m 118 #[.val (.ref a1), .val (.int (0 : Int32)), .val (.int (0 : Int32)), .val (.double (FP.l2d r0)), .second, .val (.double (FP.l2d r1)), .second] [(.int (1 : Int32)), (.ref b5)])) _
    refine XS.aloadN X20.here hx rfl (hb hby d8_118) rfl (rfl) ?_
    show Steps p.tables e below (T20.setTop (mkF m 119 #[.val (.ref a1), .val (.int (0 : Int32)), .val (.int (0 : Int32)), .val (.double (FP.l2d r0)), .second, .val (.double (FP.l2d r1)), .second] [(.ref a1), (.int (1 : Int32)), (.ref b5)])) _
    refine st21 _ ?_
    show Steps p.tables e below (T21.setTop (mkF m 122 #[.val (.ref a1), .val (.int (0 : Int32)), .val (.int (0 : Int32)), .val (.double (FP.l2d r0)), .second, .val (.double (FP.l2d r1)), .second] [(.ref b5), (.int (1 : Int32)), (.ref b5)])) _
    refine XS.iloadN X21.here hx rfl (hb hby d8_122) rfl ?_
    show Steps p.tables e below (T21.setTop (mkF m 123 #[.val (.ref a1), .val (.int (0 : Int32)), .val (.int (0 : Int32)), .val (.double (FP.l2d r0)), .second, .val (.double (FP.l2d r1)), .second] [(.int (0 : Int32)), (.ref b5), (.int (1 : Int32)), (.ref b5)])) _
    refine X21.daload hx (j := (0 : Int32)) (v := (.double (FP.l2d 0))) (by rw [e21]; exact Ar22.1) (State.isArrayOf_alike hZ.alike Ar22.2.1) Ar22.2.2 (inb_of S22 ⟨by decide, by decide⟩) (H22 0 (by rw [S22]; decide)) (g := (mkF m 123 #[.val (.ref a1), .val (.int (0 : Int32)), .val (.int (0 : Int32)), .val (.double (FP.l2d r0)), .second, .val (.double (FP.l2d r1)), .second] [(.int (0 : Int32)), (.ref b5), (.int (1 : Int32)), (.ref b5)])) rfl rfl (hb hby d8_123) _ ?_
    show Steps p.tables e below (T21.setTop (mkF m 124 #[.val (.ref a1), .val (.int (0 : Int32)), .val (.int (0 : Int32)), .val (.double (FP.l2d r0)), .second, .val (.double (FP.l2d r1)), .second] [(.double (FP.l2d 0)), (.int (1 : Int32)), (.ref b5)])) _
    refine X21.ldc2DoubleC hx hown (mvT hZ (hw _ (List.mem_of_getElem? (i := 46) rfl))) (g := (mkF m 124 #[.val (.ref a1), .val (.int (0 : Int32)), .val (.int (0 : Int32)), .val (.double (FP.l2d r0)), .second, .val (.double (FP.l2d r1)), .second] [(.double (FP.l2d 0)), (.int (1 : Int32)), (.ref b5)])) rfl (hb hby d8_124) _ ?_
    show Steps p.tables e below (T21.setTop (mkF m 127 #[.val (.ref a1), .val (.int (0 : Int32)), .val (.int (0 : Int32)), .val (.double (FP.l2d r0)), .second, .val (.double (FP.l2d r1)), .second] [(.double (4613937818241073152 : UInt64)), (.double (FP.l2d 0)), (.int (1 : Int32)), (.ref b5)])) _
    refine XS.iloadN X21.here hx rfl (hb hby d8_127) rfl ?_
    show Steps p.tables e below (T21.setTop (mkF m 128 #[.val (.ref a1), .val (.int (0 : Int32)), .val (.int (0 : Int32)), .val (.double (FP.l2d r0)), .second, .val (.double (FP.l2d r1)), .second] [(.int (0 : Int32)), (.double (4613937818241073152 : UInt64)), (.double (FP.l2d 0)), (.int (1 : Int32)), (.ref b5)])) _
    refine XS.i2dS X21.here hx rfl (hb hby d8_128) rfl (i2d_w _ : FP.i2d (0 : Int32) = FP.l2d (0 : Int64)) ?_
    show Steps p.tables e below (T21.setTop (mkF m 129 #[.val (.ref a1), .val (.int (0 : Int32)), .val (.int (0 : Int32)), .val (.double (FP.l2d r0)), .second, .val (.double (FP.l2d r1)), .second] [(.double (FP.l2d (0 : Int64))), (.double (4613937818241073152 : UInt64)), (.double (FP.l2d 0)), (.int (1 : Int32)), (.ref b5)])) _
    refine XS.dmulS X21.here hx rfl (hb hby d8_129) rfl (nn_w Ed23) Ed23 ?_
    show Steps p.tables e below (T21.setTop (mkF m 130 #[.val (.ref a1), .val (.int (0 : Int32)), .val (.int (0 : Int32)), .val (.double (FP.l2d r0)), .second, .val (.double (FP.l2d r1)), .second] [(.double (FP.l2d (0 : Int64))), (.double (FP.l2d 0)), (.int (1 : Int32)), (.ref b5)])) _
    refine XS.dloadN X21.here hx rfl (hb hby d8_130) rfl ?_
    show Steps p.tables e below (T21.setTop (mkF m 131 #[.val (.ref a1), .val (.int (0 : Int32)), .val (.int (0 : Int32)), .val (.double (FP.l2d r0)), .second, .val (.double (FP.l2d r1)), .second] [(.double (FP.l2d r0)), (.double (FP.l2d (0 : Int64))), (.double (FP.l2d 0)), (.int (1 : Int32)), (.ref b5)])) _
    refine XS.dload X21.here hx rfl (hb hby d8_131) rfl ?_
    show Steps p.tables e below (T21.setTop (mkF m 133 #[.val (.ref a1), .val (.int (0 : Int32)), .val (.int (0 : Int32)), .val (.double (FP.l2d r0)), .second, .val (.double (FP.l2d r1)), .second] [(.double (FP.l2d r1)), (.double (FP.l2d r0)), (.double (FP.l2d (0 : Int64))), (.double (FP.l2d 0)), (.int (1 : Int32)), (.ref b5)])) _
    refine XS.daddS X21.here hx rfl (hb hby d8_133) rfl (nn_w Ed24) Ed24 ?_
    show Steps p.tables e below (T21.setTop (mkF m 134 #[.val (.ref a1), .val (.int (0 : Int32)), .val (.int (0 : Int32)), .val (.double (FP.l2d r0)), .second, .val (.double (FP.l2d r1)), .second] [(.double (FP.l2d (r0 + r1))), (.double (FP.l2d (0 : Int64))), (.double (FP.l2d 0)), (.int (1 : Int32)), (.ref b5)])) _
    refine XS.dmulS X21.here hx rfl (hb hby d8_134) rfl (nn_w Ed25) Ed25 ?_
    show Steps p.tables e below (T21.setTop (mkF m 135 #[.val (.ref a1), .val (.int (0 : Int32)), .val (.int (0 : Int32)), .val (.double (FP.l2d r0)), .second, .val (.double (FP.l2d r1)), .second] [(.double (FP.l2d ((0 : Int64) * (r0 + r1)))), (.double (FP.l2d 0)), (.int (1 : Int32)), (.ref b5)])) _
    refine XS.daddS X21.here hx rfl (hb hby d8_135) rfl (nn_w Ed26) Ed26 ?_
    show Steps p.tables e below (T21.setTop (mkF m 136 #[.val (.ref a1), .val (.int (0 : Int32)), .val (.int (0 : Int32)), .val (.double (FP.l2d r0)), .second, .val (.double (FP.l2d r1)), .second] [(.double (FP.l2d (0 + ((0 : Int64) * (r0 + r1))))), (.int (1 : Int32)), (.ref b5)])) _
    refine XS.dloadN X21.here hx rfl (hb hby d8_136) rfl ?_
    show Steps p.tables e below (T21.setTop (mkF m 137 #[.val (.ref a1), .val (.int (0 : Int32)), .val (.int (0 : Int32)), .val (.double (FP.l2d r0)), .second, .val (.double (FP.l2d r1)), .second] [(.double (FP.l2d r0)), (.double (FP.l2d (0 + ((0 : Int64) * (r0 + r1))))), (.int (1 : Int32)), (.ref b5)])) _
    refine XS.daddS X21.here hx rfl (hb hby d8_137) rfl (nn_w Ed27) Ed27 ?_
    show Steps p.tables e below (T21.setTop (mkF m 138 #[.val (.ref a1), .val (.int (0 : Int32)), .val (.int (0 : Int32)), .val (.double (FP.l2d r0)), .second, .val (.double (FP.l2d r1)), .second] [(.double (FP.l2d ((0 + ((0 : Int64) * (r0 + r1))) + r0))), (.int (1 : Int32)), (.ref b5)])) _
    refine X21.ldc2DoubleC hx hown (mvT hZ (hw _ (List.mem_of_getElem? (i := 47) rfl))) (g := (mkF m 138 #[.val (.ref a1), .val (.int (0 : Int32)), .val (.int (0 : Int32)), .val (.double (FP.l2d r0)), .second, .val (.double (FP.l2d r1)), .second] [(.double (FP.l2d ((0 + ((0 : Int64) * (r0 + r1))) + r0))), (.int (1 : Int32)), (.ref b5)])) rfl (hb hby d8_138) _ ?_
    show Steps p.tables e below (T21.setTop (mkF m 141 #[.val (.ref a1), .val (.int (0 : Int32)), .val (.int (0 : Int32)), .val (.double (FP.l2d r0)), .second, .val (.double (FP.l2d r1)), .second] [(.double (4611686018427387904 : UInt64)), (.double (FP.l2d ((0 + ((0 : Int64) * (r0 + r1))) + r0))), (.int (1 : Int32)), (.ref b5)])) _
    refine XS.dload X21.here hx rfl (hb hby d8_141) rfl ?_
    show Steps p.tables e below (T21.setTop (mkF m 143 #[.val (.ref a1), .val (.int (0 : Int32)), .val (.int (0 : Int32)), .val (.double (FP.l2d r0)), .second, .val (.double (FP.l2d r1)), .second] [(.double (FP.l2d r1)), (.double (4611686018427387904 : UInt64)), (.double (FP.l2d ((0 + ((0 : Int64) * (r0 + r1))) + r0))), (.int (1 : Int32)), (.ref b5)])) _
    refine XS.dmulS X21.here hx rfl (hb hby d8_143) rfl (nn_w Ed28) Ed28 ?_
    show Steps p.tables e below (T21.setTop (mkF m 144 #[.val (.ref a1), .val (.int (0 : Int32)), .val (.int (0 : Int32)), .val (.double (FP.l2d r0)), .second, .val (.double (FP.l2d r1)), .second] [(.double (FP.l2d ((2 : Int64) * r1))), (.double (FP.l2d ((0 + ((0 : Int64) * (r0 + r1))) + r0))), (.int (1 : Int32)), (.ref b5)])) _
    refine XS.daddS X21.here hx rfl (hb hby d8_144) rfl (nn_w Ed29) Ed29 ?_
    show Steps p.tables e below (T21.setTop (mkF m 145 #[.val (.ref a1), .val (.int (0 : Int32)), .val (.int (0 : Int32)), .val (.double (FP.l2d r0)), .second, .val (.double (FP.l2d r1)), .second] [(.double (FP.l2d (((0 + ((0 : Int64) * (r0 + r1))) + r0) + ((2 : Int64) * r1)))), (.int (1 : Int32)), (.ref b5)])) _
    exact k
  obtain ⟨w1, hw1⟩ : ∃ z : Int64, z = (((0 + ((0 : Int64) * (r0 + r1))) + r0) + ((2 : Int64) * r1)) := ⟨_, rfl⟩
  rw [← hw1] at pre30 Rd29 Td29
  have z0' : (0 : Int64).toInt = 0 := rfl
  have Tw1 : w1.toInt = 0 + 0 * (r0.toInt + r1.toInt) + r0.toInt + 2 * r1.toInt := by omega
  clear Td24 Td25 Td26 Td27 Td28 Td29
  obtain ⟨cl31, Ar31, q31, S31, M31, H31, G31⟩ := id ((V5.other W6 (Ne.symm ne_a1_b5)).other W19 (Ne.symm ne_b2_b5))
  have hin31 : ¬ ((1 : Int32) < 0 ∨ cl31.slots.size ≤ ((1 : Int32)).toNatClampNeg) := inb_of S31 ⟨by decide, by decide⟩
  obtain ⟨T32, h32, X32, e32, W32, st32⟩ := stD X21 hx hZ e21 Ar31 (j := (1 : Int32)) hin31 (g := (mkF m 145 #[.val (.ref a1), .val (.int (0 : Int32)), .val (.int (0 : Int32)), .val (.double (FP.l2d r0)), .second, .val (.double (FP.l2d r1)), .second] [(.double (FP.l2d w1)), (.int (1 : Int32)), (.ref b5)])) rfl rfl (hb hby d8_145)
  have V32 : Arv Z h32 b5 k5 .double (7 : Int32) [(.double (FP.l2d 0)), (.double (FP.l2d w1)), (.double (FP.l2d 0)), (.double (FP.l2d 0)), (.double (FP.l2d 0)), (.double (FP.l2d 0)), (.double (FP.l2d 0))] (.double (FP.l2d 0)) := Arv.set Ar31 q31 S31 M31 H31 G31 rfl W32 1 rfl (Nat.le_of_ble_eq_true rfl)
  have K32 : Keep h0 h32 [a1] := K19.wr W32 (Or.inr sz_b5)
  have N32 := Fr.snoc X32 N19 g_b5
  obtain ⟨T33, X33, e33, st33⟩ := getF X32 hx hZ hown (host := "") (Or.inl (hw _ (List.mem_of_getElem? (i := 28) rfl))) Via.refl e32 ((((((F0.ext E2).other W3 (Or.inr (slot_ne (Or.inr (hw _ (List.mem_of_getElem? (i := 29) rfl))) (Or.inl (hw _ (List.mem_of_getElem? (i := 38) rfl))) (by decide) (t := .int) (t' := (.array .double)) (by decide) (by decide)))).ext E5).other W6 (Or.inr (slot_ne (Or.inr (hw _ (List.mem_of_getElem? (i := 29) rfl))) (Or.inl (hw _ (List.mem_of_getElem? (i := 45) rfl))) (by decide) (t := .int) (t' := (.array .double)) (by decide) (by decide)))).other W19 (Or.inl ne_a1_b2)).other W32 (Or.inl ne_a1_b5)) (g := (mkF m 33 #[.val (.ref a1), .val (.int (1 : Int32)), .val (.int (0 : Int32)), .val (.double (FP.l2d r0)), .second, .val (.double (FP.l2d r1)), .second] [(.ref a1), (.int (2 : Int32)), (.int (1 : Int32))])) rfl rfl (hb hby d8_33)
  obtain ⟨T34, X34, e34, st34⟩ := getF X33 hx hZ hown (host := "") (Or.inl (hw _ (List.mem_of_getElem? (i := 28) rfl))) Via.refl e33 ((((((F0.ext E2).other W3 (Or.inr (slot_ne (Or.inr (hw _ (List.mem_of_getElem? (i := 29) rfl))) (Or.inl (hw _ (List.mem_of_getElem? (i := 38) rfl))) (by decide) (t := .int) (t' := (.array .double)) (by decide) (by decide)))).ext E5).other W6 (Or.inr (slot_ne (Or.inr (hw _ (List.mem_of_getElem? (i := 29) rfl))) (Or.inl (hw _ (List.mem_of_getElem? (i := 45) rfl))) (by decide) (t := .int) (t' := (.array .double)) (by decide) (by decide)))).other W19 (Or.inl ne_a1_b2)).other W32 (Or.inl ne_a1_b5)) (g := (mkF m 42 #[.val (.ref a1), .val (.int (1 : Int32)), .val (.int (0 : Int32)), .val (.double (FP.l2d r0)), .second, .val (.double (FP.l2d r1)), .second] [(.ref a1), (.int (1 : Int32))])) rfl rfl (hb hby d8_42)
  obtain ⟨T35, X35, e35, st35⟩ := getF X34 hx hZ hown (host := "") (Or.inl (hw _ (List.mem_of_getElem? (i := 30) rfl))) Via.refl e34 ((((((F1.ext E2).other W3 (Or.inr (slot_ne (Or.inr (hw _ (List.mem_of_getElem? (i := 31) rfl))) (Or.inl (hw _ (List.mem_of_getElem? (i := 38) rfl))) (by decide) (t := (.array .long)) (t' := (.array .double)) (by decide) (by decide)))).ext E5).other W6 (Or.inr (slot_ne (Or.inr (hw _ (List.mem_of_getElem? (i := 31) rfl))) (Or.inl (hw _ (List.mem_of_getElem? (i := 45) rfl))) (by decide) (t := (.array .long)) (t' := (.array .double)) (by decide) (by decide)))).other W19 (Or.inl ne_a1_b2)).other W32 (Or.inl ne_a1_b5)) (g := (mkF m 60 #[.val (.ref a1), .val (.int (1 : Int32)), .val (.int (1 : Int32)), .val (.double (FP.l2d r0)), .second, .val (.double (FP.l2d r1)), .second] [(.ref a1)])) rfl rfl (hb hby d8_60)
  obtain ⟨T36, X36, e36, st36⟩ := getF X35 hx hZ hown (host := "") (Or.inl (hw _ (List.mem_of_getElem? (i := 30) rfl))) Via.refl e35 ((((((F1.ext E2).other W3 (Or.inr (slot_ne (Or.inr (hw _ (List.mem_of_getElem? (i := 31) rfl))) (Or.inl (hw _ (List.mem_of_getElem? (i := 38) rfl))) (by decide) (t := (.array .long)) (t' := (.array .double)) (by decide) (by decide)))).ext E5).other W6 (Or.inr (slot_ne (Or.inr (hw _ (List.mem_of_getElem? (i := 31) rfl))) (Or.inl (hw _ (List.mem_of_getElem? (i := 45) rfl))) (by decide) (t := (.array .long)) (t' := (.array .double)) (by decide) (by decide)))).other W19 (Or.inl ne_a1_b2)).other W32 (Or.inl ne_a1_b5)) (g := (mkF m 68 #[.val (.ref a1), .val (.int (1 : Int32)), .val (.int (1 : Int32)), .val (.double (FP.l2d r1)), .second, .val (.double (FP.l2d r1)), .second] [(.ref a1)])) rfl rfl (hb hby d8_68)
  obtain ⟨T37, X37, e37, st37⟩ := getF X36 hx hZ hown (host := "") (Or.inl (hw _ (List.mem_of_getElem? (i := 28) rfl))) Via.refl e36 ((((((F0.ext E2).other W3 (Or.inr (slot_ne (Or.inr (hw _ (List.mem_of_getElem? (i := 29) rfl))) (Or.inl (hw _ (List.mem_of_getElem? (i := 38) rfl))) (by decide) (t := .int) (t' := (.array .double)) (by decide) (by decide)))).ext E5).other W6 (Or.inr (slot_ne (Or.inr (hw _ (List.mem_of_getElem? (i := 29) rfl))) (Or.inl (hw _ (List.mem_of_getElem? (i := 45) rfl))) (by decide) (t := .int) (t' := (.array .double)) (by decide) (by decide)))).other W19 (Or.inl ne_a1_b2)).other W32 (Or.inl ne_a1_b5)) (g := (mkF m 75 #[.val (.ref a1), .val (.int (1 : Int32)), .val (.int (1 : Int32)), .val (.double (FP.l2d r1)), .second, .val (.double (FP.l2d r1)), .second] [(.ref a1), (.int (2 : Int32)), (.ref a2)])) rfl rfl (hb hby d8_75)
  obtain ⟨T38, X38, e38, st38⟩ := getF X37 hx hZ hown (host := "") (Or.inl (hw _ (List.mem_of_getElem? (i := 37) rfl))) Via.refl e37 ((((Fw3.ext E5).other W6 (Or.inr (slot_ne (Or.inl (hw _ (List.mem_of_getElem? (i := 38) rfl))) (Or.inl (hw _ (List.mem_of_getElem? (i := 45) rfl))) (by decide) (t := (.array .double)) (t' := (.array .double)) (by decide) (by decide)))).other W19 (Or.inl ne_a1_b2)).other W32 (Or.inl ne_a1_b5)) (g := (mkF m 93 #[.val (.ref a1), .val (.int (1 : Int32)), .val (.int (1 : Int32)), .val (.double (FP.l2d r1)), .second, .val (.double (FP.l2d r2)), .second] [(.ref a1)])) rfl rfl (hb hby d8_93)
  obtain ⟨T39, X39, e39, st39⟩ := getF X38 hx hZ hown (host := "") (Or.inl (hw _ (List.mem_of_getElem? (i := 37) rfl))) Via.refl e38 ((((Fw3.ext E5).other W6 (Or.inr (slot_ne (Or.inl (hw _ (List.mem_of_getElem? (i := 38) rfl))) (Or.inl (hw _ (List.mem_of_getElem? (i := 45) rfl))) (by decide) (t := (.array .double)) (t' := (.array .double)) (by decide) (by decide)))).other W19 (Or.inl ne_a1_b2)).other W32 (Or.inl ne_a1_b5)) (g := (mkF m 100 #[.val (.ref a1), .val (.int (1 : Int32)), .val (.int (1 : Int32)), .val (.double (FP.l2d r1)), .second, .val (.double (FP.l2d r2)), .second] [(.ref a1), (.int (2 : Int32)), (.ref b2)])) rfl rfl (hb hby d8_100)
  obtain ⟨cl40, Ar40, q40, S40, M40, H40, G40⟩ := id (V19.other W32 ne_b2_b5)
  have Ed41 : FP.dadd (FP.l2d m1) (FP.l2d r1) = FP.l2d (m1 + r1) := own_dadd Rd16 hr1 (by decide)
  obtain ⟨Rd41, Td41⟩ := own_Radd Rd16 hr1 (by decide)
  have Ed42 : FP.dadd (FP.l2d (m1 + r1)) (FP.l2d r2) = FP.l2d ((m1 + r1) + r2) := own_dadd Rd41 hr2 (by decide)
  obtain ⟨Rd42, Td42⟩ := own_Radd Rd41 hr2 (by decide)
  have pre43 : ∀ t, Steps p.tables e below (T39.setTop (mkF m 110 #[.val (.ref a1), .val (.int (1 : Int32)), .val (.int (1 : Int32)), .val (.double (FP.l2d r1)), .second, .val (.double (FP.l2d r2)), .second] [(.double (FP.l2d ((m1 + r1) + r2))), (.int (2 : Int32)), (.ref b2)])) t → Steps p.tables e below (s₁.setTop (entryFrame m #[(.ref a1)] 7)) t := by
    intro t k
    refine pre30 t ?_
    refine st32 _ ?_
    show Steps p.tables e below (T32.setTop (mkF m 146 #[.val (.ref a1), .val (.int (0 : Int32)), .val (.int (0 : Int32)), .val (.double (FP.l2d r0)), .second, .val (.double (FP.l2d r1)), .second] [])) _
    refine XS.iinc X32.here hx rfl (hb hby d8_146) rfl (l' := #[.val (.ref a1), .val (.int (1 : Int32)), .val (.int (0 : Int32)), .val (.double (FP.l2d r0)), .second, .val (.double (FP.l2d r1)), .second]) rfl ?_
    show Steps p.tables e below (T32.setTop (mkF m 149 #[.val (.ref a1), .val (.int (1 : Int32)), .val (.int (0 : Int32)), .val (.double (FP.l2d r0)), .second, .val (.double (FP.l2d r1)), .second] [])) _
    refine XS.goto X32.here hx rfl (pc0 := 149) (pc' := 30) rfl (hb hby d8_149) (by decide) (by decide) ?_
    show Steps p.tables e below (T32.setTop (mkF m 30 #[.val (.ref a1), .val (.int (1 : Int32)), .val (.int (0 : Int32)), .val (.double (FP.l2d r0)), .second, .val (.double (FP.l2d r1)), .second] [])) _
    refine XS.iloadN X32.here hx rfl (hb hby d8_30) rfl ?_
    show Steps p.tables e below (T32.setTop (mkF m 31 #[.val (.ref a1), .val (.int (1 : Int32)), .val (.int (0 : Int32)), .val (.double (FP.l2d r0)), .second, .val (.double (FP.l2d r1)), .second] [(.int (1 : Int32))])) _
    refine XS.iconst X32.here hx rfl (hb hby d8_31) ?_
    show Steps p.tables e below (T32.setTop (mkF m 32 #[.val (.ref a1), .val (.int (1 : Int32)), .val (.int (0 : Int32)), .val (.double (FP.l2d r0)), .second, .val (.double (FP.l2d r1)), .second] [(.int (2 : Int32)), (.int (1 : Int32))])) _
    refine XS.aloadN X32.here hx rfl (hb hby d8_32) rfl (rfl) ?_
    show Steps p.tables e below (T32.setTop (mkF m 33 #[.val (.ref a1), .val (.int (1 : Int32)), .val (.int (0 : Int32)), .val (.double (FP.l2d r0)), .second, .val (.double (FP.l2d r1)), .second] [(.ref a1), (.int (2 : Int32)), (.int (1 : Int32))])) _
    refine st33 _ ?_
    show Steps p.tables e below (T33.setTop (mkF m 36 #[.val (.ref a1), .val (.int (1 : Int32)), .val (.int (0 : Int32)), .val (.double (FP.l2d r0)), .second, .val (.double (FP.l2d r1)), .second] [(.int (3 : Int32)), (.int (2 : Int32)), (.int (1 : Int32))])) _
    refine XS.imul X33.here hx rfl (hb hby d8_36) rfl ?_
    show Steps p.tables e below (T33.setTop (mkF m 37 #[.val (.ref a1), .val (.int (1 : Int32)), .val (.int (0 : Int32)), .val (.double (FP.l2d r0)), .second, .val (.double (FP.l2d r1)), .second] [(.int (6 : Int32)), (.int (1 : Int32))])) _
    refine XS.icmpNo X33.here hx rfl (hb hby d8_37) rfl (tlt (by decide : (1 : Int32) < (6 : Int32))).2.1 ?_
    show Steps p.tables e below (T33.setTop (mkF m 40 #[.val (.ref a1), .val (.int (1 : Int32)), .val (.int (0 : Int32)), .val (.double (FP.l2d r0)), .second, .val (.double (FP.l2d r1)), .second] [])) _
    refine XS.iloadN X33.here hx rfl (hb hby d8_40) rfl ?_
    show Steps p.tables e below (T33.setTop (mkF m 41 #[.val (.ref a1), .val (.int (1 : Int32)), .val (.int (0 : Int32)), .val (.double (FP.l2d r0)), .second, .val (.double (FP.l2d r1)), .second] [(.int (1 : Int32))])) _
    refine XS.aloadN X33.here hx rfl (hb hby d8_41) rfl (rfl) ?_
    show Steps p.tables e below (T33.setTop (mkF m 42 #[.val (.ref a1), .val (.int (1 : Int32)), .val (.int (0 : Int32)), .val (.double (FP.l2d r0)), .second, .val (.double (FP.l2d r1)), .second] [(.ref a1), (.int (1 : Int32))])) _
    refine st34 _ ?_
    show Steps p.tables e below (T34.setTop (mkF m 45 #[.val (.ref a1), .val (.int (1 : Int32)), .val (.int (0 : Int32)), .val (.double (FP.l2d r0)), .second, .val (.double (FP.l2d r1)), .second] [(.int (3 : Int32)), (.int (1 : Int32))])) _
    refine XS.icmpNo X34.here hx rfl (hb hby d8_45) rfl (tlt (by decide : (1 : Int32) < (3 : Int32))).2.1 ?_
    show Steps p.tables e below (T34.setTop (mkF m 48 #[.val (.ref a1), .val (.int (1 : Int32)), .val (.int (0 : Int32)), .val (.double (FP.l2d r0)), .second, .val (.double (FP.l2d r1)), .second] [])) _
    refine XS.iloadN X34.here hx rfl (hb hby d8_48) rfl ?_
    show Steps p.tables e below (T34.setTop (mkF m 49 #[.val (.ref a1), .val (.int (1 : Int32)), .val (.int (0 : Int32)), .val (.double (FP.l2d r0)), .second, .val (.double (FP.l2d r1)), .second] [(.int (1 : Int32))])) _
    refine XS.goto X34.here hx rfl (pc0 := 49) (pc' := 58) rfl (hb hby d8_49) (by decide) (by decide) ?_
    show Steps p.tables e below (T34.setTop (mkF m 58 #[.val (.ref a1), .val (.int (1 : Int32)), .val (.int (0 : Int32)), .val (.double (FP.l2d r0)), .second, .val (.double (FP.l2d r1)), .second] [(.int (1 : Int32))])) _
    refine XS.istoreN X34.here hx rfl (hb hby d8_58) rfl (l' := #[.val (.ref a1), .val (.int (1 : Int32)), .val (.int (1 : Int32)), .val (.double (FP.l2d r0)), .second, .val (.double (FP.l2d r1)), .second]) rfl ?_
    show Steps p.tables e below (T34.setTop (mkF m 59 #[.val (.ref a1), .val (.int (1 : Int32)), .val (.int (1 : Int32)), .val (.double (FP.l2d r0)), .second, .val (.double (FP.l2d r1)), .second] [])) _
    refine XS.aloadN X34.here hx rfl (hb hby d8_59) rfl (rfl) ?_
    show Steps p.tables e below (T34.setTop (mkF m 60 #[.val (.ref a1), .val (.int (1 : Int32)), .val (.int (1 : Int32)), .val (.double (FP.l2d r0)), .second, .val (.double (FP.l2d r1)), .second] [(.ref a1)])) _
    refine st35 _ ?_
    show Steps p.tables e below (T35.setTop (mkF m 63 #[.val (.ref a1), .val (.int (1 : Int32)), .val (.int (1 : Int32)), .val (.double (FP.l2d r0)), .second, .val (.double (FP.l2d r1)), .second] [(.ref a2)])) _
    refine XS.iloadN X35.here hx rfl (hb hby d8_63) rfl ?_
    show Steps p.tables e below (T35.setTop (mkF m 64 #[.val (.ref a1), .val (.int (1 : Int32)), .val (.int (1 : Int32)), .val (.double (FP.l2d r0)), .second, .val (.double (FP.l2d r1)), .second] [(.int (1 : Int32)), (.ref a2)])) _
    refine X35.laload hx (j := (1 : Int32)) (v := (.long r1)) (by rw [e35]; exact ((((((Ar.ext E2).other W3 (ne_a2_a1)).ext E5).other W6 (ne_a2_a1)).other W19 ne_a2_b2).other W32 ne_a2_b5).1) (State.isArrayOf_alike hZ.alike ((((((Ar.ext E2).other W3 (ne_a2_a1)).ext E5).other W6 (ne_a2_a1)).other W19 ne_a2_b2).other W32 ne_a2_b5).2.1) ((((((Ar.ext E2).other W3 (ne_a2_a1)).ext E5).other W6 (ne_a2_a1)).other W19 ne_a2_b2).other W32 ne_a2_b5).2.2 (inb_of Sz ⟨by decide, by decide⟩) t1 (g := (mkF m 64 #[.val (.ref a1), .val (.int (1 : Int32)), .val (.int (1 : Int32)), .val (.double (FP.l2d r0)), .second, .val (.double (FP.l2d r1)), .second] [(.int (1 : Int32)), (.ref a2)])) rfl rfl (hb hby d8_64) _ ?_
    show Steps p.tables e below (T35.setTop (mkF m 65 #[.val (.ref a1), .val (.int (1 : Int32)), .val (.int (1 : Int32)), .val (.double (FP.l2d r0)), .second, .val (.double (FP.l2d r1)), .second] [(.long r1)])) _
    refine XS.l2dS X35.here hx rfl (hb hby d8_65) rfl rfl ?_
    show Steps p.tables e below (T35.setTop (mkF m 66 #[.val (.ref a1), .val (.int (1 : Int32)), .val (.int (1 : Int32)), .val (.double (FP.l2d r0)), .second, .val (.double (FP.l2d r1)), .second] [(.double (FP.l2d r1))])) _
    refine XS.dstoreN X35.here hx rfl (hb hby d8_66) rfl (l' := #[.val (.ref a1), .val (.int (1 : Int32)), .val (.int (1 : Int32)), .val (.double (FP.l2d r1)), .second, .val (.double (FP.l2d r1)), .second]) rfl ?_
    show Steps p.tables e below (T35.setTop (mkF m 67 #[.val (.ref a1), .val (.int (1 : Int32)), .val (.int (1 : Int32)), .val (.double (FP.l2d r1)), .second, .val (.double (FP.l2d r1)), .second] [])) _
    refine XS.aloadN X35.here hx rfl (hb hby d8_67) rfl (rfl) ?_
    show Steps p.tables e below (T35.setTop (mkF m 68 #[.val (.ref a1), .val (.int (1 : Int32)), .val (.int (1 : Int32)), .val (.double (FP.l2d r1)), .second, .val (.double (FP.l2d r1)), .second] [(.ref a1)])) _
    refine st36 _ ?_
    show Steps p.tables e below (T36.setTop (mkF m 71 #[.val (.ref a1), .val (.int (1 : Int32)), .val (.int (1 : Int32)), .val (.double (FP.l2d r1)), .second, .val (.double (FP.l2d r1)), .second] [(.ref a2)])) _
    refine XS.iloadN X36.here hx rfl (hb hby d8_71) rfl ?_
    show Steps p.tables e below (T36.setTop (mkF m 72 #[.val (.ref a1), .val (.int (1 : Int32)), .val (.int (1 : Int32)), .val (.double (FP.l2d r1)), .second, .val (.double (FP.l2d r1)), .second] [(.int (1 : Int32)), (.ref a2)])) _
    refine XS.iconst X36.here hx rfl (hb hby d8_72) ?_
    show Steps p.tables e below (T36.setTop (mkF m 73 #[.val (.ref a1), .val (.int (1 : Int32)), .val (.int (1 : Int32)), .val (.double (FP.l2d r1)), .second, .val (.double (FP.l2d r1)), .second] [(.int (1 : Int32)), (.int (1 : Int32)), (.ref a2)])) _
    refine XS.iadd X36.here hx rfl (hb hby d8_73) rfl ?_
    show Steps p.tables e below (T36.setTop (mkF m 74 #[.val (.ref a1), .val (.int (1 : Int32)), .val (.int (1 : Int32)), .val (.double (FP.l2d r1)), .second, .val (.double (FP.l2d r1)), .second] [(.int (2 : Int32)), (.ref a2)])) _
    refine XS.aloadN X36.here hx rfl (hb hby d8_74) rfl (rfl) ?_
    show Steps p.tables e below (T36.setTop (mkF m 75 #[.val (.ref a1), .val (.int (1 : Int32)), .val (.int (1 : Int32)), .val (.double (FP.l2d r1)), .second, .val (.double (FP.l2d r1)), .second] [(.ref a1), (.int (2 : Int32)), (.ref a2)])) _
    refine st37 _ ?_
    show Steps p.tables e below (T37.setTop (mkF m 78 #[.val (.ref a1), .val (.int (1 : Int32)), .val (.int (1 : Int32)), .val (.double (FP.l2d r1)), .second, .val (.double (FP.l2d r1)), .second] [(.int (3 : Int32)), (.int (2 : Int32)), (.ref a2)])) _
    refine XS.icmpNo X37.here hx rfl (hb hby d8_78) rfl (tlt (by decide : (2 : Int32) < (3 : Int32))).2.1 ?_
    show Steps p.tables e below (T37.setTop (mkF m 81 #[.val (.ref a1), .val (.int (1 : Int32)), .val (.int (1 : Int32)), .val (.double (FP.l2d r1)), .second, .val (.double (FP.l2d r1)), .second] [(.ref a2)])) _
    refine XS.iloadN X37.here hx rfl (hb hby d8_81) rfl ?_
    show Steps p.tables e below (T37.setTop (mkF m 82 #[.val (.ref a1), .val (.int (1 : Int32)), .val (.int (1 : Int32)), .val (.double (FP.l2d r1)), .second, .val (.double (FP.l2d r1)), .second] [(.int (1 : Int32)), (.ref a2)])) _
    refine XS.iconst X37.here hx rfl (hb hby d8_82) ?_
    show Steps p.tables e below (T37.setTop (mkF m 83 #[.val (.ref a1), .val (.int (1 : Int32)), .val (.int (1 : Int32)), .val (.double (FP.l2d r1)), .second, .val (.double (FP.l2d r1)), .second] [(.int (1 : Int32)), (.int (1 : Int32)), (.ref a2)])) _
    refine XS.iadd X37.here hx rfl (hb hby d8_83) rfl ?_
    show Steps p.tables e below (T37.setTop (mkF m 84 #[.val (.ref a1), .val (.int (1 : Int32)), .val (.int (1 : Int32)), .val (.double (FP.l2d r1)), .second, .val (.double (FP.l2d r1)), .second] [(.int (2 : Int32)), (.ref a2)])) _
    refine XS.goto X37.here hx rfl (pc0 := 84) (pc' := 88) rfl (hb hby d8_84) (by decide) (by decide) ?_
    show Steps p.tables e below (T37.setTop (mkF m 88 #[.val (.ref a1), .val (.int (1 : Int32)), .val (.int (1 : Int32)), .val (.double (FP.l2d r1)), .second, .val (.double (FP.l2d r1)), .second] [(.int (2 : Int32)), (.ref a2)])) _
    refine X37.laload hx (j := (2 : Int32)) (v := (.long r2)) (by rw [e37]; exact ((((((Ar.ext E2).other W3 (ne_a2_a1)).ext E5).other W6 (ne_a2_a1)).other W19 ne_a2_b2).other W32 ne_a2_b5).1) (State.isArrayOf_alike hZ.alike ((((((Ar.ext E2).other W3 (ne_a2_a1)).ext E5).other W6 (ne_a2_a1)).other W19 ne_a2_b2).other W32 ne_a2_b5).2.1) ((((((Ar.ext E2).other W3 (ne_a2_a1)).ext E5).other W6 (ne_a2_a1)).other W19 ne_a2_b2).other W32 ne_a2_b5).2.2 (inb_of Sz ⟨by decide, by decide⟩) t2 (g := (mkF m 88 #[.val (.ref a1), .val (.int (1 : Int32)), .val (.int (1 : Int32)), .val (.double (FP.l2d r1)), .second, .val (.double (FP.l2d r1)), .second] [(.int (2 : Int32)), (.ref a2)])) rfl rfl (hb hby d8_88) _ ?_
    show Steps p.tables e below (T37.setTop (mkF m 89 #[.val (.ref a1), .val (.int (1 : Int32)), .val (.int (1 : Int32)), .val (.double (FP.l2d r1)), .second, .val (.double (FP.l2d r1)), .second] [(.long r2)])) _
    refine XS.l2dS X37.here hx rfl (hb hby d8_89) rfl rfl ?_
    show Steps p.tables e below (T37.setTop (mkF m 90 #[.val (.ref a1), .val (.int (1 : Int32)), .val (.int (1 : Int32)), .val (.double (FP.l2d r1)), .second, .val (.double (FP.l2d r1)), .second] [(.double (FP.l2d r2))])) _
    refine XS.dstore X37.here hx rfl (hb hby d8_90) rfl (l' := #[.val (.ref a1), .val (.int (1 : Int32)), .val (.int (1 : Int32)), .val (.double (FP.l2d r1)), .second, .val (.double (FP.l2d r2)), .second]) rfl ?_
    show Steps p.tables e below (T37.setTop (mkF m 92 #[.val (.ref a1), .val (.int (1 : Int32)), .val (.int (1 : Int32)), .val (.double (FP.l2d r1)), .second, .val (.double (FP.l2d r2)), .second] [])) _
    refine XS.aloadN X37.here hx rfl (hb hby d8_92) rfl (rfl) ?_
    show Steps p.tables e below (T37.setTop (mkF m 93 #[.val (.ref a1), .val (.int (1 : Int32)), .val (.int (1 : Int32)), .val (.double (FP.l2d r1)), .second, .val (.double (FP.l2d r2)), .second] [(.ref a1)])) _
    refine st38 _ ?_
    show Steps p.tables e below (T38.setTop (mkF m 96 #[.val (.ref a1), .val (.int (1 : Int32)), .val (.int (1 : Int32)), .val (.double (FP.l2d r1)), .second, .val (.double (FP.l2d r2)), .second] [(.ref b2)])) _
    refine XS.iloadN X38.here hx rfl (hb hby d8_96) rfl ?_
    show Steps p.tables e below (T38.setTop (mkF m 97 #[.val (.ref a1), .val (.int (1 : Int32)), .val (.int (1 : Int32)), .val (.double (FP.l2d r1)), .second, .val (.double (FP.l2d r2)), .second] [(.int (1 : Int32)), (.ref b2)])) _
    refine XS.iconst X38.here hx rfl (hb hby d8_97) ?_
    show Steps p.tables e below (T38.setTop (mkF m 98 #[.val (.ref a1), .val (.int (1 : Int32)), .val (.int (1 : Int32)), .val (.double (FP.l2d r1)), .second, .val (.double (FP.l2d r2)), .second] [(.int (1 : Int32)), (.int (1 : Int32)), (.ref b2)])) _
    refine XS.iadd X38.here hx rfl (hb hby d8_98) rfl ?_
    show Steps p.tables e below (T38.setTop (mkF m 99 #[.val (.ref a1), .val (.int (1 : Int32)), .val (.int (1 : Int32)), .val (.double (FP.l2d r1)), .second, .val (.double (FP.l2d r2)), .second] [(.int (2 : Int32)), (.ref b2)])) _
    refine XS.aloadN X38.here hx rfl (hb hby d8_99) rfl (rfl) ?_
    show Steps p.tables e below (T38.setTop (mkF m 100 #[.val (.ref a1), .val (.int (1 : Int32)), .val (.int (1 : Int32)), .val (.double (FP.l2d r1)), .second, .val (.double (FP.l2d r2)), .second] [(.ref a1), (.int (2 : Int32)), (.ref b2)])) _
    refine st39 _ ?_
    show Steps p.tables e below (T39.setTop (mkF m 103 #[.val (.ref a1), .val (.int (1 : Int32)), .val (.int (1 : Int32)), .val (.double (FP.l2d r1)), .second, .val (.double (FP.l2d r2)), .second] [(.ref b2), (.int (2 : Int32)), (.ref b2)])) _
    refine XS.iloadN X39.here hx rfl (hb hby d8_103) rfl ?_
    show Steps p.tables e below (T39.setTop (mkF m 104 #[.val (.ref a1), .val (.int (1 : Int32)), .val (.int (1 : Int32)), .val (.double (FP.l2d r1)), .second, .val (.double (FP.l2d r2)), .second] [(.int (1 : Int32)), (.ref b2), (.int (2 : Int32)), (.ref b2)])) _
    refine X39.daload hx (j := (1 : Int32)) (v := (.double (FP.l2d m1))) (by rw [e39]; exact Ar40.1) (State.isArrayOf_alike hZ.alike Ar40.2.1) Ar40.2.2 (inb_of S40 ⟨by decide, by decide⟩) (H40 1 (by rw [S40]; decide)) (g := (mkF m 104 #[.val (.ref a1), .val (.int (1 : Int32)), .val (.int (1 : Int32)), .val (.double (FP.l2d r1)), .second, .val (.double (FP.l2d r2)), .second] [(.int (1 : Int32)), (.ref b2), (.int (2 : Int32)), (.ref b2)])) rfl rfl (hb hby d8_104) _ ?_
    show Steps p.tables e below (T39.setTop (mkF m 105 #[.val (.ref a1), .val (.int (1 : Int32)), .val (.int (1 : Int32)), .val (.double (FP.l2d r1)), .second, .val (.double (FP.l2d r2)), .second] [(.double (FP.l2d m1)), (.int (2 : Int32)), (.ref b2)])) _
    refine XS.dloadN X39.here hx rfl (hb hby d8_105) rfl ?_
    show Steps p.tables e below (T39.setTop (mkF m 106 #[.val (.ref a1), .val (.int (1 : Int32)), .val (.int (1 : Int32)), .val (.double (FP.l2d r1)), .second, .val (.double (FP.l2d r2)), .second] [(.double (FP.l2d r1)), (.double (FP.l2d m1)), (.int (2 : Int32)), (.ref b2)])) _
    refine XS.daddS X39.here hx rfl (hb hby d8_106) rfl (nn_w Ed41) Ed41 ?_
    show Steps p.tables e below (T39.setTop (mkF m 107 #[.val (.ref a1), .val (.int (1 : Int32)), .val (.int (1 : Int32)), .val (.double (FP.l2d r1)), .second, .val (.double (FP.l2d r2)), .second] [(.double (FP.l2d (m1 + r1))), (.int (2 : Int32)), (.ref b2)])) _
    refine XS.dload X39.here hx rfl (hb hby d8_107) rfl ?_
    show Steps p.tables e below (T39.setTop (mkF m 109 #[.val (.ref a1), .val (.int (1 : Int32)), .val (.int (1 : Int32)), .val (.double (FP.l2d r1)), .second, .val (.double (FP.l2d r2)), .second] [(.double (FP.l2d r2)), (.double (FP.l2d (m1 + r1))), (.int (2 : Int32)), (.ref b2)])) _
    refine XS.daddS X39.here hx rfl (hb hby d8_109) rfl (nn_w Ed42) Ed42 ?_
    show Steps p.tables e below (T39.setTop (mkF m 110 #[.val (.ref a1), .val (.int (1 : Int32)), .val (.int (1 : Int32)), .val (.double (FP.l2d r1)), .second, .val (.double (FP.l2d r2)), .second] [(.double (FP.l2d ((m1 + r1) + r2))), (.int (2 : Int32)), (.ref b2)])) _
    exact k
  obtain ⟨m2, hm2⟩ : ∃ z : Int64, z = ((m1 + r1) + r2) := ⟨_, rfl⟩
  rw [← hm2] at pre43 Rd42 Td42
  have z0' : (0 : Int64).toInt = 0 := rfl
  have Tm2 : m2.toInt = m1.toInt + r1.toInt + r2.toInt := by omega
  clear Td41 Td42
  obtain ⟨cl44, Ar44, q44, S44, M44, H44, G44⟩ := id (V19.other W32 ne_b2_b5)
  have hin44 : ¬ ((2 : Int32) < 0 ∨ cl44.slots.size ≤ ((2 : Int32)).toNatClampNeg) := inb_of S44 ⟨by decide, by decide⟩
  obtain ⟨T45, h45, X45, e45, W45, st45⟩ := stD X39 hx hZ e39 Ar44 (j := (2 : Int32)) hin44 (g := (mkF m 110 #[.val (.ref a1), .val (.int (1 : Int32)), .val (.int (1 : Int32)), .val (.double (FP.l2d r1)), .second, .val (.double (FP.l2d r2)), .second] [(.double (FP.l2d m2)), (.int (2 : Int32)), (.ref b2)])) rfl rfl (hb hby d8_110)
  have V45 : Arv Z h45 b2 k2 .double (7 : Int32) [(.double (FP.l2d 0)), (.double (FP.l2d m1)), (.double (FP.l2d m2)), (.double (FP.l2d 0)), (.double (FP.l2d 0)), (.double (FP.l2d 0)), (.double (FP.l2d 0))] (.double (FP.l2d 0)) := Arv.set Ar44 q44 S44 M44 H44 G44 rfl W45 2 rfl (Nat.le_of_ble_eq_true rfl)
  have K45 : Keep h0 h45 [a1] := K32.wr W45 (Or.inr sz_b2)
  have N45 := Fr.snoc X45 N32 g_b2
  obtain ⟨T46, X46, e46, st46⟩ := getF X45 hx hZ hown (host := "") (Or.inl (hw _ (List.mem_of_getElem? (i := 44) rfl))) Via.refl e45 (((Fw6.other W19 (Or.inl ne_a1_b2)).other W32 (Or.inl ne_a1_b5)).other W45 (Or.inl ne_a1_b2)) (g := (mkF m 112 #[.val (.ref a1), .val (.int (1 : Int32)), .val (.int (1 : Int32)), .val (.double (FP.l2d r1)), .second, .val (.double (FP.l2d r2)), .second] [(.ref a1)])) rfl rfl (hb hby d8_112)
  obtain ⟨T47, X47, e47, st47⟩ := getF X46 hx hZ hown (host := "") (Or.inl (hw _ (List.mem_of_getElem? (i := 44) rfl))) Via.refl e46 (((Fw6.other W19 (Or.inl ne_a1_b2)).other W32 (Or.inl ne_a1_b5)).other W45 (Or.inl ne_a1_b2)) (g := (mkF m 119 #[.val (.ref a1), .val (.int (1 : Int32)), .val (.int (1 : Int32)), .val (.double (FP.l2d r1)), .second, .val (.double (FP.l2d r2)), .second] [(.ref a1), (.int (2 : Int32)), (.ref b5)])) rfl rfl (hb hby d8_119)
  obtain ⟨cl48, Ar48, q48, S48, M48, H48, G48⟩ := id (V32.other W45 (Ne.symm ne_b2_b5))
  have Ed49 : FP.dmul (4613937818241073152 : UInt64) (FP.l2d (1 : Int64)) = FP.l2d (3 : Int64) := by decide +kernel
  have Ed50 : FP.dadd (FP.l2d r1) (FP.l2d r2) = FP.l2d (r1 + r2) := own_dadd hr1 hr2 (by decide)
  obtain ⟨Rd50, Td50⟩ := own_Radd hr1 hr2 (by decide)
  have Ed51 : FP.dmul (FP.l2d (3 : Int64)) (FP.l2d (r1 + r2)) = FP.l2d ((3 : Int64) * (r1 + r2)) := by exact own_dmulc (3 : Int64) 3 rfl (by decide) (by decide) Rd50 (by decide)
  obtain ⟨Rd51, Td51⟩ := own_Rmulc (3 : Int64) 3 rfl (by decide) (by decide) Rd50 (by decide)
  have Ed52 : FP.dadd (FP.l2d w1) (FP.l2d ((3 : Int64) * (r1 + r2))) = FP.l2d (w1 + ((3 : Int64) * (r1 + r2))) := own_dadd Rd29 Rd51 (by decide)
  obtain ⟨Rd52, Td52⟩ := own_Radd Rd29 Rd51 (by decide)
  have Ed53 : FP.dadd (FP.l2d (w1 + ((3 : Int64) * (r1 + r2)))) (FP.l2d r1) = FP.l2d ((w1 + ((3 : Int64) * (r1 + r2))) + r1) := own_dadd Rd52 hr1 (by decide)
  obtain ⟨Rd53, Td53⟩ := own_Radd Rd52 hr1 (by decide)
  have Ed54 : FP.dmul (4611686018427387904 : UInt64) (FP.l2d r2) = FP.l2d ((2 : Int64) * r2) := by rw [own_c2]; exact own_dmulc (2 : Int64) 2 rfl (by decide) (by decide) hr2 (by decide)
  obtain ⟨Rd54, Td54⟩ := own_Rmulc (2 : Int64) 2 rfl (by decide) (by decide) hr2 (by decide)
  have Ed55 : FP.dadd (FP.l2d ((w1 + ((3 : Int64) * (r1 + r2))) + r1)) (FP.l2d ((2 : Int64) * r2)) = FP.l2d (((w1 + ((3 : Int64) * (r1 + r2))) + r1) + ((2 : Int64) * r2)) := own_dadd Rd53 Rd54 (by decide)
  obtain ⟨Rd55, Td55⟩ := own_Radd Rd53 Rd54 (by decide)
  have pre56 : ∀ t, Steps p.tables e below (T47.setTop (mkF m 145 #[.val (.ref a1), .val (.int (1 : Int32)), .val (.int (1 : Int32)), .val (.double (FP.l2d r1)), .second, .val (.double (FP.l2d r2)), .second] [(.double (FP.l2d (((w1 + ((3 : Int64) * (r1 + r2))) + r1) + ((2 : Int64) * r2)))), (.int (2 : Int32)), (.ref b5)])) t → Steps p.tables e below (s₁.setTop (entryFrame m #[(.ref a1)] 7)) t := by
    intro t k
    refine pre43 t ?_
    refine st45 _ ?_
    show Steps p.tables e below (T45.setTop (mkF m 111 #[.val (.ref a1), .val (.int (1 : Int32)), .val (.int (1 : Int32)), .val (.double (FP.l2d r1)), .second, .val (.double (FP.l2d r2)), .second] [])) _
    refine XS.aloadN X45.here hx rfl (hb hby d8_111) rfl (rfl) ?_
    show Steps p.tables e below (T45.setTop (mkF m 112 #[.val (.ref a1), .val (.int (1 : Int32)), .val (.int (1 : Int32)), .val (.double (FP.l2d r1)), .second, .val (.double (FP.l2d r2)), .second] [(.ref a1)])) _
    refine st46 _ ?_
    show Steps p.tables e below (T46.setTop (mkF m 115 #[.val (.ref a1), .val (.int (1 : Int32)), .val (.int (1 : Int32)), .val (.double (FP.l2d r1)), .second, .val (.double (FP.l2d r2)), .second] [(.ref b5)])) _
    refine XS.iloadN X46.here hx rfl (hb hby d8_115) rfl ?_
    show Steps p.tables e below (T46.setTop (mkF m 116 #[.val (.ref a1), .val (.int (1 : Int32)), .val (.int (1 : Int32)), .val (.double (FP.l2d r1)), .second, .val (.double (FP.l2d r2)), .second] [(.int (1 : Int32)), (.ref b5)])) _
    refine XS.iconst X46.here hx rfl (hb hby d8_116) ?_
    show Steps p.tables e below (T46.setTop (mkF m 117 #[.val (.ref a1), .val (.int (1 : Int32)), .val (.int (1 : Int32)), .val (.double (FP.l2d r1)), .second, .val (.double (FP.l2d r2)), .second] [(.int (1 : Int32)), (.int (1 : Int32)), (.ref b5)])) _
    refine XS.iadd X46.here hx rfl (hb hby d8_117) rfl ?_
    show Steps p.tables e below (T46.setTop (mkF m 118 #[.val (.ref a1), .val (.int (1 : Int32)), .val (.int (1 : Int32)), .val (.double (FP.l2d r1)), .second, .val (.double (FP.l2d r2)), .second] [(.int (2 : Int32)), (.ref b5)])) _
    refine XS.aloadN X46.here hx rfl (hb hby d8_118) rfl (rfl) ?_
    show Steps p.tables e below (T46.setTop (mkF m 119 #[.val (.ref a1), .val (.int (1 : Int32)), .val (.int (1 : Int32)), .val (.double (FP.l2d r1)), .second, .val (.double (FP.l2d r2)), .second] [(.ref a1), (.int (2 : Int32)), (.ref b5)])) _
    refine st47 _ ?_
    show Steps p.tables e below (T47.setTop (mkF m 122 #[.val (.ref a1), .val (.int (1 : Int32)), .val (.int (1 : Int32)), .val (.double (FP.l2d r1)), .second, .val (.double (FP.l2d r2)), .second] [(.ref b5), (.int (2 : Int32)), (.ref b5)])) _
    refine XS.iloadN X47.here hx rfl (hb hby d8_122) rfl ?_
    show Steps p.tables e below (T47.setTop (mkF m 123 #[.val (.ref a1), .val (.int (1 : Int32)), .val (.int (1 : Int32)), .val (.double (FP.l2d r1)), .second, .val (.double (FP.l2d r2)), .second] [(.int (1 : Int32)), (.ref b5), (.int (2 : Int32)), (.ref b5)])) _
    refine X47.daload hx (j := (1 : Int32)) (v := (.double (FP.l2d w1))) (by rw [e47]; exact Ar48.1) (State.isArrayOf_alike hZ.alike Ar48.2.1) Ar48.2.2 (inb_of S48 ⟨by decide, by decide⟩) (H48 1 (by rw [S48]; decide)) (g := (mkF m 123 #[.val (.ref a1), .val (.int (1 : Int32)), .val (.int (1 : Int32)), .val (.double (FP.l2d r1)), .second, .val (.double (FP.l2d r2)), .second] [(.int (1 : Int32)), (.ref b5), (.int (2 : Int32)), (.ref b5)])) rfl rfl (hb hby d8_123) _ ?_
    show Steps p.tables e below (T47.setTop (mkF m 124 #[.val (.ref a1), .val (.int (1 : Int32)), .val (.int (1 : Int32)), .val (.double (FP.l2d r1)), .second, .val (.double (FP.l2d r2)), .second] [(.double (FP.l2d w1)), (.int (2 : Int32)), (.ref b5)])) _
    refine X47.ldc2DoubleC hx hown (mvT hZ (hw _ (List.mem_of_getElem? (i := 46) rfl))) (g := (mkF m 124 #[.val (.ref a1), .val (.int (1 : Int32)), .val (.int (1 : Int32)), .val (.double (FP.l2d r1)), .second, .val (.double (FP.l2d r2)), .second] [(.double (FP.l2d w1)), (.int (2 : Int32)), (.ref b5)])) rfl (hb hby d8_124) _ ?_
    show Steps p.tables e below (T47.setTop (mkF m 127 #[.val (.ref a1), .val (.int (1 : Int32)), .val (.int (1 : Int32)), .val (.double (FP.l2d r1)), .second, .val (.double (FP.l2d r2)), .second] [(.double (4613937818241073152 : UInt64)), (.double (FP.l2d w1)), (.int (2 : Int32)), (.ref b5)])) _
    refine XS.iloadN X47.here hx rfl (hb hby d8_127) rfl ?_
    show Steps p.tables e below (T47.setTop (mkF m 128 #[.val (.ref a1), .val (.int (1 : Int32)), .val (.int (1 : Int32)), .val (.double (FP.l2d r1)), .second, .val (.double (FP.l2d r2)), .second] [(.int (1 : Int32)), (.double (4613937818241073152 : UInt64)), (.double (FP.l2d w1)), (.int (2 : Int32)), (.ref b5)])) _
    refine XS.i2dS X47.here hx rfl (hb hby d8_128) rfl (i2d_w _ : FP.i2d (1 : Int32) = FP.l2d (1 : Int64)) ?_
    show Steps p.tables e below (T47.setTop (mkF m 129 #[.val (.ref a1), .val (.int (1 : Int32)), .val (.int (1 : Int32)), .val (.double (FP.l2d r1)), .second, .val (.double (FP.l2d r2)), .second] [(.double (FP.l2d (1 : Int64))), (.double (4613937818241073152 : UInt64)), (.double (FP.l2d w1)), (.int (2 : Int32)), (.ref b5)])) _
    refine XS.dmulS X47.here hx rfl (hb hby d8_129) rfl (nn_w Ed49) Ed49 ?_
    show Steps p.tables e below (T47.setTop (mkF m 130 #[.val (.ref a1), .val (.int (1 : Int32)), .val (.int (1 : Int32)), .val (.double (FP.l2d r1)), .second, .val (.double (FP.l2d r2)), .second] [(.double (FP.l2d (3 : Int64))), (.double (FP.l2d w1)), (.int (2 : Int32)), (.ref b5)])) _
    refine XS.dloadN X47.here hx rfl (hb hby d8_130) rfl ?_
    show Steps p.tables e below (T47.setTop (mkF m 131 #[.val (.ref a1), .val (.int (1 : Int32)), .val (.int (1 : Int32)), .val (.double (FP.l2d r1)), .second, .val (.double (FP.l2d r2)), .second] [(.double (FP.l2d r1)), (.double (FP.l2d (3 : Int64))), (.double (FP.l2d w1)), (.int (2 : Int32)), (.ref b5)])) _
    refine XS.dload X47.here hx rfl (hb hby d8_131) rfl ?_
    show Steps p.tables e below (T47.setTop (mkF m 133 #[.val (.ref a1), .val (.int (1 : Int32)), .val (.int (1 : Int32)), .val (.double (FP.l2d r1)), .second, .val (.double (FP.l2d r2)), .second] [(.double (FP.l2d r2)), (.double (FP.l2d r1)), (.double (FP.l2d (3 : Int64))), (.double (FP.l2d w1)), (.int (2 : Int32)), (.ref b5)])) _
    refine XS.daddS X47.here hx rfl (hb hby d8_133) rfl (nn_w Ed50) Ed50 ?_
    show Steps p.tables e below (T47.setTop (mkF m 134 #[.val (.ref a1), .val (.int (1 : Int32)), .val (.int (1 : Int32)), .val (.double (FP.l2d r1)), .second, .val (.double (FP.l2d r2)), .second] [(.double (FP.l2d (r1 + r2))), (.double (FP.l2d (3 : Int64))), (.double (FP.l2d w1)), (.int (2 : Int32)), (.ref b5)])) _
    refine XS.dmulS X47.here hx rfl (hb hby d8_134) rfl (nn_w Ed51) Ed51 ?_
    show Steps p.tables e below (T47.setTop (mkF m 135 #[.val (.ref a1), .val (.int (1 : Int32)), .val (.int (1 : Int32)), .val (.double (FP.l2d r1)), .second, .val (.double (FP.l2d r2)), .second] [(.double (FP.l2d ((3 : Int64) * (r1 + r2)))), (.double (FP.l2d w1)), (.int (2 : Int32)), (.ref b5)])) _
    refine XS.daddS X47.here hx rfl (hb hby d8_135) rfl (nn_w Ed52) Ed52 ?_
    show Steps p.tables e below (T47.setTop (mkF m 136 #[.val (.ref a1), .val (.int (1 : Int32)), .val (.int (1 : Int32)), .val (.double (FP.l2d r1)), .second, .val (.double (FP.l2d r2)), .second] [(.double (FP.l2d (w1 + ((3 : Int64) * (r1 + r2))))), (.int (2 : Int32)), (.ref b5)])) _
    refine XS.dloadN X47.here hx rfl (hb hby d8_136) rfl ?_
    show Steps p.tables e below (T47.setTop (mkF m 137 #[.val (.ref a1), .val (.int (1 : Int32)), .val (.int (1 : Int32)), .val (.double (FP.l2d r1)), .second, .val (.double (FP.l2d r2)), .second] [(.double (FP.l2d r1)), (.double (FP.l2d (w1 + ((3 : Int64) * (r1 + r2))))), (.int (2 : Int32)), (.ref b5)])) _
    refine XS.daddS X47.here hx rfl (hb hby d8_137) rfl (nn_w Ed53) Ed53 ?_
    show Steps p.tables e below (T47.setTop (mkF m 138 #[.val (.ref a1), .val (.int (1 : Int32)), .val (.int (1 : Int32)), .val (.double (FP.l2d r1)), .second, .val (.double (FP.l2d r2)), .second] [(.double (FP.l2d ((w1 + ((3 : Int64) * (r1 + r2))) + r1))), (.int (2 : Int32)), (.ref b5)])) _
    refine X47.ldc2DoubleC hx hown (mvT hZ (hw _ (List.mem_of_getElem? (i := 47) rfl))) (g := (mkF m 138 #[.val (.ref a1), .val (.int (1 : Int32)), .val (.int (1 : Int32)), .val (.double (FP.l2d r1)), .second, .val (.double (FP.l2d r2)), .second] [(.double (FP.l2d ((w1 + ((3 : Int64) * (r1 + r2))) + r1))), (.int (2 : Int32)), (.ref b5)])) rfl (hb hby d8_138) _ ?_
    show Steps p.tables e below (T47.setTop (mkF m 141 #[.val (.ref a1), .val (.int (1 : Int32)), .val (.int (1 : Int32)), .val (.double (FP.l2d r1)), .second, .val (.double (FP.l2d r2)), .second] [(.double (4611686018427387904 : UInt64)), (.double (FP.l2d ((w1 + ((3 : Int64) * (r1 + r2))) + r1))), (.int (2 : Int32)), (.ref b5)])) _
    refine XS.dload X47.here hx rfl (hb hby d8_141) rfl ?_
    show Steps p.tables e below (T47.setTop (mkF m 143 #[.val (.ref a1), .val (.int (1 : Int32)), .val (.int (1 : Int32)), .val (.double (FP.l2d r1)), .second, .val (.double (FP.l2d r2)), .second] [(.double (FP.l2d r2)), (.double (4611686018427387904 : UInt64)), (.double (FP.l2d ((w1 + ((3 : Int64) * (r1 + r2))) + r1))), (.int (2 : Int32)), (.ref b5)])) _
    refine XS.dmulS X47.here hx rfl (hb hby d8_143) rfl (nn_w Ed54) Ed54 ?_
    show Steps p.tables e below (T47.setTop (mkF m 144 #[.val (.ref a1), .val (.int (1 : Int32)), .val (.int (1 : Int32)), .val (.double (FP.l2d r1)), .second, .val (.double (FP.l2d r2)), .second] [(.double (FP.l2d ((2 : Int64) * r2))), (.double (FP.l2d ((w1 + ((3 : Int64) * (r1 + r2))) + r1))), (.int (2 : Int32)), (.ref b5)])) _
    refine XS.daddS X47.here hx rfl (hb hby d8_144) rfl (nn_w Ed55) Ed55 ?_
    show Steps p.tables e below (T47.setTop (mkF m 145 #[.val (.ref a1), .val (.int (1 : Int32)), .val (.int (1 : Int32)), .val (.double (FP.l2d r1)), .second, .val (.double (FP.l2d r2)), .second] [(.double (FP.l2d (((w1 + ((3 : Int64) * (r1 + r2))) + r1) + ((2 : Int64) * r2)))), (.int (2 : Int32)), (.ref b5)])) _
    exact k
  obtain ⟨w2, hw2⟩ : ∃ z : Int64, z = (((w1 + ((3 : Int64) * (r1 + r2))) + r1) + ((2 : Int64) * r2)) := ⟨_, rfl⟩
  rw [← hw2] at pre56 Rd55 Td55
  have z0' : (0 : Int64).toInt = 0 := rfl
  have Tw2 : w2.toInt = w1.toInt + 3 * (r1.toInt + r2.toInt) + r1.toInt + 2 * r2.toInt := by omega
  clear Td50 Td51 Td52 Td53 Td54 Td55
  obtain ⟨cl57, Ar57, q57, S57, M57, H57, G57⟩ := id (V32.other W45 (Ne.symm ne_b2_b5))
  have hin57 : ¬ ((2 : Int32) < 0 ∨ cl57.slots.size ≤ ((2 : Int32)).toNatClampNeg) := inb_of S57 ⟨by decide, by decide⟩
  obtain ⟨T58, h58, X58, e58, W58, st58⟩ := stD X47 hx hZ e47 Ar57 (j := (2 : Int32)) hin57 (g := (mkF m 145 #[.val (.ref a1), .val (.int (1 : Int32)), .val (.int (1 : Int32)), .val (.double (FP.l2d r1)), .second, .val (.double (FP.l2d r2)), .second] [(.double (FP.l2d w2)), (.int (2 : Int32)), (.ref b5)])) rfl rfl (hb hby d8_145)
  have V58 : Arv Z h58 b5 k5 .double (7 : Int32) [(.double (FP.l2d 0)), (.double (FP.l2d w1)), (.double (FP.l2d w2)), (.double (FP.l2d 0)), (.double (FP.l2d 0)), (.double (FP.l2d 0)), (.double (FP.l2d 0))] (.double (FP.l2d 0)) := Arv.set Ar57 q57 S57 M57 H57 G57 rfl W58 2 rfl (Nat.le_of_ble_eq_true rfl)
  have K58 : Keep h0 h58 [a1] := K45.wr W58 (Or.inr sz_b5)
  have N58 := Fr.snoc X58 N45 g_b5
  obtain ⟨T59, X59, e59, st59⟩ := getF X58 hx hZ hown (host := "") (Or.inl (hw _ (List.mem_of_getElem? (i := 28) rfl))) Via.refl e58 ((((((((F0.ext E2).other W3 (Or.inr (slot_ne (Or.inr (hw _ (List.mem_of_getElem? (i := 29) rfl))) (Or.inl (hw _ (List.mem_of_getElem? (i := 38) rfl))) (by decide) (t := .int) (t' := (.array .double)) (by decide) (by decide)))).ext E5).other W6 (Or.inr (slot_ne (Or.inr (hw _ (List.mem_of_getElem? (i := 29) rfl))) (Or.inl (hw _ (List.mem_of_getElem? (i := 45) rfl))) (by decide) (t := .int) (t' := (.array .double)) (by decide) (by decide)))).other W19 (Or.inl ne_a1_b2)).other W32 (Or.inl ne_a1_b5)).other W45 (Or.inl ne_a1_b2)).other W58 (Or.inl ne_a1_b5)) (g := (mkF m 33 #[.val (.ref a1), .val (.int (2 : Int32)), .val (.int (1 : Int32)), .val (.double (FP.l2d r1)), .second, .val (.double (FP.l2d r2)), .second] [(.ref a1), (.int (2 : Int32)), (.int (2 : Int32))])) rfl rfl (hb hby d8_33)
  obtain ⟨T60, X60, e60, st60⟩ := getF X59 hx hZ hown (host := "") (Or.inl (hw _ (List.mem_of_getElem? (i := 28) rfl))) Via.refl e59 ((((((((F0.ext E2).other W3 (Or.inr (slot_ne (Or.inr (hw _ (List.mem_of_getElem? (i := 29) rfl))) (Or.inl (hw _ (List.mem_of_getElem? (i := 38) rfl))) (by decide) (t := .int) (t' := (.array .double)) (by decide) (by decide)))).ext E5).other W6 (Or.inr (slot_ne (Or.inr (hw _ (List.mem_of_getElem? (i := 29) rfl))) (Or.inl (hw _ (List.mem_of_getElem? (i := 45) rfl))) (by decide) (t := .int) (t' := (.array .double)) (by decide) (by decide)))).other W19 (Or.inl ne_a1_b2)).other W32 (Or.inl ne_a1_b5)).other W45 (Or.inl ne_a1_b2)).other W58 (Or.inl ne_a1_b5)) (g := (mkF m 42 #[.val (.ref a1), .val (.int (2 : Int32)), .val (.int (1 : Int32)), .val (.double (FP.l2d r1)), .second, .val (.double (FP.l2d r2)), .second] [(.ref a1), (.int (2 : Int32))])) rfl rfl (hb hby d8_42)
  obtain ⟨T61, X61, e61, st61⟩ := getF X60 hx hZ hown (host := "") (Or.inl (hw _ (List.mem_of_getElem? (i := 30) rfl))) Via.refl e60 ((((((((F1.ext E2).other W3 (Or.inr (slot_ne (Or.inr (hw _ (List.mem_of_getElem? (i := 31) rfl))) (Or.inl (hw _ (List.mem_of_getElem? (i := 38) rfl))) (by decide) (t := (.array .long)) (t' := (.array .double)) (by decide) (by decide)))).ext E5).other W6 (Or.inr (slot_ne (Or.inr (hw _ (List.mem_of_getElem? (i := 31) rfl))) (Or.inl (hw _ (List.mem_of_getElem? (i := 45) rfl))) (by decide) (t := (.array .long)) (t' := (.array .double)) (by decide) (by decide)))).other W19 (Or.inl ne_a1_b2)).other W32 (Or.inl ne_a1_b5)).other W45 (Or.inl ne_a1_b2)).other W58 (Or.inl ne_a1_b5)) (g := (mkF m 60 #[.val (.ref a1), .val (.int (2 : Int32)), .val (.int (2 : Int32)), .val (.double (FP.l2d r1)), .second, .val (.double (FP.l2d r2)), .second] [(.ref a1)])) rfl rfl (hb hby d8_60)
  obtain ⟨T62, X62, e62, st62⟩ := getF X61 hx hZ hown (host := "") (Or.inl (hw _ (List.mem_of_getElem? (i := 30) rfl))) Via.refl e61 ((((((((F1.ext E2).other W3 (Or.inr (slot_ne (Or.inr (hw _ (List.mem_of_getElem? (i := 31) rfl))) (Or.inl (hw _ (List.mem_of_getElem? (i := 38) rfl))) (by decide) (t := (.array .long)) (t' := (.array .double)) (by decide) (by decide)))).ext E5).other W6 (Or.inr (slot_ne (Or.inr (hw _ (List.mem_of_getElem? (i := 31) rfl))) (Or.inl (hw _ (List.mem_of_getElem? (i := 45) rfl))) (by decide) (t := (.array .long)) (t' := (.array .double)) (by decide) (by decide)))).other W19 (Or.inl ne_a1_b2)).other W32 (Or.inl ne_a1_b5)).other W45 (Or.inl ne_a1_b2)).other W58 (Or.inl ne_a1_b5)) (g := (mkF m 68 #[.val (.ref a1), .val (.int (2 : Int32)), .val (.int (2 : Int32)), .val (.double (FP.l2d r2)), .second, .val (.double (FP.l2d r2)), .second] [(.ref a1)])) rfl rfl (hb hby d8_68)
  obtain ⟨T63, X63, e63, st63⟩ := getF X62 hx hZ hown (host := "") (Or.inl (hw _ (List.mem_of_getElem? (i := 28) rfl))) Via.refl e62 ((((((((F0.ext E2).other W3 (Or.inr (slot_ne (Or.inr (hw _ (List.mem_of_getElem? (i := 29) rfl))) (Or.inl (hw _ (List.mem_of_getElem? (i := 38) rfl))) (by decide) (t := .int) (t' := (.array .double)) (by decide) (by decide)))).ext E5).other W6 (Or.inr (slot_ne (Or.inr (hw _ (List.mem_of_getElem? (i := 29) rfl))) (Or.inl (hw _ (List.mem_of_getElem? (i := 45) rfl))) (by decide) (t := .int) (t' := (.array .double)) (by decide) (by decide)))).other W19 (Or.inl ne_a1_b2)).other W32 (Or.inl ne_a1_b5)).other W45 (Or.inl ne_a1_b2)).other W58 (Or.inl ne_a1_b5)) (g := (mkF m 75 #[.val (.ref a1), .val (.int (2 : Int32)), .val (.int (2 : Int32)), .val (.double (FP.l2d r2)), .second, .val (.double (FP.l2d r2)), .second] [(.ref a1), (.int (3 : Int32)), (.ref a2)])) rfl rfl (hb hby d8_75)
  obtain ⟨T64, X64, e64, st64⟩ := getF X63 hx hZ hown (host := "") (Or.inl (hw _ (List.mem_of_getElem? (i := 37) rfl))) Via.refl e63 ((((((Fw3.ext E5).other W6 (Or.inr (slot_ne (Or.inl (hw _ (List.mem_of_getElem? (i := 38) rfl))) (Or.inl (hw _ (List.mem_of_getElem? (i := 45) rfl))) (by decide) (t := (.array .double)) (t' := (.array .double)) (by decide) (by decide)))).other W19 (Or.inl ne_a1_b2)).other W32 (Or.inl ne_a1_b5)).other W45 (Or.inl ne_a1_b2)).other W58 (Or.inl ne_a1_b5)) (g := (mkF m 93 #[.val (.ref a1), .val (.int (2 : Int32)), .val (.int (2 : Int32)), .val (.double (FP.l2d r2)), .second, .val (.double (FP.l2d r0)), .second] [(.ref a1)])) rfl rfl (hb hby d8_93)
  obtain ⟨T65, X65, e65, st65⟩ := getF X64 hx hZ hown (host := "") (Or.inl (hw _ (List.mem_of_getElem? (i := 37) rfl))) Via.refl e64 ((((((Fw3.ext E5).other W6 (Or.inr (slot_ne (Or.inl (hw _ (List.mem_of_getElem? (i := 38) rfl))) (Or.inl (hw _ (List.mem_of_getElem? (i := 45) rfl))) (by decide) (t := (.array .double)) (t' := (.array .double)) (by decide) (by decide)))).other W19 (Or.inl ne_a1_b2)).other W32 (Or.inl ne_a1_b5)).other W45 (Or.inl ne_a1_b2)).other W58 (Or.inl ne_a1_b5)) (g := (mkF m 100 #[.val (.ref a1), .val (.int (2 : Int32)), .val (.int (2 : Int32)), .val (.double (FP.l2d r2)), .second, .val (.double (FP.l2d r0)), .second] [(.ref a1), (.int (3 : Int32)), (.ref b2)])) rfl rfl (hb hby d8_100)
  obtain ⟨cl66, Ar66, q66, S66, M66, H66, G66⟩ := id (V45.other W58 ne_b2_b5)
  have Ed67 : FP.dadd (FP.l2d m2) (FP.l2d r2) = FP.l2d (m2 + r2) := own_dadd Rd42 hr2 (by decide)
  obtain ⟨Rd67, Td67⟩ := own_Radd Rd42 hr2 (by decide)
  have Ed68 : FP.dadd (FP.l2d (m2 + r2)) (FP.l2d r0) = FP.l2d ((m2 + r2) + r0) := own_dadd Rd67 hr0 (by decide)
  obtain ⟨Rd68, Td68⟩ := own_Radd Rd67 hr0 (by decide)
  have pre69 : ∀ t, Steps p.tables e below (T65.setTop (mkF m 110 #[.val (.ref a1), .val (.int (2 : Int32)), .val (.int (2 : Int32)), .val (.double (FP.l2d r2)), .second, .val (.double (FP.l2d r0)), .second] [(.double (FP.l2d ((m2 + r2) + r0))), (.int (3 : Int32)), (.ref b2)])) t → Steps p.tables e below (s₁.setTop (entryFrame m #[(.ref a1)] 7)) t := by
    intro t k
    refine pre56 t ?_
    refine st58 _ ?_
    show Steps p.tables e below (T58.setTop (mkF m 146 #[.val (.ref a1), .val (.int (1 : Int32)), .val (.int (1 : Int32)), .val (.double (FP.l2d r1)), .second, .val (.double (FP.l2d r2)), .second] [])) _
    refine XS.iinc X58.here hx rfl (hb hby d8_146) rfl (l' := #[.val (.ref a1), .val (.int (2 : Int32)), .val (.int (1 : Int32)), .val (.double (FP.l2d r1)), .second, .val (.double (FP.l2d r2)), .second]) rfl ?_
    show Steps p.tables e below (T58.setTop (mkF m 149 #[.val (.ref a1), .val (.int (2 : Int32)), .val (.int (1 : Int32)), .val (.double (FP.l2d r1)), .second, .val (.double (FP.l2d r2)), .second] [])) _
    refine XS.goto X58.here hx rfl (pc0 := 149) (pc' := 30) rfl (hb hby d8_149) (by decide) (by decide) ?_
    show Steps p.tables e below (T58.setTop (mkF m 30 #[.val (.ref a1), .val (.int (2 : Int32)), .val (.int (1 : Int32)), .val (.double (FP.l2d r1)), .second, .val (.double (FP.l2d r2)), .second] [])) _
    refine XS.iloadN X58.here hx rfl (hb hby d8_30) rfl ?_
    show Steps p.tables e below (T58.setTop (mkF m 31 #[.val (.ref a1), .val (.int (2 : Int32)), .val (.int (1 : Int32)), .val (.double (FP.l2d r1)), .second, .val (.double (FP.l2d r2)), .second] [(.int (2 : Int32))])) _
    refine XS.iconst X58.here hx rfl (hb hby d8_31) ?_
    show Steps p.tables e below (T58.setTop (mkF m 32 #[.val (.ref a1), .val (.int (2 : Int32)), .val (.int (1 : Int32)), .val (.double (FP.l2d r1)), .second, .val (.double (FP.l2d r2)), .second] [(.int (2 : Int32)), (.int (2 : Int32))])) _
    refine XS.aloadN X58.here hx rfl (hb hby d8_32) rfl (rfl) ?_
    show Steps p.tables e below (T58.setTop (mkF m 33 #[.val (.ref a1), .val (.int (2 : Int32)), .val (.int (1 : Int32)), .val (.double (FP.l2d r1)), .second, .val (.double (FP.l2d r2)), .second] [(.ref a1), (.int (2 : Int32)), (.int (2 : Int32))])) _
    refine st59 _ ?_
    show Steps p.tables e below (T59.setTop (mkF m 36 #[.val (.ref a1), .val (.int (2 : Int32)), .val (.int (1 : Int32)), .val (.double (FP.l2d r1)), .second, .val (.double (FP.l2d r2)), .second] [(.int (3 : Int32)), (.int (2 : Int32)), (.int (2 : Int32))])) _
    refine XS.imul X59.here hx rfl (hb hby d8_36) rfl ?_
    show Steps p.tables e below (T59.setTop (mkF m 37 #[.val (.ref a1), .val (.int (2 : Int32)), .val (.int (1 : Int32)), .val (.double (FP.l2d r1)), .second, .val (.double (FP.l2d r2)), .second] [(.int (6 : Int32)), (.int (2 : Int32))])) _
    refine XS.icmpNo X59.here hx rfl (hb hby d8_37) rfl (tlt (by decide : (2 : Int32) < (6 : Int32))).2.1 ?_
    show Steps p.tables e below (T59.setTop (mkF m 40 #[.val (.ref a1), .val (.int (2 : Int32)), .val (.int (1 : Int32)), .val (.double (FP.l2d r1)), .second, .val (.double (FP.l2d r2)), .second] [])) _
    refine XS.iloadN X59.here hx rfl (hb hby d8_40) rfl ?_
    show Steps p.tables e below (T59.setTop (mkF m 41 #[.val (.ref a1), .val (.int (2 : Int32)), .val (.int (1 : Int32)), .val (.double (FP.l2d r1)), .second, .val (.double (FP.l2d r2)), .second] [(.int (2 : Int32))])) _
    refine XS.aloadN X59.here hx rfl (hb hby d8_41) rfl (rfl) ?_
    show Steps p.tables e below (T59.setTop (mkF m 42 #[.val (.ref a1), .val (.int (2 : Int32)), .val (.int (1 : Int32)), .val (.double (FP.l2d r1)), .second, .val (.double (FP.l2d r2)), .second] [(.ref a1), (.int (2 : Int32))])) _
    refine st60 _ ?_
    show Steps p.tables e below (T60.setTop (mkF m 45 #[.val (.ref a1), .val (.int (2 : Int32)), .val (.int (1 : Int32)), .val (.double (FP.l2d r1)), .second, .val (.double (FP.l2d r2)), .second] [(.int (3 : Int32)), (.int (2 : Int32))])) _
    refine XS.icmpNo X60.here hx rfl (hb hby d8_45) rfl (tlt (by decide : (2 : Int32) < (3 : Int32))).2.1 ?_
    show Steps p.tables e below (T60.setTop (mkF m 48 #[.val (.ref a1), .val (.int (2 : Int32)), .val (.int (1 : Int32)), .val (.double (FP.l2d r1)), .second, .val (.double (FP.l2d r2)), .second] [])) _
    refine XS.iloadN X60.here hx rfl (hb hby d8_48) rfl ?_
    show Steps p.tables e below (T60.setTop (mkF m 49 #[.val (.ref a1), .val (.int (2 : Int32)), .val (.int (1 : Int32)), .val (.double (FP.l2d r1)), .second, .val (.double (FP.l2d r2)), .second] [(.int (2 : Int32))])) _
    refine XS.goto X60.here hx rfl (pc0 := 49) (pc' := 58) rfl (hb hby d8_49) (by decide) (by decide) ?_
    show Steps p.tables e below (T60.setTop (mkF m 58 #[.val (.ref a1), .val (.int (2 : Int32)), .val (.int (1 : Int32)), .val (.double (FP.l2d r1)), .second, .val (.double (FP.l2d r2)), .second] [(.int (2 : Int32))])) _
    refine XS.istoreN X60.here hx rfl (hb hby d8_58) rfl (l' := #[.val (.ref a1), .val (.int (2 : Int32)), .val (.int (2 : Int32)), .val (.double (FP.l2d r1)), .second, .val (.double (FP.l2d r2)), .second]) rfl ?_
    show Steps p.tables e below (T60.setTop (mkF m 59 #[.val (.ref a1), .val (.int (2 : Int32)), .val (.int (2 : Int32)), .val (.double (FP.l2d r1)), .second, .val (.double (FP.l2d r2)), .second] [])) _
    refine XS.aloadN X60.here hx rfl (hb hby d8_59) rfl (rfl) ?_
    show Steps p.tables e below (T60.setTop (mkF m 60 #[.val (.ref a1), .val (.int (2 : Int32)), .val (.int (2 : Int32)), .val (.double (FP.l2d r1)), .second, .val (.double (FP.l2d r2)), .second] [(.ref a1)])) _
    refine st61 _ ?_
    show Steps p.tables e below (T61.setTop (mkF m 63 #[.val (.ref a1), .val (.int (2 : Int32)), .val (.int (2 : Int32)), .val (.double (FP.l2d r1)), .second, .val (.double (FP.l2d r2)), .second] [(.ref a2)])) _
    refine XS.iloadN X61.here hx rfl (hb hby d8_63) rfl ?_
    show Steps p.tables e below (T61.setTop (mkF m 64 #[.val (.ref a1), .val (.int (2 : Int32)), .val (.int (2 : Int32)), .val (.double (FP.l2d r1)), .second, .val (.double (FP.l2d r2)), .second] [(.int (2 : Int32)), (.ref a2)])) _
    refine X61.laload hx (j := (2 : Int32)) (v := (.long r2)) (by rw [e61]; exact ((((((((Ar.ext E2).other W3 (ne_a2_a1)).ext E5).other W6 (ne_a2_a1)).other W19 ne_a2_b2).other W32 ne_a2_b5).other W45 ne_a2_b2).other W58 ne_a2_b5).1) (State.isArrayOf_alike hZ.alike ((((((((Ar.ext E2).other W3 (ne_a2_a1)).ext E5).other W6 (ne_a2_a1)).other W19 ne_a2_b2).other W32 ne_a2_b5).other W45 ne_a2_b2).other W58 ne_a2_b5).2.1) ((((((((Ar.ext E2).other W3 (ne_a2_a1)).ext E5).other W6 (ne_a2_a1)).other W19 ne_a2_b2).other W32 ne_a2_b5).other W45 ne_a2_b2).other W58 ne_a2_b5).2.2 (inb_of Sz ⟨by decide, by decide⟩) t2 (g := (mkF m 64 #[.val (.ref a1), .val (.int (2 : Int32)), .val (.int (2 : Int32)), .val (.double (FP.l2d r1)), .second, .val (.double (FP.l2d r2)), .second] [(.int (2 : Int32)), (.ref a2)])) rfl rfl (hb hby d8_64) _ ?_
    show Steps p.tables e below (T61.setTop (mkF m 65 #[.val (.ref a1), .val (.int (2 : Int32)), .val (.int (2 : Int32)), .val (.double (FP.l2d r1)), .second, .val (.double (FP.l2d r2)), .second] [(.long r2)])) _
    refine XS.l2dS X61.here hx rfl (hb hby d8_65) rfl rfl ?_
    show Steps p.tables e below (T61.setTop (mkF m 66 #[.val (.ref a1), .val (.int (2 : Int32)), .val (.int (2 : Int32)), .val (.double (FP.l2d r1)), .second, .val (.double (FP.l2d r2)), .second] [(.double (FP.l2d r2))])) _
    refine XS.dstoreN X61.here hx rfl (hb hby d8_66) rfl (l' := #[.val (.ref a1), .val (.int (2 : Int32)), .val (.int (2 : Int32)), .val (.double (FP.l2d r2)), .second, .val (.double (FP.l2d r2)), .second]) rfl ?_
    show Steps p.tables e below (T61.setTop (mkF m 67 #[.val (.ref a1), .val (.int (2 : Int32)), .val (.int (2 : Int32)), .val (.double (FP.l2d r2)), .second, .val (.double (FP.l2d r2)), .second] [])) _
    refine XS.aloadN X61.here hx rfl (hb hby d8_67) rfl (rfl) ?_
    show Steps p.tables e below (T61.setTop (mkF m 68 #[.val (.ref a1), .val (.int (2 : Int32)), .val (.int (2 : Int32)), .val (.double (FP.l2d r2)), .second, .val (.double (FP.l2d r2)), .second] [(.ref a1)])) _
    refine st62 _ ?_
    show Steps p.tables e below (T62.setTop (mkF m 71 #[.val (.ref a1), .val (.int (2 : Int32)), .val (.int (2 : Int32)), .val (.double (FP.l2d r2)), .second, .val (.double (FP.l2d r2)), .second] [(.ref a2)])) _
    refine XS.iloadN X62.here hx rfl (hb hby d8_71) rfl ?_
    show Steps p.tables e below (T62.setTop (mkF m 72 #[.val (.ref a1), .val (.int (2 : Int32)), .val (.int (2 : Int32)), .val (.double (FP.l2d r2)), .second, .val (.double (FP.l2d r2)), .second] [(.int (2 : Int32)), (.ref a2)])) _
    refine XS.iconst X62.here hx rfl (hb hby d8_72) ?_
    show Steps p.tables e below (T62.setTop (mkF m 73 #[.val (.ref a1), .val (.int (2 : Int32)), .val (.int (2 : Int32)), .val (.double (FP.l2d r2)), .second, .val (.double (FP.l2d r2)), .second] [(.int (1 : Int32)), (.int (2 : Int32)), (.ref a2)])) _
    refine XS.iadd X62.here hx rfl (hb hby d8_73) rfl ?_
    show Steps p.tables e below (T62.setTop (mkF m 74 #[.val (.ref a1), .val (.int (2 : Int32)), .val (.int (2 : Int32)), .val (.double (FP.l2d r2)), .second, .val (.double (FP.l2d r2)), .second] [(.int (3 : Int32)), (.ref a2)])) _
    refine XS.aloadN X62.here hx rfl (hb hby d8_74) rfl (rfl) ?_
    show Steps p.tables e below (T62.setTop (mkF m 75 #[.val (.ref a1), .val (.int (2 : Int32)), .val (.int (2 : Int32)), .val (.double (FP.l2d r2)), .second, .val (.double (FP.l2d r2)), .second] [(.ref a1), (.int (3 : Int32)), (.ref a2)])) _
    refine st63 _ ?_
    show Steps p.tables e below (T63.setTop (mkF m 78 #[.val (.ref a1), .val (.int (2 : Int32)), .val (.int (2 : Int32)), .val (.double (FP.l2d r2)), .second, .val (.double (FP.l2d r2)), .second] [(.int (3 : Int32)), (.int (3 : Int32)), (.ref a2)])) _
    refine XS.icmpYes X63.here hx rfl (pc0 := 78) (pc' := 87) rfl (hb hby d8_78) rfl (flt (by decide : ¬ ((3 : Int32) < (3 : Int32)))).2.1 (by decide) (by decide) ?_
    show Steps p.tables e below (T63.setTop (mkF m 87 #[.val (.ref a1), .val (.int (2 : Int32)), .val (.int (2 : Int32)), .val (.double (FP.l2d r2)), .second, .val (.double (FP.l2d r2)), .second] [(.ref a2)])) _
    refine XS.iconst X63.here hx rfl (hb hby d8_87) ?_
    show Steps p.tables e below (T63.setTop (mkF m 88 #[.val (.ref a1), .val (.int (2 : Int32)), .val (.int (2 : Int32)), .val (.double (FP.l2d r2)), .second, .val (.double (FP.l2d r2)), .second] [(.int (0 : Int32)), (.ref a2)])) _
    refine X63.laload hx (j := (0 : Int32)) (v := (.long r0)) (by rw [e63]; exact ((((((((Ar.ext E2).other W3 (ne_a2_a1)).ext E5).other W6 (ne_a2_a1)).other W19 ne_a2_b2).other W32 ne_a2_b5).other W45 ne_a2_b2).other W58 ne_a2_b5).1) (State.isArrayOf_alike hZ.alike ((((((((Ar.ext E2).other W3 (ne_a2_a1)).ext E5).other W6 (ne_a2_a1)).other W19 ne_a2_b2).other W32 ne_a2_b5).other W45 ne_a2_b2).other W58 ne_a2_b5).2.1) ((((((((Ar.ext E2).other W3 (ne_a2_a1)).ext E5).other W6 (ne_a2_a1)).other W19 ne_a2_b2).other W32 ne_a2_b5).other W45 ne_a2_b2).other W58 ne_a2_b5).2.2 (inb_of Sz ⟨by decide, by decide⟩) t0 (g := (mkF m 88 #[.val (.ref a1), .val (.int (2 : Int32)), .val (.int (2 : Int32)), .val (.double (FP.l2d r2)), .second, .val (.double (FP.l2d r2)), .second] [(.int (0 : Int32)), (.ref a2)])) rfl rfl (hb hby d8_88) _ ?_
    show Steps p.tables e below (T63.setTop (mkF m 89 #[.val (.ref a1), .val (.int (2 : Int32)), .val (.int (2 : Int32)), .val (.double (FP.l2d r2)), .second, .val (.double (FP.l2d r2)), .second] [(.long r0)])) _
    refine XS.l2dS X63.here hx rfl (hb hby d8_89) rfl rfl ?_
    show Steps p.tables e below (T63.setTop (mkF m 90 #[.val (.ref a1), .val (.int (2 : Int32)), .val (.int (2 : Int32)), .val (.double (FP.l2d r2)), .second, .val (.double (FP.l2d r2)), .second] [(.double (FP.l2d r0))])) _
    refine XS.dstore X63.here hx rfl (hb hby d8_90) rfl (l' := #[.val (.ref a1), .val (.int (2 : Int32)), .val (.int (2 : Int32)), .val (.double (FP.l2d r2)), .second, .val (.double (FP.l2d r0)), .second]) rfl ?_
    show Steps p.tables e below (T63.setTop (mkF m 92 #[.val (.ref a1), .val (.int (2 : Int32)), .val (.int (2 : Int32)), .val (.double (FP.l2d r2)), .second, .val (.double (FP.l2d r0)), .second] [])) _
    refine XS.aloadN X63.here hx rfl (hb hby d8_92) rfl (rfl) ?_
    show Steps p.tables e below (T63.setTop (mkF m 93 #[.val (.ref a1), .val (.int (2 : Int32)), .val (.int (2 : Int32)), .val (.double (FP.l2d r2)), .second, .val (.double (FP.l2d r0)), .second] [(.ref a1)])) _
    refine st64 _ ?_
    show Steps p.tables e below (T64.setTop (mkF m 96 #[.val (.ref a1), .val (.int (2 : Int32)), .val (.int (2 : Int32)), .val (.double (FP.l2d r2)), .second, .val (.double (FP.l2d r0)), .second] [(.ref b2)])) _
    refine XS.iloadN X64.here hx rfl (hb hby d8_96) rfl ?_
    show Steps p.tables e below (T64.setTop (mkF m 97 #[.val (.ref a1), .val (.int (2 : Int32)), .val (.int (2 : Int32)), .val (.double (FP.l2d r2)), .second, .val (.double (FP.l2d r0)), .second] [(.int (2 : Int32)), (.ref b2)])) _
    refine XS.iconst X64.here hx rfl (hb hby d8_97) ?_
    show Steps p.tables e below (T64.setTop (mkF m 98 #[.val (.ref a1), .val (.int (2 : Int32)), .val (.int (2 : Int32)), .val (.double (FP.l2d r2)), .second, .val (.double (FP.l2d r0)), .second] [(.int (1 : Int32)), (.int (2 : Int32)), (.ref b2)])) _
    refine XS.iadd X64.here hx rfl (hb hby d8_98) rfl ?_
    show Steps p.tables e below (T64.setTop (mkF m 99 #[.val (.ref a1), .val (.int (2 : Int32)), .val (.int (2 : Int32)), .val (.double (FP.l2d r2)), .second, .val (.double (FP.l2d r0)), .second] [(.int (3 : Int32)), (.ref b2)])) _
    refine XS.aloadN X64.here hx rfl (hb hby d8_99) rfl (rfl) ?_
    show Steps p.tables e below (T64.setTop (mkF m 100 #[.val (.ref a1), .val (.int (2 : Int32)), .val (.int (2 : Int32)), .val (.double (FP.l2d r2)), .second, .val (.double (FP.l2d r0)), .second] [(.ref a1), (.int (3 : Int32)), (.ref b2)])) _
    refine st65 _ ?_
    show Steps p.tables e below (T65.setTop (mkF m 103 #[.val (.ref a1), .val (.int (2 : Int32)), .val (.int (2 : Int32)), .val (.double (FP.l2d r2)), .second, .val (.double (FP.l2d r0)), .second] [(.ref b2), (.int (3 : Int32)), (.ref b2)])) _
    refine XS.iloadN X65.here hx rfl (hb hby d8_103) rfl ?_
    show Steps p.tables e below (T65.setTop (mkF m 104 #[.val (.ref a1), .val (.int (2 : Int32)), .val (.int (2 : Int32)), .val (.double (FP.l2d r2)), .second, .val (.double (FP.l2d r0)), .second] [(.int (2 : Int32)), (.ref b2), (.int (3 : Int32)), (.ref b2)])) _
    refine X65.daload hx (j := (2 : Int32)) (v := (.double (FP.l2d m2))) (by rw [e65]; exact Ar66.1) (State.isArrayOf_alike hZ.alike Ar66.2.1) Ar66.2.2 (inb_of S66 ⟨by decide, by decide⟩) (H66 2 (by rw [S66]; decide)) (g := (mkF m 104 #[.val (.ref a1), .val (.int (2 : Int32)), .val (.int (2 : Int32)), .val (.double (FP.l2d r2)), .second, .val (.double (FP.l2d r0)), .second] [(.int (2 : Int32)), (.ref b2), (.int (3 : Int32)), (.ref b2)])) rfl rfl (hb hby d8_104) _ ?_
    show Steps p.tables e below (T65.setTop (mkF m 105 #[.val (.ref a1), .val (.int (2 : Int32)), .val (.int (2 : Int32)), .val (.double (FP.l2d r2)), .second, .val (.double (FP.l2d r0)), .second] [(.double (FP.l2d m2)), (.int (3 : Int32)), (.ref b2)])) _
    refine XS.dloadN X65.here hx rfl (hb hby d8_105) rfl ?_
    show Steps p.tables e below (T65.setTop (mkF m 106 #[.val (.ref a1), .val (.int (2 : Int32)), .val (.int (2 : Int32)), .val (.double (FP.l2d r2)), .second, .val (.double (FP.l2d r0)), .second] [(.double (FP.l2d r2)), (.double (FP.l2d m2)), (.int (3 : Int32)), (.ref b2)])) _
    refine XS.daddS X65.here hx rfl (hb hby d8_106) rfl (nn_w Ed67) Ed67 ?_
    show Steps p.tables e below (T65.setTop (mkF m 107 #[.val (.ref a1), .val (.int (2 : Int32)), .val (.int (2 : Int32)), .val (.double (FP.l2d r2)), .second, .val (.double (FP.l2d r0)), .second] [(.double (FP.l2d (m2 + r2))), (.int (3 : Int32)), (.ref b2)])) _
    refine XS.dload X65.here hx rfl (hb hby d8_107) rfl ?_
    show Steps p.tables e below (T65.setTop (mkF m 109 #[.val (.ref a1), .val (.int (2 : Int32)), .val (.int (2 : Int32)), .val (.double (FP.l2d r2)), .second, .val (.double (FP.l2d r0)), .second] [(.double (FP.l2d r0)), (.double (FP.l2d (m2 + r2))), (.int (3 : Int32)), (.ref b2)])) _
    refine XS.daddS X65.here hx rfl (hb hby d8_109) rfl (nn_w Ed68) Ed68 ?_
    show Steps p.tables e below (T65.setTop (mkF m 110 #[.val (.ref a1), .val (.int (2 : Int32)), .val (.int (2 : Int32)), .val (.double (FP.l2d r2)), .second, .val (.double (FP.l2d r0)), .second] [(.double (FP.l2d ((m2 + r2) + r0))), (.int (3 : Int32)), (.ref b2)])) _
    exact k
  obtain ⟨m3, hm3⟩ : ∃ z : Int64, z = ((m2 + r2) + r0) := ⟨_, rfl⟩
  rw [← hm3] at pre69 Rd68 Td68
  have z0' : (0 : Int64).toInt = 0 := rfl
  have Tm3 : m3.toInt = m2.toInt + r2.toInt + r0.toInt := by omega
  clear Td67 Td68
  obtain ⟨cl70, Ar70, q70, S70, M70, H70, G70⟩ := id (V45.other W58 ne_b2_b5)
  have hin70 : ¬ ((3 : Int32) < 0 ∨ cl70.slots.size ≤ ((3 : Int32)).toNatClampNeg) := inb_of S70 ⟨by decide, by decide⟩
  obtain ⟨T71, h71, X71, e71, W71, st71⟩ := stD X65 hx hZ e65 Ar70 (j := (3 : Int32)) hin70 (g := (mkF m 110 #[.val (.ref a1), .val (.int (2 : Int32)), .val (.int (2 : Int32)), .val (.double (FP.l2d r2)), .second, .val (.double (FP.l2d r0)), .second] [(.double (FP.l2d m3)), (.int (3 : Int32)), (.ref b2)])) rfl rfl (hb hby d8_110)
  have V71 : Arv Z h71 b2 k2 .double (7 : Int32) [(.double (FP.l2d 0)), (.double (FP.l2d m1)), (.double (FP.l2d m2)), (.double (FP.l2d m3)), (.double (FP.l2d 0)), (.double (FP.l2d 0)), (.double (FP.l2d 0))] (.double (FP.l2d 0)) := Arv.set Ar70 q70 S70 M70 H70 G70 rfl W71 3 rfl (Nat.le_of_ble_eq_true rfl)
  have K71 : Keep h0 h71 [a1] := K58.wr W71 (Or.inr sz_b2)
  have N71 := Fr.snoc X71 N58 g_b2
  obtain ⟨T72, X72, e72, st72⟩ := getF X71 hx hZ hown (host := "") (Or.inl (hw _ (List.mem_of_getElem? (i := 44) rfl))) Via.refl e71 (((((Fw6.other W19 (Or.inl ne_a1_b2)).other W32 (Or.inl ne_a1_b5)).other W45 (Or.inl ne_a1_b2)).other W58 (Or.inl ne_a1_b5)).other W71 (Or.inl ne_a1_b2)) (g := (mkF m 112 #[.val (.ref a1), .val (.int (2 : Int32)), .val (.int (2 : Int32)), .val (.double (FP.l2d r2)), .second, .val (.double (FP.l2d r0)), .second] [(.ref a1)])) rfl rfl (hb hby d8_112)
  obtain ⟨T73, X73, e73, st73⟩ := getF X72 hx hZ hown (host := "") (Or.inl (hw _ (List.mem_of_getElem? (i := 44) rfl))) Via.refl e72 (((((Fw6.other W19 (Or.inl ne_a1_b2)).other W32 (Or.inl ne_a1_b5)).other W45 (Or.inl ne_a1_b2)).other W58 (Or.inl ne_a1_b5)).other W71 (Or.inl ne_a1_b2)) (g := (mkF m 119 #[.val (.ref a1), .val (.int (2 : Int32)), .val (.int (2 : Int32)), .val (.double (FP.l2d r2)), .second, .val (.double (FP.l2d r0)), .second] [(.ref a1), (.int (3 : Int32)), (.ref b5)])) rfl rfl (hb hby d8_119)
  obtain ⟨cl74, Ar74, q74, S74, M74, H74, G74⟩ := id (V58.other W71 (Ne.symm ne_b2_b5))
  have Ed75 : FP.dmul (4613937818241073152 : UInt64) (FP.l2d (2 : Int64)) = FP.l2d (6 : Int64) := by decide +kernel
  have Ed76 : FP.dadd (FP.l2d r2) (FP.l2d r0) = FP.l2d (r2 + r0) := own_dadd hr2 hr0 (by decide)
  obtain ⟨Rd76, Td76⟩ := own_Radd hr2 hr0 (by decide)
  have Ed77 : FP.dmul (FP.l2d (6 : Int64)) (FP.l2d (r2 + r0)) = FP.l2d ((6 : Int64) * (r2 + r0)) := by exact own_dmulc (6 : Int64) 6 rfl (by decide) (by decide) Rd76 (by decide)
  obtain ⟨Rd77, Td77⟩ := own_Rmulc (6 : Int64) 6 rfl (by decide) (by decide) Rd76 (by decide)
  have Ed78 : FP.dadd (FP.l2d w2) (FP.l2d ((6 : Int64) * (r2 + r0))) = FP.l2d (w2 + ((6 : Int64) * (r2 + r0))) := own_dadd Rd55 Rd77 (by decide)
  obtain ⟨Rd78, Td78⟩ := own_Radd Rd55 Rd77 (by decide)
  have Ed79 : FP.dadd (FP.l2d (w2 + ((6 : Int64) * (r2 + r0)))) (FP.l2d r2) = FP.l2d ((w2 + ((6 : Int64) * (r2 + r0))) + r2) := own_dadd Rd78 hr2 (by decide)
  obtain ⟨Rd79, Td79⟩ := own_Radd Rd78 hr2 (by decide)
  have Ed80 : FP.dmul (4611686018427387904 : UInt64) (FP.l2d r0) = FP.l2d ((2 : Int64) * r0) := by rw [own_c2]; exact own_dmulc (2 : Int64) 2 rfl (by decide) (by decide) hr0 (by decide)
  obtain ⟨Rd80, Td80⟩ := own_Rmulc (2 : Int64) 2 rfl (by decide) (by decide) hr0 (by decide)
  have Ed81 : FP.dadd (FP.l2d ((w2 + ((6 : Int64) * (r2 + r0))) + r2)) (FP.l2d ((2 : Int64) * r0)) = FP.l2d (((w2 + ((6 : Int64) * (r2 + r0))) + r2) + ((2 : Int64) * r0)) := own_dadd Rd79 Rd80 (by decide)
  obtain ⟨Rd81, Td81⟩ := own_Radd Rd79 Rd80 (by decide)
  have pre82 : ∀ t, Steps p.tables e below (T73.setTop (mkF m 145 #[.val (.ref a1), .val (.int (2 : Int32)), .val (.int (2 : Int32)), .val (.double (FP.l2d r2)), .second, .val (.double (FP.l2d r0)), .second] [(.double (FP.l2d (((w2 + ((6 : Int64) * (r2 + r0))) + r2) + ((2 : Int64) * r0)))), (.int (3 : Int32)), (.ref b5)])) t → Steps p.tables e below (s₁.setTop (entryFrame m #[(.ref a1)] 7)) t := by
    intro t k
    refine pre69 t ?_
    refine st71 _ ?_
    show Steps p.tables e below (T71.setTop (mkF m 111 #[.val (.ref a1), .val (.int (2 : Int32)), .val (.int (2 : Int32)), .val (.double (FP.l2d r2)), .second, .val (.double (FP.l2d r0)), .second] [])) _
    refine XS.aloadN X71.here hx rfl (hb hby d8_111) rfl (rfl) ?_
    show Steps p.tables e below (T71.setTop (mkF m 112 #[.val (.ref a1), .val (.int (2 : Int32)), .val (.int (2 : Int32)), .val (.double (FP.l2d r2)), .second, .val (.double (FP.l2d r0)), .second] [(.ref a1)])) _
    refine st72 _ ?_
    show Steps p.tables e below (T72.setTop (mkF m 115 #[.val (.ref a1), .val (.int (2 : Int32)), .val (.int (2 : Int32)), .val (.double (FP.l2d r2)), .second, .val (.double (FP.l2d r0)), .second] [(.ref b5)])) _
    refine XS.iloadN X72.here hx rfl (hb hby d8_115) rfl ?_
    show Steps p.tables e below (T72.setTop (mkF m 116 #[.val (.ref a1), .val (.int (2 : Int32)), .val (.int (2 : Int32)), .val (.double (FP.l2d r2)), .second, .val (.double (FP.l2d r0)), .second] [(.int (2 : Int32)), (.ref b5)])) _
    refine XS.iconst X72.here hx rfl (hb hby d8_116) ?_
    show Steps p.tables e below (T72.setTop (mkF m 117 #[.val (.ref a1), .val (.int (2 : Int32)), .val (.int (2 : Int32)), .val (.double (FP.l2d r2)), .second, .val (.double (FP.l2d r0)), .second] [(.int (1 : Int32)), (.int (2 : Int32)), (.ref b5)])) _
    refine XS.iadd X72.here hx rfl (hb hby d8_117) rfl ?_
    show Steps p.tables e below (T72.setTop (mkF m 118 #[.val (.ref a1), .val (.int (2 : Int32)), .val (.int (2 : Int32)), .val (.double (FP.l2d r2)), .second, .val (.double (FP.l2d r0)), .second] [(.int (3 : Int32)), (.ref b5)])) _
    refine XS.aloadN X72.here hx rfl (hb hby d8_118) rfl (rfl) ?_
    show Steps p.tables e below (T72.setTop (mkF m 119 #[.val (.ref a1), .val (.int (2 : Int32)), .val (.int (2 : Int32)), .val (.double (FP.l2d r2)), .second, .val (.double (FP.l2d r0)), .second] [(.ref a1), (.int (3 : Int32)), (.ref b5)])) _
    refine st73 _ ?_
    show Steps p.tables e below (T73.setTop (mkF m 122 #[.val (.ref a1), .val (.int (2 : Int32)), .val (.int (2 : Int32)), .val (.double (FP.l2d r2)), .second, .val (.double (FP.l2d r0)), .second] [(.ref b5), (.int (3 : Int32)), (.ref b5)])) _
    refine XS.iloadN X73.here hx rfl (hb hby d8_122) rfl ?_
    show Steps p.tables e below (T73.setTop (mkF m 123 #[.val (.ref a1), .val (.int (2 : Int32)), .val (.int (2 : Int32)), .val (.double (FP.l2d r2)), .second, .val (.double (FP.l2d r0)), .second] [(.int (2 : Int32)), (.ref b5), (.int (3 : Int32)), (.ref b5)])) _
    refine X73.daload hx (j := (2 : Int32)) (v := (.double (FP.l2d w2))) (by rw [e73]; exact Ar74.1) (State.isArrayOf_alike hZ.alike Ar74.2.1) Ar74.2.2 (inb_of S74 ⟨by decide, by decide⟩) (H74 2 (by rw [S74]; decide)) (g := (mkF m 123 #[.val (.ref a1), .val (.int (2 : Int32)), .val (.int (2 : Int32)), .val (.double (FP.l2d r2)), .second, .val (.double (FP.l2d r0)), .second] [(.int (2 : Int32)), (.ref b5), (.int (3 : Int32)), (.ref b5)])) rfl rfl (hb hby d8_123) _ ?_
    show Steps p.tables e below (T73.setTop (mkF m 124 #[.val (.ref a1), .val (.int (2 : Int32)), .val (.int (2 : Int32)), .val (.double (FP.l2d r2)), .second, .val (.double (FP.l2d r0)), .second] [(.double (FP.l2d w2)), (.int (3 : Int32)), (.ref b5)])) _
    refine X73.ldc2DoubleC hx hown (mvT hZ (hw _ (List.mem_of_getElem? (i := 46) rfl))) (g := (mkF m 124 #[.val (.ref a1), .val (.int (2 : Int32)), .val (.int (2 : Int32)), .val (.double (FP.l2d r2)), .second, .val (.double (FP.l2d r0)), .second] [(.double (FP.l2d w2)), (.int (3 : Int32)), (.ref b5)])) rfl (hb hby d8_124) _ ?_
    show Steps p.tables e below (T73.setTop (mkF m 127 #[.val (.ref a1), .val (.int (2 : Int32)), .val (.int (2 : Int32)), .val (.double (FP.l2d r2)), .second, .val (.double (FP.l2d r0)), .second] [(.double (4613937818241073152 : UInt64)), (.double (FP.l2d w2)), (.int (3 : Int32)), (.ref b5)])) _
    refine XS.iloadN X73.here hx rfl (hb hby d8_127) rfl ?_
    show Steps p.tables e below (T73.setTop (mkF m 128 #[.val (.ref a1), .val (.int (2 : Int32)), .val (.int (2 : Int32)), .val (.double (FP.l2d r2)), .second, .val (.double (FP.l2d r0)), .second] [(.int (2 : Int32)), (.double (4613937818241073152 : UInt64)), (.double (FP.l2d w2)), (.int (3 : Int32)), (.ref b5)])) _
    refine XS.i2dS X73.here hx rfl (hb hby d8_128) rfl (i2d_w _ : FP.i2d (2 : Int32) = FP.l2d (2 : Int64)) ?_
    show Steps p.tables e below (T73.setTop (mkF m 129 #[.val (.ref a1), .val (.int (2 : Int32)), .val (.int (2 : Int32)), .val (.double (FP.l2d r2)), .second, .val (.double (FP.l2d r0)), .second] [(.double (FP.l2d (2 : Int64))), (.double (4613937818241073152 : UInt64)), (.double (FP.l2d w2)), (.int (3 : Int32)), (.ref b5)])) _
    refine XS.dmulS X73.here hx rfl (hb hby d8_129) rfl (nn_w Ed75) Ed75 ?_
    show Steps p.tables e below (T73.setTop (mkF m 130 #[.val (.ref a1), .val (.int (2 : Int32)), .val (.int (2 : Int32)), .val (.double (FP.l2d r2)), .second, .val (.double (FP.l2d r0)), .second] [(.double (FP.l2d (6 : Int64))), (.double (FP.l2d w2)), (.int (3 : Int32)), (.ref b5)])) _
    refine XS.dloadN X73.here hx rfl (hb hby d8_130) rfl ?_
    show Steps p.tables e below (T73.setTop (mkF m 131 #[.val (.ref a1), .val (.int (2 : Int32)), .val (.int (2 : Int32)), .val (.double (FP.l2d r2)), .second, .val (.double (FP.l2d r0)), .second] [(.double (FP.l2d r2)), (.double (FP.l2d (6 : Int64))), (.double (FP.l2d w2)), (.int (3 : Int32)), (.ref b5)])) _
    refine XS.dload X73.here hx rfl (hb hby d8_131) rfl ?_
    show Steps p.tables e below (T73.setTop (mkF m 133 #[.val (.ref a1), .val (.int (2 : Int32)), .val (.int (2 : Int32)), .val (.double (FP.l2d r2)), .second, .val (.double (FP.l2d r0)), .second] [(.double (FP.l2d r0)), (.double (FP.l2d r2)), (.double (FP.l2d (6 : Int64))), (.double (FP.l2d w2)), (.int (3 : Int32)), (.ref b5)])) _
    refine XS.daddS X73.here hx rfl (hb hby d8_133) rfl (nn_w Ed76) Ed76 ?_
    show Steps p.tables e below (T73.setTop (mkF m 134 #[.val (.ref a1), .val (.int (2 : Int32)), .val (.int (2 : Int32)), .val (.double (FP.l2d r2)), .second, .val (.double (FP.l2d r0)), .second] [(.double (FP.l2d (r2 + r0))), (.double (FP.l2d (6 : Int64))), (.double (FP.l2d w2)), (.int (3 : Int32)), (.ref b5)])) _
    refine XS.dmulS X73.here hx rfl (hb hby d8_134) rfl (nn_w Ed77) Ed77 ?_
    show Steps p.tables e below (T73.setTop (mkF m 135 #[.val (.ref a1), .val (.int (2 : Int32)), .val (.int (2 : Int32)), .val (.double (FP.l2d r2)), .second, .val (.double (FP.l2d r0)), .second] [(.double (FP.l2d ((6 : Int64) * (r2 + r0)))), (.double (FP.l2d w2)), (.int (3 : Int32)), (.ref b5)])) _
    refine XS.daddS X73.here hx rfl (hb hby d8_135) rfl (nn_w Ed78) Ed78 ?_
    show Steps p.tables e below (T73.setTop (mkF m 136 #[.val (.ref a1), .val (.int (2 : Int32)), .val (.int (2 : Int32)), .val (.double (FP.l2d r2)), .second, .val (.double (FP.l2d r0)), .second] [(.double (FP.l2d (w2 + ((6 : Int64) * (r2 + r0))))), (.int (3 : Int32)), (.ref b5)])) _
    refine XS.dloadN X73.here hx rfl (hb hby d8_136) rfl ?_
    show Steps p.tables e below (T73.setTop (mkF m 137 #[.val (.ref a1), .val (.int (2 : Int32)), .val (.int (2 : Int32)), .val (.double (FP.l2d r2)), .second, .val (.double (FP.l2d r0)), .second] [(.double (FP.l2d r2)), (.double (FP.l2d (w2 + ((6 : Int64) * (r2 + r0))))), (.int (3 : Int32)), (.ref b5)])) _
    refine XS.daddS X73.here hx rfl (hb hby d8_137) rfl (nn_w Ed79) Ed79 ?_
    show Steps p.tables e below (T73.setTop (mkF m 138 #[.val (.ref a1), .val (.int (2 : Int32)), .val (.int (2 : Int32)), .val (.double (FP.l2d r2)), .second, .val (.double (FP.l2d r0)), .second] [(.double (FP.l2d ((w2 + ((6 : Int64) * (r2 + r0))) + r2))), (.int (3 : Int32)), (.ref b5)])) _
    refine X73.ldc2DoubleC hx hown (mvT hZ (hw _ (List.mem_of_getElem? (i := 47) rfl))) (g := (mkF m 138 #[.val (.ref a1), .val (.int (2 : Int32)), .val (.int (2 : Int32)), .val (.double (FP.l2d r2)), .second, .val (.double (FP.l2d r0)), .second] [(.double (FP.l2d ((w2 + ((6 : Int64) * (r2 + r0))) + r2))), (.int (3 : Int32)), (.ref b5)])) rfl (hb hby d8_138) _ ?_
    show Steps p.tables e below (T73.setTop (mkF m 141 #[.val (.ref a1), .val (.int (2 : Int32)), .val (.int (2 : Int32)), .val (.double (FP.l2d r2)), .second, .val (.double (FP.l2d r0)), .second] [(.double (4611686018427387904 : UInt64)), (.double (FP.l2d ((w2 + ((6 : Int64) * (r2 + r0))) + r2))), (.int (3 : Int32)), (.ref b5)])) _
    refine XS.dload X73.here hx rfl (hb hby d8_141) rfl ?_
    show Steps p.tables e below (T73.setTop (mkF m 143 #[.val (.ref a1), .val (.int (2 : Int32)), .val (.int (2 : Int32)), .val (.double (FP.l2d r2)), .second, .val (.double (FP.l2d r0)), .second] [(.double (FP.l2d r0)), (.double (4611686018427387904 : UInt64)), (.double (FP.l2d ((w2 + ((6 : Int64) * (r2 + r0))) + r2))), (.int (3 : Int32)), (.ref b5)])) _
    refine XS.dmulS X73.here hx rfl (hb hby d8_143) rfl (nn_w Ed80) Ed80 ?_
    show Steps p.tables e below (T73.setTop (mkF m 144 #[.val (.ref a1), .val (.int (2 : Int32)), .val (.int (2 : Int32)), .val (.double (FP.l2d r2)), .second, .val (.double (FP.l2d r0)), .second] [(.double (FP.l2d ((2 : Int64) * r0))), (.double (FP.l2d ((w2 + ((6 : Int64) * (r2 + r0))) + r2))), (.int (3 : Int32)), (.ref b5)])) _
    refine XS.daddS X73.here hx rfl (hb hby d8_144) rfl (nn_w Ed81) Ed81 ?_
    show Steps p.tables e below (T73.setTop (mkF m 145 #[.val (.ref a1), .val (.int (2 : Int32)), .val (.int (2 : Int32)), .val (.double (FP.l2d r2)), .second, .val (.double (FP.l2d r0)), .second] [(.double (FP.l2d (((w2 + ((6 : Int64) * (r2 + r0))) + r2) + ((2 : Int64) * r0)))), (.int (3 : Int32)), (.ref b5)])) _
    exact k
  obtain ⟨w3, hw3⟩ : ∃ z : Int64, z = (((w2 + ((6 : Int64) * (r2 + r0))) + r2) + ((2 : Int64) * r0)) := ⟨_, rfl⟩
  rw [← hw3] at pre82 Rd81 Td81
  have z0' : (0 : Int64).toInt = 0 := rfl
  have Tw3 : w3.toInt = w2.toInt + 6 * (r2.toInt + r0.toInt) + r2.toInt + 2 * r0.toInt := by omega
  clear Td76 Td77 Td78 Td79 Td80 Td81
  obtain ⟨cl83, Ar83, q83, S83, M83, H83, G83⟩ := id (V58.other W71 (Ne.symm ne_b2_b5))
  have hin83 : ¬ ((3 : Int32) < 0 ∨ cl83.slots.size ≤ ((3 : Int32)).toNatClampNeg) := inb_of S83 ⟨by decide, by decide⟩
  obtain ⟨T84, h84, X84, e84, W84, st84⟩ := stD X73 hx hZ e73 Ar83 (j := (3 : Int32)) hin83 (g := (mkF m 145 #[.val (.ref a1), .val (.int (2 : Int32)), .val (.int (2 : Int32)), .val (.double (FP.l2d r2)), .second, .val (.double (FP.l2d r0)), .second] [(.double (FP.l2d w3)), (.int (3 : Int32)), (.ref b5)])) rfl rfl (hb hby d8_145)
  have V84 : Arv Z h84 b5 k5 .double (7 : Int32) [(.double (FP.l2d 0)), (.double (FP.l2d w1)), (.double (FP.l2d w2)), (.double (FP.l2d w3)), (.double (FP.l2d 0)), (.double (FP.l2d 0)), (.double (FP.l2d 0))] (.double (FP.l2d 0)) := Arv.set Ar83 q83 S83 M83 H83 G83 rfl W84 3 rfl (Nat.le_of_ble_eq_true rfl)
  have K84 : Keep h0 h84 [a1] := K71.wr W84 (Or.inr sz_b5)
  have N84 := Fr.snoc X84 N71 g_b5
  obtain ⟨T85, X85, e85, st85⟩ := getF X84 hx hZ hown (host := "") (Or.inl (hw _ (List.mem_of_getElem? (i := 28) rfl))) Via.refl e84 ((((((((((F0.ext E2).other W3 (Or.inr (slot_ne (Or.inr (hw _ (List.mem_of_getElem? (i := 29) rfl))) (Or.inl (hw _ (List.mem_of_getElem? (i := 38) rfl))) (by decide) (t := .int) (t' := (.array .double)) (by decide) (by decide)))).ext E5).other W6 (Or.inr (slot_ne (Or.inr (hw _ (List.mem_of_getElem? (i := 29) rfl))) (Or.inl (hw _ (List.mem_of_getElem? (i := 45) rfl))) (by decide) (t := .int) (t' := (.array .double)) (by decide) (by decide)))).other W19 (Or.inl ne_a1_b2)).other W32 (Or.inl ne_a1_b5)).other W45 (Or.inl ne_a1_b2)).other W58 (Or.inl ne_a1_b5)).other W71 (Or.inl ne_a1_b2)).other W84 (Or.inl ne_a1_b5)) (g := (mkF m 33 #[.val (.ref a1), .val (.int (3 : Int32)), .val (.int (2 : Int32)), .val (.double (FP.l2d r2)), .second, .val (.double (FP.l2d r0)), .second] [(.ref a1), (.int (2 : Int32)), (.int (3 : Int32))])) rfl rfl (hb hby d8_33)
  obtain ⟨T86, X86, e86, st86⟩ := getF X85 hx hZ hown (host := "") (Or.inl (hw _ (List.mem_of_getElem? (i := 28) rfl))) Via.refl e85 ((((((((((F0.ext E2).other W3 (Or.inr (slot_ne (Or.inr (hw _ (List.mem_of_getElem? (i := 29) rfl))) (Or.inl (hw _ (List.mem_of_getElem? (i := 38) rfl))) (by decide) (t := .int) (t' := (.array .double)) (by decide) (by decide)))).ext E5).other W6 (Or.inr (slot_ne (Or.inr (hw _ (List.mem_of_getElem? (i := 29) rfl))) (Or.inl (hw _ (List.mem_of_getElem? (i := 45) rfl))) (by decide) (t := .int) (t' := (.array .double)) (by decide) (by decide)))).other W19 (Or.inl ne_a1_b2)).other W32 (Or.inl ne_a1_b5)).other W45 (Or.inl ne_a1_b2)).other W58 (Or.inl ne_a1_b5)).other W71 (Or.inl ne_a1_b2)).other W84 (Or.inl ne_a1_b5)) (g := (mkF m 42 #[.val (.ref a1), .val (.int (3 : Int32)), .val (.int (2 : Int32)), .val (.double (FP.l2d r2)), .second, .val (.double (FP.l2d r0)), .second] [(.ref a1), (.int (3 : Int32))])) rfl rfl (hb hby d8_42)
  obtain ⟨T87, X87, e87, st87⟩ := getF X86 hx hZ hown (host := "") (Or.inl (hw _ (List.mem_of_getElem? (i := 28) rfl))) Via.refl e86 ((((((((((F0.ext E2).other W3 (Or.inr (slot_ne (Or.inr (hw _ (List.mem_of_getElem? (i := 29) rfl))) (Or.inl (hw _ (List.mem_of_getElem? (i := 38) rfl))) (by decide) (t := .int) (t' := (.array .double)) (by decide) (by decide)))).ext E5).other W6 (Or.inr (slot_ne (Or.inr (hw _ (List.mem_of_getElem? (i := 29) rfl))) (Or.inl (hw _ (List.mem_of_getElem? (i := 45) rfl))) (by decide) (t := .int) (t' := (.array .double)) (by decide) (by decide)))).other W19 (Or.inl ne_a1_b2)).other W32 (Or.inl ne_a1_b5)).other W45 (Or.inl ne_a1_b2)).other W58 (Or.inl ne_a1_b5)).other W71 (Or.inl ne_a1_b2)).other W84 (Or.inl ne_a1_b5)) (g := (mkF m 54 #[.val (.ref a1), .val (.int (3 : Int32)), .val (.int (2 : Int32)), .val (.double (FP.l2d r2)), .second, .val (.double (FP.l2d r0)), .second] [(.ref a1), (.int (3 : Int32))])) rfl rfl (hb hby d8_54)
  obtain ⟨T88, X88, e88, st88⟩ := getF X87 hx hZ hown (host := "") (Or.inl (hw _ (List.mem_of_getElem? (i := 30) rfl))) Via.refl e87 ((((((((((F1.ext E2).other W3 (Or.inr (slot_ne (Or.inr (hw _ (List.mem_of_getElem? (i := 31) rfl))) (Or.inl (hw _ (List.mem_of_getElem? (i := 38) rfl))) (by decide) (t := (.array .long)) (t' := (.array .double)) (by decide) (by decide)))).ext E5).other W6 (Or.inr (slot_ne (Or.inr (hw _ (List.mem_of_getElem? (i := 31) rfl))) (Or.inl (hw _ (List.mem_of_getElem? (i := 45) rfl))) (by decide) (t := (.array .long)) (t' := (.array .double)) (by decide) (by decide)))).other W19 (Or.inl ne_a1_b2)).other W32 (Or.inl ne_a1_b5)).other W45 (Or.inl ne_a1_b2)).other W58 (Or.inl ne_a1_b5)).other W71 (Or.inl ne_a1_b2)).other W84 (Or.inl ne_a1_b5)) (g := (mkF m 60 #[.val (.ref a1), .val (.int (3 : Int32)), .val (.int (0 : Int32)), .val (.double (FP.l2d r2)), .second, .val (.double (FP.l2d r0)), .second] [(.ref a1)])) rfl rfl (hb hby d8_60)
  obtain ⟨T89, X89, e89, st89⟩ := getF X88 hx hZ hown (host := "") (Or.inl (hw _ (List.mem_of_getElem? (i := 30) rfl))) Via.refl e88 ((((((((((F1.ext E2).other W3 (Or.inr (slot_ne (Or.inr (hw _ (List.mem_of_getElem? (i := 31) rfl))) (Or.inl (hw _ (List.mem_of_getElem? (i := 38) rfl))) (by decide) (t := (.array .long)) (t' := (.array .double)) (by decide) (by decide)))).ext E5).other W6 (Or.inr (slot_ne (Or.inr (hw _ (List.mem_of_getElem? (i := 31) rfl))) (Or.inl (hw _ (List.mem_of_getElem? (i := 45) rfl))) (by decide) (t := (.array .long)) (t' := (.array .double)) (by decide) (by decide)))).other W19 (Or.inl ne_a1_b2)).other W32 (Or.inl ne_a1_b5)).other W45 (Or.inl ne_a1_b2)).other W58 (Or.inl ne_a1_b5)).other W71 (Or.inl ne_a1_b2)).other W84 (Or.inl ne_a1_b5)) (g := (mkF m 68 #[.val (.ref a1), .val (.int (3 : Int32)), .val (.int (0 : Int32)), .val (.double (FP.l2d r0)), .second, .val (.double (FP.l2d r0)), .second] [(.ref a1)])) rfl rfl (hb hby d8_68)
  obtain ⟨T90, X90, e90, st90⟩ := getF X89 hx hZ hown (host := "") (Or.inl (hw _ (List.mem_of_getElem? (i := 28) rfl))) Via.refl e89 ((((((((((F0.ext E2).other W3 (Or.inr (slot_ne (Or.inr (hw _ (List.mem_of_getElem? (i := 29) rfl))) (Or.inl (hw _ (List.mem_of_getElem? (i := 38) rfl))) (by decide) (t := .int) (t' := (.array .double)) (by decide) (by decide)))).ext E5).other W6 (Or.inr (slot_ne (Or.inr (hw _ (List.mem_of_getElem? (i := 29) rfl))) (Or.inl (hw _ (List.mem_of_getElem? (i := 45) rfl))) (by decide) (t := .int) (t' := (.array .double)) (by decide) (by decide)))).other W19 (Or.inl ne_a1_b2)).other W32 (Or.inl ne_a1_b5)).other W45 (Or.inl ne_a1_b2)).other W58 (Or.inl ne_a1_b5)).other W71 (Or.inl ne_a1_b2)).other W84 (Or.inl ne_a1_b5)) (g := (mkF m 75 #[.val (.ref a1), .val (.int (3 : Int32)), .val (.int (0 : Int32)), .val (.double (FP.l2d r0)), .second, .val (.double (FP.l2d r0)), .second] [(.ref a1), (.int (1 : Int32)), (.ref a2)])) rfl rfl (hb hby d8_75)
  obtain ⟨T91, X91, e91, st91⟩ := getF X90 hx hZ hown (host := "") (Or.inl (hw _ (List.mem_of_getElem? (i := 37) rfl))) Via.refl e90 ((((((((Fw3.ext E5).other W6 (Or.inr (slot_ne (Or.inl (hw _ (List.mem_of_getElem? (i := 38) rfl))) (Or.inl (hw _ (List.mem_of_getElem? (i := 45) rfl))) (by decide) (t := (.array .double)) (t' := (.array .double)) (by decide) (by decide)))).other W19 (Or.inl ne_a1_b2)).other W32 (Or.inl ne_a1_b5)).other W45 (Or.inl ne_a1_b2)).other W58 (Or.inl ne_a1_b5)).other W71 (Or.inl ne_a1_b2)).other W84 (Or.inl ne_a1_b5)) (g := (mkF m 93 #[.val (.ref a1), .val (.int (3 : Int32)), .val (.int (0 : Int32)), .val (.double (FP.l2d r0)), .second, .val (.double (FP.l2d r1)), .second] [(.ref a1)])) rfl rfl (hb hby d8_93)
  obtain ⟨T92, X92, e92, st92⟩ := getF X91 hx hZ hown (host := "") (Or.inl (hw _ (List.mem_of_getElem? (i := 37) rfl))) Via.refl e91 ((((((((Fw3.ext E5).other W6 (Or.inr (slot_ne (Or.inl (hw _ (List.mem_of_getElem? (i := 38) rfl))) (Or.inl (hw _ (List.mem_of_getElem? (i := 45) rfl))) (by decide) (t := (.array .double)) (t' := (.array .double)) (by decide) (by decide)))).other W19 (Or.inl ne_a1_b2)).other W32 (Or.inl ne_a1_b5)).other W45 (Or.inl ne_a1_b2)).other W58 (Or.inl ne_a1_b5)).other W71 (Or.inl ne_a1_b2)).other W84 (Or.inl ne_a1_b5)) (g := (mkF m 100 #[.val (.ref a1), .val (.int (3 : Int32)), .val (.int (0 : Int32)), .val (.double (FP.l2d r0)), .second, .val (.double (FP.l2d r1)), .second] [(.ref a1), (.int (4 : Int32)), (.ref b2)])) rfl rfl (hb hby d8_100)
  obtain ⟨cl93, Ar93, q93, S93, M93, H93, G93⟩ := id (V71.other W84 ne_b2_b5)
  have Ed94 : FP.dadd (FP.l2d m3) (FP.l2d r0) = FP.l2d (m3 + r0) := own_dadd Rd68 hr0 (by decide)
  obtain ⟨Rd94, Td94⟩ := own_Radd Rd68 hr0 (by decide)
  have Ed95 : FP.dadd (FP.l2d (m3 + r0)) (FP.l2d r1) = FP.l2d ((m3 + r0) + r1) := own_dadd Rd94 hr1 (by decide)
  obtain ⟨Rd95, Td95⟩ := own_Radd Rd94 hr1 (by decide)
  have pre96 : ∀ t, Steps p.tables e below (T92.setTop (mkF m 110 #[.val (.ref a1), .val (.int (3 : Int32)), .val (.int (0 : Int32)), .val (.double (FP.l2d r0)), .second, .val (.double (FP.l2d r1)), .second] [(.double (FP.l2d ((m3 + r0) + r1))), (.int (4 : Int32)), (.ref b2)])) t → Steps p.tables e below (s₁.setTop (entryFrame m #[(.ref a1)] 7)) t := by
    intro t k
    refine pre82 t ?_
    refine st84 _ ?_
    show Steps p.tables e below (T84.setTop (mkF m 146 #[.val (.ref a1), .val (.int (2 : Int32)), .val (.int (2 : Int32)), .val (.double (FP.l2d r2)), .second, .val (.double (FP.l2d r0)), .second] [])) _
    refine XS.iinc X84.here hx rfl (hb hby d8_146) rfl (l' := #[.val (.ref a1), .val (.int (3 : Int32)), .val (.int (2 : Int32)), .val (.double (FP.l2d r2)), .second, .val (.double (FP.l2d r0)), .second]) rfl ?_
    show Steps p.tables e below (T84.setTop (mkF m 149 #[.val (.ref a1), .val (.int (3 : Int32)), .val (.int (2 : Int32)), .val (.double (FP.l2d r2)), .second, .val (.double (FP.l2d r0)), .second] [])) _
    refine XS.goto X84.here hx rfl (pc0 := 149) (pc' := 30) rfl (hb hby d8_149) (by decide) (by decide) ?_
    show Steps p.tables e below (T84.setTop (mkF m 30 #[.val (.ref a1), .val (.int (3 : Int32)), .val (.int (2 : Int32)), .val (.double (FP.l2d r2)), .second, .val (.double (FP.l2d r0)), .second] [])) _
    refine XS.iloadN X84.here hx rfl (hb hby d8_30) rfl ?_
    show Steps p.tables e below (T84.setTop (mkF m 31 #[.val (.ref a1), .val (.int (3 : Int32)), .val (.int (2 : Int32)), .val (.double (FP.l2d r2)), .second, .val (.double (FP.l2d r0)), .second] [(.int (3 : Int32))])) _
    refine XS.iconst X84.here hx rfl (hb hby d8_31) ?_
    show Steps p.tables e below (T84.setTop (mkF m 32 #[.val (.ref a1), .val (.int (3 : Int32)), .val (.int (2 : Int32)), .val (.double (FP.l2d r2)), .second, .val (.double (FP.l2d r0)), .second] [(.int (2 : Int32)), (.int (3 : Int32))])) _
    refine XS.aloadN X84.here hx rfl (hb hby d8_32) rfl (rfl) ?_
    show Steps p.tables e below (T84.setTop (mkF m 33 #[.val (.ref a1), .val (.int (3 : Int32)), .val (.int (2 : Int32)), .val (.double (FP.l2d r2)), .second, .val (.double (FP.l2d r0)), .second] [(.ref a1), (.int (2 : Int32)), (.int (3 : Int32))])) _
    refine st85 _ ?_
    show Steps p.tables e below (T85.setTop (mkF m 36 #[.val (.ref a1), .val (.int (3 : Int32)), .val (.int (2 : Int32)), .val (.double (FP.l2d r2)), .second, .val (.double (FP.l2d r0)), .second] [(.int (3 : Int32)), (.int (2 : Int32)), (.int (3 : Int32))])) _
    refine XS.imul X85.here hx rfl (hb hby d8_36) rfl ?_
    show Steps p.tables e below (T85.setTop (mkF m 37 #[.val (.ref a1), .val (.int (3 : Int32)), .val (.int (2 : Int32)), .val (.double (FP.l2d r2)), .second, .val (.double (FP.l2d r0)), .second] [(.int (6 : Int32)), (.int (3 : Int32))])) _
    refine XS.icmpNo X85.here hx rfl (hb hby d8_37) rfl (tlt (by decide : (3 : Int32) < (6 : Int32))).2.1 ?_
    show Steps p.tables e below (T85.setTop (mkF m 40 #[.val (.ref a1), .val (.int (3 : Int32)), .val (.int (2 : Int32)), .val (.double (FP.l2d r2)), .second, .val (.double (FP.l2d r0)), .second] [])) _
    refine XS.iloadN X85.here hx rfl (hb hby d8_40) rfl ?_
    show Steps p.tables e below (T85.setTop (mkF m 41 #[.val (.ref a1), .val (.int (3 : Int32)), .val (.int (2 : Int32)), .val (.double (FP.l2d r2)), .second, .val (.double (FP.l2d r0)), .second] [(.int (3 : Int32))])) _
    refine XS.aloadN X85.here hx rfl (hb hby d8_41) rfl (rfl) ?_
    show Steps p.tables e below (T85.setTop (mkF m 42 #[.val (.ref a1), .val (.int (3 : Int32)), .val (.int (2 : Int32)), .val (.double (FP.l2d r2)), .second, .val (.double (FP.l2d r0)), .second] [(.ref a1), (.int (3 : Int32))])) _
    refine st86 _ ?_
    show Steps p.tables e below (T86.setTop (mkF m 45 #[.val (.ref a1), .val (.int (3 : Int32)), .val (.int (2 : Int32)), .val (.double (FP.l2d r2)), .second, .val (.double (FP.l2d r0)), .second] [(.int (3 : Int32)), (.int (3 : Int32))])) _
    refine XS.icmpYes X86.here hx rfl (pc0 := 45) (pc' := 52) rfl (hb hby d8_45) rfl (flt (by decide : ¬ ((3 : Int32) < (3 : Int32)))).2.1 (by decide) (by decide) ?_
    show Steps p.tables e below (T86.setTop (mkF m 52 #[.val (.ref a1), .val (.int (3 : Int32)), .val (.int (2 : Int32)), .val (.double (FP.l2d r2)), .second, .val (.double (FP.l2d r0)), .second] [])) _
    refine XS.iloadN X86.here hx rfl (hb hby d8_52) rfl ?_
    show Steps p.tables e below (T86.setTop (mkF m 53 #[.val (.ref a1), .val (.int (3 : Int32)), .val (.int (2 : Int32)), .val (.double (FP.l2d r2)), .second, .val (.double (FP.l2d r0)), .second] [(.int (3 : Int32))])) _
    refine XS.aloadN X86.here hx rfl (hb hby d8_53) rfl (rfl) ?_
    show Steps p.tables e below (T86.setTop (mkF m 54 #[.val (.ref a1), .val (.int (3 : Int32)), .val (.int (2 : Int32)), .val (.double (FP.l2d r2)), .second, .val (.double (FP.l2d r0)), .second] [(.ref a1), (.int (3 : Int32))])) _
    refine st87 _ ?_
    show Steps p.tables e below (T87.setTop (mkF m 57 #[.val (.ref a1), .val (.int (3 : Int32)), .val (.int (2 : Int32)), .val (.double (FP.l2d r2)), .second, .val (.double (FP.l2d r0)), .second] [(.int (3 : Int32)), (.int (3 : Int32))])) _
    refine XS.isub X87.here hx rfl (hb hby d8_57) rfl ?_
    show Steps p.tables e below (T87.setTop (mkF m 58 #[.val (.ref a1), .val (.int (3 : Int32)), .val (.int (2 : Int32)), .val (.double (FP.l2d r2)), .second, .val (.double (FP.l2d r0)), .second] [(.int (0 : Int32))])) _
    refine XS.istoreN X87.here hx rfl (hb hby d8_58) rfl (l' := #[.val (.ref a1), .val (.int (3 : Int32)), .val (.int (0 : Int32)), .val (.double (FP.l2d r2)), .second, .val (.double (FP.l2d r0)), .second]) rfl ?_
    show Steps p.tables e below (T87.setTop (mkF m 59 #[.val (.ref a1), .val (.int (3 : Int32)), .val (.int (0 : Int32)), .val (.double (FP.l2d r2)), .second, .val (.double (FP.l2d r0)), .second] [])) _
    refine XS.aloadN X87.here hx rfl (hb hby d8_59) rfl (rfl) ?_
    show Steps p.tables e below (T87.setTop (mkF m 60 #[.val (.ref a1), .val (.int (3 : Int32)), .val (.int (0 : Int32)), .val (.double (FP.l2d r2)), .second, .val (.double (FP.l2d r0)), .second] [(.ref a1)])) _
    refine st88 _ ?_
    show Steps p.tables e below (T88.setTop (mkF m 63 #[.val (.ref a1), .val (.int (3 : Int32)), .val (.int (0 : Int32)), .val (.double (FP.l2d r2)), .second, .val (.double (FP.l2d r0)), .second] [(.ref a2)])) _
    refine XS.iloadN X88.here hx rfl (hb hby d8_63) rfl ?_
    show Steps p.tables e below (T88.setTop (mkF m 64 #[.val (.ref a1), .val (.int (3 : Int32)), .val (.int (0 : Int32)), .val (.double (FP.l2d r2)), .second, .val (.double (FP.l2d r0)), .second] [(.int (0 : Int32)), (.ref a2)])) _
    refine X88.laload hx (j := (0 : Int32)) (v := (.long r0)) (by rw [e88]; exact ((((((((((Ar.ext E2).other W3 (ne_a2_a1)).ext E5).other W6 (ne_a2_a1)).other W19 ne_a2_b2).other W32 ne_a2_b5).other W45 ne_a2_b2).other W58 ne_a2_b5).other W71 ne_a2_b2).other W84 ne_a2_b5).1) (State.isArrayOf_alike hZ.alike ((((((((((Ar.ext E2).other W3 (ne_a2_a1)).ext E5).other W6 (ne_a2_a1)).other W19 ne_a2_b2).other W32 ne_a2_b5).other W45 ne_a2_b2).other W58 ne_a2_b5).other W71 ne_a2_b2).other W84 ne_a2_b5).2.1) ((((((((((Ar.ext E2).other W3 (ne_a2_a1)).ext E5).other W6 (ne_a2_a1)).other W19 ne_a2_b2).other W32 ne_a2_b5).other W45 ne_a2_b2).other W58 ne_a2_b5).other W71 ne_a2_b2).other W84 ne_a2_b5).2.2 (inb_of Sz ⟨by decide, by decide⟩) t0 (g := (mkF m 64 #[.val (.ref a1), .val (.int (3 : Int32)), .val (.int (0 : Int32)), .val (.double (FP.l2d r2)), .second, .val (.double (FP.l2d r0)), .second] [(.int (0 : Int32)), (.ref a2)])) rfl rfl (hb hby d8_64) _ ?_
    show Steps p.tables e below (T88.setTop (mkF m 65 #[.val (.ref a1), .val (.int (3 : Int32)), .val (.int (0 : Int32)), .val (.double (FP.l2d r2)), .second, .val (.double (FP.l2d r0)), .second] [(.long r0)])) _
    refine XS.l2dS X88.here hx rfl (hb hby d8_65) rfl rfl ?_
    show Steps p.tables e below (T88.setTop (mkF m 66 #[.val (.ref a1), .val (.int (3 : Int32)), .val (.int (0 : Int32)), .val (.double (FP.l2d r2)), .second, .val (.double (FP.l2d r0)), .second] [(.double (FP.l2d r0))])) _
    refine XS.dstoreN X88.here hx rfl (hb hby d8_66) rfl (l' := #[.val (.ref a1), .val (.int (3 : Int32)), .val (.int (0 : Int32)), .val (.double (FP.l2d r0)), .second, .val (.double (FP.l2d r0)), .second]) rfl ?_
    show Steps p.tables e below (T88.setTop (mkF m 67 #[.val (.ref a1), .val (.int (3 : Int32)), .val (.int (0 : Int32)), .val (.double (FP.l2d r0)), .second, .val (.double (FP.l2d r0)), .second] [])) _
    refine XS.aloadN X88.here hx rfl (hb hby d8_67) rfl (rfl) ?_
    show Steps p.tables e below (T88.setTop (mkF m 68 #[.val (.ref a1), .val (.int (3 : Int32)), .val (.int (0 : Int32)), .val (.double (FP.l2d r0)), .second, .val (.double (FP.l2d r0)), .second] [(.ref a1)])) _
    refine st89 _ ?_
    show Steps p.tables e below (T89.setTop (mkF m 71 #[.val (.ref a1), .val (.int (3 : Int32)), .val (.int (0 : Int32)), .val (.double (FP.l2d r0)), .second, .val (.double (FP.l2d r0)), .second] [(.ref a2)])) _
    refine XS.iloadN X89.here hx rfl (hb hby d8_71) rfl ?_
    show Steps p.tables e below (T89.setTop (mkF m 72 #[.val (.ref a1), .val (.int (3 : Int32)), .val (.int (0 : Int32)), .val (.double (FP.l2d r0)), .second, .val (.double (FP.l2d r0)), .second] [(.int (0 : Int32)), (.ref a2)])) _
    refine XS.iconst X89.here hx rfl (hb hby d8_72) ?_
    show Steps p.tables e below (T89.setTop (mkF m 73 #[.val (.ref a1), .val (.int (3 : Int32)), .val (.int (0 : Int32)), .val (.double (FP.l2d r0)), .second, .val (.double (FP.l2d r0)), .second] [(.int (1 : Int32)), (.int (0 : Int32)), (.ref a2)])) _
    refine XS.iadd X89.here hx rfl (hb hby d8_73) rfl ?_
    show Steps p.tables e below (T89.setTop (mkF m 74 #[.val (.ref a1), .val (.int (3 : Int32)), .val (.int (0 : Int32)), .val (.double (FP.l2d r0)), .second, .val (.double (FP.l2d r0)), .second] [(.int (1 : Int32)), (.ref a2)])) _
    refine XS.aloadN X89.here hx rfl (hb hby d8_74) rfl (rfl) ?_
    show Steps p.tables e below (T89.setTop (mkF m 75 #[.val (.ref a1), .val (.int (3 : Int32)), .val (.int (0 : Int32)), .val (.double (FP.l2d r0)), .second, .val (.double (FP.l2d r0)), .second] [(.ref a1), (.int (1 : Int32)), (.ref a2)])) _
    refine st90 _ ?_
    show Steps p.tables e below (T90.setTop (mkF m 78 #[.val (.ref a1), .val (.int (3 : Int32)), .val (.int (0 : Int32)), .val (.double (FP.l2d r0)), .second, .val (.double (FP.l2d r0)), .second] [(.int (3 : Int32)), (.int (1 : Int32)), (.ref a2)])) _
    refine XS.icmpNo X90.here hx rfl (hb hby d8_78) rfl (tlt (by decide : (1 : Int32) < (3 : Int32))).2.1 ?_
    show Steps p.tables e below (T90.setTop (mkF m 81 #[.val (.ref a1), .val (.int (3 : Int32)), .val (.int (0 : Int32)), .val (.double (FP.l2d r0)), .second, .val (.double (FP.l2d r0)), .second] [(.ref a2)])) _
    refine XS.iloadN X90.here hx rfl (hb hby d8_81) rfl ?_
    show Steps p.tables e below (T90.setTop (mkF m 82 #[.val (.ref a1), .val (.int (3 : Int32)), .val (.int (0 : Int32)), .val (.double (FP.l2d r0)), .second, .val (.double (FP.l2d r0)), .second] [(.int (0 : Int32)), (.ref a2)])) _
    refine XS.iconst X90.here hx rfl (hb hby d8_82) ?_
    show Steps p.tables e below (T90.setTop (mkF m 83 #[.val (.ref a1), .val (.int (3 : Int32)), .val (.int (0 : Int32)), .val (.double (FP.l2d r0)), .second, .val (.double (FP.l2d r0)), .second] [(.int (1 : Int32)), (.int (0 : Int32)), (.ref a2)])) _
    refine XS.iadd X90.here hx rfl (hb hby d8_83) rfl ?_
    show Steps p.tables e below (T90.setTop (mkF m 84 #[.val (.ref a1), .val (.int (3 : Int32)), .val (.int (0 : Int32)), .val (.double (FP.l2d r0)), .second, .val (.double (FP.l2d r0)), .second] [(.int (1 : Int32)), (.ref a2)])) _
    refine XS.goto X90.here hx rfl (pc0 := 84) (pc' := 88) rfl (hb hby d8_84) (by decide) (by decide) ?_
    show Steps p.tables e below (T90.setTop (mkF m 88 #[.val (.ref a1), .val (.int (3 : Int32)), .val (.int (0 : Int32)), .val (.double (FP.l2d r0)), .second, .val (.double (FP.l2d r0)), .second] [(.int (1 : Int32)), (.ref a2)])) _
    refine X90.laload hx (j := (1 : Int32)) (v := (.long r1)) (by rw [e90]; exact ((((((((((Ar.ext E2).other W3 (ne_a2_a1)).ext E5).other W6 (ne_a2_a1)).other W19 ne_a2_b2).other W32 ne_a2_b5).other W45 ne_a2_b2).other W58 ne_a2_b5).other W71 ne_a2_b2).other W84 ne_a2_b5).1) (State.isArrayOf_alike hZ.alike ((((((((((Ar.ext E2).other W3 (ne_a2_a1)).ext E5).other W6 (ne_a2_a1)).other W19 ne_a2_b2).other W32 ne_a2_b5).other W45 ne_a2_b2).other W58 ne_a2_b5).other W71 ne_a2_b2).other W84 ne_a2_b5).2.1) ((((((((((Ar.ext E2).other W3 (ne_a2_a1)).ext E5).other W6 (ne_a2_a1)).other W19 ne_a2_b2).other W32 ne_a2_b5).other W45 ne_a2_b2).other W58 ne_a2_b5).other W71 ne_a2_b2).other W84 ne_a2_b5).2.2 (inb_of Sz ⟨by decide, by decide⟩) t1 (g := (mkF m 88 #[.val (.ref a1), .val (.int (3 : Int32)), .val (.int (0 : Int32)), .val (.double (FP.l2d r0)), .second, .val (.double (FP.l2d r0)), .second] [(.int (1 : Int32)), (.ref a2)])) rfl rfl (hb hby d8_88) _ ?_
    show Steps p.tables e below (T90.setTop (mkF m 89 #[.val (.ref a1), .val (.int (3 : Int32)), .val (.int (0 : Int32)), .val (.double (FP.l2d r0)), .second, .val (.double (FP.l2d r0)), .second] [(.long r1)])) _
    refine XS.l2dS X90.here hx rfl (hb hby d8_89) rfl rfl ?_
    show Steps p.tables e below (T90.setTop (mkF m 90 #[.val (.ref a1), .val (.int (3 : Int32)), .val (.int (0 : Int32)), .val (.double (FP.l2d r0)), .second, .val (.double (FP.l2d r0)), .second] [(.double (FP.l2d r1))])) _
    refine XS.dstore X90.here hx rfl (hb hby d8_90) rfl (l' := #[.val (.ref a1), .val (.int (3 : Int32)), .val (.int (0 : Int32)), .val (.double (FP.l2d r0)), .second, .val (.double (FP.l2d r1)), .second]) rfl ?_
    show Steps p.tables e below (T90.setTop (mkF m 92 #[.val (.ref a1), .val (.int (3 : Int32)), .val (.int (0 : Int32)), .val (.double (FP.l2d r0)), .second, .val (.double (FP.l2d r1)), .second] [])) _
    refine XS.aloadN X90.here hx rfl (hb hby d8_92) rfl (rfl) ?_
    show Steps p.tables e below (T90.setTop (mkF m 93 #[.val (.ref a1), .val (.int (3 : Int32)), .val (.int (0 : Int32)), .val (.double (FP.l2d r0)), .second, .val (.double (FP.l2d r1)), .second] [(.ref a1)])) _
    refine st91 _ ?_
    show Steps p.tables e below (T91.setTop (mkF m 96 #[.val (.ref a1), .val (.int (3 : Int32)), .val (.int (0 : Int32)), .val (.double (FP.l2d r0)), .second, .val (.double (FP.l2d r1)), .second] [(.ref b2)])) _
    refine XS.iloadN X91.here hx rfl (hb hby d8_96) rfl ?_
    show Steps p.tables e below (T91.setTop (mkF m 97 #[.val (.ref a1), .val (.int (3 : Int32)), .val (.int (0 : Int32)), .val (.double (FP.l2d r0)), .second, .val (.double (FP.l2d r1)), .second] [(.int (3 : Int32)), (.ref b2)])) _
    refine XS.iconst X91.here hx rfl (hb hby d8_97) ?_
    show Steps p.tables e below (T91.setTop (mkF m 98 #[.val (.ref a1), .val (.int (3 : Int32)), .val (.int (0 : Int32)), .val (.double (FP.l2d r0)), .second, .val (.double (FP.l2d r1)), .second] [(.int (1 : Int32)), (.int (3 : Int32)), (.ref b2)])) _
    refine XS.iadd X91.here hx rfl (hb hby d8_98) rfl ?_
    show Steps p.tables e below (T91.setTop (mkF m 99 #[.val (.ref a1), .val (.int (3 : Int32)), .val (.int (0 : Int32)), .val (.double (FP.l2d r0)), .second, .val (.double (FP.l2d r1)), .second] [(.int (4 : Int32)), (.ref b2)])) _
    refine XS.aloadN X91.here hx rfl (hb hby d8_99) rfl (rfl) ?_
    show Steps p.tables e below (T91.setTop (mkF m 100 #[.val (.ref a1), .val (.int (3 : Int32)), .val (.int (0 : Int32)), .val (.double (FP.l2d r0)), .second, .val (.double (FP.l2d r1)), .second] [(.ref a1), (.int (4 : Int32)), (.ref b2)])) _
    refine st92 _ ?_
    show Steps p.tables e below (T92.setTop (mkF m 103 #[.val (.ref a1), .val (.int (3 : Int32)), .val (.int (0 : Int32)), .val (.double (FP.l2d r0)), .second, .val (.double (FP.l2d r1)), .second] [(.ref b2), (.int (4 : Int32)), (.ref b2)])) _
    refine XS.iloadN X92.here hx rfl (hb hby d8_103) rfl ?_
    show Steps p.tables e below (T92.setTop (mkF m 104 #[.val (.ref a1), .val (.int (3 : Int32)), .val (.int (0 : Int32)), .val (.double (FP.l2d r0)), .second, .val (.double (FP.l2d r1)), .second] [(.int (3 : Int32)), (.ref b2), (.int (4 : Int32)), (.ref b2)])) _
    refine X92.daload hx (j := (3 : Int32)) (v := (.double (FP.l2d m3))) (by rw [e92]; exact Ar93.1) (State.isArrayOf_alike hZ.alike Ar93.2.1) Ar93.2.2 (inb_of S93 ⟨by decide, by decide⟩) (H93 3 (by rw [S93]; decide)) (g := (mkF m 104 #[.val (.ref a1), .val (.int (3 : Int32)), .val (.int (0 : Int32)), .val (.double (FP.l2d r0)), .second, .val (.double (FP.l2d r1)), .second] [(.int (3 : Int32)), (.ref b2), (.int (4 : Int32)), (.ref b2)])) rfl rfl (hb hby d8_104) _ ?_
    show Steps p.tables e below (T92.setTop (mkF m 105 #[.val (.ref a1), .val (.int (3 : Int32)), .val (.int (0 : Int32)), .val (.double (FP.l2d r0)), .second, .val (.double (FP.l2d r1)), .second] [(.double (FP.l2d m3)), (.int (4 : Int32)), (.ref b2)])) _
    refine XS.dloadN X92.here hx rfl (hb hby d8_105) rfl ?_
    show Steps p.tables e below (T92.setTop (mkF m 106 #[.val (.ref a1), .val (.int (3 : Int32)), .val (.int (0 : Int32)), .val (.double (FP.l2d r0)), .second, .val (.double (FP.l2d r1)), .second] [(.double (FP.l2d r0)), (.double (FP.l2d m3)), (.int (4 : Int32)), (.ref b2)])) _
    refine XS.daddS X92.here hx rfl (hb hby d8_106) rfl (nn_w Ed94) Ed94 ?_
    show Steps p.tables e below (T92.setTop (mkF m 107 #[.val (.ref a1), .val (.int (3 : Int32)), .val (.int (0 : Int32)), .val (.double (FP.l2d r0)), .second, .val (.double (FP.l2d r1)), .second] [(.double (FP.l2d (m3 + r0))), (.int (4 : Int32)), (.ref b2)])) _
    refine XS.dload X92.here hx rfl (hb hby d8_107) rfl ?_
    show Steps p.tables e below (T92.setTop (mkF m 109 #[.val (.ref a1), .val (.int (3 : Int32)), .val (.int (0 : Int32)), .val (.double (FP.l2d r0)), .second, .val (.double (FP.l2d r1)), .second] [(.double (FP.l2d r1)), (.double (FP.l2d (m3 + r0))), (.int (4 : Int32)), (.ref b2)])) _
    refine XS.daddS X92.here hx rfl (hb hby d8_109) rfl (nn_w Ed95) Ed95 ?_
    show Steps p.tables e below (T92.setTop (mkF m 110 #[.val (.ref a1), .val (.int (3 : Int32)), .val (.int (0 : Int32)), .val (.double (FP.l2d r0)), .second, .val (.double (FP.l2d r1)), .second] [(.double (FP.l2d ((m3 + r0) + r1))), (.int (4 : Int32)), (.ref b2)])) _
    exact k
  obtain ⟨m4, hm4⟩ : ∃ z : Int64, z = ((m3 + r0) + r1) := ⟨_, rfl⟩
  rw [← hm4] at pre96 Rd95 Td95
  have z0' : (0 : Int64).toInt = 0 := rfl
  have Tm4 : m4.toInt = m3.toInt + r0.toInt + r1.toInt := by omega
  clear Td94 Td95
  obtain ⟨cl97, Ar97, q97, S97, M97, H97, G97⟩ := id (V71.other W84 ne_b2_b5)
  have hin97 : ¬ ((4 : Int32) < 0 ∨ cl97.slots.size ≤ ((4 : Int32)).toNatClampNeg) := inb_of S97 ⟨by decide, by decide⟩
  obtain ⟨T98, h98, X98, e98, W98, st98⟩ := stD X92 hx hZ e92 Ar97 (j := (4 : Int32)) hin97 (g := (mkF m 110 #[.val (.ref a1), .val (.int (3 : Int32)), .val (.int (0 : Int32)), .val (.double (FP.l2d r0)), .second, .val (.double (FP.l2d r1)), .second] [(.double (FP.l2d m4)), (.int (4 : Int32)), (.ref b2)])) rfl rfl (hb hby d8_110)
  have V98 : Arv Z h98 b2 k2 .double (7 : Int32) [(.double (FP.l2d 0)), (.double (FP.l2d m1)), (.double (FP.l2d m2)), (.double (FP.l2d m3)), (.double (FP.l2d m4)), (.double (FP.l2d 0)), (.double (FP.l2d 0))] (.double (FP.l2d 0)) := Arv.set Ar97 q97 S97 M97 H97 G97 rfl W98 4 rfl (Nat.le_of_ble_eq_true rfl)
  have K98 : Keep h0 h98 [a1] := K84.wr W98 (Or.inr sz_b2)
  have N98 := Fr.snoc X98 N84 g_b2
  obtain ⟨T99, X99, e99, st99⟩ := getF X98 hx hZ hown (host := "") (Or.inl (hw _ (List.mem_of_getElem? (i := 44) rfl))) Via.refl e98 (((((((Fw6.other W19 (Or.inl ne_a1_b2)).other W32 (Or.inl ne_a1_b5)).other W45 (Or.inl ne_a1_b2)).other W58 (Or.inl ne_a1_b5)).other W71 (Or.inl ne_a1_b2)).other W84 (Or.inl ne_a1_b5)).other W98 (Or.inl ne_a1_b2)) (g := (mkF m 112 #[.val (.ref a1), .val (.int (3 : Int32)), .val (.int (0 : Int32)), .val (.double (FP.l2d r0)), .second, .val (.double (FP.l2d r1)), .second] [(.ref a1)])) rfl rfl (hb hby d8_112)
  obtain ⟨T100, X100, e100, st100⟩ := getF X99 hx hZ hown (host := "") (Or.inl (hw _ (List.mem_of_getElem? (i := 44) rfl))) Via.refl e99 (((((((Fw6.other W19 (Or.inl ne_a1_b2)).other W32 (Or.inl ne_a1_b5)).other W45 (Or.inl ne_a1_b2)).other W58 (Or.inl ne_a1_b5)).other W71 (Or.inl ne_a1_b2)).other W84 (Or.inl ne_a1_b5)).other W98 (Or.inl ne_a1_b2)) (g := (mkF m 119 #[.val (.ref a1), .val (.int (3 : Int32)), .val (.int (0 : Int32)), .val (.double (FP.l2d r0)), .second, .val (.double (FP.l2d r1)), .second] [(.ref a1), (.int (4 : Int32)), (.ref b5)])) rfl rfl (hb hby d8_119)
  obtain ⟨cl101, Ar101, q101, S101, M101, H101, G101⟩ := id (V84.other W98 (Ne.symm ne_b2_b5))
  have Ed102 : FP.dmul (4613937818241073152 : UInt64) (FP.l2d (3 : Int64)) = FP.l2d (9 : Int64) := by decide +kernel
  have Ed103 : FP.dadd (FP.l2d r0) (FP.l2d r1) = FP.l2d (r0 + r1) := own_dadd hr0 hr1 (by decide)
  obtain ⟨Rd103, Td103⟩ := own_Radd hr0 hr1 (by decide)
  have Ed104 : FP.dmul (FP.l2d (9 : Int64)) (FP.l2d (r0 + r1)) = FP.l2d ((9 : Int64) * (r0 + r1)) := by exact own_dmulc (9 : Int64) 9 rfl (by decide) (by decide) Rd103 (by decide)
  obtain ⟨Rd104, Td104⟩ := own_Rmulc (9 : Int64) 9 rfl (by decide) (by decide) Rd103 (by decide)
  have Ed105 : FP.dadd (FP.l2d w3) (FP.l2d ((9 : Int64) * (r0 + r1))) = FP.l2d (w3 + ((9 : Int64) * (r0 + r1))) := own_dadd Rd81 Rd104 (by decide)
  obtain ⟨Rd105, Td105⟩ := own_Radd Rd81 Rd104 (by decide)
  have Ed106 : FP.dadd (FP.l2d (w3 + ((9 : Int64) * (r0 + r1)))) (FP.l2d r0) = FP.l2d ((w3 + ((9 : Int64) * (r0 + r1))) + r0) := own_dadd Rd105 hr0 (by decide)
  obtain ⟨Rd106, Td106⟩ := own_Radd Rd105 hr0 (by decide)
  have Ed107 : FP.dmul (4611686018427387904 : UInt64) (FP.l2d r1) = FP.l2d ((2 : Int64) * r1) := by rw [own_c2]; exact own_dmulc (2 : Int64) 2 rfl (by decide) (by decide) hr1 (by decide)
  obtain ⟨Rd107, Td107⟩ := own_Rmulc (2 : Int64) 2 rfl (by decide) (by decide) hr1 (by decide)
  have Ed108 : FP.dadd (FP.l2d ((w3 + ((9 : Int64) * (r0 + r1))) + r0)) (FP.l2d ((2 : Int64) * r1)) = FP.l2d (((w3 + ((9 : Int64) * (r0 + r1))) + r0) + ((2 : Int64) * r1)) := own_dadd Rd106 Rd107 (by decide)
  obtain ⟨Rd108, Td108⟩ := own_Radd Rd106 Rd107 (by decide)
  have pre109 : ∀ t, Steps p.tables e below (T100.setTop (mkF m 145 #[.val (.ref a1), .val (.int (3 : Int32)), .val (.int (0 : Int32)), .val (.double (FP.l2d r0)), .second, .val (.double (FP.l2d r1)), .second] [(.double (FP.l2d (((w3 + ((9 : Int64) * (r0 + r1))) + r0) + ((2 : Int64) * r1)))), (.int (4 : Int32)), (.ref b5)])) t → Steps p.tables e below (s₁.setTop (entryFrame m #[(.ref a1)] 7)) t := by
    intro t k
    refine pre96 t ?_
    refine st98 _ ?_
    show Steps p.tables e below (T98.setTop (mkF m 111 #[.val (.ref a1), .val (.int (3 : Int32)), .val (.int (0 : Int32)), .val (.double (FP.l2d r0)), .second, .val (.double (FP.l2d r1)), .second] [])) _
    refine XS.aloadN X98.here hx rfl (hb hby d8_111) rfl (rfl) ?_
    show Steps p.tables e below (T98.setTop (mkF m 112 #[.val (.ref a1), .val (.int (3 : Int32)), .val (.int (0 : Int32)), .val (.double (FP.l2d r0)), .second, .val (.double (FP.l2d r1)), .second] [(.ref a1)])) _
    refine st99 _ ?_
    show Steps p.tables e below (T99.setTop (mkF m 115 #[.val (.ref a1), .val (.int (3 : Int32)), .val (.int (0 : Int32)), .val (.double (FP.l2d r0)), .second, .val (.double (FP.l2d r1)), .second] [(.ref b5)])) _
    refine XS.iloadN X99.here hx rfl (hb hby d8_115) rfl ?_
    show Steps p.tables e below (T99.setTop (mkF m 116 #[.val (.ref a1), .val (.int (3 : Int32)), .val (.int (0 : Int32)), .val (.double (FP.l2d r0)), .second, .val (.double (FP.l2d r1)), .second] [(.int (3 : Int32)), (.ref b5)])) _
    refine XS.iconst X99.here hx rfl (hb hby d8_116) ?_
    show Steps p.tables e below (T99.setTop (mkF m 117 #[.val (.ref a1), .val (.int (3 : Int32)), .val (.int (0 : Int32)), .val (.double (FP.l2d r0)), .second, .val (.double (FP.l2d r1)), .second] [(.int (1 : Int32)), (.int (3 : Int32)), (.ref b5)])) _
    refine XS.iadd X99.here hx rfl (hb hby d8_117) rfl ?_
    show Steps p.tables e below (T99.setTop (mkF m 118 #[.val (.ref a1), .val (.int (3 : Int32)), .val (.int (0 : Int32)), .val (.double (FP.l2d r0)), .second, .val (.double (FP.l2d r1)), .second] [(.int (4 : Int32)), (.ref b5)])) _
    refine XS.aloadN X99.here hx rfl (hb hby d8_118) rfl (rfl) ?_
    show Steps p.tables e below (T99.setTop (mkF m 119 #[.val (.ref a1), .val (.int (3 : Int32)), .val (.int (0 : Int32)), .val (.double (FP.l2d r0)), .second, .val (.double (FP.l2d r1)), .second] [(.ref a1), (.int (4 : Int32)), (.ref b5)])) _
    refine st100 _ ?_
    show Steps p.tables e below (T100.setTop (mkF m 122 #[.val (.ref a1), .val (.int (3 : Int32)), .val (.int (0 : Int32)), .val (.double (FP.l2d r0)), .second, .val (.double (FP.l2d r1)), .second] [(.ref b5), (.int (4 : Int32)), (.ref b5)])) _
    refine XS.iloadN X100.here hx rfl (hb hby d8_122) rfl ?_
    show Steps p.tables e below (T100.setTop (mkF m 123 #[.val (.ref a1), .val (.int (3 : Int32)), .val (.int (0 : Int32)), .val (.double (FP.l2d r0)), .second, .val (.double (FP.l2d r1)), .second] [(.int (3 : Int32)), (.ref b5), (.int (4 : Int32)), (.ref b5)])) _
    refine X100.daload hx (j := (3 : Int32)) (v := (.double (FP.l2d w3))) (by rw [e100]; exact Ar101.1) (State.isArrayOf_alike hZ.alike Ar101.2.1) Ar101.2.2 (inb_of S101 ⟨by decide, by decide⟩) (H101 3 (by rw [S101]; decide)) (g := (mkF m 123 #[.val (.ref a1), .val (.int (3 : Int32)), .val (.int (0 : Int32)), .val (.double (FP.l2d r0)), .second, .val (.double (FP.l2d r1)), .second] [(.int (3 : Int32)), (.ref b5), (.int (4 : Int32)), (.ref b5)])) rfl rfl (hb hby d8_123) _ ?_
    show Steps p.tables e below (T100.setTop (mkF m 124 #[.val (.ref a1), .val (.int (3 : Int32)), .val (.int (0 : Int32)), .val (.double (FP.l2d r0)), .second, .val (.double (FP.l2d r1)), .second] [(.double (FP.l2d w3)), (.int (4 : Int32)), (.ref b5)])) _
    refine X100.ldc2DoubleC hx hown (mvT hZ (hw _ (List.mem_of_getElem? (i := 46) rfl))) (g := (mkF m 124 #[.val (.ref a1), .val (.int (3 : Int32)), .val (.int (0 : Int32)), .val (.double (FP.l2d r0)), .second, .val (.double (FP.l2d r1)), .second] [(.double (FP.l2d w3)), (.int (4 : Int32)), (.ref b5)])) rfl (hb hby d8_124) _ ?_
    show Steps p.tables e below (T100.setTop (mkF m 127 #[.val (.ref a1), .val (.int (3 : Int32)), .val (.int (0 : Int32)), .val (.double (FP.l2d r0)), .second, .val (.double (FP.l2d r1)), .second] [(.double (4613937818241073152 : UInt64)), (.double (FP.l2d w3)), (.int (4 : Int32)), (.ref b5)])) _
    refine XS.iloadN X100.here hx rfl (hb hby d8_127) rfl ?_
    show Steps p.tables e below (T100.setTop (mkF m 128 #[.val (.ref a1), .val (.int (3 : Int32)), .val (.int (0 : Int32)), .val (.double (FP.l2d r0)), .second, .val (.double (FP.l2d r1)), .second] [(.int (3 : Int32)), (.double (4613937818241073152 : UInt64)), (.double (FP.l2d w3)), (.int (4 : Int32)), (.ref b5)])) _
    refine XS.i2dS X100.here hx rfl (hb hby d8_128) rfl (i2d_w _ : FP.i2d (3 : Int32) = FP.l2d (3 : Int64)) ?_
    show Steps p.tables e below (T100.setTop (mkF m 129 #[.val (.ref a1), .val (.int (3 : Int32)), .val (.int (0 : Int32)), .val (.double (FP.l2d r0)), .second, .val (.double (FP.l2d r1)), .second] [(.double (FP.l2d (3 : Int64))), (.double (4613937818241073152 : UInt64)), (.double (FP.l2d w3)), (.int (4 : Int32)), (.ref b5)])) _
    refine XS.dmulS X100.here hx rfl (hb hby d8_129) rfl (nn_w Ed102) Ed102 ?_
    show Steps p.tables e below (T100.setTop (mkF m 130 #[.val (.ref a1), .val (.int (3 : Int32)), .val (.int (0 : Int32)), .val (.double (FP.l2d r0)), .second, .val (.double (FP.l2d r1)), .second] [(.double (FP.l2d (9 : Int64))), (.double (FP.l2d w3)), (.int (4 : Int32)), (.ref b5)])) _
    refine XS.dloadN X100.here hx rfl (hb hby d8_130) rfl ?_
    show Steps p.tables e below (T100.setTop (mkF m 131 #[.val (.ref a1), .val (.int (3 : Int32)), .val (.int (0 : Int32)), .val (.double (FP.l2d r0)), .second, .val (.double (FP.l2d r1)), .second] [(.double (FP.l2d r0)), (.double (FP.l2d (9 : Int64))), (.double (FP.l2d w3)), (.int (4 : Int32)), (.ref b5)])) _
    refine XS.dload X100.here hx rfl (hb hby d8_131) rfl ?_
    show Steps p.tables e below (T100.setTop (mkF m 133 #[.val (.ref a1), .val (.int (3 : Int32)), .val (.int (0 : Int32)), .val (.double (FP.l2d r0)), .second, .val (.double (FP.l2d r1)), .second] [(.double (FP.l2d r1)), (.double (FP.l2d r0)), (.double (FP.l2d (9 : Int64))), (.double (FP.l2d w3)), (.int (4 : Int32)), (.ref b5)])) _
    refine XS.daddS X100.here hx rfl (hb hby d8_133) rfl (nn_w Ed103) Ed103 ?_
    show Steps p.tables e below (T100.setTop (mkF m 134 #[.val (.ref a1), .val (.int (3 : Int32)), .val (.int (0 : Int32)), .val (.double (FP.l2d r0)), .second, .val (.double (FP.l2d r1)), .second] [(.double (FP.l2d (r0 + r1))), (.double (FP.l2d (9 : Int64))), (.double (FP.l2d w3)), (.int (4 : Int32)), (.ref b5)])) _
    refine XS.dmulS X100.here hx rfl (hb hby d8_134) rfl (nn_w Ed104) Ed104 ?_
    show Steps p.tables e below (T100.setTop (mkF m 135 #[.val (.ref a1), .val (.int (3 : Int32)), .val (.int (0 : Int32)), .val (.double (FP.l2d r0)), .second, .val (.double (FP.l2d r1)), .second] [(.double (FP.l2d ((9 : Int64) * (r0 + r1)))), (.double (FP.l2d w3)), (.int (4 : Int32)), (.ref b5)])) _
    refine XS.daddS X100.here hx rfl (hb hby d8_135) rfl (nn_w Ed105) Ed105 ?_
    show Steps p.tables e below (T100.setTop (mkF m 136 #[.val (.ref a1), .val (.int (3 : Int32)), .val (.int (0 : Int32)), .val (.double (FP.l2d r0)), .second, .val (.double (FP.l2d r1)), .second] [(.double (FP.l2d (w3 + ((9 : Int64) * (r0 + r1))))), (.int (4 : Int32)), (.ref b5)])) _
    refine XS.dloadN X100.here hx rfl (hb hby d8_136) rfl ?_
    show Steps p.tables e below (T100.setTop (mkF m 137 #[.val (.ref a1), .val (.int (3 : Int32)), .val (.int (0 : Int32)), .val (.double (FP.l2d r0)), .second, .val (.double (FP.l2d r1)), .second] [(.double (FP.l2d r0)), (.double (FP.l2d (w3 + ((9 : Int64) * (r0 + r1))))), (.int (4 : Int32)), (.ref b5)])) _
    refine XS.daddS X100.here hx rfl (hb hby d8_137) rfl (nn_w Ed106) Ed106 ?_
    show Steps p.tables e below (T100.setTop (mkF m 138 #[.val (.ref a1), .val (.int (3 : Int32)), .val (.int (0 : Int32)), .val (.double (FP.l2d r0)), .second, .val (.double (FP.l2d r1)), .second] [(.double (FP.l2d ((w3 + ((9 : Int64) * (r0 + r1))) + r0))), (.int (4 : Int32)), (.ref b5)])) _
    refine X100.ldc2DoubleC hx hown (mvT hZ (hw _ (List.mem_of_getElem? (i := 47) rfl))) (g := (mkF m 138 #[.val (.ref a1), .val (.int (3 : Int32)), .val (.int (0 : Int32)), .val (.double (FP.l2d r0)), .second, .val (.double (FP.l2d r1)), .second] [(.double (FP.l2d ((w3 + ((9 : Int64) * (r0 + r1))) + r0))), (.int (4 : Int32)), (.ref b5)])) rfl (hb hby d8_138) _ ?_
    show Steps p.tables e below (T100.setTop (mkF m 141 #[.val (.ref a1), .val (.int (3 : Int32)), .val (.int (0 : Int32)), .val (.double (FP.l2d r0)), .second, .val (.double (FP.l2d r1)), .second] [(.double (4611686018427387904 : UInt64)), (.double (FP.l2d ((w3 + ((9 : Int64) * (r0 + r1))) + r0))), (.int (4 : Int32)), (.ref b5)])) _
    refine XS.dload X100.here hx rfl (hb hby d8_141) rfl ?_
    show Steps p.tables e below (T100.setTop (mkF m 143 #[.val (.ref a1), .val (.int (3 : Int32)), .val (.int (0 : Int32)), .val (.double (FP.l2d r0)), .second, .val (.double (FP.l2d r1)), .second] [(.double (FP.l2d r1)), (.double (4611686018427387904 : UInt64)), (.double (FP.l2d ((w3 + ((9 : Int64) * (r0 + r1))) + r0))), (.int (4 : Int32)), (.ref b5)])) _
    refine XS.dmulS X100.here hx rfl (hb hby d8_143) rfl (nn_w Ed107) Ed107 ?_
    show Steps p.tables e below (T100.setTop (mkF m 144 #[.val (.ref a1), .val (.int (3 : Int32)), .val (.int (0 : Int32)), .val (.double (FP.l2d r0)), .second, .val (.double (FP.l2d r1)), .second] [(.double (FP.l2d ((2 : Int64) * r1))), (.double (FP.l2d ((w3 + ((9 : Int64) * (r0 + r1))) + r0))), (.int (4 : Int32)), (.ref b5)])) _
    refine XS.daddS X100.here hx rfl (hb hby d8_144) rfl (nn_w Ed108) Ed108 ?_
    show Steps p.tables e below (T100.setTop (mkF m 145 #[.val (.ref a1), .val (.int (3 : Int32)), .val (.int (0 : Int32)), .val (.double (FP.l2d r0)), .second, .val (.double (FP.l2d r1)), .second] [(.double (FP.l2d (((w3 + ((9 : Int64) * (r0 + r1))) + r0) + ((2 : Int64) * r1)))), (.int (4 : Int32)), (.ref b5)])) _
    exact k
  obtain ⟨w4, hw4⟩ : ∃ z : Int64, z = (((w3 + ((9 : Int64) * (r0 + r1))) + r0) + ((2 : Int64) * r1)) := ⟨_, rfl⟩
  rw [← hw4] at pre109 Rd108 Td108
  have z0' : (0 : Int64).toInt = 0 := rfl
  have Tw4 : w4.toInt = w3.toInt + 9 * (r0.toInt + r1.toInt) + r0.toInt + 2 * r1.toInt := by omega
  clear Td103 Td104 Td105 Td106 Td107 Td108
  obtain ⟨cl110, Ar110, q110, S110, M110, H110, G110⟩ := id (V84.other W98 (Ne.symm ne_b2_b5))
  have hin110 : ¬ ((4 : Int32) < 0 ∨ cl110.slots.size ≤ ((4 : Int32)).toNatClampNeg) := inb_of S110 ⟨by decide, by decide⟩
  obtain ⟨T111, h111, X111, e111, W111, st111⟩ := stD X100 hx hZ e100 Ar110 (j := (4 : Int32)) hin110 (g := (mkF m 145 #[.val (.ref a1), .val (.int (3 : Int32)), .val (.int (0 : Int32)), .val (.double (FP.l2d r0)), .second, .val (.double (FP.l2d r1)), .second] [(.double (FP.l2d w4)), (.int (4 : Int32)), (.ref b5)])) rfl rfl (hb hby d8_145)
  have V111 : Arv Z h111 b5 k5 .double (7 : Int32) [(.double (FP.l2d 0)), (.double (FP.l2d w1)), (.double (FP.l2d w2)), (.double (FP.l2d w3)), (.double (FP.l2d w4)), (.double (FP.l2d 0)), (.double (FP.l2d 0))] (.double (FP.l2d 0)) := Arv.set Ar110 q110 S110 M110 H110 G110 rfl W111 4 rfl (Nat.le_of_ble_eq_true rfl)
  have K111 : Keep h0 h111 [a1] := K98.wr W111 (Or.inr sz_b5)
  have N111 := Fr.snoc X111 N98 g_b5
  obtain ⟨T112, X112, e112, st112⟩ := getF X111 hx hZ hown (host := "") (Or.inl (hw _ (List.mem_of_getElem? (i := 28) rfl))) Via.refl e111 ((((((((((((F0.ext E2).other W3 (Or.inr (slot_ne (Or.inr (hw _ (List.mem_of_getElem? (i := 29) rfl))) (Or.inl (hw _ (List.mem_of_getElem? (i := 38) rfl))) (by decide) (t := .int) (t' := (.array .double)) (by decide) (by decide)))).ext E5).other W6 (Or.inr (slot_ne (Or.inr (hw _ (List.mem_of_getElem? (i := 29) rfl))) (Or.inl (hw _ (List.mem_of_getElem? (i := 45) rfl))) (by decide) (t := .int) (t' := (.array .double)) (by decide) (by decide)))).other W19 (Or.inl ne_a1_b2)).other W32 (Or.inl ne_a1_b5)).other W45 (Or.inl ne_a1_b2)).other W58 (Or.inl ne_a1_b5)).other W71 (Or.inl ne_a1_b2)).other W84 (Or.inl ne_a1_b5)).other W98 (Or.inl ne_a1_b2)).other W111 (Or.inl ne_a1_b5)) (g := (mkF m 33 #[.val (.ref a1), .val (.int (4 : Int32)), .val (.int (0 : Int32)), .val (.double (FP.l2d r0)), .second, .val (.double (FP.l2d r1)), .second] [(.ref a1), (.int (2 : Int32)), (.int (4 : Int32))])) rfl rfl (hb hby d8_33)
  obtain ⟨T113, X113, e113, st113⟩ := getF X112 hx hZ hown (host := "") (Or.inl (hw _ (List.mem_of_getElem? (i := 28) rfl))) Via.refl e112 ((((((((((((F0.ext E2).other W3 (Or.inr (slot_ne (Or.inr (hw _ (List.mem_of_getElem? (i := 29) rfl))) (Or.inl (hw _ (List.mem_of_getElem? (i := 38) rfl))) (by decide) (t := .int) (t' := (.array .double)) (by decide) (by decide)))).ext E5).other W6 (Or.inr (slot_ne (Or.inr (hw _ (List.mem_of_getElem? (i := 29) rfl))) (Or.inl (hw _ (List.mem_of_getElem? (i := 45) rfl))) (by decide) (t := .int) (t' := (.array .double)) (by decide) (by decide)))).other W19 (Or.inl ne_a1_b2)).other W32 (Or.inl ne_a1_b5)).other W45 (Or.inl ne_a1_b2)).other W58 (Or.inl ne_a1_b5)).other W71 (Or.inl ne_a1_b2)).other W84 (Or.inl ne_a1_b5)).other W98 (Or.inl ne_a1_b2)).other W111 (Or.inl ne_a1_b5)) (g := (mkF m 42 #[.val (.ref a1), .val (.int (4 : Int32)), .val (.int (0 : Int32)), .val (.double (FP.l2d r0)), .second, .val (.double (FP.l2d r1)), .second] [(.ref a1), (.int (4 : Int32))])) rfl rfl (hb hby d8_42)
  obtain ⟨T114, X114, e114, st114⟩ := getF X113 hx hZ hown (host := "") (Or.inl (hw _ (List.mem_of_getElem? (i := 28) rfl))) Via.refl e113 ((((((((((((F0.ext E2).other W3 (Or.inr (slot_ne (Or.inr (hw _ (List.mem_of_getElem? (i := 29) rfl))) (Or.inl (hw _ (List.mem_of_getElem? (i := 38) rfl))) (by decide) (t := .int) (t' := (.array .double)) (by decide) (by decide)))).ext E5).other W6 (Or.inr (slot_ne (Or.inr (hw _ (List.mem_of_getElem? (i := 29) rfl))) (Or.inl (hw _ (List.mem_of_getElem? (i := 45) rfl))) (by decide) (t := .int) (t' := (.array .double)) (by decide) (by decide)))).other W19 (Or.inl ne_a1_b2)).other W32 (Or.inl ne_a1_b5)).other W45 (Or.inl ne_a1_b2)).other W58 (Or.inl ne_a1_b5)).other W71 (Or.inl ne_a1_b2)).other W84 (Or.inl ne_a1_b5)).other W98 (Or.inl ne_a1_b2)).other W111 (Or.inl ne_a1_b5)) (g := (mkF m 54 #[.val (.ref a1), .val (.int (4 : Int32)), .val (.int (0 : Int32)), .val (.double (FP.l2d r0)), .second, .val (.double (FP.l2d r1)), .second] [(.ref a1), (.int (4 : Int32))])) rfl rfl (hb hby d8_54)
  obtain ⟨T115, X115, e115, st115⟩ := getF X114 hx hZ hown (host := "") (Or.inl (hw _ (List.mem_of_getElem? (i := 30) rfl))) Via.refl e114 ((((((((((((F1.ext E2).other W3 (Or.inr (slot_ne (Or.inr (hw _ (List.mem_of_getElem? (i := 31) rfl))) (Or.inl (hw _ (List.mem_of_getElem? (i := 38) rfl))) (by decide) (t := (.array .long)) (t' := (.array .double)) (by decide) (by decide)))).ext E5).other W6 (Or.inr (slot_ne (Or.inr (hw _ (List.mem_of_getElem? (i := 31) rfl))) (Or.inl (hw _ (List.mem_of_getElem? (i := 45) rfl))) (by decide) (t := (.array .long)) (t' := (.array .double)) (by decide) (by decide)))).other W19 (Or.inl ne_a1_b2)).other W32 (Or.inl ne_a1_b5)).other W45 (Or.inl ne_a1_b2)).other W58 (Or.inl ne_a1_b5)).other W71 (Or.inl ne_a1_b2)).other W84 (Or.inl ne_a1_b5)).other W98 (Or.inl ne_a1_b2)).other W111 (Or.inl ne_a1_b5)) (g := (mkF m 60 #[.val (.ref a1), .val (.int (4 : Int32)), .val (.int (1 : Int32)), .val (.double (FP.l2d r0)), .second, .val (.double (FP.l2d r1)), .second] [(.ref a1)])) rfl rfl (hb hby d8_60)
  obtain ⟨T116, X116, e116, st116⟩ := getF X115 hx hZ hown (host := "") (Or.inl (hw _ (List.mem_of_getElem? (i := 30) rfl))) Via.refl e115 ((((((((((((F1.ext E2).other W3 (Or.inr (slot_ne (Or.inr (hw _ (List.mem_of_getElem? (i := 31) rfl))) (Or.inl (hw _ (List.mem_of_getElem? (i := 38) rfl))) (by decide) (t := (.array .long)) (t' := (.array .double)) (by decide) (by decide)))).ext E5).other W6 (Or.inr (slot_ne (Or.inr (hw _ (List.mem_of_getElem? (i := 31) rfl))) (Or.inl (hw _ (List.mem_of_getElem? (i := 45) rfl))) (by decide) (t := (.array .long)) (t' := (.array .double)) (by decide) (by decide)))).other W19 (Or.inl ne_a1_b2)).other W32 (Or.inl ne_a1_b5)).other W45 (Or.inl ne_a1_b2)).other W58 (Or.inl ne_a1_b5)).other W71 (Or.inl ne_a1_b2)).other W84 (Or.inl ne_a1_b5)).other W98 (Or.inl ne_a1_b2)).other W111 (Or.inl ne_a1_b5)) (g := (mkF m 68 #[.val (.ref a1), .val (.int (4 : Int32)), .val (.int (1 : Int32)), .val (.double (FP.l2d r1)), .second, .val (.double (FP.l2d r1)), .second] [(.ref a1)])) rfl rfl (hb hby d8_68)
  obtain ⟨T117, X117, e117, st117⟩ := getF X116 hx hZ hown (host := "") (Or.inl (hw _ (List.mem_of_getElem? (i := 28) rfl))) Via.refl e116 ((((((((((((F0.ext E2).other W3 (Or.inr (slot_ne (Or.inr (hw _ (List.mem_of_getElem? (i := 29) rfl))) (Or.inl (hw _ (List.mem_of_getElem? (i := 38) rfl))) (by decide) (t := .int) (t' := (.array .double)) (by decide) (by decide)))).ext E5).other W6 (Or.inr (slot_ne (Or.inr (hw _ (List.mem_of_getElem? (i := 29) rfl))) (Or.inl (hw _ (List.mem_of_getElem? (i := 45) rfl))) (by decide) (t := .int) (t' := (.array .double)) (by decide) (by decide)))).other W19 (Or.inl ne_a1_b2)).other W32 (Or.inl ne_a1_b5)).other W45 (Or.inl ne_a1_b2)).other W58 (Or.inl ne_a1_b5)).other W71 (Or.inl ne_a1_b2)).other W84 (Or.inl ne_a1_b5)).other W98 (Or.inl ne_a1_b2)).other W111 (Or.inl ne_a1_b5)) (g := (mkF m 75 #[.val (.ref a1), .val (.int (4 : Int32)), .val (.int (1 : Int32)), .val (.double (FP.l2d r1)), .second, .val (.double (FP.l2d r1)), .second] [(.ref a1), (.int (2 : Int32)), (.ref a2)])) rfl rfl (hb hby d8_75)
  obtain ⟨T118, X118, e118, st118⟩ := getF X117 hx hZ hown (host := "") (Or.inl (hw _ (List.mem_of_getElem? (i := 37) rfl))) Via.refl e117 ((((((((((Fw3.ext E5).other W6 (Or.inr (slot_ne (Or.inl (hw _ (List.mem_of_getElem? (i := 38) rfl))) (Or.inl (hw _ (List.mem_of_getElem? (i := 45) rfl))) (by decide) (t := (.array .double)) (t' := (.array .double)) (by decide) (by decide)))).other W19 (Or.inl ne_a1_b2)).other W32 (Or.inl ne_a1_b5)).other W45 (Or.inl ne_a1_b2)).other W58 (Or.inl ne_a1_b5)).other W71 (Or.inl ne_a1_b2)).other W84 (Or.inl ne_a1_b5)).other W98 (Or.inl ne_a1_b2)).other W111 (Or.inl ne_a1_b5)) (g := (mkF m 93 #[.val (.ref a1), .val (.int (4 : Int32)), .val (.int (1 : Int32)), .val (.double (FP.l2d r1)), .second, .val (.double (FP.l2d r2)), .second] [(.ref a1)])) rfl rfl (hb hby d8_93)
  obtain ⟨T119, X119, e119, st119⟩ := getF X118 hx hZ hown (host := "") (Or.inl (hw _ (List.mem_of_getElem? (i := 37) rfl))) Via.refl e118 ((((((((((Fw3.ext E5).other W6 (Or.inr (slot_ne (Or.inl (hw _ (List.mem_of_getElem? (i := 38) rfl))) (Or.inl (hw _ (List.mem_of_getElem? (i := 45) rfl))) (by decide) (t := (.array .double)) (t' := (.array .double)) (by decide) (by decide)))).other W19 (Or.inl ne_a1_b2)).other W32 (Or.inl ne_a1_b5)).other W45 (Or.inl ne_a1_b2)).other W58 (Or.inl ne_a1_b5)).other W71 (Or.inl ne_a1_b2)).other W84 (Or.inl ne_a1_b5)).other W98 (Or.inl ne_a1_b2)).other W111 (Or.inl ne_a1_b5)) (g := (mkF m 100 #[.val (.ref a1), .val (.int (4 : Int32)), .val (.int (1 : Int32)), .val (.double (FP.l2d r1)), .second, .val (.double (FP.l2d r2)), .second] [(.ref a1), (.int (5 : Int32)), (.ref b2)])) rfl rfl (hb hby d8_100)
  obtain ⟨cl120, Ar120, q120, S120, M120, H120, G120⟩ := id (V98.other W111 ne_b2_b5)
  have Ed121 : FP.dadd (FP.l2d m4) (FP.l2d r1) = FP.l2d (m4 + r1) := own_dadd Rd95 hr1 (by decide)
  obtain ⟨Rd121, Td121⟩ := own_Radd Rd95 hr1 (by decide)
  have Ed122 : FP.dadd (FP.l2d (m4 + r1)) (FP.l2d r2) = FP.l2d ((m4 + r1) + r2) := own_dadd Rd121 hr2 (by decide)
  obtain ⟨Rd122, Td122⟩ := own_Radd Rd121 hr2 (by decide)
  have pre123 : ∀ t, Steps p.tables e below (T119.setTop (mkF m 110 #[.val (.ref a1), .val (.int (4 : Int32)), .val (.int (1 : Int32)), .val (.double (FP.l2d r1)), .second, .val (.double (FP.l2d r2)), .second] [(.double (FP.l2d ((m4 + r1) + r2))), (.int (5 : Int32)), (.ref b2)])) t → Steps p.tables e below (s₁.setTop (entryFrame m #[(.ref a1)] 7)) t := by
    intro t k
    refine pre109 t ?_
    refine st111 _ ?_
    show Steps p.tables e below (T111.setTop (mkF m 146 #[.val (.ref a1), .val (.int (3 : Int32)), .val (.int (0 : Int32)), .val (.double (FP.l2d r0)), .second, .val (.double (FP.l2d r1)), .second] [])) _
    refine XS.iinc X111.here hx rfl (hb hby d8_146) rfl (l' := #[.val (.ref a1), .val (.int (4 : Int32)), .val (.int (0 : Int32)), .val (.double (FP.l2d r0)), .second, .val (.double (FP.l2d r1)), .second]) rfl ?_
    show Steps p.tables e below (T111.setTop (mkF m 149 #[.val (.ref a1), .val (.int (4 : Int32)), .val (.int (0 : Int32)), .val (.double (FP.l2d r0)), .second, .val (.double (FP.l2d r1)), .second] [])) _
    refine XS.goto X111.here hx rfl (pc0 := 149) (pc' := 30) rfl (hb hby d8_149) (by decide) (by decide) ?_
    show Steps p.tables e below (T111.setTop (mkF m 30 #[.val (.ref a1), .val (.int (4 : Int32)), .val (.int (0 : Int32)), .val (.double (FP.l2d r0)), .second, .val (.double (FP.l2d r1)), .second] [])) _
    refine XS.iloadN X111.here hx rfl (hb hby d8_30) rfl ?_
    show Steps p.tables e below (T111.setTop (mkF m 31 #[.val (.ref a1), .val (.int (4 : Int32)), .val (.int (0 : Int32)), .val (.double (FP.l2d r0)), .second, .val (.double (FP.l2d r1)), .second] [(.int (4 : Int32))])) _
    refine XS.iconst X111.here hx rfl (hb hby d8_31) ?_
    show Steps p.tables e below (T111.setTop (mkF m 32 #[.val (.ref a1), .val (.int (4 : Int32)), .val (.int (0 : Int32)), .val (.double (FP.l2d r0)), .second, .val (.double (FP.l2d r1)), .second] [(.int (2 : Int32)), (.int (4 : Int32))])) _
    refine XS.aloadN X111.here hx rfl (hb hby d8_32) rfl (rfl) ?_
    show Steps p.tables e below (T111.setTop (mkF m 33 #[.val (.ref a1), .val (.int (4 : Int32)), .val (.int (0 : Int32)), .val (.double (FP.l2d r0)), .second, .val (.double (FP.l2d r1)), .second] [(.ref a1), (.int (2 : Int32)), (.int (4 : Int32))])) _
    refine st112 _ ?_
    show Steps p.tables e below (T112.setTop (mkF m 36 #[.val (.ref a1), .val (.int (4 : Int32)), .val (.int (0 : Int32)), .val (.double (FP.l2d r0)), .second, .val (.double (FP.l2d r1)), .second] [(.int (3 : Int32)), (.int (2 : Int32)), (.int (4 : Int32))])) _
    refine XS.imul X112.here hx rfl (hb hby d8_36) rfl ?_
    show Steps p.tables e below (T112.setTop (mkF m 37 #[.val (.ref a1), .val (.int (4 : Int32)), .val (.int (0 : Int32)), .val (.double (FP.l2d r0)), .second, .val (.double (FP.l2d r1)), .second] [(.int (6 : Int32)), (.int (4 : Int32))])) _
    refine XS.icmpNo X112.here hx rfl (hb hby d8_37) rfl (tlt (by decide : (4 : Int32) < (6 : Int32))).2.1 ?_
    show Steps p.tables e below (T112.setTop (mkF m 40 #[.val (.ref a1), .val (.int (4 : Int32)), .val (.int (0 : Int32)), .val (.double (FP.l2d r0)), .second, .val (.double (FP.l2d r1)), .second] [])) _
    refine XS.iloadN X112.here hx rfl (hb hby d8_40) rfl ?_
    show Steps p.tables e below (T112.setTop (mkF m 41 #[.val (.ref a1), .val (.int (4 : Int32)), .val (.int (0 : Int32)), .val (.double (FP.l2d r0)), .second, .val (.double (FP.l2d r1)), .second] [(.int (4 : Int32))])) _
    refine XS.aloadN X112.here hx rfl (hb hby d8_41) rfl (rfl) ?_
    show Steps p.tables e below (T112.setTop (mkF m 42 #[.val (.ref a1), .val (.int (4 : Int32)), .val (.int (0 : Int32)), .val (.double (FP.l2d r0)), .second, .val (.double (FP.l2d r1)), .second] [(.ref a1), (.int (4 : Int32))])) _
    refine st113 _ ?_
    show Steps p.tables e below (T113.setTop (mkF m 45 #[.val (.ref a1), .val (.int (4 : Int32)), .val (.int (0 : Int32)), .val (.double (FP.l2d r0)), .second, .val (.double (FP.l2d r1)), .second] [(.int (3 : Int32)), (.int (4 : Int32))])) _
    refine XS.icmpYes X113.here hx rfl (pc0 := 45) (pc' := 52) rfl (hb hby d8_45) rfl (flt (by decide : ¬ ((4 : Int32) < (3 : Int32)))).2.1 (by decide) (by decide) ?_
    show Steps p.tables e below (T113.setTop (mkF m 52 #[.val (.ref a1), .val (.int (4 : Int32)), .val (.int (0 : Int32)), .val (.double (FP.l2d r0)), .second, .val (.double (FP.l2d r1)), .second] [])) _
    refine XS.iloadN X113.here hx rfl (hb hby d8_52) rfl ?_
    show Steps p.tables e below (T113.setTop (mkF m 53 #[.val (.ref a1), .val (.int (4 : Int32)), .val (.int (0 : Int32)), .val (.double (FP.l2d r0)), .second, .val (.double (FP.l2d r1)), .second] [(.int (4 : Int32))])) _
    refine XS.aloadN X113.here hx rfl (hb hby d8_53) rfl (rfl) ?_
    show Steps p.tables e below (T113.setTop (mkF m 54 #[.val (.ref a1), .val (.int (4 : Int32)), .val (.int (0 : Int32)), .val (.double (FP.l2d r0)), .second, .val (.double (FP.l2d r1)), .second] [(.ref a1), (.int (4 : Int32))])) _
    refine st114 _ ?_
    show Steps p.tables e below (T114.setTop (mkF m 57 #[.val (.ref a1), .val (.int (4 : Int32)), .val (.int (0 : Int32)), .val (.double (FP.l2d r0)), .second, .val (.double (FP.l2d r1)), .second] [(.int (3 : Int32)), (.int (4 : Int32))])) _
    refine XS.isub X114.here hx rfl (hb hby d8_57) rfl ?_
    show Steps p.tables e below (T114.setTop (mkF m 58 #[.val (.ref a1), .val (.int (4 : Int32)), .val (.int (0 : Int32)), .val (.double (FP.l2d r0)), .second, .val (.double (FP.l2d r1)), .second] [(.int (1 : Int32))])) _
    refine XS.istoreN X114.here hx rfl (hb hby d8_58) rfl (l' := #[.val (.ref a1), .val (.int (4 : Int32)), .val (.int (1 : Int32)), .val (.double (FP.l2d r0)), .second, .val (.double (FP.l2d r1)), .second]) rfl ?_
    show Steps p.tables e below (T114.setTop (mkF m 59 #[.val (.ref a1), .val (.int (4 : Int32)), .val (.int (1 : Int32)), .val (.double (FP.l2d r0)), .second, .val (.double (FP.l2d r1)), .second] [])) _
    refine XS.aloadN X114.here hx rfl (hb hby d8_59) rfl (rfl) ?_
    show Steps p.tables e below (T114.setTop (mkF m 60 #[.val (.ref a1), .val (.int (4 : Int32)), .val (.int (1 : Int32)), .val (.double (FP.l2d r0)), .second, .val (.double (FP.l2d r1)), .second] [(.ref a1)])) _
    refine st115 _ ?_
    show Steps p.tables e below (T115.setTop (mkF m 63 #[.val (.ref a1), .val (.int (4 : Int32)), .val (.int (1 : Int32)), .val (.double (FP.l2d r0)), .second, .val (.double (FP.l2d r1)), .second] [(.ref a2)])) _
    refine XS.iloadN X115.here hx rfl (hb hby d8_63) rfl ?_
    show Steps p.tables e below (T115.setTop (mkF m 64 #[.val (.ref a1), .val (.int (4 : Int32)), .val (.int (1 : Int32)), .val (.double (FP.l2d r0)), .second, .val (.double (FP.l2d r1)), .second] [(.int (1 : Int32)), (.ref a2)])) _
    refine X115.laload hx (j := (1 : Int32)) (v := (.long r1)) (by rw [e115]; exact ((((((((((((Ar.ext E2).other W3 (ne_a2_a1)).ext E5).other W6 (ne_a2_a1)).other W19 ne_a2_b2).other W32 ne_a2_b5).other W45 ne_a2_b2).other W58 ne_a2_b5).other W71 ne_a2_b2).other W84 ne_a2_b5).other W98 ne_a2_b2).other W111 ne_a2_b5).1) (State.isArrayOf_alike hZ.alike ((((((((((((Ar.ext E2).other W3 (ne_a2_a1)).ext E5).other W6 (ne_a2_a1)).other W19 ne_a2_b2).other W32 ne_a2_b5).other W45 ne_a2_b2).other W58 ne_a2_b5).other W71 ne_a2_b2).other W84 ne_a2_b5).other W98 ne_a2_b2).other W111 ne_a2_b5).2.1) ((((((((((((Ar.ext E2).other W3 (ne_a2_a1)).ext E5).other W6 (ne_a2_a1)).other W19 ne_a2_b2).other W32 ne_a2_b5).other W45 ne_a2_b2).other W58 ne_a2_b5).other W71 ne_a2_b2).other W84 ne_a2_b5).other W98 ne_a2_b2).other W111 ne_a2_b5).2.2 (inb_of Sz ⟨by decide, by decide⟩) t1 (g := (mkF m 64 #[.val (.ref a1), .val (.int (4 : Int32)), .val (.int (1 : Int32)), .val (.double (FP.l2d r0)), .second, .val (.double (FP.l2d r1)), .second] [(.int (1 : Int32)), (.ref a2)])) rfl rfl (hb hby d8_64) _ ?_
    show Steps p.tables e below (T115.setTop (mkF m 65 #[.val (.ref a1), .val (.int (4 : Int32)), .val (.int (1 : Int32)), .val (.double (FP.l2d r0)), .second, .val (.double (FP.l2d r1)), .second] [(.long r1)])) _
    refine XS.l2dS X115.here hx rfl (hb hby d8_65) rfl rfl ?_
    show Steps p.tables e below (T115.setTop (mkF m 66 #[.val (.ref a1), .val (.int (4 : Int32)), .val (.int (1 : Int32)), .val (.double (FP.l2d r0)), .second, .val (.double (FP.l2d r1)), .second] [(.double (FP.l2d r1))])) _
    refine XS.dstoreN X115.here hx rfl (hb hby d8_66) rfl (l' := #[.val (.ref a1), .val (.int (4 : Int32)), .val (.int (1 : Int32)), .val (.double (FP.l2d r1)), .second, .val (.double (FP.l2d r1)), .second]) rfl ?_
    show Steps p.tables e below (T115.setTop (mkF m 67 #[.val (.ref a1), .val (.int (4 : Int32)), .val (.int (1 : Int32)), .val (.double (FP.l2d r1)), .second, .val (.double (FP.l2d r1)), .second] [])) _
    refine XS.aloadN X115.here hx rfl (hb hby d8_67) rfl (rfl) ?_
    show Steps p.tables e below (T115.setTop (mkF m 68 #[.val (.ref a1), .val (.int (4 : Int32)), .val (.int (1 : Int32)), .val (.double (FP.l2d r1)), .second, .val (.double (FP.l2d r1)), .second] [(.ref a1)])) _
    refine st116 _ ?_
    show Steps p.tables e below (T116.setTop (mkF m 71 #[.val (.ref a1), .val (.int (4 : Int32)), .val (.int (1 : Int32)), .val (.double (FP.l2d r1)), .second, .val (.double (FP.l2d r1)), .second] [(.ref a2)])) _
    refine XS.iloadN X116.here hx rfl (hb hby d8_71) rfl ?_
    show Steps p.tables e below (T116.setTop (mkF m 72 #[.val (.ref a1), .val (.int (4 : Int32)), .val (.int (1 : Int32)), .val (.double (FP.l2d r1)), .second, .val (.double (FP.l2d r1)), .second] [(.int (1 : Int32)), (.ref a2)])) _
    refine XS.iconst X116.here hx rfl (hb hby d8_72) ?_
    show Steps p.tables e below (T116.setTop (mkF m 73 #[.val (.ref a1), .val (.int (4 : Int32)), .val (.int (1 : Int32)), .val (.double (FP.l2d r1)), .second, .val (.double (FP.l2d r1)), .second] [(.int (1 : Int32)), (.int (1 : Int32)), (.ref a2)])) _
    refine XS.iadd X116.here hx rfl (hb hby d8_73) rfl ?_
    show Steps p.tables e below (T116.setTop (mkF m 74 #[.val (.ref a1), .val (.int (4 : Int32)), .val (.int (1 : Int32)), .val (.double (FP.l2d r1)), .second, .val (.double (FP.l2d r1)), .second] [(.int (2 : Int32)), (.ref a2)])) _
    refine XS.aloadN X116.here hx rfl (hb hby d8_74) rfl (rfl) ?_
    show Steps p.tables e below (T116.setTop (mkF m 75 #[.val (.ref a1), .val (.int (4 : Int32)), .val (.int (1 : Int32)), .val (.double (FP.l2d r1)), .second, .val (.double (FP.l2d r1)), .second] [(.ref a1), (.int (2 : Int32)), (.ref a2)])) _
    refine st117 _ ?_
    show Steps p.tables e below (T117.setTop (mkF m 78 #[.val (.ref a1), .val (.int (4 : Int32)), .val (.int (1 : Int32)), .val (.double (FP.l2d r1)), .second, .val (.double (FP.l2d r1)), .second] [(.int (3 : Int32)), (.int (2 : Int32)), (.ref a2)])) _
    refine XS.icmpNo X117.here hx rfl (hb hby d8_78) rfl (tlt (by decide : (2 : Int32) < (3 : Int32))).2.1 ?_
    show Steps p.tables e below (T117.setTop (mkF m 81 #[.val (.ref a1), .val (.int (4 : Int32)), .val (.int (1 : Int32)), .val (.double (FP.l2d r1)), .second, .val (.double (FP.l2d r1)), .second] [(.ref a2)])) _
    refine XS.iloadN X117.here hx rfl (hb hby d8_81) rfl ?_
    show Steps p.tables e below (T117.setTop (mkF m 82 #[.val (.ref a1), .val (.int (4 : Int32)), .val (.int (1 : Int32)), .val (.double (FP.l2d r1)), .second, .val (.double (FP.l2d r1)), .second] [(.int (1 : Int32)), (.ref a2)])) _
    refine XS.iconst X117.here hx rfl (hb hby d8_82) ?_
    show Steps p.tables e below (T117.setTop (mkF m 83 #[.val (.ref a1), .val (.int (4 : Int32)), .val (.int (1 : Int32)), .val (.double (FP.l2d r1)), .second, .val (.double (FP.l2d r1)), .second] [(.int (1 : Int32)), (.int (1 : Int32)), (.ref a2)])) _
    refine XS.iadd X117.here hx rfl (hb hby d8_83) rfl ?_
    show Steps p.tables e below (T117.setTop (mkF m 84 #[.val (.ref a1), .val (.int (4 : Int32)), .val (.int (1 : Int32)), .val (.double (FP.l2d r1)), .second, .val (.double (FP.l2d r1)), .second] [(.int (2 : Int32)), (.ref a2)])) _
    refine XS.goto X117.here hx rfl (pc0 := 84) (pc' := 88) rfl (hb hby d8_84) (by decide) (by decide) ?_
    show Steps p.tables e below (T117.setTop (mkF m 88 #[.val (.ref a1), .val (.int (4 : Int32)), .val (.int (1 : Int32)), .val (.double (FP.l2d r1)), .second, .val (.double (FP.l2d r1)), .second] [(.int (2 : Int32)), (.ref a2)])) _
    refine X117.laload hx (j := (2 : Int32)) (v := (.long r2)) (by rw [e117]; exact ((((((((((((Ar.ext E2).other W3 (ne_a2_a1)).ext E5).other W6 (ne_a2_a1)).other W19 ne_a2_b2).other W32 ne_a2_b5).other W45 ne_a2_b2).other W58 ne_a2_b5).other W71 ne_a2_b2).other W84 ne_a2_b5).other W98 ne_a2_b2).other W111 ne_a2_b5).1) (State.isArrayOf_alike hZ.alike ((((((((((((Ar.ext E2).other W3 (ne_a2_a1)).ext E5).other W6 (ne_a2_a1)).other W19 ne_a2_b2).other W32 ne_a2_b5).other W45 ne_a2_b2).other W58 ne_a2_b5).other W71 ne_a2_b2).other W84 ne_a2_b5).other W98 ne_a2_b2).other W111 ne_a2_b5).2.1) ((((((((((((Ar.ext E2).other W3 (ne_a2_a1)).ext E5).other W6 (ne_a2_a1)).other W19 ne_a2_b2).other W32 ne_a2_b5).other W45 ne_a2_b2).other W58 ne_a2_b5).other W71 ne_a2_b2).other W84 ne_a2_b5).other W98 ne_a2_b2).other W111 ne_a2_b5).2.2 (inb_of Sz ⟨by decide, by decide⟩) t2 (g := (mkF m 88 #[.val (.ref a1), .val (.int (4 : Int32)), .val (.int (1 : Int32)), .val (.double (FP.l2d r1)), .second, .val (.double (FP.l2d r1)), .second] [(.int (2 : Int32)), (.ref a2)])) rfl rfl (hb hby d8_88) _ ?_
    show Steps p.tables e below (T117.setTop (mkF m 89 #[.val (.ref a1), .val (.int (4 : Int32)), .val (.int (1 : Int32)), .val (.double (FP.l2d r1)), .second, .val (.double (FP.l2d r1)), .second] [(.long r2)])) _
    refine XS.l2dS X117.here hx rfl (hb hby d8_89) rfl rfl ?_
    show Steps p.tables e below (T117.setTop (mkF m 90 #[.val (.ref a1), .val (.int (4 : Int32)), .val (.int (1 : Int32)), .val (.double (FP.l2d r1)), .second, .val (.double (FP.l2d r1)), .second] [(.double (FP.l2d r2))])) _
    refine XS.dstore X117.here hx rfl (hb hby d8_90) rfl (l' := #[.val (.ref a1), .val (.int (4 : Int32)), .val (.int (1 : Int32)), .val (.double (FP.l2d r1)), .second, .val (.double (FP.l2d r2)), .second]) rfl ?_
    show Steps p.tables e below (T117.setTop (mkF m 92 #[.val (.ref a1), .val (.int (4 : Int32)), .val (.int (1 : Int32)), .val (.double (FP.l2d r1)), .second, .val (.double (FP.l2d r2)), .second] [])) _
    refine XS.aloadN X117.here hx rfl (hb hby d8_92) rfl (rfl) ?_
    show Steps p.tables e below (T117.setTop (mkF m 93 #[.val (.ref a1), .val (.int (4 : Int32)), .val (.int (1 : Int32)), .val (.double (FP.l2d r1)), .second, .val (.double (FP.l2d r2)), .second] [(.ref a1)])) _
    refine st118 _ ?_
    show Steps p.tables e below (T118.setTop (mkF m 96 #[.val (.ref a1), .val (.int (4 : Int32)), .val (.int (1 : Int32)), .val (.double (FP.l2d r1)), .second, .val (.double (FP.l2d r2)), .second] [(.ref b2)])) _
    refine XS.iloadN X118.here hx rfl (hb hby d8_96) rfl ?_
    show Steps p.tables e below (T118.setTop (mkF m 97 #[.val (.ref a1), .val (.int (4 : Int32)), .val (.int (1 : Int32)), .val (.double (FP.l2d r1)), .second, .val (.double (FP.l2d r2)), .second] [(.int (4 : Int32)), (.ref b2)])) _
    refine XS.iconst X118.here hx rfl (hb hby d8_97) ?_
    show Steps p.tables e below (T118.setTop (mkF m 98 #[.val (.ref a1), .val (.int (4 : Int32)), .val (.int (1 : Int32)), .val (.double (FP.l2d r1)), .second, .val (.double (FP.l2d r2)), .second] [(.int (1 : Int32)), (.int (4 : Int32)), (.ref b2)])) _
    refine XS.iadd X118.here hx rfl (hb hby d8_98) rfl ?_
    show Steps p.tables e below (T118.setTop (mkF m 99 #[.val (.ref a1), .val (.int (4 : Int32)), .val (.int (1 : Int32)), .val (.double (FP.l2d r1)), .second, .val (.double (FP.l2d r2)), .second] [(.int (5 : Int32)), (.ref b2)])) _
    refine XS.aloadN X118.here hx rfl (hb hby d8_99) rfl (rfl) ?_
    show Steps p.tables e below (T118.setTop (mkF m 100 #[.val (.ref a1), .val (.int (4 : Int32)), .val (.int (1 : Int32)), .val (.double (FP.l2d r1)), .second, .val (.double (FP.l2d r2)), .second] [(.ref a1), (.int (5 : Int32)), (.ref b2)])) _
    refine st119 _ ?_
    show Steps p.tables e below (T119.setTop (mkF m 103 #[.val (.ref a1), .val (.int (4 : Int32)), .val (.int (1 : Int32)), .val (.double (FP.l2d r1)), .second, .val (.double (FP.l2d r2)), .second] [(.ref b2), (.int (5 : Int32)), (.ref b2)])) _
    refine XS.iloadN X119.here hx rfl (hb hby d8_103) rfl ?_
    show Steps p.tables e below (T119.setTop (mkF m 104 #[.val (.ref a1), .val (.int (4 : Int32)), .val (.int (1 : Int32)), .val (.double (FP.l2d r1)), .second, .val (.double (FP.l2d r2)), .second] [(.int (4 : Int32)), (.ref b2), (.int (5 : Int32)), (.ref b2)])) _
    refine X119.daload hx (j := (4 : Int32)) (v := (.double (FP.l2d m4))) (by rw [e119]; exact Ar120.1) (State.isArrayOf_alike hZ.alike Ar120.2.1) Ar120.2.2 (inb_of S120 ⟨by decide, by decide⟩) (H120 4 (by rw [S120]; decide)) (g := (mkF m 104 #[.val (.ref a1), .val (.int (4 : Int32)), .val (.int (1 : Int32)), .val (.double (FP.l2d r1)), .second, .val (.double (FP.l2d r2)), .second] [(.int (4 : Int32)), (.ref b2), (.int (5 : Int32)), (.ref b2)])) rfl rfl (hb hby d8_104) _ ?_
    show Steps p.tables e below (T119.setTop (mkF m 105 #[.val (.ref a1), .val (.int (4 : Int32)), .val (.int (1 : Int32)), .val (.double (FP.l2d r1)), .second, .val (.double (FP.l2d r2)), .second] [(.double (FP.l2d m4)), (.int (5 : Int32)), (.ref b2)])) _
    refine XS.dloadN X119.here hx rfl (hb hby d8_105) rfl ?_
    show Steps p.tables e below (T119.setTop (mkF m 106 #[.val (.ref a1), .val (.int (4 : Int32)), .val (.int (1 : Int32)), .val (.double (FP.l2d r1)), .second, .val (.double (FP.l2d r2)), .second] [(.double (FP.l2d r1)), (.double (FP.l2d m4)), (.int (5 : Int32)), (.ref b2)])) _
    refine XS.daddS X119.here hx rfl (hb hby d8_106) rfl (nn_w Ed121) Ed121 ?_
    show Steps p.tables e below (T119.setTop (mkF m 107 #[.val (.ref a1), .val (.int (4 : Int32)), .val (.int (1 : Int32)), .val (.double (FP.l2d r1)), .second, .val (.double (FP.l2d r2)), .second] [(.double (FP.l2d (m4 + r1))), (.int (5 : Int32)), (.ref b2)])) _
    refine XS.dload X119.here hx rfl (hb hby d8_107) rfl ?_
    show Steps p.tables e below (T119.setTop (mkF m 109 #[.val (.ref a1), .val (.int (4 : Int32)), .val (.int (1 : Int32)), .val (.double (FP.l2d r1)), .second, .val (.double (FP.l2d r2)), .second] [(.double (FP.l2d r2)), (.double (FP.l2d (m4 + r1))), (.int (5 : Int32)), (.ref b2)])) _
    refine XS.daddS X119.here hx rfl (hb hby d8_109) rfl (nn_w Ed122) Ed122 ?_
    show Steps p.tables e below (T119.setTop (mkF m 110 #[.val (.ref a1), .val (.int (4 : Int32)), .val (.int (1 : Int32)), .val (.double (FP.l2d r1)), .second, .val (.double (FP.l2d r2)), .second] [(.double (FP.l2d ((m4 + r1) + r2))), (.int (5 : Int32)), (.ref b2)])) _
    exact k
  obtain ⟨m5, hm5⟩ : ∃ z : Int64, z = ((m4 + r1) + r2) := ⟨_, rfl⟩
  rw [← hm5] at pre123 Rd122 Td122
  have z0' : (0 : Int64).toInt = 0 := rfl
  have Tm5 : m5.toInt = m4.toInt + r1.toInt + r2.toInt := by omega
  clear Td121 Td122
  obtain ⟨cl124, Ar124, q124, S124, M124, H124, G124⟩ := id (V98.other W111 ne_b2_b5)
  have hin124 : ¬ ((5 : Int32) < 0 ∨ cl124.slots.size ≤ ((5 : Int32)).toNatClampNeg) := inb_of S124 ⟨by decide, by decide⟩
  obtain ⟨T125, h125, X125, e125, W125, st125⟩ := stD X119 hx hZ e119 Ar124 (j := (5 : Int32)) hin124 (g := (mkF m 110 #[.val (.ref a1), .val (.int (4 : Int32)), .val (.int (1 : Int32)), .val (.double (FP.l2d r1)), .second, .val (.double (FP.l2d r2)), .second] [(.double (FP.l2d m5)), (.int (5 : Int32)), (.ref b2)])) rfl rfl (hb hby d8_110)
  have V125 : Arv Z h125 b2 k2 .double (7 : Int32) [(.double (FP.l2d 0)), (.double (FP.l2d m1)), (.double (FP.l2d m2)), (.double (FP.l2d m3)), (.double (FP.l2d m4)), (.double (FP.l2d m5)), (.double (FP.l2d 0))] (.double (FP.l2d 0)) := Arv.set Ar124 q124 S124 M124 H124 G124 rfl W125 5 rfl (Nat.le_of_ble_eq_true rfl)
  have K125 : Keep h0 h125 [a1] := K111.wr W125 (Or.inr sz_b2)
  have N125 := Fr.snoc X125 N111 g_b2
  obtain ⟨T126, X126, e126, st126⟩ := getF X125 hx hZ hown (host := "") (Or.inl (hw _ (List.mem_of_getElem? (i := 44) rfl))) Via.refl e125 (((((((((Fw6.other W19 (Or.inl ne_a1_b2)).other W32 (Or.inl ne_a1_b5)).other W45 (Or.inl ne_a1_b2)).other W58 (Or.inl ne_a1_b5)).other W71 (Or.inl ne_a1_b2)).other W84 (Or.inl ne_a1_b5)).other W98 (Or.inl ne_a1_b2)).other W111 (Or.inl ne_a1_b5)).other W125 (Or.inl ne_a1_b2)) (g := (mkF m 112 #[.val (.ref a1), .val (.int (4 : Int32)), .val (.int (1 : Int32)), .val (.double (FP.l2d r1)), .second, .val (.double (FP.l2d r2)), .second] [(.ref a1)])) rfl rfl (hb hby d8_112)
  obtain ⟨T127, X127, e127, st127⟩ := getF X126 hx hZ hown (host := "") (Or.inl (hw _ (List.mem_of_getElem? (i := 44) rfl))) Via.refl e126 (((((((((Fw6.other W19 (Or.inl ne_a1_b2)).other W32 (Or.inl ne_a1_b5)).other W45 (Or.inl ne_a1_b2)).other W58 (Or.inl ne_a1_b5)).other W71 (Or.inl ne_a1_b2)).other W84 (Or.inl ne_a1_b5)).other W98 (Or.inl ne_a1_b2)).other W111 (Or.inl ne_a1_b5)).other W125 (Or.inl ne_a1_b2)) (g := (mkF m 119 #[.val (.ref a1), .val (.int (4 : Int32)), .val (.int (1 : Int32)), .val (.double (FP.l2d r1)), .second, .val (.double (FP.l2d r2)), .second] [(.ref a1), (.int (5 : Int32)), (.ref b5)])) rfl rfl (hb hby d8_119)
  obtain ⟨cl128, Ar128, q128, S128, M128, H128, G128⟩ := id (V111.other W125 (Ne.symm ne_b2_b5))
  have Ed129 : FP.dmul (4613937818241073152 : UInt64) (FP.l2d (4 : Int64)) = FP.l2d (12 : Int64) := by decide +kernel
  have Ed130 : FP.dadd (FP.l2d r1) (FP.l2d r2) = FP.l2d (r1 + r2) := own_dadd hr1 hr2 (by decide)
  obtain ⟨Rd130, Td130⟩ := own_Radd hr1 hr2 (by decide)
  have Ed131 : FP.dmul (FP.l2d (12 : Int64)) (FP.l2d (r1 + r2)) = FP.l2d ((12 : Int64) * (r1 + r2)) := by exact own_dmulc (12 : Int64) 12 rfl (by decide) (by decide) Rd130 (by decide)
  obtain ⟨Rd131, Td131⟩ := own_Rmulc (12 : Int64) 12 rfl (by decide) (by decide) Rd130 (by decide)
  have Ed132 : FP.dadd (FP.l2d w4) (FP.l2d ((12 : Int64) * (r1 + r2))) = FP.l2d (w4 + ((12 : Int64) * (r1 + r2))) := own_dadd Rd108 Rd131 (by decide)
  obtain ⟨Rd132, Td132⟩ := own_Radd Rd108 Rd131 (by decide)
  have Ed133 : FP.dadd (FP.l2d (w4 + ((12 : Int64) * (r1 + r2)))) (FP.l2d r1) = FP.l2d ((w4 + ((12 : Int64) * (r1 + r2))) + r1) := own_dadd Rd132 hr1 (by decide)
  obtain ⟨Rd133, Td133⟩ := own_Radd Rd132 hr1 (by decide)
  have Ed134 : FP.dmul (4611686018427387904 : UInt64) (FP.l2d r2) = FP.l2d ((2 : Int64) * r2) := by rw [own_c2]; exact own_dmulc (2 : Int64) 2 rfl (by decide) (by decide) hr2 (by decide)
  obtain ⟨Rd134, Td134⟩ := own_Rmulc (2 : Int64) 2 rfl (by decide) (by decide) hr2 (by decide)
  have Ed135 : FP.dadd (FP.l2d ((w4 + ((12 : Int64) * (r1 + r2))) + r1)) (FP.l2d ((2 : Int64) * r2)) = FP.l2d (((w4 + ((12 : Int64) * (r1 + r2))) + r1) + ((2 : Int64) * r2)) := own_dadd Rd133 Rd134 (by decide)
  obtain ⟨Rd135, Td135⟩ := own_Radd Rd133 Rd134 (by decide)
  have pre136 : ∀ t, Steps p.tables e below (T127.setTop (mkF m 145 #[.val (.ref a1), .val (.int (4 : Int32)), .val (.int (1 : Int32)), .val (.double (FP.l2d r1)), .second, .val (.double (FP.l2d r2)), .second] [(.double (FP.l2d (((w4 + ((12 : Int64) * (r1 + r2))) + r1) + ((2 : Int64) * r2)))), (.int (5 : Int32)), (.ref b5)])) t → Steps p.tables e below (s₁.setTop (entryFrame m #[(.ref a1)] 7)) t := by
    intro t k
    refine pre123 t ?_
    refine st125 _ ?_
    show Steps p.tables e below (T125.setTop (mkF m 111 #[.val (.ref a1), .val (.int (4 : Int32)), .val (.int (1 : Int32)), .val (.double (FP.l2d r1)), .second, .val (.double (FP.l2d r2)), .second] [])) _
    refine XS.aloadN X125.here hx rfl (hb hby d8_111) rfl (rfl) ?_
    show Steps p.tables e below (T125.setTop (mkF m 112 #[.val (.ref a1), .val (.int (4 : Int32)), .val (.int (1 : Int32)), .val (.double (FP.l2d r1)), .second, .val (.double (FP.l2d r2)), .second] [(.ref a1)])) _
    refine st126 _ ?_
    show Steps p.tables e below (T126.setTop (mkF m 115 #[.val (.ref a1), .val (.int (4 : Int32)), .val (.int (1 : Int32)), .val (.double (FP.l2d r1)), .second, .val (.double (FP.l2d r2)), .second] [(.ref b5)])) _
    refine XS.iloadN X126.here hx rfl (hb hby d8_115) rfl ?_
    show Steps p.tables e below (T126.setTop (mkF m 116 #[.val (.ref a1), .val (.int (4 : Int32)), .val (.int (1 : Int32)), .val (.double (FP.l2d r1)), .second, .val (.double (FP.l2d r2)), .second] [(.int (4 : Int32)), (.ref b5)])) _
    refine XS.iconst X126.here hx rfl (hb hby d8_116) ?_
    show Steps p.tables e below (T126.setTop (mkF m 117 #[.val (.ref a1), .val (.int (4 : Int32)), .val (.int (1 : Int32)), .val (.double (FP.l2d r1)), .second, .val (.double (FP.l2d r2)), .second] [(.int (1 : Int32)), (.int (4 : Int32)), (.ref b5)])) _
    refine XS.iadd X126.here hx rfl (hb hby d8_117) rfl ?_
    show Steps p.tables e below (T126.setTop (mkF m 118 #[.val (.ref a1), .val (.int (4 : Int32)), .val (.int (1 : Int32)), .val (.double (FP.l2d r1)), .second, .val (.double (FP.l2d r2)), .second] [(.int (5 : Int32)), (.ref b5)])) _
    refine XS.aloadN X126.here hx rfl (hb hby d8_118) rfl (rfl) ?_
    show Steps p.tables e below (T126.setTop (mkF m 119 #[.val (.ref a1), .val (.int (4 : Int32)), .val (.int (1 : Int32)), .val (.double (FP.l2d r1)), .second, .val (.double (FP.l2d r2)), .second] [(.ref a1), (.int (5 : Int32)), (.ref b5)])) _
    refine st127 _ ?_
    show Steps p.tables e below (T127.setTop (mkF m 122 #[.val (.ref a1), .val (.int (4 : Int32)), .val (.int (1 : Int32)), .val (.double (FP.l2d r1)), .second, .val (.double (FP.l2d r2)), .second] [(.ref b5), (.int (5 : Int32)), (.ref b5)])) _
    refine XS.iloadN X127.here hx rfl (hb hby d8_122) rfl ?_
    show Steps p.tables e below (T127.setTop (mkF m 123 #[.val (.ref a1), .val (.int (4 : Int32)), .val (.int (1 : Int32)), .val (.double (FP.l2d r1)), .second, .val (.double (FP.l2d r2)), .second] [(.int (4 : Int32)), (.ref b5), (.int (5 : Int32)), (.ref b5)])) _
    refine X127.daload hx (j := (4 : Int32)) (v := (.double (FP.l2d w4))) (by rw [e127]; exact Ar128.1) (State.isArrayOf_alike hZ.alike Ar128.2.1) Ar128.2.2 (inb_of S128 ⟨by decide, by decide⟩) (H128 4 (by rw [S128]; decide)) (g := (mkF m 123 #[.val (.ref a1), .val (.int (4 : Int32)), .val (.int (1 : Int32)), .val (.double (FP.l2d r1)), .second, .val (.double (FP.l2d r2)), .second] [(.int (4 : Int32)), (.ref b5), (.int (5 : Int32)), (.ref b5)])) rfl rfl (hb hby d8_123) _ ?_
    show Steps p.tables e below (T127.setTop (mkF m 124 #[.val (.ref a1), .val (.int (4 : Int32)), .val (.int (1 : Int32)), .val (.double (FP.l2d r1)), .second, .val (.double (FP.l2d r2)), .second] [(.double (FP.l2d w4)), (.int (5 : Int32)), (.ref b5)])) _
    refine X127.ldc2DoubleC hx hown (mvT hZ (hw _ (List.mem_of_getElem? (i := 46) rfl))) (g := (mkF m 124 #[.val (.ref a1), .val (.int (4 : Int32)), .val (.int (1 : Int32)), .val (.double (FP.l2d r1)), .second, .val (.double (FP.l2d r2)), .second] [(.double (FP.l2d w4)), (.int (5 : Int32)), (.ref b5)])) rfl (hb hby d8_124) _ ?_
    show Steps p.tables e below (T127.setTop (mkF m 127 #[.val (.ref a1), .val (.int (4 : Int32)), .val (.int (1 : Int32)), .val (.double (FP.l2d r1)), .second, .val (.double (FP.l2d r2)), .second] [(.double (4613937818241073152 : UInt64)), (.double (FP.l2d w4)), (.int (5 : Int32)), (.ref b5)])) _
    refine XS.iloadN X127.here hx rfl (hb hby d8_127) rfl ?_
    show Steps p.tables e below (T127.setTop (mkF m 128 #[.val (.ref a1), .val (.int (4 : Int32)), .val (.int (1 : Int32)), .val (.double (FP.l2d r1)), .second, .val (.double (FP.l2d r2)), .second] [(.int (4 : Int32)), (.double (4613937818241073152 : UInt64)), (.double (FP.l2d w4)), (.int (5 : Int32)), (.ref b5)])) _
    refine XS.i2dS X127.here hx rfl (hb hby d8_128) rfl (i2d_w _ : FP.i2d (4 : Int32) = FP.l2d (4 : Int64)) ?_
    show Steps p.tables e below (T127.setTop (mkF m 129 #[.val (.ref a1), .val (.int (4 : Int32)), .val (.int (1 : Int32)), .val (.double (FP.l2d r1)), .second, .val (.double (FP.l2d r2)), .second] [(.double (FP.l2d (4 : Int64))), (.double (4613937818241073152 : UInt64)), (.double (FP.l2d w4)), (.int (5 : Int32)), (.ref b5)])) _
    refine XS.dmulS X127.here hx rfl (hb hby d8_129) rfl (nn_w Ed129) Ed129 ?_
    show Steps p.tables e below (T127.setTop (mkF m 130 #[.val (.ref a1), .val (.int (4 : Int32)), .val (.int (1 : Int32)), .val (.double (FP.l2d r1)), .second, .val (.double (FP.l2d r2)), .second] [(.double (FP.l2d (12 : Int64))), (.double (FP.l2d w4)), (.int (5 : Int32)), (.ref b5)])) _
    refine XS.dloadN X127.here hx rfl (hb hby d8_130) rfl ?_
    show Steps p.tables e below (T127.setTop (mkF m 131 #[.val (.ref a1), .val (.int (4 : Int32)), .val (.int (1 : Int32)), .val (.double (FP.l2d r1)), .second, .val (.double (FP.l2d r2)), .second] [(.double (FP.l2d r1)), (.double (FP.l2d (12 : Int64))), (.double (FP.l2d w4)), (.int (5 : Int32)), (.ref b5)])) _
    refine XS.dload X127.here hx rfl (hb hby d8_131) rfl ?_
    show Steps p.tables e below (T127.setTop (mkF m 133 #[.val (.ref a1), .val (.int (4 : Int32)), .val (.int (1 : Int32)), .val (.double (FP.l2d r1)), .second, .val (.double (FP.l2d r2)), .second] [(.double (FP.l2d r2)), (.double (FP.l2d r1)), (.double (FP.l2d (12 : Int64))), (.double (FP.l2d w4)), (.int (5 : Int32)), (.ref b5)])) _
    refine XS.daddS X127.here hx rfl (hb hby d8_133) rfl (nn_w Ed130) Ed130 ?_
    show Steps p.tables e below (T127.setTop (mkF m 134 #[.val (.ref a1), .val (.int (4 : Int32)), .val (.int (1 : Int32)), .val (.double (FP.l2d r1)), .second, .val (.double (FP.l2d r2)), .second] [(.double (FP.l2d (r1 + r2))), (.double (FP.l2d (12 : Int64))), (.double (FP.l2d w4)), (.int (5 : Int32)), (.ref b5)])) _
    refine XS.dmulS X127.here hx rfl (hb hby d8_134) rfl (nn_w Ed131) Ed131 ?_
    show Steps p.tables e below (T127.setTop (mkF m 135 #[.val (.ref a1), .val (.int (4 : Int32)), .val (.int (1 : Int32)), .val (.double (FP.l2d r1)), .second, .val (.double (FP.l2d r2)), .second] [(.double (FP.l2d ((12 : Int64) * (r1 + r2)))), (.double (FP.l2d w4)), (.int (5 : Int32)), (.ref b5)])) _
    refine XS.daddS X127.here hx rfl (hb hby d8_135) rfl (nn_w Ed132) Ed132 ?_
    show Steps p.tables e below (T127.setTop (mkF m 136 #[.val (.ref a1), .val (.int (4 : Int32)), .val (.int (1 : Int32)), .val (.double (FP.l2d r1)), .second, .val (.double (FP.l2d r2)), .second] [(.double (FP.l2d (w4 + ((12 : Int64) * (r1 + r2))))), (.int (5 : Int32)), (.ref b5)])) _
    refine XS.dloadN X127.here hx rfl (hb hby d8_136) rfl ?_
    show Steps p.tables e below (T127.setTop (mkF m 137 #[.val (.ref a1), .val (.int (4 : Int32)), .val (.int (1 : Int32)), .val (.double (FP.l2d r1)), .second, .val (.double (FP.l2d r2)), .second] [(.double (FP.l2d r1)), (.double (FP.l2d (w4 + ((12 : Int64) * (r1 + r2))))), (.int (5 : Int32)), (.ref b5)])) _
    refine XS.daddS X127.here hx rfl (hb hby d8_137) rfl (nn_w Ed133) Ed133 ?_
    show Steps p.tables e below (T127.setTop (mkF m 138 #[.val (.ref a1), .val (.int (4 : Int32)), .val (.int (1 : Int32)), .val (.double (FP.l2d r1)), .second, .val (.double (FP.l2d r2)), .second] [(.double (FP.l2d ((w4 + ((12 : Int64) * (r1 + r2))) + r1))), (.int (5 : Int32)), (.ref b5)])) _
    refine X127.ldc2DoubleC hx hown (mvT hZ (hw _ (List.mem_of_getElem? (i := 47) rfl))) (g := (mkF m 138 #[.val (.ref a1), .val (.int (4 : Int32)), .val (.int (1 : Int32)), .val (.double (FP.l2d r1)), .second, .val (.double (FP.l2d r2)), .second] [(.double (FP.l2d ((w4 + ((12 : Int64) * (r1 + r2))) + r1))), (.int (5 : Int32)), (.ref b5)])) rfl (hb hby d8_138) _ ?_
    show Steps p.tables e below (T127.setTop (mkF m 141 #[.val (.ref a1), .val (.int (4 : Int32)), .val (.int (1 : Int32)), .val (.double (FP.l2d r1)), .second, .val (.double (FP.l2d r2)), .second] [(.double (4611686018427387904 : UInt64)), (.double (FP.l2d ((w4 + ((12 : Int64) * (r1 + r2))) + r1))), (.int (5 : Int32)), (.ref b5)])) _
    refine XS.dload X127.here hx rfl (hb hby d8_141) rfl ?_
    show Steps p.tables e below (T127.setTop (mkF m 143 #[.val (.ref a1), .val (.int (4 : Int32)), .val (.int (1 : Int32)), .val (.double (FP.l2d r1)), .second, .val (.double (FP.l2d r2)), .second] [(.double (FP.l2d r2)), (.double (4611686018427387904 : UInt64)), (.double (FP.l2d ((w4 + ((12 : Int64) * (r1 + r2))) + r1))), (.int (5 : Int32)), (.ref b5)])) _
    refine XS.dmulS X127.here hx rfl (hb hby d8_143) rfl (nn_w Ed134) Ed134 ?_
    show Steps p.tables e below (T127.setTop (mkF m 144 #[.val (.ref a1), .val (.int (4 : Int32)), .val (.int (1 : Int32)), .val (.double (FP.l2d r1)), .second, .val (.double (FP.l2d r2)), .second] [(.double (FP.l2d ((2 : Int64) * r2))), (.double (FP.l2d ((w4 + ((12 : Int64) * (r1 + r2))) + r1))), (.int (5 : Int32)), (.ref b5)])) _
    refine XS.daddS X127.here hx rfl (hb hby d8_144) rfl (nn_w Ed135) Ed135 ?_
    show Steps p.tables e below (T127.setTop (mkF m 145 #[.val (.ref a1), .val (.int (4 : Int32)), .val (.int (1 : Int32)), .val (.double (FP.l2d r1)), .second, .val (.double (FP.l2d r2)), .second] [(.double (FP.l2d (((w4 + ((12 : Int64) * (r1 + r2))) + r1) + ((2 : Int64) * r2)))), (.int (5 : Int32)), (.ref b5)])) _
    exact k
  obtain ⟨w5, hw5⟩ : ∃ z : Int64, z = (((w4 + ((12 : Int64) * (r1 + r2))) + r1) + ((2 : Int64) * r2)) := ⟨_, rfl⟩
  rw [← hw5] at pre136 Rd135 Td135
  have z0' : (0 : Int64).toInt = 0 := rfl
  have Tw5 : w5.toInt = w4.toInt + 12 * (r1.toInt + r2.toInt) + r1.toInt + 2 * r2.toInt := by omega
  clear Td130 Td131 Td132 Td133 Td134 Td135
  obtain ⟨cl137, Ar137, q137, S137, M137, H137, G137⟩ := id (V111.other W125 (Ne.symm ne_b2_b5))
  have hin137 : ¬ ((5 : Int32) < 0 ∨ cl137.slots.size ≤ ((5 : Int32)).toNatClampNeg) := inb_of S137 ⟨by decide, by decide⟩
  obtain ⟨T138, h138, X138, e138, W138, st138⟩ := stD X127 hx hZ e127 Ar137 (j := (5 : Int32)) hin137 (g := (mkF m 145 #[.val (.ref a1), .val (.int (4 : Int32)), .val (.int (1 : Int32)), .val (.double (FP.l2d r1)), .second, .val (.double (FP.l2d r2)), .second] [(.double (FP.l2d w5)), (.int (5 : Int32)), (.ref b5)])) rfl rfl (hb hby d8_145)
  have V138 : Arv Z h138 b5 k5 .double (7 : Int32) [(.double (FP.l2d 0)), (.double (FP.l2d w1)), (.double (FP.l2d w2)), (.double (FP.l2d w3)), (.double (FP.l2d w4)), (.double (FP.l2d w5)), (.double (FP.l2d 0))] (.double (FP.l2d 0)) := Arv.set Ar137 q137 S137 M137 H137 G137 rfl W138 5 rfl (Nat.le_of_ble_eq_true rfl)
  have K138 : Keep h0 h138 [a1] := K125.wr W138 (Or.inr sz_b5)
  have N138 := Fr.snoc X138 N125 g_b5
  obtain ⟨T139, X139, e139, st139⟩ := getF X138 hx hZ hown (host := "") (Or.inl (hw _ (List.mem_of_getElem? (i := 28) rfl))) Via.refl e138 ((((((((((((((F0.ext E2).other W3 (Or.inr (slot_ne (Or.inr (hw _ (List.mem_of_getElem? (i := 29) rfl))) (Or.inl (hw _ (List.mem_of_getElem? (i := 38) rfl))) (by decide) (t := .int) (t' := (.array .double)) (by decide) (by decide)))).ext E5).other W6 (Or.inr (slot_ne (Or.inr (hw _ (List.mem_of_getElem? (i := 29) rfl))) (Or.inl (hw _ (List.mem_of_getElem? (i := 45) rfl))) (by decide) (t := .int) (t' := (.array .double)) (by decide) (by decide)))).other W19 (Or.inl ne_a1_b2)).other W32 (Or.inl ne_a1_b5)).other W45 (Or.inl ne_a1_b2)).other W58 (Or.inl ne_a1_b5)).other W71 (Or.inl ne_a1_b2)).other W84 (Or.inl ne_a1_b5)).other W98 (Or.inl ne_a1_b2)).other W111 (Or.inl ne_a1_b5)).other W125 (Or.inl ne_a1_b2)).other W138 (Or.inl ne_a1_b5)) (g := (mkF m 33 #[.val (.ref a1), .val (.int (5 : Int32)), .val (.int (1 : Int32)), .val (.double (FP.l2d r1)), .second, .val (.double (FP.l2d r2)), .second] [(.ref a1), (.int (2 : Int32)), (.int (5 : Int32))])) rfl rfl (hb hby d8_33)
  obtain ⟨T140, X140, e140, st140⟩ := getF X139 hx hZ hown (host := "") (Or.inl (hw _ (List.mem_of_getElem? (i := 28) rfl))) Via.refl e139 ((((((((((((((F0.ext E2).other W3 (Or.inr (slot_ne (Or.inr (hw _ (List.mem_of_getElem? (i := 29) rfl))) (Or.inl (hw _ (List.mem_of_getElem? (i := 38) rfl))) (by decide) (t := .int) (t' := (.array .double)) (by decide) (by decide)))).ext E5).other W6 (Or.inr (slot_ne (Or.inr (hw _ (List.mem_of_getElem? (i := 29) rfl))) (Or.inl (hw _ (List.mem_of_getElem? (i := 45) rfl))) (by decide) (t := .int) (t' := (.array .double)) (by decide) (by decide)))).other W19 (Or.inl ne_a1_b2)).other W32 (Or.inl ne_a1_b5)).other W45 (Or.inl ne_a1_b2)).other W58 (Or.inl ne_a1_b5)).other W71 (Or.inl ne_a1_b2)).other W84 (Or.inl ne_a1_b5)).other W98 (Or.inl ne_a1_b2)).other W111 (Or.inl ne_a1_b5)).other W125 (Or.inl ne_a1_b2)).other W138 (Or.inl ne_a1_b5)) (g := (mkF m 42 #[.val (.ref a1), .val (.int (5 : Int32)), .val (.int (1 : Int32)), .val (.double (FP.l2d r1)), .second, .val (.double (FP.l2d r2)), .second] [(.ref a1), (.int (5 : Int32))])) rfl rfl (hb hby d8_42)
  obtain ⟨T141, X141, e141, st141⟩ := getF X140 hx hZ hown (host := "") (Or.inl (hw _ (List.mem_of_getElem? (i := 28) rfl))) Via.refl e140 ((((((((((((((F0.ext E2).other W3 (Or.inr (slot_ne (Or.inr (hw _ (List.mem_of_getElem? (i := 29) rfl))) (Or.inl (hw _ (List.mem_of_getElem? (i := 38) rfl))) (by decide) (t := .int) (t' := (.array .double)) (by decide) (by decide)))).ext E5).other W6 (Or.inr (slot_ne (Or.inr (hw _ (List.mem_of_getElem? (i := 29) rfl))) (Or.inl (hw _ (List.mem_of_getElem? (i := 45) rfl))) (by decide) (t := .int) (t' := (.array .double)) (by decide) (by decide)))).other W19 (Or.inl ne_a1_b2)).other W32 (Or.inl ne_a1_b5)).other W45 (Or.inl ne_a1_b2)).other W58 (Or.inl ne_a1_b5)).other W71 (Or.inl ne_a1_b2)).other W84 (Or.inl ne_a1_b5)).other W98 (Or.inl ne_a1_b2)).other W111 (Or.inl ne_a1_b5)).other W125 (Or.inl ne_a1_b2)).other W138 (Or.inl ne_a1_b5)) (g := (mkF m 54 #[.val (.ref a1), .val (.int (5 : Int32)), .val (.int (1 : Int32)), .val (.double (FP.l2d r1)), .second, .val (.double (FP.l2d r2)), .second] [(.ref a1), (.int (5 : Int32))])) rfl rfl (hb hby d8_54)
  obtain ⟨T142, X142, e142, st142⟩ := getF X141 hx hZ hown (host := "") (Or.inl (hw _ (List.mem_of_getElem? (i := 30) rfl))) Via.refl e141 ((((((((((((((F1.ext E2).other W3 (Or.inr (slot_ne (Or.inr (hw _ (List.mem_of_getElem? (i := 31) rfl))) (Or.inl (hw _ (List.mem_of_getElem? (i := 38) rfl))) (by decide) (t := (.array .long)) (t' := (.array .double)) (by decide) (by decide)))).ext E5).other W6 (Or.inr (slot_ne (Or.inr (hw _ (List.mem_of_getElem? (i := 31) rfl))) (Or.inl (hw _ (List.mem_of_getElem? (i := 45) rfl))) (by decide) (t := (.array .long)) (t' := (.array .double)) (by decide) (by decide)))).other W19 (Or.inl ne_a1_b2)).other W32 (Or.inl ne_a1_b5)).other W45 (Or.inl ne_a1_b2)).other W58 (Or.inl ne_a1_b5)).other W71 (Or.inl ne_a1_b2)).other W84 (Or.inl ne_a1_b5)).other W98 (Or.inl ne_a1_b2)).other W111 (Or.inl ne_a1_b5)).other W125 (Or.inl ne_a1_b2)).other W138 (Or.inl ne_a1_b5)) (g := (mkF m 60 #[.val (.ref a1), .val (.int (5 : Int32)), .val (.int (2 : Int32)), .val (.double (FP.l2d r1)), .second, .val (.double (FP.l2d r2)), .second] [(.ref a1)])) rfl rfl (hb hby d8_60)
  obtain ⟨T143, X143, e143, st143⟩ := getF X142 hx hZ hown (host := "") (Or.inl (hw _ (List.mem_of_getElem? (i := 30) rfl))) Via.refl e142 ((((((((((((((F1.ext E2).other W3 (Or.inr (slot_ne (Or.inr (hw _ (List.mem_of_getElem? (i := 31) rfl))) (Or.inl (hw _ (List.mem_of_getElem? (i := 38) rfl))) (by decide) (t := (.array .long)) (t' := (.array .double)) (by decide) (by decide)))).ext E5).other W6 (Or.inr (slot_ne (Or.inr (hw _ (List.mem_of_getElem? (i := 31) rfl))) (Or.inl (hw _ (List.mem_of_getElem? (i := 45) rfl))) (by decide) (t := (.array .long)) (t' := (.array .double)) (by decide) (by decide)))).other W19 (Or.inl ne_a1_b2)).other W32 (Or.inl ne_a1_b5)).other W45 (Or.inl ne_a1_b2)).other W58 (Or.inl ne_a1_b5)).other W71 (Or.inl ne_a1_b2)).other W84 (Or.inl ne_a1_b5)).other W98 (Or.inl ne_a1_b2)).other W111 (Or.inl ne_a1_b5)).other W125 (Or.inl ne_a1_b2)).other W138 (Or.inl ne_a1_b5)) (g := (mkF m 68 #[.val (.ref a1), .val (.int (5 : Int32)), .val (.int (2 : Int32)), .val (.double (FP.l2d r2)), .second, .val (.double (FP.l2d r2)), .second] [(.ref a1)])) rfl rfl (hb hby d8_68)
  obtain ⟨T144, X144, e144, st144⟩ := getF X143 hx hZ hown (host := "") (Or.inl (hw _ (List.mem_of_getElem? (i := 28) rfl))) Via.refl e143 ((((((((((((((F0.ext E2).other W3 (Or.inr (slot_ne (Or.inr (hw _ (List.mem_of_getElem? (i := 29) rfl))) (Or.inl (hw _ (List.mem_of_getElem? (i := 38) rfl))) (by decide) (t := .int) (t' := (.array .double)) (by decide) (by decide)))).ext E5).other W6 (Or.inr (slot_ne (Or.inr (hw _ (List.mem_of_getElem? (i := 29) rfl))) (Or.inl (hw _ (List.mem_of_getElem? (i := 45) rfl))) (by decide) (t := .int) (t' := (.array .double)) (by decide) (by decide)))).other W19 (Or.inl ne_a1_b2)).other W32 (Or.inl ne_a1_b5)).other W45 (Or.inl ne_a1_b2)).other W58 (Or.inl ne_a1_b5)).other W71 (Or.inl ne_a1_b2)).other W84 (Or.inl ne_a1_b5)).other W98 (Or.inl ne_a1_b2)).other W111 (Or.inl ne_a1_b5)).other W125 (Or.inl ne_a1_b2)).other W138 (Or.inl ne_a1_b5)) (g := (mkF m 75 #[.val (.ref a1), .val (.int (5 : Int32)), .val (.int (2 : Int32)), .val (.double (FP.l2d r2)), .second, .val (.double (FP.l2d r2)), .second] [(.ref a1), (.int (3 : Int32)), (.ref a2)])) rfl rfl (hb hby d8_75)
  obtain ⟨T145, X145, e145, st145⟩ := getF X144 hx hZ hown (host := "") (Or.inl (hw _ (List.mem_of_getElem? (i := 37) rfl))) Via.refl e144 ((((((((((((Fw3.ext E5).other W6 (Or.inr (slot_ne (Or.inl (hw _ (List.mem_of_getElem? (i := 38) rfl))) (Or.inl (hw _ (List.mem_of_getElem? (i := 45) rfl))) (by decide) (t := (.array .double)) (t' := (.array .double)) (by decide) (by decide)))).other W19 (Or.inl ne_a1_b2)).other W32 (Or.inl ne_a1_b5)).other W45 (Or.inl ne_a1_b2)).other W58 (Or.inl ne_a1_b5)).other W71 (Or.inl ne_a1_b2)).other W84 (Or.inl ne_a1_b5)).other W98 (Or.inl ne_a1_b2)).other W111 (Or.inl ne_a1_b5)).other W125 (Or.inl ne_a1_b2)).other W138 (Or.inl ne_a1_b5)) (g := (mkF m 93 #[.val (.ref a1), .val (.int (5 : Int32)), .val (.int (2 : Int32)), .val (.double (FP.l2d r2)), .second, .val (.double (FP.l2d r0)), .second] [(.ref a1)])) rfl rfl (hb hby d8_93)
  obtain ⟨T146, X146, e146, st146⟩ := getF X145 hx hZ hown (host := "") (Or.inl (hw _ (List.mem_of_getElem? (i := 37) rfl))) Via.refl e145 ((((((((((((Fw3.ext E5).other W6 (Or.inr (slot_ne (Or.inl (hw _ (List.mem_of_getElem? (i := 38) rfl))) (Or.inl (hw _ (List.mem_of_getElem? (i := 45) rfl))) (by decide) (t := (.array .double)) (t' := (.array .double)) (by decide) (by decide)))).other W19 (Or.inl ne_a1_b2)).other W32 (Or.inl ne_a1_b5)).other W45 (Or.inl ne_a1_b2)).other W58 (Or.inl ne_a1_b5)).other W71 (Or.inl ne_a1_b2)).other W84 (Or.inl ne_a1_b5)).other W98 (Or.inl ne_a1_b2)).other W111 (Or.inl ne_a1_b5)).other W125 (Or.inl ne_a1_b2)).other W138 (Or.inl ne_a1_b5)) (g := (mkF m 100 #[.val (.ref a1), .val (.int (5 : Int32)), .val (.int (2 : Int32)), .val (.double (FP.l2d r2)), .second, .val (.double (FP.l2d r0)), .second] [(.ref a1), (.int (6 : Int32)), (.ref b2)])) rfl rfl (hb hby d8_100)
  obtain ⟨cl147, Ar147, q147, S147, M147, H147, G147⟩ := id (V125.other W138 ne_b2_b5)
  have Ed148 : FP.dadd (FP.l2d m5) (FP.l2d r2) = FP.l2d (m5 + r2) := own_dadd Rd122 hr2 (by decide)
  obtain ⟨Rd148, Td148⟩ := own_Radd Rd122 hr2 (by decide)
  have Ed149 : FP.dadd (FP.l2d (m5 + r2)) (FP.l2d r0) = FP.l2d ((m5 + r2) + r0) := own_dadd Rd148 hr0 (by decide)
  obtain ⟨Rd149, Td149⟩ := own_Radd Rd148 hr0 (by decide)
  have pre150 : ∀ t, Steps p.tables e below (T146.setTop (mkF m 110 #[.val (.ref a1), .val (.int (5 : Int32)), .val (.int (2 : Int32)), .val (.double (FP.l2d r2)), .second, .val (.double (FP.l2d r0)), .second] [(.double (FP.l2d ((m5 + r2) + r0))), (.int (6 : Int32)), (.ref b2)])) t → Steps p.tables e below (s₁.setTop (entryFrame m #[(.ref a1)] 7)) t := by
    intro t k
    refine pre136 t ?_
    refine st138 _ ?_
    show Steps p.tables e below (T138.setTop (mkF m 146 #[.val (.ref a1), .val (.int (4 : Int32)), .val (.int (1 : Int32)), .val (.double (FP.l2d r1)), .second, .val (.double (FP.l2d r2)), .second] [])) _
    refine XS.iinc X138.here hx rfl (hb hby d8_146) rfl (l' := #[.val (.ref a1), .val (.int (5 : Int32)), .val (.int (1 : Int32)), .val (.double (FP.l2d r1)), .second, .val (.double (FP.l2d r2)), .second]) rfl ?_
    show Steps p.tables e below (T138.setTop (mkF m 149 #[.val (.ref a1), .val (.int (5 : Int32)), .val (.int (1 : Int32)), .val (.double (FP.l2d r1)), .second, .val (.double (FP.l2d r2)), .second] [])) _
    refine XS.goto X138.here hx rfl (pc0 := 149) (pc' := 30) rfl (hb hby d8_149) (by decide) (by decide) ?_
    show Steps p.tables e below (T138.setTop (mkF m 30 #[.val (.ref a1), .val (.int (5 : Int32)), .val (.int (1 : Int32)), .val (.double (FP.l2d r1)), .second, .val (.double (FP.l2d r2)), .second] [])) _
    refine XS.iloadN X138.here hx rfl (hb hby d8_30) rfl ?_
    show Steps p.tables e below (T138.setTop (mkF m 31 #[.val (.ref a1), .val (.int (5 : Int32)), .val (.int (1 : Int32)), .val (.double (FP.l2d r1)), .second, .val (.double (FP.l2d r2)), .second] [(.int (5 : Int32))])) _
    refine XS.iconst X138.here hx rfl (hb hby d8_31) ?_
    show Steps p.tables e below (T138.setTop (mkF m 32 #[.val (.ref a1), .val (.int (5 : Int32)), .val (.int (1 : Int32)), .val (.double (FP.l2d r1)), .second, .val (.double (FP.l2d r2)), .second] [(.int (2 : Int32)), (.int (5 : Int32))])) _
    refine XS.aloadN X138.here hx rfl (hb hby d8_32) rfl (rfl) ?_
    show Steps p.tables e below (T138.setTop (mkF m 33 #[.val (.ref a1), .val (.int (5 : Int32)), .val (.int (1 : Int32)), .val (.double (FP.l2d r1)), .second, .val (.double (FP.l2d r2)), .second] [(.ref a1), (.int (2 : Int32)), (.int (5 : Int32))])) _
    refine st139 _ ?_
    show Steps p.tables e below (T139.setTop (mkF m 36 #[.val (.ref a1), .val (.int (5 : Int32)), .val (.int (1 : Int32)), .val (.double (FP.l2d r1)), .second, .val (.double (FP.l2d r2)), .second] [(.int (3 : Int32)), (.int (2 : Int32)), (.int (5 : Int32))])) _
    refine XS.imul X139.here hx rfl (hb hby d8_36) rfl ?_
    show Steps p.tables e below (T139.setTop (mkF m 37 #[.val (.ref a1), .val (.int (5 : Int32)), .val (.int (1 : Int32)), .val (.double (FP.l2d r1)), .second, .val (.double (FP.l2d r2)), .second] [(.int (6 : Int32)), (.int (5 : Int32))])) _
    refine XS.icmpNo X139.here hx rfl (hb hby d8_37) rfl (tlt (by decide : (5 : Int32) < (6 : Int32))).2.1 ?_
    show Steps p.tables e below (T139.setTop (mkF m 40 #[.val (.ref a1), .val (.int (5 : Int32)), .val (.int (1 : Int32)), .val (.double (FP.l2d r1)), .second, .val (.double (FP.l2d r2)), .second] [])) _
    refine XS.iloadN X139.here hx rfl (hb hby d8_40) rfl ?_
    show Steps p.tables e below (T139.setTop (mkF m 41 #[.val (.ref a1), .val (.int (5 : Int32)), .val (.int (1 : Int32)), .val (.double (FP.l2d r1)), .second, .val (.double (FP.l2d r2)), .second] [(.int (5 : Int32))])) _
    refine XS.aloadN X139.here hx rfl (hb hby d8_41) rfl (rfl) ?_
    show Steps p.tables e below (T139.setTop (mkF m 42 #[.val (.ref a1), .val (.int (5 : Int32)), .val (.int (1 : Int32)), .val (.double (FP.l2d r1)), .second, .val (.double (FP.l2d r2)), .second] [(.ref a1), (.int (5 : Int32))])) _
    refine st140 _ ?_
    show Steps p.tables e below (T140.setTop (mkF m 45 #[.val (.ref a1), .val (.int (5 : Int32)), .val (.int (1 : Int32)), .val (.double (FP.l2d r1)), .second, .val (.double (FP.l2d r2)), .second] [(.int (3 : Int32)), (.int (5 : Int32))])) _
    refine XS.icmpYes X140.here hx rfl (pc0 := 45) (pc' := 52) rfl (hb hby d8_45) rfl (flt (by decide : ¬ ((5 : Int32) < (3 : Int32)))).2.1 (by decide) (by decide) ?_
    show Steps p.tables e below (T140.setTop (mkF m 52 #[.val (.ref a1), .val (.int (5 : Int32)), .val (.int (1 : Int32)), .val (.double (FP.l2d r1)), .second, .val (.double (FP.l2d r2)), .second] [])) _
    refine XS.iloadN X140.here hx rfl (hb hby d8_52) rfl ?_
    show Steps p.tables e below (T140.setTop (mkF m 53 #[.val (.ref a1), .val (.int (5 : Int32)), .val (.int (1 : Int32)), .val (.double (FP.l2d r1)), .second, .val (.double (FP.l2d r2)), .second] [(.int (5 : Int32))])) _
    refine XS.aloadN X140.here hx rfl (hb hby d8_53) rfl (rfl) ?_
    show Steps p.tables e below (T140.setTop (mkF m 54 #[.val (.ref a1), .val (.int (5 : Int32)), .val (.int (1 : Int32)), .val (.double (FP.l2d r1)), .second, .val (.double (FP.l2d r2)), .second] [(.ref a1), (.int (5 : Int32))])) _
    refine st141 _ ?_
    show Steps p.tables e below (T141.setTop (mkF m 57 #[.val (.ref a1), .val (.int (5 : Int32)), .val (.int (1 : Int32)), .val (.double (FP.l2d r1)), .second, .val (.double (FP.l2d r2)), .second] [(.int (3 : Int32)), (.int (5 : Int32))])) _
    refine XS.isub X141.here hx rfl (hb hby d8_57) rfl ?_
    show Steps p.tables e below (T141.setTop (mkF m 58 #[.val (.ref a1), .val (.int (5 : Int32)), .val (.int (1 : Int32)), .val (.double (FP.l2d r1)), .second, .val (.double (FP.l2d r2)), .second] [(.int (2 : Int32))])) _
    refine XS.istoreN X141.here hx rfl (hb hby d8_58) rfl (l' := #[.val (.ref a1), .val (.int (5 : Int32)), .val (.int (2 : Int32)), .val (.double (FP.l2d r1)), .second, .val (.double (FP.l2d r2)), .second]) rfl ?_
    show Steps p.tables e below (T141.setTop (mkF m 59 #[.val (.ref a1), .val (.int (5 : Int32)), .val (.int (2 : Int32)), .val (.double (FP.l2d r1)), .second, .val (.double (FP.l2d r2)), .second] [])) _
    refine XS.aloadN X141.here hx rfl (hb hby d8_59) rfl (rfl) ?_
    show Steps p.tables e below (T141.setTop (mkF m 60 #[.val (.ref a1), .val (.int (5 : Int32)), .val (.int (2 : Int32)), .val (.double (FP.l2d r1)), .second, .val (.double (FP.l2d r2)), .second] [(.ref a1)])) _
    refine st142 _ ?_
    show Steps p.tables e below (T142.setTop (mkF m 63 #[.val (.ref a1), .val (.int (5 : Int32)), .val (.int (2 : Int32)), .val (.double (FP.l2d r1)), .second, .val (.double (FP.l2d r2)), .second] [(.ref a2)])) _
    refine XS.iloadN X142.here hx rfl (hb hby d8_63) rfl ?_
    show Steps p.tables e below (T142.setTop (mkF m 64 #[.val (.ref a1), .val (.int (5 : Int32)), .val (.int (2 : Int32)), .val (.double (FP.l2d r1)), .second, .val (.double (FP.l2d r2)), .second] [(.int (2 : Int32)), (.ref a2)])) _
    refine X142.laload hx (j := (2 : Int32)) (v := (.long r2)) (by rw [e142]; exact ((((((((((((((Ar.ext E2).other W3 (ne_a2_a1)).ext E5).other W6 (ne_a2_a1)).other W19 ne_a2_b2).other W32 ne_a2_b5).other W45 ne_a2_b2).other W58 ne_a2_b5).other W71 ne_a2_b2).other W84 ne_a2_b5).other W98 ne_a2_b2).other W111 ne_a2_b5).other W125 ne_a2_b2).other W138 ne_a2_b5).1) (State.isArrayOf_alike hZ.alike ((((((((((((((Ar.ext E2).other W3 (ne_a2_a1)).ext E5).other W6 (ne_a2_a1)).other W19 ne_a2_b2).other W32 ne_a2_b5).other W45 ne_a2_b2).other W58 ne_a2_b5).other W71 ne_a2_b2).other W84 ne_a2_b5).other W98 ne_a2_b2).other W111 ne_a2_b5).other W125 ne_a2_b2).other W138 ne_a2_b5).2.1) ((((((((((((((Ar.ext E2).other W3 (ne_a2_a1)).ext E5).other W6 (ne_a2_a1)).other W19 ne_a2_b2).other W32 ne_a2_b5).other W45 ne_a2_b2).other W58 ne_a2_b5).other W71 ne_a2_b2).other W84 ne_a2_b5).other W98 ne_a2_b2).other W111 ne_a2_b5).other W125 ne_a2_b2).other W138 ne_a2_b5).2.2 (inb_of Sz ⟨by decide, by decide⟩) t2 (g := (mkF m 64 #[.val (.ref a1), .val (.int (5 : Int32)), .val (.int (2 : Int32)), .val (.double (FP.l2d r1)), .second, .val (.double (FP.l2d r2)), .second] [(.int (2 : Int32)), (.ref a2)])) rfl rfl (hb hby d8_64) _ ?_
    show Steps p.tables e below (T142.setTop (mkF m 65 #[.val (.ref a1), .val (.int (5 : Int32)), .val (.int (2 : Int32)), .val (.double (FP.l2d r1)), .second, .val (.double (FP.l2d r2)), .second] [(.long r2)])) _
    refine XS.l2dS X142.here hx rfl (hb hby d8_65) rfl rfl ?_
    show Steps p.tables e below (T142.setTop (mkF m 66 #[.val (.ref a1), .val (.int (5 : Int32)), .val (.int (2 : Int32)), .val (.double (FP.l2d r1)), .second, .val (.double (FP.l2d r2)), .second] [(.double (FP.l2d r2))])) _
    refine XS.dstoreN X142.here hx rfl (hb hby d8_66) rfl (l' := #[.val (.ref a1), .val (.int (5 : Int32)), .val (.int (2 : Int32)), .val (.double (FP.l2d r2)), .second, .val (.double (FP.l2d r2)), .second]) rfl ?_
    show Steps p.tables e below (T142.setTop (mkF m 67 #[.val (.ref a1), .val (.int (5 : Int32)), .val (.int (2 : Int32)), .val (.double (FP.l2d r2)), .second, .val (.double (FP.l2d r2)), .second] [])) _
    refine XS.aloadN X142.here hx rfl (hb hby d8_67) rfl (rfl) ?_
    show Steps p.tables e below (T142.setTop (mkF m 68 #[.val (.ref a1), .val (.int (5 : Int32)), .val (.int (2 : Int32)), .val (.double (FP.l2d r2)), .second, .val (.double (FP.l2d r2)), .second] [(.ref a1)])) _
    refine st143 _ ?_
    show Steps p.tables e below (T143.setTop (mkF m 71 #[.val (.ref a1), .val (.int (5 : Int32)), .val (.int (2 : Int32)), .val (.double (FP.l2d r2)), .second, .val (.double (FP.l2d r2)), .second] [(.ref a2)])) _
    refine XS.iloadN X143.here hx rfl (hb hby d8_71) rfl ?_
    show Steps p.tables e below (T143.setTop (mkF m 72 #[.val (.ref a1), .val (.int (5 : Int32)), .val (.int (2 : Int32)), .val (.double (FP.l2d r2)), .second, .val (.double (FP.l2d r2)), .second] [(.int (2 : Int32)), (.ref a2)])) _
    refine XS.iconst X143.here hx rfl (hb hby d8_72) ?_
    show Steps p.tables e below (T143.setTop (mkF m 73 #[.val (.ref a1), .val (.int (5 : Int32)), .val (.int (2 : Int32)), .val (.double (FP.l2d r2)), .second, .val (.double (FP.l2d r2)), .second] [(.int (1 : Int32)), (.int (2 : Int32)), (.ref a2)])) _
    refine XS.iadd X143.here hx rfl (hb hby d8_73) rfl ?_
    show Steps p.tables e below (T143.setTop (mkF m 74 #[.val (.ref a1), .val (.int (5 : Int32)), .val (.int (2 : Int32)), .val (.double (FP.l2d r2)), .second, .val (.double (FP.l2d r2)), .second] [(.int (3 : Int32)), (.ref a2)])) _
    refine XS.aloadN X143.here hx rfl (hb hby d8_74) rfl (rfl) ?_
    show Steps p.tables e below (T143.setTop (mkF m 75 #[.val (.ref a1), .val (.int (5 : Int32)), .val (.int (2 : Int32)), .val (.double (FP.l2d r2)), .second, .val (.double (FP.l2d r2)), .second] [(.ref a1), (.int (3 : Int32)), (.ref a2)])) _
    refine st144 _ ?_
    show Steps p.tables e below (T144.setTop (mkF m 78 #[.val (.ref a1), .val (.int (5 : Int32)), .val (.int (2 : Int32)), .val (.double (FP.l2d r2)), .second, .val (.double (FP.l2d r2)), .second] [(.int (3 : Int32)), (.int (3 : Int32)), (.ref a2)])) _
    refine XS.icmpYes X144.here hx rfl (pc0 := 78) (pc' := 87) rfl (hb hby d8_78) rfl (flt (by decide : ¬ ((3 : Int32) < (3 : Int32)))).2.1 (by decide) (by decide) ?_
    show Steps p.tables e below (T144.setTop (mkF m 87 #[.val (.ref a1), .val (.int (5 : Int32)), .val (.int (2 : Int32)), .val (.double (FP.l2d r2)), .second, .val (.double (FP.l2d r2)), .second] [(.ref a2)])) _
    refine XS.iconst X144.here hx rfl (hb hby d8_87) ?_
    show Steps p.tables e below (T144.setTop (mkF m 88 #[.val (.ref a1), .val (.int (5 : Int32)), .val (.int (2 : Int32)), .val (.double (FP.l2d r2)), .second, .val (.double (FP.l2d r2)), .second] [(.int (0 : Int32)), (.ref a2)])) _
    refine X144.laload hx (j := (0 : Int32)) (v := (.long r0)) (by rw [e144]; exact ((((((((((((((Ar.ext E2).other W3 (ne_a2_a1)).ext E5).other W6 (ne_a2_a1)).other W19 ne_a2_b2).other W32 ne_a2_b5).other W45 ne_a2_b2).other W58 ne_a2_b5).other W71 ne_a2_b2).other W84 ne_a2_b5).other W98 ne_a2_b2).other W111 ne_a2_b5).other W125 ne_a2_b2).other W138 ne_a2_b5).1) (State.isArrayOf_alike hZ.alike ((((((((((((((Ar.ext E2).other W3 (ne_a2_a1)).ext E5).other W6 (ne_a2_a1)).other W19 ne_a2_b2).other W32 ne_a2_b5).other W45 ne_a2_b2).other W58 ne_a2_b5).other W71 ne_a2_b2).other W84 ne_a2_b5).other W98 ne_a2_b2).other W111 ne_a2_b5).other W125 ne_a2_b2).other W138 ne_a2_b5).2.1) ((((((((((((((Ar.ext E2).other W3 (ne_a2_a1)).ext E5).other W6 (ne_a2_a1)).other W19 ne_a2_b2).other W32 ne_a2_b5).other W45 ne_a2_b2).other W58 ne_a2_b5).other W71 ne_a2_b2).other W84 ne_a2_b5).other W98 ne_a2_b2).other W111 ne_a2_b5).other W125 ne_a2_b2).other W138 ne_a2_b5).2.2 (inb_of Sz ⟨by decide, by decide⟩) t0 (g := (mkF m 88 #[.val (.ref a1), .val (.int (5 : Int32)), .val (.int (2 : Int32)), .val (.double (FP.l2d r2)), .second, .val (.double (FP.l2d r2)), .second] [(.int (0 : Int32)), (.ref a2)])) rfl rfl (hb hby d8_88) _ ?_
    show Steps p.tables e below (T144.setTop (mkF m 89 #[.val (.ref a1), .val (.int (5 : Int32)), .val (.int (2 : Int32)), .val (.double (FP.l2d r2)), .second, .val (.double (FP.l2d r2)), .second] [(.long r0)])) _
    refine XS.l2dS X144.here hx rfl (hb hby d8_89) rfl rfl ?_
    show Steps p.tables e below (T144.setTop (mkF m 90 #[.val (.ref a1), .val (.int (5 : Int32)), .val (.int (2 : Int32)), .val (.double (FP.l2d r2)), .second, .val (.double (FP.l2d r2)), .second] [(.double (FP.l2d r0))])) _
    refine XS.dstore X144.here hx rfl (hb hby d8_90) rfl (l' := #[.val (.ref a1), .val (.int (5 : Int32)), .val (.int (2 : Int32)), .val (.double (FP.l2d r2)), .second, .val (.double (FP.l2d r0)), .second]) rfl ?_
    show Steps p.tables e below (T144.setTop (mkF m 92 #[.val (.ref a1), .val (.int (5 : Int32)), .val (.int (2 : Int32)), .val (.double (FP.l2d r2)), .second, .val (.double (FP.l2d r0)), .second] [])) _
    refine XS.aloadN X144.here hx rfl (hb hby d8_92) rfl (rfl) ?_
    show Steps p.tables e below (T144.setTop (mkF m 93 #[.val (.ref a1), .val (.int (5 : Int32)), .val (.int (2 : Int32)), .val (.double (FP.l2d r2)), .second, .val (.double (FP.l2d r0)), .second] [(.ref a1)])) _
    refine st145 _ ?_
    show Steps p.tables e below (T145.setTop (mkF m 96 #[.val (.ref a1), .val (.int (5 : Int32)), .val (.int (2 : Int32)), .val (.double (FP.l2d r2)), .second, .val (.double (FP.l2d r0)), .second] [(.ref b2)])) _
    refine XS.iloadN X145.here hx rfl (hb hby d8_96) rfl ?_
    show Steps p.tables e below (T145.setTop (mkF m 97 #[.val (.ref a1), .val (.int (5 : Int32)), .val (.int (2 : Int32)), .val (.double (FP.l2d r2)), .second, .val (.double (FP.l2d r0)), .second] [(.int (5 : Int32)), (.ref b2)])) _
    refine XS.iconst X145.here hx rfl (hb hby d8_97) ?_
    show Steps p.tables e below (T145.setTop (mkF m 98 #[.val (.ref a1), .val (.int (5 : Int32)), .val (.int (2 : Int32)), .val (.double (FP.l2d r2)), .second, .val (.double (FP.l2d r0)), .second] [(.int (1 : Int32)), (.int (5 : Int32)), (.ref b2)])) _
    refine XS.iadd X145.here hx rfl (hb hby d8_98) rfl ?_
    show Steps p.tables e below (T145.setTop (mkF m 99 #[.val (.ref a1), .val (.int (5 : Int32)), .val (.int (2 : Int32)), .val (.double (FP.l2d r2)), .second, .val (.double (FP.l2d r0)), .second] [(.int (6 : Int32)), (.ref b2)])) _
    refine XS.aloadN X145.here hx rfl (hb hby d8_99) rfl (rfl) ?_
    show Steps p.tables e below (T145.setTop (mkF m 100 #[.val (.ref a1), .val (.int (5 : Int32)), .val (.int (2 : Int32)), .val (.double (FP.l2d r2)), .second, .val (.double (FP.l2d r0)), .second] [(.ref a1), (.int (6 : Int32)), (.ref b2)])) _
    refine st146 _ ?_
    show Steps p.tables e below (T146.setTop (mkF m 103 #[.val (.ref a1), .val (.int (5 : Int32)), .val (.int (2 : Int32)), .val (.double (FP.l2d r2)), .second, .val (.double (FP.l2d r0)), .second] [(.ref b2), (.int (6 : Int32)), (.ref b2)])) _
    refine XS.iloadN X146.here hx rfl (hb hby d8_103) rfl ?_
    show Steps p.tables e below (T146.setTop (mkF m 104 #[.val (.ref a1), .val (.int (5 : Int32)), .val (.int (2 : Int32)), .val (.double (FP.l2d r2)), .second, .val (.double (FP.l2d r0)), .second] [(.int (5 : Int32)), (.ref b2), (.int (6 : Int32)), (.ref b2)])) _
    refine X146.daload hx (j := (5 : Int32)) (v := (.double (FP.l2d m5))) (by rw [e146]; exact Ar147.1) (State.isArrayOf_alike hZ.alike Ar147.2.1) Ar147.2.2 (inb_of S147 ⟨by decide, by decide⟩) (H147 5 (by rw [S147]; decide)) (g := (mkF m 104 #[.val (.ref a1), .val (.int (5 : Int32)), .val (.int (2 : Int32)), .val (.double (FP.l2d r2)), .second, .val (.double (FP.l2d r0)), .second] [(.int (5 : Int32)), (.ref b2), (.int (6 : Int32)), (.ref b2)])) rfl rfl (hb hby d8_104) _ ?_
    show Steps p.tables e below (T146.setTop (mkF m 105 #[.val (.ref a1), .val (.int (5 : Int32)), .val (.int (2 : Int32)), .val (.double (FP.l2d r2)), .second, .val (.double (FP.l2d r0)), .second] [(.double (FP.l2d m5)), (.int (6 : Int32)), (.ref b2)])) _
    refine XS.dloadN X146.here hx rfl (hb hby d8_105) rfl ?_
    show Steps p.tables e below (T146.setTop (mkF m 106 #[.val (.ref a1), .val (.int (5 : Int32)), .val (.int (2 : Int32)), .val (.double (FP.l2d r2)), .second, .val (.double (FP.l2d r0)), .second] [(.double (FP.l2d r2)), (.double (FP.l2d m5)), (.int (6 : Int32)), (.ref b2)])) _
    refine XS.daddS X146.here hx rfl (hb hby d8_106) rfl (nn_w Ed148) Ed148 ?_
    show Steps p.tables e below (T146.setTop (mkF m 107 #[.val (.ref a1), .val (.int (5 : Int32)), .val (.int (2 : Int32)), .val (.double (FP.l2d r2)), .second, .val (.double (FP.l2d r0)), .second] [(.double (FP.l2d (m5 + r2))), (.int (6 : Int32)), (.ref b2)])) _
    refine XS.dload X146.here hx rfl (hb hby d8_107) rfl ?_
    show Steps p.tables e below (T146.setTop (mkF m 109 #[.val (.ref a1), .val (.int (5 : Int32)), .val (.int (2 : Int32)), .val (.double (FP.l2d r2)), .second, .val (.double (FP.l2d r0)), .second] [(.double (FP.l2d r0)), (.double (FP.l2d (m5 + r2))), (.int (6 : Int32)), (.ref b2)])) _
    refine XS.daddS X146.here hx rfl (hb hby d8_109) rfl (nn_w Ed149) Ed149 ?_
    show Steps p.tables e below (T146.setTop (mkF m 110 #[.val (.ref a1), .val (.int (5 : Int32)), .val (.int (2 : Int32)), .val (.double (FP.l2d r2)), .second, .val (.double (FP.l2d r0)), .second] [(.double (FP.l2d ((m5 + r2) + r0))), (.int (6 : Int32)), (.ref b2)])) _
    exact k
  obtain ⟨m6, hm6⟩ : ∃ z : Int64, z = ((m5 + r2) + r0) := ⟨_, rfl⟩
  rw [← hm6] at pre150 Rd149 Td149
  have z0' : (0 : Int64).toInt = 0 := rfl
  have Tm6 : m6.toInt = m5.toInt + r2.toInt + r0.toInt := by omega
  clear Td148 Td149
  obtain ⟨cl151, Ar151, q151, S151, M151, H151, G151⟩ := id (V125.other W138 ne_b2_b5)
  have hin151 : ¬ ((6 : Int32) < 0 ∨ cl151.slots.size ≤ ((6 : Int32)).toNatClampNeg) := inb_of S151 ⟨by decide, by decide⟩
  obtain ⟨T152, h152, X152, e152, W152, st152⟩ := stD X146 hx hZ e146 Ar151 (j := (6 : Int32)) hin151 (g := (mkF m 110 #[.val (.ref a1), .val (.int (5 : Int32)), .val (.int (2 : Int32)), .val (.double (FP.l2d r2)), .second, .val (.double (FP.l2d r0)), .second] [(.double (FP.l2d m6)), (.int (6 : Int32)), (.ref b2)])) rfl rfl (hb hby d8_110)
  have V152 : Arv Z h152 b2 k2 .double (7 : Int32) [(.double (FP.l2d 0)), (.double (FP.l2d m1)), (.double (FP.l2d m2)), (.double (FP.l2d m3)), (.double (FP.l2d m4)), (.double (FP.l2d m5)), (.double (FP.l2d m6))] (.double (FP.l2d 0)) := Arv.set Ar151 q151 S151 M151 H151 G151 rfl W152 6 rfl (Nat.le_of_ble_eq_true rfl)
  have K152 : Keep h0 h152 [a1] := K138.wr W152 (Or.inr sz_b2)
  have N152 := Fr.snoc X152 N138 g_b2
  obtain ⟨T153, X153, e153, st153⟩ := getF X152 hx hZ hown (host := "") (Or.inl (hw _ (List.mem_of_getElem? (i := 44) rfl))) Via.refl e152 (((((((((((Fw6.other W19 (Or.inl ne_a1_b2)).other W32 (Or.inl ne_a1_b5)).other W45 (Or.inl ne_a1_b2)).other W58 (Or.inl ne_a1_b5)).other W71 (Or.inl ne_a1_b2)).other W84 (Or.inl ne_a1_b5)).other W98 (Or.inl ne_a1_b2)).other W111 (Or.inl ne_a1_b5)).other W125 (Or.inl ne_a1_b2)).other W138 (Or.inl ne_a1_b5)).other W152 (Or.inl ne_a1_b2)) (g := (mkF m 112 #[.val (.ref a1), .val (.int (5 : Int32)), .val (.int (2 : Int32)), .val (.double (FP.l2d r2)), .second, .val (.double (FP.l2d r0)), .second] [(.ref a1)])) rfl rfl (hb hby d8_112)
  obtain ⟨T154, X154, e154, st154⟩ := getF X153 hx hZ hown (host := "") (Or.inl (hw _ (List.mem_of_getElem? (i := 44) rfl))) Via.refl e153 (((((((((((Fw6.other W19 (Or.inl ne_a1_b2)).other W32 (Or.inl ne_a1_b5)).other W45 (Or.inl ne_a1_b2)).other W58 (Or.inl ne_a1_b5)).other W71 (Or.inl ne_a1_b2)).other W84 (Or.inl ne_a1_b5)).other W98 (Or.inl ne_a1_b2)).other W111 (Or.inl ne_a1_b5)).other W125 (Or.inl ne_a1_b2)).other W138 (Or.inl ne_a1_b5)).other W152 (Or.inl ne_a1_b2)) (g := (mkF m 119 #[.val (.ref a1), .val (.int (5 : Int32)), .val (.int (2 : Int32)), .val (.double (FP.l2d r2)), .second, .val (.double (FP.l2d r0)), .second] [(.ref a1), (.int (6 : Int32)), (.ref b5)])) rfl rfl (hb hby d8_119)
  obtain ⟨cl155, Ar155, q155, S155, M155, H155, G155⟩ := id (V138.other W152 (Ne.symm ne_b2_b5))
  have Ed156 : FP.dmul (4613937818241073152 : UInt64) (FP.l2d (5 : Int64)) = FP.l2d (15 : Int64) := by decide +kernel
  have Ed157 : FP.dadd (FP.l2d r2) (FP.l2d r0) = FP.l2d (r2 + r0) := own_dadd hr2 hr0 (by decide)
  obtain ⟨Rd157, Td157⟩ := own_Radd hr2 hr0 (by decide)
  have Ed158 : FP.dmul (FP.l2d (15 : Int64)) (FP.l2d (r2 + r0)) = FP.l2d ((15 : Int64) * (r2 + r0)) := by exact own_dmulc (15 : Int64) 15 rfl (by decide) (by decide) Rd157 (by decide)
  obtain ⟨Rd158, Td158⟩ := own_Rmulc (15 : Int64) 15 rfl (by decide) (by decide) Rd157 (by decide)
  have Ed159 : FP.dadd (FP.l2d w5) (FP.l2d ((15 : Int64) * (r2 + r0))) = FP.l2d (w5 + ((15 : Int64) * (r2 + r0))) := own_dadd Rd135 Rd158 (by decide)
  obtain ⟨Rd159, Td159⟩ := own_Radd Rd135 Rd158 (by decide)
  have Ed160 : FP.dadd (FP.l2d (w5 + ((15 : Int64) * (r2 + r0)))) (FP.l2d r2) = FP.l2d ((w5 + ((15 : Int64) * (r2 + r0))) + r2) := own_dadd Rd159 hr2 (by decide)
  obtain ⟨Rd160, Td160⟩ := own_Radd Rd159 hr2 (by decide)
  have Ed161 : FP.dmul (4611686018427387904 : UInt64) (FP.l2d r0) = FP.l2d ((2 : Int64) * r0) := by rw [own_c2]; exact own_dmulc (2 : Int64) 2 rfl (by decide) (by decide) hr0 (by decide)
  obtain ⟨Rd161, Td161⟩ := own_Rmulc (2 : Int64) 2 rfl (by decide) (by decide) hr0 (by decide)
  have Ed162 : FP.dadd (FP.l2d ((w5 + ((15 : Int64) * (r2 + r0))) + r2)) (FP.l2d ((2 : Int64) * r0)) = FP.l2d (((w5 + ((15 : Int64) * (r2 + r0))) + r2) + ((2 : Int64) * r0)) := own_dadd Rd160 Rd161 (by decide)
  obtain ⟨Rd162, Td162⟩ := own_Radd Rd160 Rd161 (by decide)
  have pre163 : ∀ t, Steps p.tables e below (T154.setTop (mkF m 145 #[.val (.ref a1), .val (.int (5 : Int32)), .val (.int (2 : Int32)), .val (.double (FP.l2d r2)), .second, .val (.double (FP.l2d r0)), .second] [(.double (FP.l2d (((w5 + ((15 : Int64) * (r2 + r0))) + r2) + ((2 : Int64) * r0)))), (.int (6 : Int32)), (.ref b5)])) t → Steps p.tables e below (s₁.setTop (entryFrame m #[(.ref a1)] 7)) t := by
    intro t k
    refine pre150 t ?_
    refine st152 _ ?_
    show Steps p.tables e below (T152.setTop (mkF m 111 #[.val (.ref a1), .val (.int (5 : Int32)), .val (.int (2 : Int32)), .val (.double (FP.l2d r2)), .second, .val (.double (FP.l2d r0)), .second] [])) _
    refine XS.aloadN X152.here hx rfl (hb hby d8_111) rfl (rfl) ?_
    show Steps p.tables e below (T152.setTop (mkF m 112 #[.val (.ref a1), .val (.int (5 : Int32)), .val (.int (2 : Int32)), .val (.double (FP.l2d r2)), .second, .val (.double (FP.l2d r0)), .second] [(.ref a1)])) _
    refine st153 _ ?_
    show Steps p.tables e below (T153.setTop (mkF m 115 #[.val (.ref a1), .val (.int (5 : Int32)), .val (.int (2 : Int32)), .val (.double (FP.l2d r2)), .second, .val (.double (FP.l2d r0)), .second] [(.ref b5)])) _
    refine XS.iloadN X153.here hx rfl (hb hby d8_115) rfl ?_
    show Steps p.tables e below (T153.setTop (mkF m 116 #[.val (.ref a1), .val (.int (5 : Int32)), .val (.int (2 : Int32)), .val (.double (FP.l2d r2)), .second, .val (.double (FP.l2d r0)), .second] [(.int (5 : Int32)), (.ref b5)])) _
    refine XS.iconst X153.here hx rfl (hb hby d8_116) ?_
    show Steps p.tables e below (T153.setTop (mkF m 117 #[.val (.ref a1), .val (.int (5 : Int32)), .val (.int (2 : Int32)), .val (.double (FP.l2d r2)), .second, .val (.double (FP.l2d r0)), .second] [(.int (1 : Int32)), (.int (5 : Int32)), (.ref b5)])) _
    refine XS.iadd X153.here hx rfl (hb hby d8_117) rfl ?_
    show Steps p.tables e below (T153.setTop (mkF m 118 #[.val (.ref a1), .val (.int (5 : Int32)), .val (.int (2 : Int32)), .val (.double (FP.l2d r2)), .second, .val (.double (FP.l2d r0)), .second] [(.int (6 : Int32)), (.ref b5)])) _
    refine XS.aloadN X153.here hx rfl (hb hby d8_118) rfl (rfl) ?_
    show Steps p.tables e below (T153.setTop (mkF m 119 #[.val (.ref a1), .val (.int (5 : Int32)), .val (.int (2 : Int32)), .val (.double (FP.l2d r2)), .second, .val (.double (FP.l2d r0)), .second] [(.ref a1), (.int (6 : Int32)), (.ref b5)])) _
    refine st154 _ ?_
    show Steps p.tables e below (T154.setTop (mkF m 122 #[.val (.ref a1), .val (.int (5 : Int32)), .val (.int (2 : Int32)), .val (.double (FP.l2d r2)), .second, .val (.double (FP.l2d r0)), .second] [(.ref b5), (.int (6 : Int32)), (.ref b5)])) _
    refine XS.iloadN X154.here hx rfl (hb hby d8_122) rfl ?_
    show Steps p.tables e below (T154.setTop (mkF m 123 #[.val (.ref a1), .val (.int (5 : Int32)), .val (.int (2 : Int32)), .val (.double (FP.l2d r2)), .second, .val (.double (FP.l2d r0)), .second] [(.int (5 : Int32)), (.ref b5), (.int (6 : Int32)), (.ref b5)])) _
    refine X154.daload hx (j := (5 : Int32)) (v := (.double (FP.l2d w5))) (by rw [e154]; exact Ar155.1) (State.isArrayOf_alike hZ.alike Ar155.2.1) Ar155.2.2 (inb_of S155 ⟨by decide, by decide⟩) (H155 5 (by rw [S155]; decide)) (g := (mkF m 123 #[.val (.ref a1), .val (.int (5 : Int32)), .val (.int (2 : Int32)), .val (.double (FP.l2d r2)), .second, .val (.double (FP.l2d r0)), .second] [(.int (5 : Int32)), (.ref b5), (.int (6 : Int32)), (.ref b5)])) rfl rfl (hb hby d8_123) _ ?_
    show Steps p.tables e below (T154.setTop (mkF m 124 #[.val (.ref a1), .val (.int (5 : Int32)), .val (.int (2 : Int32)), .val (.double (FP.l2d r2)), .second, .val (.double (FP.l2d r0)), .second] [(.double (FP.l2d w5)), (.int (6 : Int32)), (.ref b5)])) _
    refine X154.ldc2DoubleC hx hown (mvT hZ (hw _ (List.mem_of_getElem? (i := 46) rfl))) (g := (mkF m 124 #[.val (.ref a1), .val (.int (5 : Int32)), .val (.int (2 : Int32)), .val (.double (FP.l2d r2)), .second, .val (.double (FP.l2d r0)), .second] [(.double (FP.l2d w5)), (.int (6 : Int32)), (.ref b5)])) rfl (hb hby d8_124) _ ?_
    show Steps p.tables e below (T154.setTop (mkF m 127 #[.val (.ref a1), .val (.int (5 : Int32)), .val (.int (2 : Int32)), .val (.double (FP.l2d r2)), .second, .val (.double (FP.l2d r0)), .second] [(.double (4613937818241073152 : UInt64)), (.double (FP.l2d w5)), (.int (6 : Int32)), (.ref b5)])) _
    refine XS.iloadN X154.here hx rfl (hb hby d8_127) rfl ?_
    show Steps p.tables e below (T154.setTop (mkF m 128 #[.val (.ref a1), .val (.int (5 : Int32)), .val (.int (2 : Int32)), .val (.double (FP.l2d r2)), .second, .val (.double (FP.l2d r0)), .second] [(.int (5 : Int32)), (.double (4613937818241073152 : UInt64)), (.double (FP.l2d w5)), (.int (6 : Int32)), (.ref b5)])) _
    refine XS.i2dS X154.here hx rfl (hb hby d8_128) rfl (i2d_w _ : FP.i2d (5 : Int32) = FP.l2d (5 : Int64)) ?_
    show Steps p.tables e below (T154.setTop (mkF m 129 #[.val (.ref a1), .val (.int (5 : Int32)), .val (.int (2 : Int32)), .val (.double (FP.l2d r2)), .second, .val (.double (FP.l2d r0)), .second] [(.double (FP.l2d (5 : Int64))), (.double (4613937818241073152 : UInt64)), (.double (FP.l2d w5)), (.int (6 : Int32)), (.ref b5)])) _
    refine XS.dmulS X154.here hx rfl (hb hby d8_129) rfl (nn_w Ed156) Ed156 ?_
    show Steps p.tables e below (T154.setTop (mkF m 130 #[.val (.ref a1), .val (.int (5 : Int32)), .val (.int (2 : Int32)), .val (.double (FP.l2d r2)), .second, .val (.double (FP.l2d r0)), .second] [(.double (FP.l2d (15 : Int64))), (.double (FP.l2d w5)), (.int (6 : Int32)), (.ref b5)])) _
    refine XS.dloadN X154.here hx rfl (hb hby d8_130) rfl ?_
    show Steps p.tables e below (T154.setTop (mkF m 131 #[.val (.ref a1), .val (.int (5 : Int32)), .val (.int (2 : Int32)), .val (.double (FP.l2d r2)), .second, .val (.double (FP.l2d r0)), .second] [(.double (FP.l2d r2)), (.double (FP.l2d (15 : Int64))), (.double (FP.l2d w5)), (.int (6 : Int32)), (.ref b5)])) _
    refine XS.dload X154.here hx rfl (hb hby d8_131) rfl ?_
    show Steps p.tables e below (T154.setTop (mkF m 133 #[.val (.ref a1), .val (.int (5 : Int32)), .val (.int (2 : Int32)), .val (.double (FP.l2d r2)), .second, .val (.double (FP.l2d r0)), .second] [(.double (FP.l2d r0)), (.double (FP.l2d r2)), (.double (FP.l2d (15 : Int64))), (.double (FP.l2d w5)), (.int (6 : Int32)), (.ref b5)])) _
    refine XS.daddS X154.here hx rfl (hb hby d8_133) rfl (nn_w Ed157) Ed157 ?_
    show Steps p.tables e below (T154.setTop (mkF m 134 #[.val (.ref a1), .val (.int (5 : Int32)), .val (.int (2 : Int32)), .val (.double (FP.l2d r2)), .second, .val (.double (FP.l2d r0)), .second] [(.double (FP.l2d (r2 + r0))), (.double (FP.l2d (15 : Int64))), (.double (FP.l2d w5)), (.int (6 : Int32)), (.ref b5)])) _
    refine XS.dmulS X154.here hx rfl (hb hby d8_134) rfl (nn_w Ed158) Ed158 ?_
    show Steps p.tables e below (T154.setTop (mkF m 135 #[.val (.ref a1), .val (.int (5 : Int32)), .val (.int (2 : Int32)), .val (.double (FP.l2d r2)), .second, .val (.double (FP.l2d r0)), .second] [(.double (FP.l2d ((15 : Int64) * (r2 + r0)))), (.double (FP.l2d w5)), (.int (6 : Int32)), (.ref b5)])) _
    refine XS.daddS X154.here hx rfl (hb hby d8_135) rfl (nn_w Ed159) Ed159 ?_
    show Steps p.tables e below (T154.setTop (mkF m 136 #[.val (.ref a1), .val (.int (5 : Int32)), .val (.int (2 : Int32)), .val (.double (FP.l2d r2)), .second, .val (.double (FP.l2d r0)), .second] [(.double (FP.l2d (w5 + ((15 : Int64) * (r2 + r0))))), (.int (6 : Int32)), (.ref b5)])) _
    refine XS.dloadN X154.here hx rfl (hb hby d8_136) rfl ?_
    show Steps p.tables e below (T154.setTop (mkF m 137 #[.val (.ref a1), .val (.int (5 : Int32)), .val (.int (2 : Int32)), .val (.double (FP.l2d r2)), .second, .val (.double (FP.l2d r0)), .second] [(.double (FP.l2d r2)), (.double (FP.l2d (w5 + ((15 : Int64) * (r2 + r0))))), (.int (6 : Int32)), (.ref b5)])) _
    refine XS.daddS X154.here hx rfl (hb hby d8_137) rfl (nn_w Ed160) Ed160 ?_
    show Steps p.tables e below (T154.setTop (mkF m 138 #[.val (.ref a1), .val (.int (5 : Int32)), .val (.int (2 : Int32)), .val (.double (FP.l2d r2)), .second, .val (.double (FP.l2d r0)), .second] [(.double (FP.l2d ((w5 + ((15 : Int64) * (r2 + r0))) + r2))), (.int (6 : Int32)), (.ref b5)])) _
    refine X154.ldc2DoubleC hx hown (mvT hZ (hw _ (List.mem_of_getElem? (i := 47) rfl))) (g := (mkF m 138 #[.val (.ref a1), .val (.int (5 : Int32)), .val (.int (2 : Int32)), .val (.double (FP.l2d r2)), .second, .val (.double (FP.l2d r0)), .second] [(.double (FP.l2d ((w5 + ((15 : Int64) * (r2 + r0))) + r2))), (.int (6 : Int32)), (.ref b5)])) rfl (hb hby d8_138) _ ?_
    show Steps p.tables e below (T154.setTop (mkF m 141 #[.val (.ref a1), .val (.int (5 : Int32)), .val (.int (2 : Int32)), .val (.double (FP.l2d r2)), .second, .val (.double (FP.l2d r0)), .second] [(.double (4611686018427387904 : UInt64)), (.double (FP.l2d ((w5 + ((15 : Int64) * (r2 + r0))) + r2))), (.int (6 : Int32)), (.ref b5)])) _
    refine XS.dload X154.here hx rfl (hb hby d8_141) rfl ?_
    show Steps p.tables e below (T154.setTop (mkF m 143 #[.val (.ref a1), .val (.int (5 : Int32)), .val (.int (2 : Int32)), .val (.double (FP.l2d r2)), .second, .val (.double (FP.l2d r0)), .second] [(.double (FP.l2d r0)), (.double (4611686018427387904 : UInt64)), (.double (FP.l2d ((w5 + ((15 : Int64) * (r2 + r0))) + r2))), (.int (6 : Int32)), (.ref b5)])) _
    refine XS.dmulS X154.here hx rfl (hb hby d8_143) rfl (nn_w Ed161) Ed161 ?_
    show Steps p.tables e below (T154.setTop (mkF m 144 #[.val (.ref a1), .val (.int (5 : Int32)), .val (.int (2 : Int32)), .val (.double (FP.l2d r2)), .second, .val (.double (FP.l2d r0)), .second] [(.double (FP.l2d ((2 : Int64) * r0))), (.double (FP.l2d ((w5 + ((15 : Int64) * (r2 + r0))) + r2))), (.int (6 : Int32)), (.ref b5)])) _
    refine XS.daddS X154.here hx rfl (hb hby d8_144) rfl (nn_w Ed162) Ed162 ?_
    show Steps p.tables e below (T154.setTop (mkF m 145 #[.val (.ref a1), .val (.int (5 : Int32)), .val (.int (2 : Int32)), .val (.double (FP.l2d r2)), .second, .val (.double (FP.l2d r0)), .second] [(.double (FP.l2d (((w5 + ((15 : Int64) * (r2 + r0))) + r2) + ((2 : Int64) * r0)))), (.int (6 : Int32)), (.ref b5)])) _
    exact k
  obtain ⟨w6, hw6⟩ : ∃ z : Int64, z = (((w5 + ((15 : Int64) * (r2 + r0))) + r2) + ((2 : Int64) * r0)) := ⟨_, rfl⟩
  rw [← hw6] at pre163 Rd162 Td162
  have z0' : (0 : Int64).toInt = 0 := rfl
  have Tw6 : w6.toInt = w5.toInt + 15 * (r2.toInt + r0.toInt) + r2.toInt + 2 * r0.toInt := by omega
  clear Td157 Td158 Td159 Td160 Td161 Td162
  obtain ⟨cl164, Ar164, q164, S164, M164, H164, G164⟩ := id (V138.other W152 (Ne.symm ne_b2_b5))
  have hin164 : ¬ ((6 : Int32) < 0 ∨ cl164.slots.size ≤ ((6 : Int32)).toNatClampNeg) := inb_of S164 ⟨by decide, by decide⟩
  obtain ⟨T165, h165, X165, e165, W165, st165⟩ := stD X154 hx hZ e154 Ar164 (j := (6 : Int32)) hin164 (g := (mkF m 145 #[.val (.ref a1), .val (.int (5 : Int32)), .val (.int (2 : Int32)), .val (.double (FP.l2d r2)), .second, .val (.double (FP.l2d r0)), .second] [(.double (FP.l2d w6)), (.int (6 : Int32)), (.ref b5)])) rfl rfl (hb hby d8_145)
  have V165 : Arv Z h165 b5 k5 .double (7 : Int32) [(.double (FP.l2d 0)), (.double (FP.l2d w1)), (.double (FP.l2d w2)), (.double (FP.l2d w3)), (.double (FP.l2d w4)), (.double (FP.l2d w5)), (.double (FP.l2d w6))] (.double (FP.l2d 0)) := Arv.set Ar164 q164 S164 M164 H164 G164 rfl W165 6 rfl (Nat.le_of_ble_eq_true rfl)
  have K165 : Keep h0 h165 [a1] := K152.wr W165 (Or.inr sz_b5)
  have N165 := Fr.snoc X165 N152 g_b5
  obtain ⟨T166, X166, e166, st166⟩ := getF X165 hx hZ hown (host := "") (Or.inl (hw _ (List.mem_of_getElem? (i := 28) rfl))) Via.refl e165 ((((((((((((((((F0.ext E2).other W3 (Or.inr (slot_ne (Or.inr (hw _ (List.mem_of_getElem? (i := 29) rfl))) (Or.inl (hw _ (List.mem_of_getElem? (i := 38) rfl))) (by decide) (t := .int) (t' := (.array .double)) (by decide) (by decide)))).ext E5).other W6 (Or.inr (slot_ne (Or.inr (hw _ (List.mem_of_getElem? (i := 29) rfl))) (Or.inl (hw _ (List.mem_of_getElem? (i := 45) rfl))) (by decide) (t := .int) (t' := (.array .double)) (by decide) (by decide)))).other W19 (Or.inl ne_a1_b2)).other W32 (Or.inl ne_a1_b5)).other W45 (Or.inl ne_a1_b2)).other W58 (Or.inl ne_a1_b5)).other W71 (Or.inl ne_a1_b2)).other W84 (Or.inl ne_a1_b5)).other W98 (Or.inl ne_a1_b2)).other W111 (Or.inl ne_a1_b5)).other W125 (Or.inl ne_a1_b2)).other W138 (Or.inl ne_a1_b5)).other W152 (Or.inl ne_a1_b2)).other W165 (Or.inl ne_a1_b5)) (g := (mkF m 33 #[.val (.ref a1), .val (.int (6 : Int32)), .val (.int (2 : Int32)), .val (.double (FP.l2d r2)), .second, .val (.double (FP.l2d r0)), .second] [(.ref a1), (.int (2 : Int32)), (.int (6 : Int32))])) rfl rfl (hb hby d8_33)
  have hI : own_I r0 r1 r2 m1 m2 m3 m4 m5 m6 w1 w2 w3 w4 w5 w6 := by unfold own_I; refine ⟨⟨?_, ?_, ?_, ?_, ?_, ?_⟩, ?_, ?_, ?_, ?_, ?_, ?_⟩ <;> omega
  have pre167 : ∀ t, Steps p.tables e below (T166.setTop (mkF m 152 #[.val (.ref a1), .val (.int (6 : Int32)), .val (.int (2 : Int32)), .val (.double (FP.l2d r2)), .second, .val (.double (FP.l2d r0)), .second] [])) t → Steps p.tables e below (s₁.setTop (entryFrame m #[(.ref a1)] 7)) t := by
    intro t k
    refine pre163 t ?_
    refine st165 _ ?_
    show Steps p.tables e below (T165.setTop (mkF m 146 #[.val (.ref a1), .val (.int (5 : Int32)), .val (.int (2 : Int32)), .val (.double (FP.l2d r2)), .second, .val (.double (FP.l2d r0)), .second] [])) _
    refine XS.iinc X165.here hx rfl (hb hby d8_146) rfl (l' := #[.val (.ref a1), .val (.int (6 : Int32)), .val (.int (2 : Int32)), .val (.double (FP.l2d r2)), .second, .val (.double (FP.l2d r0)), .second]) rfl ?_
    show Steps p.tables e below (T165.setTop (mkF m 149 #[.val (.ref a1), .val (.int (6 : Int32)), .val (.int (2 : Int32)), .val (.double (FP.l2d r2)), .second, .val (.double (FP.l2d r0)), .second] [])) _
    refine XS.goto X165.here hx rfl (pc0 := 149) (pc' := 30) rfl (hb hby d8_149) (by decide) (by decide) ?_
    show Steps p.tables e below (T165.setTop (mkF m 30 #[.val (.ref a1), .val (.int (6 : Int32)), .val (.int (2 : Int32)), .val (.double (FP.l2d r2)), .second, .val (.double (FP.l2d r0)), .second] [])) _
    refine XS.iloadN X165.here hx rfl (hb hby d8_30) rfl ?_
    show Steps p.tables e below (T165.setTop (mkF m 31 #[.val (.ref a1), .val (.int (6 : Int32)), .val (.int (2 : Int32)), .val (.double (FP.l2d r2)), .second, .val (.double (FP.l2d r0)), .second] [(.int (6 : Int32))])) _
    refine XS.iconst X165.here hx rfl (hb hby d8_31) ?_
    show Steps p.tables e below (T165.setTop (mkF m 32 #[.val (.ref a1), .val (.int (6 : Int32)), .val (.int (2 : Int32)), .val (.double (FP.l2d r2)), .second, .val (.double (FP.l2d r0)), .second] [(.int (2 : Int32)), (.int (6 : Int32))])) _
    refine XS.aloadN X165.here hx rfl (hb hby d8_32) rfl (rfl) ?_
    show Steps p.tables e below (T165.setTop (mkF m 33 #[.val (.ref a1), .val (.int (6 : Int32)), .val (.int (2 : Int32)), .val (.double (FP.l2d r2)), .second, .val (.double (FP.l2d r0)), .second] [(.ref a1), (.int (2 : Int32)), (.int (6 : Int32))])) _
    refine st166 _ ?_
    show Steps p.tables e below (T166.setTop (mkF m 36 #[.val (.ref a1), .val (.int (6 : Int32)), .val (.int (2 : Int32)), .val (.double (FP.l2d r2)), .second, .val (.double (FP.l2d r0)), .second] [(.int (3 : Int32)), (.int (2 : Int32)), (.int (6 : Int32))])) _
    refine XS.imul X166.here hx rfl (hb hby d8_36) rfl ?_
    show Steps p.tables e below (T166.setTop (mkF m 37 #[.val (.ref a1), .val (.int (6 : Int32)), .val (.int (2 : Int32)), .val (.double (FP.l2d r2)), .second, .val (.double (FP.l2d r0)), .second] [(.int (6 : Int32)), (.int (6 : Int32))])) _
    refine XS.icmpYes X166.here hx rfl (pc0 := 37) (pc' := 152) rfl (hb hby d8_37) rfl (flt (by decide : ¬ ((6 : Int32) < (6 : Int32)))).2.1 (by decide) (by decide) ?_
    show Steps p.tables e below (T166.setTop (mkF m 152 #[.val (.ref a1), .val (.int (6 : Int32)), .val (.int (2 : Int32)), .val (.double (FP.l2d r2)), .second, .val (.double (FP.l2d r0)), .second] [])) _
    exact k
  obtain ⟨fs, hr, hrun, hended, hW, hsame⟩ := X166.leave (v := none) (fun _ => rfl)
  refine ⟨_, _, pre167 _ ?_, hrun, hended, _, _, rfl, ?_, ⟨_, rfl⟩, hW, hsame.mono (by decide) (by decide)⟩
  · exact X166.returnOut hx Bd.returns (hb hby d8_152) hr
  · show Q_rmInt Z a1 a2 cl r0 r1 r2 h0 n0 _ T166.heap _
    rw [e166]
    exact ⟨b2, k2, b5, k5, m1, m2, m3, m4, m5, m6, w1, w2, w3, w4, w5, w6, rfl, N165, K165, ((((((((((((((((E1.ext E2).wr W3).ext E5).wr W6).wr W19).wr W32).wr W45).wr W58).wr W71).wr W84).wr W98).wr W111).wr W125).wr W138).wr W152).wr W165), ((((((((((((((((F0.ext E2).other W3 (Or.inr (slot_ne (Or.inr (hw _ (List.mem_of_getElem? (i := 29) rfl))) (Or.inl (hw _ (List.mem_of_getElem? (i := 38) rfl))) (by decide) (t := .int) (t' := (.array .double)) (by decide) (by decide)))).ext E5).other W6 (Or.inr (slot_ne (Or.inr (hw _ (List.mem_of_getElem? (i := 29) rfl))) (Or.inl (hw _ (List.mem_of_getElem? (i := 45) rfl))) (by decide) (t := .int) (t' := (.array .double)) (by decide) (by decide)))).other W19 (Or.inl ne_a1_b2)).other W32 (Or.inl ne_a1_b5)).other W45 (Or.inl ne_a1_b2)).other W58 (Or.inl ne_a1_b5)).other W71 (Or.inl ne_a1_b2)).other W84 (Or.inl ne_a1_b5)).other W98 (Or.inl ne_a1_b2)).other W111 (Or.inl ne_a1_b5)).other W125 (Or.inl ne_a1_b2)).other W138 (Or.inl ne_a1_b5)).other W152 (Or.inl ne_a1_b2)).other W165 (Or.inl ne_a1_b5)), ((((((((((((((((F1.ext E2).other W3 (Or.inr (slot_ne (Or.inr (hw _ (List.mem_of_getElem? (i := 31) rfl))) (Or.inl (hw _ (List.mem_of_getElem? (i := 38) rfl))) (by decide) (t := (.array .long)) (t' := (.array .double)) (by decide) (by decide)))).ext E5).other W6 (Or.inr (slot_ne (Or.inr (hw _ (List.mem_of_getElem? (i := 31) rfl))) (Or.inl (hw _ (List.mem_of_getElem? (i := 45) rfl))) (by decide) (t := (.array .long)) (t' := (.array .double)) (by decide) (by decide)))).other W19 (Or.inl ne_a1_b2)).other W32 (Or.inl ne_a1_b5)).other W45 (Or.inl ne_a1_b2)).other W58 (Or.inl ne_a1_b5)).other W71 (Or.inl ne_a1_b2)).other W84 (Or.inl ne_a1_b5)).other W98 (Or.inl ne_a1_b2)).other W111 (Or.inl ne_a1_b5)).other W125 (Or.inl ne_a1_b2)).other W138 (Or.inl ne_a1_b5)).other W152 (Or.inl ne_a1_b2)).other W165 (Or.inl ne_a1_b5)), ((((((((((((((Fw3.ext E5).other W6 (Or.inr (slot_ne (Or.inl (hw _ (List.mem_of_getElem? (i := 38) rfl))) (Or.inl (hw _ (List.mem_of_getElem? (i := 45) rfl))) (by decide) (t := (.array .double)) (t' := (.array .double)) (by decide) (by decide)))).other W19 (Or.inl ne_a1_b2)).other W32 (Or.inl ne_a1_b5)).other W45 (Or.inl ne_a1_b2)).other W58 (Or.inl ne_a1_b5)).other W71 (Or.inl ne_a1_b2)).other W84 (Or.inl ne_a1_b5)).other W98 (Or.inl ne_a1_b2)).other W111 (Or.inl ne_a1_b5)).other W125 (Or.inl ne_a1_b2)).other W138 (Or.inl ne_a1_b5)).other W152 (Or.inl ne_a1_b2)).other W165 (Or.inl ne_a1_b5)), ((((((((((((Fw6.other W19 (Or.inl ne_a1_b2)).other W32 (Or.inl ne_a1_b5)).other W45 (Or.inl ne_a1_b2)).other W58 (Or.inl ne_a1_b5)).other W71 (Or.inl ne_a1_b2)).other W84 (Or.inl ne_a1_b5)).other W98 (Or.inl ne_a1_b2)).other W111 (Or.inl ne_a1_b5)).other W125 (Or.inl ne_a1_b2)).other W138 (Or.inl ne_a1_b5)).other W152 (Or.inl ne_a1_b2)).other W165 (Or.inl ne_a1_b5)), (V152.other W165 ne_b2_b5), V165, hI⟩
theorem ef_rmWa (m : MethodId) (x0 : Addr) (x1 : Int32) (x2 : Int32) : entryFrame m #[(.ref x0), (.int x1), (.int x2)] 3 = mkF m 0 #[.val (.ref x0), .val (.int x1), .val (.int x2)] [] := by first | (simp [entryFrame, mkF, argsToLocals, Value.category]; done) | rfl
theorem d7_0 : decode prog_9_method_5_code 0 = .ok (.aload_n 0, 1) := by decide +kernel
theorem d7_1 : decode prog_9_method_5_code 1 = .ok (.getfield 26, 3) := by decide +kernel
theorem d7_4 : decode prog_9_method_5_code 4 = .ok (.ifnonnull 7, 3) := by decide +kernel
theorem d7_7 : decode prog_9_method_5_code 7 = .ok (.aload_n 0, 1) := by decide +kernel
theorem d7_8 : decode prog_9_method_5_code 8 = .ok (.invokevirtual 30, 3) := by decide +kernel
theorem pd_1 : parseMethodDescriptor "()V" = some ⟨[], none⟩ := by decide +kernel
theorem own_selP {Z s : State} {a0 args : Array Value} {y : MethodName} {kk : Nat} (hZ : Z.Warmed39 s.vm) (wi : (Jvm.Cond.instantiable y.cls kk).before a0 Z = true) (wm : (Jvm.Cond.instanceMethod y).before a0 Z = true) (wp : (Jvm.Cond.privateMethod y).before a0 Z = true) (hy : y.cls ≠ "java/lang/invoke/MethodHandle" ∧ y.cls ≠ "java/lang/invoke/VarHandle") : (Jvm.Cond.selects y.cls y y).before args s = true := by
  have wi' : (Jvm.Cond.instantiable y.cls kk).before args s = true := mvT hZ wi
  obtain ⟨c, k, h1, h2, -, h3, -⟩ := Cond.instantiable_spec wi'
  exact selects_self_of_private h1 h2 (Bool.or_eq_false_iff.mp h3).1 (Cond.privateMethod_at (mvP hZ wp (args := #[]))) (mvT hZ wm) hy
theorem d7_11 : decode prog_9_method_5_code 11 = .ok (.ldc2_w 33, 3) := by decide +kernel
theorem d7_14 : decode prog_9_method_5_code 14 = .ok (.iload_n 2, 1) := by decide +kernel
theorem d7_15 : decode prog_9_method_5_code 15 = .ok (.i2d, 1) := by decide +kernel
theorem d7_16 : decode prog_9_method_5_code 16 = .ok (.dmul, 1) := by decide +kernel
theorem d7_17 : decode prog_9_method_5_code 17 = .ok (.aload_n 0, 1) := by decide +kernel
theorem d7_18 : decode prog_9_method_5_code 18 = .ok (.getfield 26, 3) := by decide +kernel
theorem d7_21 : decode prog_9_method_5_code 21 = .ok (.iload_n 2, 1) := by decide +kernel
theorem d7_22 : decode prog_9_method_5_code 22 = .ok (.daload, 1) := by decide +kernel
theorem d7_23 : decode prog_9_method_5_code 23 = .ok (.aload_n 0, 1) := by decide +kernel
theorem d7_24 : decode prog_9_method_5_code 24 = .ok (.getfield 26, 3) := by decide +kernel
theorem d7_27 : decode prog_9_method_5_code 27 = .ok (.iload_n 1, 1) := by decide +kernel
theorem d7_28 : decode prog_9_method_5_code 28 = .ok (.daload, 1) := by decide +kernel
theorem d7_29 : decode prog_9_method_5_code 29 = .ok (.dsub, 1) := by decide +kernel
theorem d7_30 : decode prog_9_method_5_code 30 = .ok (.dmul, 1) := by decide +kernel
theorem d7_31 : decode prog_9_method_5_code 31 = .ok (.aload_n 0, 1) := by decide +kernel
theorem d7_32 : decode prog_9_method_5_code 32 = .ok (.getfield 35, 3) := by decide +kernel
theorem d7_35 : decode prog_9_method_5_code 35 = .ok (.iload_n 2, 1) := by decide +kernel
theorem d7_36 : decode prog_9_method_5_code 36 = .ok (.daload, 1) := by decide +kernel
theorem d7_37 : decode prog_9_method_5_code 37 = .ok (.aload_n 0, 1) := by decide +kernel
theorem d7_38 : decode prog_9_method_5_code 38 = .ok (.getfield 35, 3) := by decide +kernel
theorem d7_41 : decode prog_9_method_5_code 41 = .ok (.iload_n 1, 1) := by decide +kernel
theorem d7_42 : decode prog_9_method_5_code 42 = .ok (.daload, 1) := by decide +kernel
theorem d7_43 : decode prog_9_method_5_code 43 = .ok (.dsub, 1) := by decide +kernel
theorem d7_44 : decode prog_9_method_5_code 44 = .ok (.dsub, 1) := by decide +kernel
theorem d7_45 : decode prog_9_method_5_code 45 = .ok (.dreturn, 1) := by decide +kernel
def Q_rmWa (Z : State) (a1 : Addr) (p1 : Int32) (p2 : Int32) (a2 : Addr) (cl : Cell) (r0 : Int64) (r1 : Int64) (r2 : Int64) (h0 : Heap) (n0 : Nat) (v : Option Value) (h : Heap) (L : List Loc) : Prop := ∃ (bm : Addr) (km : ClassId) (bq : Addr) (kq : ClassId) (m1 m2 m3 m4 m5 m6 w1 w2 w3 w4 w5 w6 : Int64), v = some (.double (FP.l2d (own_ref p1 p2 r0 r1 r2))) ∧ Fr n0 L ∧ Keep h0 h [a1] ∧ Exa Z h a1 "com/example/hummingbird/hummingbird/engine/Rhythm" ∧ Fld Z h a1 "com/example/hummingbird/hummingbird/engine/Rhythm" "points" "I" (.int (3 : Int32)) ∧ Fld Z h a1 "com/example/hummingbird/hummingbird/engine/Rhythm" "rates" "[J" (.ref a2) ∧ Fld Z h a1 "com/example/hummingbird/hummingbird/engine/Rhythm" "mass" "[D" (.ref bm) ∧ Fld Z h a1 "com/example/hummingbird/hummingbird/engine/Rhythm" "moment" "[D" (.ref bq) ∧ Arv Z h bm km .double (7 : Int32) [(.double (FP.l2d 0)), (.double (FP.l2d m1)), (.double (FP.l2d m2)), (.double (FP.l2d m3)), (.double (FP.l2d m4)), (.double (FP.l2d m5)), (.double (FP.l2d m6))] (.double (FP.l2d 0)) ∧ Arv Z h bq kq .double (7 : Int32) [(.double (FP.l2d 0)), (.double (FP.l2d w1)), (.double (FP.l2d w2)), (.double (FP.l2d w3)), (.double (FP.l2d w4)), (.double (FP.l2d w5)), (.double (FP.l2d w6))] (.double (FP.l2d 0)) ∧ own_I r0 r1 r2 m1 m2 m3 m4 m5 m6 w1 w2 w3 w4 w5 w6
set_option maxRecDepth 65536 in
set_option maxHeartbeats 40000000 in
theorem rmWa (l : Launch) (Z : State) (a0 : Array Value) (hw : ∀ d ∈ tables_1, d.before a0 Z = true) (ws : List Jvm.Cond) (a1 : Addr) (p1 : Int32) (p2 : Int32) (a2 : Addr) (cl : Cell) (r0 : Int64) (r1 : Int64) (r2 : Int64) (h0 : Heap) (n0 : Nat) (Z0 : n0 ≤ h0.size) (F0 : Fld Z h0 a1 "com/example/hummingbird/hummingbird/engine/Rhythm" "points" "I" (.int (3 : Int32))) (F1 : Fld Z h0 a1 "com/example/hummingbird/hummingbird/engine/Rhythm" "rates" "[J" (.ref a2)) (F2 : Fld Z h0 a1 "com/example/hummingbird/hummingbird/engine/Rhythm" "mass" "[D" .null) (F3 : Fld Z h0 a1 "com/example/hummingbird/hummingbird/engine/Rhythm" "moment" "[D" .null) (E1 : Exa Z h0 a1 "com/example/hummingbird/hummingbird/engine/Rhythm") (g_a1 : n0 ≤ a1) (ne_a2_a1 : a2 ≠ a1) (Ar : Arr Z h0 a2 cl .long) (Sz : cl.slots.size = (3 : Int32).toNatClampNeg) (t0 : cl.slots[0]? = some (.long r0)) (t1 : cl.slots[1]? = some (.long r1)) (t2 : cl.slots[2]? = some (.long r2)) (hr0 : own_R r0 17179869183) (hr1 : own_R r1 17179869183) (hr2 : own_R r2 17179869183) (h6f : own_6 p1) (h6t : own_6 p2) (hft : p1.toInt ≤ p2.toInt) :
    MetFree l (⟨"com/example/hummingbird/hummingbird/engine/Rhythm", "waiting", "(II)D"⟩ : MethodName) (head1 (Jvm.Cond.code (⟨"com/example/hummingbird/hummingbird/engine/Rhythm", "waiting", "(II)D"⟩ : MethodName) prog_9_method_5_code 3 (some .double) :: ws) ({ frames := 1, cells := 2, slots := 14, locals := 20 } : Room)) (fun a U => a = #[(.ref a1), (.int p1), (.int p2)] ∧ Z.Warmed39 U.vm ∧ U.heap = h0) (fun _ _ _ _ _ => True) (fun _ U o U' => ∃ v L, o = .returned v ∧ Q_rmWa Z a1 p1 p2 a2 cl r0 r1 r2 h0 n0 v U'.heap L ∧ FrameEnd U o U' L ({ frames := 1, cells := 2, slots := 14, locals := 20 } : Room).cells ({ frames := 1, cells := 2, slots := 14, locals := 20 } : Room).slots) := by
  refine MetFree.of_bodySF (plainFor_of_name pn_0) hisR ?_
  intro p e s m args below meth c s₁ Bd hml0 hP hK
  obtain ⟨rfl, hZ, hh⟩ := hP
  have hx := Bd.exec
  have hby := Bd.bytes
  have hml : c.maxLocals = 3 := hml0
  have hown : s.vm.findClass "com/example/hummingbird/hummingbird/engine/Rhythm" = some m.cls := (findClass_of_methodNamed Bd.named :)
  have hnm := (name_of_methodNamed Bd.named Bd.method).1
  have X0 : Stand p l e ({ frames := 1, cells := 2, slots := 14, locals := 20 } : Room) s m #[(.ref a1), (.int p1), (.int p2)] below meth c s₁ [] 0 0 := Stand.of_body Bd
  have e0 : s₁.heap = h0 := by rw [← hh, Bd.state]; rfl
  have N0 := Fr.nil n0
  have pre0 : ∀ t, Steps p.tables e below (s₁.setTop (mkF m 0 #[.val (.ref a1), .val (.int p1), .val (.int p2)] [])) t → Steps p.tables e below (s₁.setTop (entryFrame m #[(.ref a1), (.int p1), (.int p2)] 3)) t := fun t k => castTop (ef_rmWa m a1 p1 p2) k
  obtain ⟨T1, X1, e1, st1⟩ := getF X0 hx hZ hown (host := "") (Or.inl (hw _ (List.mem_of_getElem? (i := 37) rfl))) Via.refl e0 F2 (g := (mkF m 1 #[.val (.ref a1), .val (.int p1), .val (.int p2)] [(.ref a1)])) rfl rfl (hb hby d7_1)
  obtain ⟨cq2, q2, q2'⟩ := E1.cell
  obtain ⟨_, _, ⟨T2, L2, k2, n2⟩, -, X2, ⟨Lc2, hQ2, l2, y2, z2⟩, st2⟩ := X1.privateBack hx (y := (⟨"com/example/hummingbird/hummingbird/engine/Rhythm", "integrate", "()V"⟩ : MethodName)) hown (mvT hZ (hw _ (List.mem_of_getElem? (i := 39) rfl))) (mvT hZ (hw _ (List.mem_of_getElem? (i := 40) rfl))) (own_selP (y := (⟨"com/example/hummingbird/hummingbird/engine/Rhythm", "integrate", "()V"⟩ : MethodName)) hZ (hw _ (List.mem_of_getElem? (i := 20) rfl)) (hw _ (List.mem_of_getElem? (i := 40) rfl)) (hw _ (List.mem_of_getElem? (i := 41) rfl)) (by decide)) (Cond.privateMethod_at (mvP hZ (hw _ (List.mem_of_getElem? (i := 41) rfl)) (args := #[]))) (mvT hZ (hw _ (List.mem_of_getElem? (i := 42) rfl))) (by decide) (backOf (W := 0) (rmInt l Z a0 hw [] a1 a2 cl r0 r1 r2 h0 n0 Z0 F0 F1 F2 F3 E1 g_a1 ne_a2_a1 Ar Sz t0 t1 t2 hr0 hr1 hr2) hZ (hw _ (List.mem_of_getElem? (i := 42) rfl)) (hw _ (List.mem_of_getElem? (i := 21) rfl)) (by decide) (by decide)) (g := (mkF m 8 #[.val (.ref a1), .val (.int p1), .val (.int p2)] [(.ref a1)])) rfl (by rw [hml]; rfl) (Steps.refl _) (a := a1) (by rw [e1]; exact q2) q2' (argsL := []) (rest := []) (lenOf pd_1 rfl) rfl (by show 2 * 0 + _ ≤ _; exact Nat.le_of_eq rfl) (hb hby d7_8) (fun _ _ => ⟨rfl, e1, (by decide : 0 + 2 ≤ _), (by decide : 0 + 14 ≤ _)⟩)
  dsimp only [Pt.U, Pt.locs, Pt.cells, Pt.slots] at X2 l2 y2 z2 st2 hQ2
  subst l2 y2 z2
  obtain ⟨bm, km, bq, kq, m1, m2, m3, m4, m5, m6, w1, w2, w3, w4, w5, w6, rfl, N2q, Kq2, Eq2, G0q2, G1q2, G2q2, G3q2, V1, V2, hI⟩ := hQ2
  have N2 := Fr.app N0 N2q
  have K2 : Keep h0 T2.heap [a1] := (Keep.refl h0 [a1]).trans Kq2 (allS (Or.inl (List.mem_of_getElem? (i := 0) rfl)) all0)
  obtain ⟨cl3, Ar3, q3, S3, M3, H3, G3⟩ := id V1
  obtain ⟨cl4, Ar4, q4, S4, M4, H4, G4⟩ := id V2
  obtain ⟨mt, hmt⟩ : ∃ z, z = own_pk p2 m1 m2 m3 m4 m5 m6 := ⟨_, rfl⟩
  obtain ⟨mf, hmf⟩ : ∃ z, z = own_pk p1 m1 m2 m3 m4 m5 m6 := ⟨_, rfl⟩
  obtain ⟨qt, hqt⟩ : ∃ z, z = own_pk p2 w1 w2 w3 w4 w5 w6 := ⟨_, rfl⟩
  obtain ⟨qf, hqf⟩ : ∃ z, z = own_pk p1 w1 w2 w3 w4 w5 w6 := ⟨_, rfl⟩
  obtain ⟨k1, k2, k3, k4, k5⟩ := own_wait h6f h6t hft hr0 hr1 hr2 hI hmt hmf hqt hqf
  have imt := inb_of S3 (own_in7 h6t)
  have amt : cl3.slots[p2.toNatClampNeg]? = some (.double (FP.l2d mt)) := Has.at H3 imt (by rw [hmt]; exact own_pkG h6t m1 m2 m3 m4 m5 m6)
  have imf := inb_of S3 (own_in7 h6f)
  have amf : cl3.slots[p1.toNatClampNeg]? = some (.double (FP.l2d mf)) := Has.at H3 imf (by rw [hmf]; exact own_pkG h6f m1 m2 m3 m4 m5 m6)
  have iqt := inb_of S4 (own_in7 h6t)
  have aqt : cl4.slots[p2.toNatClampNeg]? = some (.double (FP.l2d qt)) := Has.at H4 iqt (by rw [hqt]; exact own_pkG h6t w1 w2 w3 w4 w5 w6)
  have iqf := inb_of S4 (own_in7 h6f)
  have aqf : cl4.slots[p1.toNatClampNeg]? = some (.double (FP.l2d qf)) := Has.at H4 iqf (by rw [hqf]; exact own_pkG h6f w1 w2 w3 w4 w5 w6)
  obtain ⟨T5, X5, e5, st5⟩ := getF X2 hx hZ hown (host := "") (Or.inl (hw _ (List.mem_of_getElem? (i := 37) rfl))) Via.refl rfl G2q2 (g := (mkF m 18 #[.val (.ref a1), .val (.int p1), .val (.int p2)] [(.ref a1), (.double (FP.l2d ((3 : Int64) * p2.toInt64)))])) rfl rfl (hb hby d7_18)
  obtain ⟨T6, X6, e6, st6⟩ := getF X5 hx hZ hown (host := "") (Or.inl (hw _ (List.mem_of_getElem? (i := 37) rfl))) Via.refl e5 G2q2 (g := (mkF m 24 #[.val (.ref a1), .val (.int p1), .val (.int p2)] [(.ref a1), (.double (FP.l2d mt)), (.double (FP.l2d ((3 : Int64) * p2.toInt64)))])) rfl rfl (hb hby d7_24)
  obtain ⟨T7, X7, e7, st7⟩ := getF X6 hx hZ hown (host := "") (Or.inl (hw _ (List.mem_of_getElem? (i := 44) rfl))) Via.refl e6 G3q2 (g := (mkF m 32 #[.val (.ref a1), .val (.int p1), .val (.int p2)] [(.ref a1), (.double (FP.l2d (((3 : Int64) * p2.toInt64) * (mt - mf))))])) rfl rfl (hb hby d7_32)
  obtain ⟨T8, X8, e8, st8⟩ := getF X7 hx hZ hown (host := "") (Or.inl (hw _ (List.mem_of_getElem? (i := 44) rfl))) Via.refl e7 G3q2 (g := (mkF m 38 #[.val (.ref a1), .val (.int p1), .val (.int p2)] [(.ref a1), (.double (FP.l2d qt)), (.double (FP.l2d (((3 : Int64) * p2.toInt64) * (mt - mf))))])) rfl rfl (hb hby d7_38)
  have pre9 : ∀ t, Steps p.tables e below (T8.setTop (mkF m 45 #[.val (.ref a1), .val (.int p1), .val (.int p2)] [(.double (FP.l2d (own_ref p1 p2 r0 r1 r2)))])) t → Steps p.tables e below (s₁.setTop (entryFrame m #[(.ref a1), (.int p1), (.int p2)] 3)) t := by
    intro t k
    refine pre0 t ?_
    show Steps p.tables e below (s₁.setTop (mkF m 0 #[.val (.ref a1), .val (.int p1), .val (.int p2)] [])) _
    refine XS.aloadN X0.here hx rfl (hb hby d7_0) rfl (rfl) ?_
    show Steps p.tables e below (s₁.setTop (mkF m 1 #[.val (.ref a1), .val (.int p1), .val (.int p2)] [(.ref a1)])) _
    refine st1 _ ?_
    show Steps p.tables e below (T1.setTop (mkF m 4 #[.val (.ref a1), .val (.int p1), .val (.int p2)] [.null])) _
    refine XS.ifnonnullNo X1.here hx rfl (hb hby d7_4) rfl ?_
    show Steps p.tables e below (T1.setTop (mkF m 7 #[.val (.ref a1), .val (.int p1), .val (.int p2)] [])) _
    refine XS.aloadN X1.here hx rfl (hb hby d7_7) rfl (rfl) ?_
    show Steps p.tables e below (T1.setTop (mkF m 8 #[.val (.ref a1), .val (.int p1), .val (.int p2)] [(.ref a1)])) _
    refine st2.trans ?_
    show Steps p.tables e below (T2.setTop (mkF m 11 #[.val (.ref a1), .val (.int p1), .val (.int p2)] [])) _
    refine X2.ldc2DoubleC hx hown (mvT hZ (hw _ (List.mem_of_getElem? (i := 46) rfl))) (g := (mkF m 11 #[.val (.ref a1), .val (.int p1), .val (.int p2)] [])) rfl (hb hby d7_11) _ ?_
    show Steps p.tables e below (T2.setTop (mkF m 14 #[.val (.ref a1), .val (.int p1), .val (.int p2)] [(.double (4613937818241073152 : UInt64))])) _
    refine XS.iloadN X2.here hx rfl (hb hby d7_14) rfl ?_
    show Steps p.tables e below (T2.setTop (mkF m 15 #[.val (.ref a1), .val (.int p1), .val (.int p2)] [(.int p2), (.double (4613937818241073152 : UInt64))])) _
    refine XS.i2dS X2.here hx rfl (hb hby d7_15) rfl (i2d_w _ : FP.i2d p2 = FP.l2d p2.toInt64) ?_
    show Steps p.tables e below (T2.setTop (mkF m 16 #[.val (.ref a1), .val (.int p1), .val (.int p2)] [(.double (FP.l2d p2.toInt64)), (.double (4613937818241073152 : UInt64))])) _
    refine XS.dmulS X2.here hx rfl (hb hby d7_16) rfl (nn_w k1) k1 ?_
    show Steps p.tables e below (T2.setTop (mkF m 17 #[.val (.ref a1), .val (.int p1), .val (.int p2)] [(.double (FP.l2d ((3 : Int64) * p2.toInt64)))])) _
    refine XS.aloadN X2.here hx rfl (hb hby d7_17) rfl (rfl) ?_
    show Steps p.tables e below (T2.setTop (mkF m 18 #[.val (.ref a1), .val (.int p1), .val (.int p2)] [(.ref a1), (.double (FP.l2d ((3 : Int64) * p2.toInt64)))])) _
    refine st5 _ ?_
    show Steps p.tables e below (T5.setTop (mkF m 21 #[.val (.ref a1), .val (.int p1), .val (.int p2)] [(.ref bm), (.double (FP.l2d ((3 : Int64) * p2.toInt64)))])) _
    refine XS.iloadN X5.here hx rfl (hb hby d7_21) rfl ?_
    show Steps p.tables e below (T5.setTop (mkF m 22 #[.val (.ref a1), .val (.int p1), .val (.int p2)] [(.int p2), (.ref bm), (.double (FP.l2d ((3 : Int64) * p2.toInt64)))])) _
    refine X5.daload hx (j := p2) (v := (.double (FP.l2d mt))) (by rw [e5]; exact Ar3.1) (State.isArrayOf_alike hZ.alike Ar3.2.1) Ar3.2.2 imt amt (g := (mkF m 22 #[.val (.ref a1), .val (.int p1), .val (.int p2)] [(.int p2), (.ref bm), (.double (FP.l2d ((3 : Int64) * p2.toInt64)))])) rfl rfl (hb hby d7_22) _ ?_
    show Steps p.tables e below (T5.setTop (mkF m 23 #[.val (.ref a1), .val (.int p1), .val (.int p2)] [(.double (FP.l2d mt)), (.double (FP.l2d ((3 : Int64) * p2.toInt64)))])) _
    refine XS.aloadN X5.here hx rfl (hb hby d7_23) rfl (rfl) ?_
    show Steps p.tables e below (T5.setTop (mkF m 24 #[.val (.ref a1), .val (.int p1), .val (.int p2)] [(.ref a1), (.double (FP.l2d mt)), (.double (FP.l2d ((3 : Int64) * p2.toInt64)))])) _
    refine st6 _ ?_
    show Steps p.tables e below (T6.setTop (mkF m 27 #[.val (.ref a1), .val (.int p1), .val (.int p2)] [(.ref bm), (.double (FP.l2d mt)), (.double (FP.l2d ((3 : Int64) * p2.toInt64)))])) _
    refine XS.iloadN X6.here hx rfl (hb hby d7_27) rfl ?_
    show Steps p.tables e below (T6.setTop (mkF m 28 #[.val (.ref a1), .val (.int p1), .val (.int p2)] [(.int p1), (.ref bm), (.double (FP.l2d mt)), (.double (FP.l2d ((3 : Int64) * p2.toInt64)))])) _
    refine X6.daload hx (j := p1) (v := (.double (FP.l2d mf))) (by rw [e6]; exact Ar3.1) (State.isArrayOf_alike hZ.alike Ar3.2.1) Ar3.2.2 imf amf (g := (mkF m 28 #[.val (.ref a1), .val (.int p1), .val (.int p2)] [(.int p1), (.ref bm), (.double (FP.l2d mt)), (.double (FP.l2d ((3 : Int64) * p2.toInt64)))])) rfl rfl (hb hby d7_28) _ ?_
    show Steps p.tables e below (T6.setTop (mkF m 29 #[.val (.ref a1), .val (.int p1), .val (.int p2)] [(.double (FP.l2d mf)), (.double (FP.l2d mt)), (.double (FP.l2d ((3 : Int64) * p2.toInt64)))])) _
    refine XS.dsubS X6.here hx rfl (hb hby d7_29) rfl (nn_w k2) k2 ?_
    show Steps p.tables e below (T6.setTop (mkF m 30 #[.val (.ref a1), .val (.int p1), .val (.int p2)] [(.double (FP.l2d (mt - mf))), (.double (FP.l2d ((3 : Int64) * p2.toInt64)))])) _
    refine XS.dmulS X6.here hx rfl (hb hby d7_30) rfl (nn_w k3) k3 ?_
    show Steps p.tables e below (T6.setTop (mkF m 31 #[.val (.ref a1), .val (.int p1), .val (.int p2)] [(.double (FP.l2d (((3 : Int64) * p2.toInt64) * (mt - mf))))])) _
    refine XS.aloadN X6.here hx rfl (hb hby d7_31) rfl (rfl) ?_
    show Steps p.tables e below (T6.setTop (mkF m 32 #[.val (.ref a1), .val (.int p1), .val (.int p2)] [(.ref a1), (.double (FP.l2d (((3 : Int64) * p2.toInt64) * (mt - mf))))])) _
    refine st7 _ ?_
    show Steps p.tables e below (T7.setTop (mkF m 35 #[.val (.ref a1), .val (.int p1), .val (.int p2)] [(.ref bq), (.double (FP.l2d (((3 : Int64) * p2.toInt64) * (mt - mf))))])) _
    refine XS.iloadN X7.here hx rfl (hb hby d7_35) rfl ?_
    show Steps p.tables e below (T7.setTop (mkF m 36 #[.val (.ref a1), .val (.int p1), .val (.int p2)] [(.int p2), (.ref bq), (.double (FP.l2d (((3 : Int64) * p2.toInt64) * (mt - mf))))])) _
    refine X7.daload hx (j := p2) (v := (.double (FP.l2d qt))) (by rw [e7]; exact Ar4.1) (State.isArrayOf_alike hZ.alike Ar4.2.1) Ar4.2.2 iqt aqt (g := (mkF m 36 #[.val (.ref a1), .val (.int p1), .val (.int p2)] [(.int p2), (.ref bq), (.double (FP.l2d (((3 : Int64) * p2.toInt64) * (mt - mf))))])) rfl rfl (hb hby d7_36) _ ?_
    show Steps p.tables e below (T7.setTop (mkF m 37 #[.val (.ref a1), .val (.int p1), .val (.int p2)] [(.double (FP.l2d qt)), (.double (FP.l2d (((3 : Int64) * p2.toInt64) * (mt - mf))))])) _
    refine XS.aloadN X7.here hx rfl (hb hby d7_37) rfl (rfl) ?_
    show Steps p.tables e below (T7.setTop (mkF m 38 #[.val (.ref a1), .val (.int p1), .val (.int p2)] [(.ref a1), (.double (FP.l2d qt)), (.double (FP.l2d (((3 : Int64) * p2.toInt64) * (mt - mf))))])) _
    refine st8 _ ?_
    show Steps p.tables e below (T8.setTop (mkF m 41 #[.val (.ref a1), .val (.int p1), .val (.int p2)] [(.ref bq), (.double (FP.l2d qt)), (.double (FP.l2d (((3 : Int64) * p2.toInt64) * (mt - mf))))])) _
    refine XS.iloadN X8.here hx rfl (hb hby d7_41) rfl ?_
    show Steps p.tables e below (T8.setTop (mkF m 42 #[.val (.ref a1), .val (.int p1), .val (.int p2)] [(.int p1), (.ref bq), (.double (FP.l2d qt)), (.double (FP.l2d (((3 : Int64) * p2.toInt64) * (mt - mf))))])) _
    refine X8.daload hx (j := p1) (v := (.double (FP.l2d qf))) (by rw [e8]; exact Ar4.1) (State.isArrayOf_alike hZ.alike Ar4.2.1) Ar4.2.2 iqf aqf (g := (mkF m 42 #[.val (.ref a1), .val (.int p1), .val (.int p2)] [(.int p1), (.ref bq), (.double (FP.l2d qt)), (.double (FP.l2d (((3 : Int64) * p2.toInt64) * (mt - mf))))])) rfl rfl (hb hby d7_42) _ ?_
    show Steps p.tables e below (T8.setTop (mkF m 43 #[.val (.ref a1), .val (.int p1), .val (.int p2)] [(.double (FP.l2d qf)), (.double (FP.l2d qt)), (.double (FP.l2d (((3 : Int64) * p2.toInt64) * (mt - mf))))])) _
    refine XS.dsubS X8.here hx rfl (hb hby d7_43) rfl (nn_w k4) k4 ?_
    show Steps p.tables e below (T8.setTop (mkF m 44 #[.val (.ref a1), .val (.int p1), .val (.int p2)] [(.double (FP.l2d (qt - qf))), (.double (FP.l2d (((3 : Int64) * p2.toInt64) * (mt - mf))))])) _
    refine XS.dsubS X8.here hx rfl (hb hby d7_44) rfl (nn_w k5) k5 ?_
    show Steps p.tables e below (T8.setTop (mkF m 45 #[.val (.ref a1), .val (.int p1), .val (.int p2)] [(.double (FP.l2d (own_ref p1 p2 r0 r1 r2)))])) _
    exact k
  obtain ⟨fs, hr, hrun, hended, hW, hsame⟩ := X8.leave (v := some (.double (FP.l2d (own_ref p1 p2 r0 r1 r2)))) (fun h => by rw [Bd.returns] at h; cases h)
  refine ⟨_, _, pre9 _ ?_, hrun, hended, _, _, rfl, ?_, ⟨_, rfl⟩, hW, hsame.mono (by decide) (by decide)⟩
  · exact retOut X8 hx Bd.returns rfl (Or.inr (Or.inr (Or.inl ⟨rfl, rfl, _, rfl⟩))) (hb hby d7_45) hr
  · show Q_rmWa Z a1 p1 p2 a2 cl r0 r1 r2 h0 n0 _ T8.heap _
    rw [e8]
    exact ⟨bm, km, bq, kq, m1, m2, m3, m4, m5, m6, w1, w2, w3, w4, w5, w6, rfl, N2, K2, Eq2, G0q2, G1q2, G2q2, G3q2, V1, V2, hI⟩
theorem ef_rmWb (m : MethodId) (x0 : Addr) (x1 : Int32) (x2 : Int32) : entryFrame m #[(.ref x0), (.int x1), (.int x2)] 3 = mkF m 0 #[.val (.ref x0), .val (.int x1), .val (.int x2)] [] := by first | (simp [entryFrame, mkF, argsToLocals, Value.category]; done) | rfl
def Q_rmWb (Z : State) (a1 : Addr) (p1 : Int32) (p2 : Int32) (r0 : Int64) (r1 : Int64) (r2 : Int64) (bm : Addr) (km : ClassId) (bq : Addr) (kq : ClassId) (m1 : Int64) (m2 : Int64) (m3 : Int64) (m4 : Int64) (m5 : Int64) (m6 : Int64) (w1 : Int64) (w2 : Int64) (w3 : Int64) (w4 : Int64) (w5 : Int64) (w6 : Int64) (h0 : Heap) (n0 : Nat) (v : Option Value) (h : Heap) (L : List Loc) : Prop := v = some (.double (FP.l2d (own_ref p1 p2 r0 r1 r2))) ∧ Fr n0 L ∧ h = h0
set_option maxRecDepth 65536 in
set_option maxHeartbeats 40000000 in
theorem rmWb (l : Launch) (Z : State) (a0 : Array Value) (hw : ∀ d ∈ tables_1, d.before a0 Z = true) (ws : List Jvm.Cond) (a1 : Addr) (p1 : Int32) (p2 : Int32) (r0 : Int64) (r1 : Int64) (r2 : Int64) (bm : Addr) (km : ClassId) (bq : Addr) (kq : ClassId) (m1 : Int64) (m2 : Int64) (m3 : Int64) (m4 : Int64) (m5 : Int64) (m6 : Int64) (w1 : Int64) (w2 : Int64) (w3 : Int64) (w4 : Int64) (w5 : Int64) (w6 : Int64) (h0 : Heap) (n0 : Nat) (Z0 : n0 ≤ h0.size) (F2 : Fld Z h0 a1 "com/example/hummingbird/hummingbird/engine/Rhythm" "mass" "[D" (.ref bm)) (F3 : Fld Z h0 a1 "com/example/hummingbird/hummingbird/engine/Rhythm" "moment" "[D" (.ref bq)) (V1 : Arv Z h0 bm km .double (7 : Int32) [(.double (FP.l2d 0)), (.double (FP.l2d m1)), (.double (FP.l2d m2)), (.double (FP.l2d m3)), (.double (FP.l2d m4)), (.double (FP.l2d m5)), (.double (FP.l2d m6))] (.double (FP.l2d 0))) (V2 : Arv Z h0 bq kq .double (7 : Int32) [(.double (FP.l2d 0)), (.double (FP.l2d w1)), (.double (FP.l2d w2)), (.double (FP.l2d w3)), (.double (FP.l2d w4)), (.double (FP.l2d w5)), (.double (FP.l2d w6))] (.double (FP.l2d 0))) (hI : own_I r0 r1 r2 m1 m2 m3 m4 m5 m6 w1 w2 w3 w4 w5 w6) (hr0 : own_R r0 17179869183) (hr1 : own_R r1 17179869183) (hr2 : own_R r2 17179869183) (h6f : own_6 p1) (h6t : own_6 p2) (hft : p1.toInt ≤ p2.toInt) :
    MetFree l (⟨"com/example/hummingbird/hummingbird/engine/Rhythm", "waiting", "(II)D"⟩ : MethodName) (head1 (Jvm.Cond.code (⟨"com/example/hummingbird/hummingbird/engine/Rhythm", "waiting", "(II)D"⟩ : MethodName) prog_9_method_5_code 3 (some .double) :: ws) ({ frames := 0, cells := 0, slots := 0, locals := 0 } : Room)) (fun a U => a = #[(.ref a1), (.int p1), (.int p2)] ∧ Z.Warmed39 U.vm ∧ U.heap = h0) (fun _ _ _ _ _ => True) (fun _ U o U' => ∃ v L, o = .returned v ∧ Q_rmWb Z a1 p1 p2 r0 r1 r2 bm km bq kq m1 m2 m3 m4 m5 m6 w1 w2 w3 w4 w5 w6 h0 n0 v U'.heap L ∧ FrameEnd U o U' L ({ frames := 0, cells := 0, slots := 0, locals := 0 } : Room).cells ({ frames := 0, cells := 0, slots := 0, locals := 0 } : Room).slots) := by
  refine MetFree.of_bodySF (plainFor_of_name pn_0) hisR ?_
  intro p e s m args below meth c s₁ Bd hml0 hP hK
  obtain ⟨rfl, hZ, hh⟩ := hP
  have hx := Bd.exec
  have hby := Bd.bytes
  have hml : c.maxLocals = 3 := hml0
  have hown : s.vm.findClass "com/example/hummingbird/hummingbird/engine/Rhythm" = some m.cls := (findClass_of_methodNamed Bd.named :)
  have hnm := (name_of_methodNamed Bd.named Bd.method).1
  have X0 : Stand p l e ({ frames := 0, cells := 0, slots := 0, locals := 0 } : Room) s m #[(.ref a1), (.int p1), (.int p2)] below meth c s₁ [] 0 0 := Stand.of_body Bd
  have e0 : s₁.heap = h0 := by rw [← hh, Bd.state]; rfl
  have N0 := Fr.nil n0
  have pre0 : ∀ t, Steps p.tables e below (s₁.setTop (mkF m 0 #[.val (.ref a1), .val (.int p1), .val (.int p2)] [])) t → Steps p.tables e below (s₁.setTop (entryFrame m #[(.ref a1), (.int p1), (.int p2)] 3)) t := fun t k => castTop (ef_rmWb m a1 p1 p2) k
  obtain ⟨T1, X1, e1, st1⟩ := getF X0 hx hZ hown (host := "") (Or.inl (hw _ (List.mem_of_getElem? (i := 37) rfl))) Via.refl e0 F2 (g := (mkF m 1 #[.val (.ref a1), .val (.int p1), .val (.int p2)] [(.ref a1)])) rfl rfl (hb hby d7_1)
  obtain ⟨cl2, Ar2, q2, S2, M2, H2, G2⟩ := id V1
  obtain ⟨cl3, Ar3, q3, S3, M3, H3, G3⟩ := id V2
  obtain ⟨mt, hmt⟩ : ∃ z, z = own_pk p2 m1 m2 m3 m4 m5 m6 := ⟨_, rfl⟩
  obtain ⟨mf, hmf⟩ : ∃ z, z = own_pk p1 m1 m2 m3 m4 m5 m6 := ⟨_, rfl⟩
  obtain ⟨qt, hqt⟩ : ∃ z, z = own_pk p2 w1 w2 w3 w4 w5 w6 := ⟨_, rfl⟩
  obtain ⟨qf, hqf⟩ : ∃ z, z = own_pk p1 w1 w2 w3 w4 w5 w6 := ⟨_, rfl⟩
  obtain ⟨k1, k2, k3, k4, k5⟩ := own_wait h6f h6t hft hr0 hr1 hr2 hI hmt hmf hqt hqf
  have imt := inb_of S2 (own_in7 h6t)
  have amt : cl2.slots[p2.toNatClampNeg]? = some (.double (FP.l2d mt)) := Has.at H2 imt (by rw [hmt]; exact own_pkG h6t m1 m2 m3 m4 m5 m6)
  have imf := inb_of S2 (own_in7 h6f)
  have amf : cl2.slots[p1.toNatClampNeg]? = some (.double (FP.l2d mf)) := Has.at H2 imf (by rw [hmf]; exact own_pkG h6f m1 m2 m3 m4 m5 m6)
  have iqt := inb_of S3 (own_in7 h6t)
  have aqt : cl3.slots[p2.toNatClampNeg]? = some (.double (FP.l2d qt)) := Has.at H3 iqt (by rw [hqt]; exact own_pkG h6t w1 w2 w3 w4 w5 w6)
  have iqf := inb_of S3 (own_in7 h6f)
  have aqf : cl3.slots[p1.toNatClampNeg]? = some (.double (FP.l2d qf)) := Has.at H3 iqf (by rw [hqf]; exact own_pkG h6f w1 w2 w3 w4 w5 w6)
  obtain ⟨T4, X4, e4, st4⟩ := getF X1 hx hZ hown (host := "") (Or.inl (hw _ (List.mem_of_getElem? (i := 37) rfl))) Via.refl e1 F2 (g := (mkF m 18 #[.val (.ref a1), .val (.int p1), .val (.int p2)] [(.ref a1), (.double (FP.l2d ((3 : Int64) * p2.toInt64)))])) rfl rfl (hb hby d7_18)
  obtain ⟨T5, X5, e5, st5⟩ := getF X4 hx hZ hown (host := "") (Or.inl (hw _ (List.mem_of_getElem? (i := 37) rfl))) Via.refl e4 F2 (g := (mkF m 24 #[.val (.ref a1), .val (.int p1), .val (.int p2)] [(.ref a1), (.double (FP.l2d mt)), (.double (FP.l2d ((3 : Int64) * p2.toInt64)))])) rfl rfl (hb hby d7_24)
  obtain ⟨T6, X6, e6, st6⟩ := getF X5 hx hZ hown (host := "") (Or.inl (hw _ (List.mem_of_getElem? (i := 44) rfl))) Via.refl e5 F3 (g := (mkF m 32 #[.val (.ref a1), .val (.int p1), .val (.int p2)] [(.ref a1), (.double (FP.l2d (((3 : Int64) * p2.toInt64) * (mt - mf))))])) rfl rfl (hb hby d7_32)
  obtain ⟨T7, X7, e7, st7⟩ := getF X6 hx hZ hown (host := "") (Or.inl (hw _ (List.mem_of_getElem? (i := 44) rfl))) Via.refl e6 F3 (g := (mkF m 38 #[.val (.ref a1), .val (.int p1), .val (.int p2)] [(.ref a1), (.double (FP.l2d qt)), (.double (FP.l2d (((3 : Int64) * p2.toInt64) * (mt - mf))))])) rfl rfl (hb hby d7_38)
  have pre8 : ∀ t, Steps p.tables e below (T7.setTop (mkF m 45 #[.val (.ref a1), .val (.int p1), .val (.int p2)] [(.double (FP.l2d (own_ref p1 p2 r0 r1 r2)))])) t → Steps p.tables e below (s₁.setTop (entryFrame m #[(.ref a1), (.int p1), (.int p2)] 3)) t := by
    intro t k
    refine pre0 t ?_
    show Steps p.tables e below (s₁.setTop (mkF m 0 #[.val (.ref a1), .val (.int p1), .val (.int p2)] [])) _
    refine XS.aloadN X0.here hx rfl (hb hby d7_0) rfl (rfl) ?_
    show Steps p.tables e below (s₁.setTop (mkF m 1 #[.val (.ref a1), .val (.int p1), .val (.int p2)] [(.ref a1)])) _
    refine st1 _ ?_
    show Steps p.tables e below (T1.setTop (mkF m 4 #[.val (.ref a1), .val (.int p1), .val (.int p2)] [(.ref bm)])) _
    refine XS.ifnonnullYes X1.here hx rfl (pc0 := 4) (pc' := 11) rfl (hb hby d7_4) rfl (by decide) (by decide) ?_
    show Steps p.tables e below (T1.setTop (mkF m 11 #[.val (.ref a1), .val (.int p1), .val (.int p2)] [])) _
    refine X1.ldc2DoubleC hx hown (mvT hZ (hw _ (List.mem_of_getElem? (i := 46) rfl))) (g := (mkF m 11 #[.val (.ref a1), .val (.int p1), .val (.int p2)] [])) rfl (hb hby d7_11) _ ?_
    show Steps p.tables e below (T1.setTop (mkF m 14 #[.val (.ref a1), .val (.int p1), .val (.int p2)] [(.double (4613937818241073152 : UInt64))])) _
    refine XS.iloadN X1.here hx rfl (hb hby d7_14) rfl ?_
    show Steps p.tables e below (T1.setTop (mkF m 15 #[.val (.ref a1), .val (.int p1), .val (.int p2)] [(.int p2), (.double (4613937818241073152 : UInt64))])) _
    refine XS.i2dS X1.here hx rfl (hb hby d7_15) rfl (i2d_w _ : FP.i2d p2 = FP.l2d p2.toInt64) ?_
    show Steps p.tables e below (T1.setTop (mkF m 16 #[.val (.ref a1), .val (.int p1), .val (.int p2)] [(.double (FP.l2d p2.toInt64)), (.double (4613937818241073152 : UInt64))])) _
    refine XS.dmulS X1.here hx rfl (hb hby d7_16) rfl (nn_w k1) k1 ?_
    show Steps p.tables e below (T1.setTop (mkF m 17 #[.val (.ref a1), .val (.int p1), .val (.int p2)] [(.double (FP.l2d ((3 : Int64) * p2.toInt64)))])) _
    refine XS.aloadN X1.here hx rfl (hb hby d7_17) rfl (rfl) ?_
    show Steps p.tables e below (T1.setTop (mkF m 18 #[.val (.ref a1), .val (.int p1), .val (.int p2)] [(.ref a1), (.double (FP.l2d ((3 : Int64) * p2.toInt64)))])) _
    refine st4 _ ?_
    show Steps p.tables e below (T4.setTop (mkF m 21 #[.val (.ref a1), .val (.int p1), .val (.int p2)] [(.ref bm), (.double (FP.l2d ((3 : Int64) * p2.toInt64)))])) _
    refine XS.iloadN X4.here hx rfl (hb hby d7_21) rfl ?_
    show Steps p.tables e below (T4.setTop (mkF m 22 #[.val (.ref a1), .val (.int p1), .val (.int p2)] [(.int p2), (.ref bm), (.double (FP.l2d ((3 : Int64) * p2.toInt64)))])) _
    refine X4.daload hx (j := p2) (v := (.double (FP.l2d mt))) (by rw [e4]; exact Ar2.1) (State.isArrayOf_alike hZ.alike Ar2.2.1) Ar2.2.2 imt amt (g := (mkF m 22 #[.val (.ref a1), .val (.int p1), .val (.int p2)] [(.int p2), (.ref bm), (.double (FP.l2d ((3 : Int64) * p2.toInt64)))])) rfl rfl (hb hby d7_22) _ ?_
    show Steps p.tables e below (T4.setTop (mkF m 23 #[.val (.ref a1), .val (.int p1), .val (.int p2)] [(.double (FP.l2d mt)), (.double (FP.l2d ((3 : Int64) * p2.toInt64)))])) _
    refine XS.aloadN X4.here hx rfl (hb hby d7_23) rfl (rfl) ?_
    show Steps p.tables e below (T4.setTop (mkF m 24 #[.val (.ref a1), .val (.int p1), .val (.int p2)] [(.ref a1), (.double (FP.l2d mt)), (.double (FP.l2d ((3 : Int64) * p2.toInt64)))])) _
    refine st5 _ ?_
    show Steps p.tables e below (T5.setTop (mkF m 27 #[.val (.ref a1), .val (.int p1), .val (.int p2)] [(.ref bm), (.double (FP.l2d mt)), (.double (FP.l2d ((3 : Int64) * p2.toInt64)))])) _
    refine XS.iloadN X5.here hx rfl (hb hby d7_27) rfl ?_
    show Steps p.tables e below (T5.setTop (mkF m 28 #[.val (.ref a1), .val (.int p1), .val (.int p2)] [(.int p1), (.ref bm), (.double (FP.l2d mt)), (.double (FP.l2d ((3 : Int64) * p2.toInt64)))])) _
    refine X5.daload hx (j := p1) (v := (.double (FP.l2d mf))) (by rw [e5]; exact Ar2.1) (State.isArrayOf_alike hZ.alike Ar2.2.1) Ar2.2.2 imf amf (g := (mkF m 28 #[.val (.ref a1), .val (.int p1), .val (.int p2)] [(.int p1), (.ref bm), (.double (FP.l2d mt)), (.double (FP.l2d ((3 : Int64) * p2.toInt64)))])) rfl rfl (hb hby d7_28) _ ?_
    show Steps p.tables e below (T5.setTop (mkF m 29 #[.val (.ref a1), .val (.int p1), .val (.int p2)] [(.double (FP.l2d mf)), (.double (FP.l2d mt)), (.double (FP.l2d ((3 : Int64) * p2.toInt64)))])) _
    refine XS.dsubS X5.here hx rfl (hb hby d7_29) rfl (nn_w k2) k2 ?_
    show Steps p.tables e below (T5.setTop (mkF m 30 #[.val (.ref a1), .val (.int p1), .val (.int p2)] [(.double (FP.l2d (mt - mf))), (.double (FP.l2d ((3 : Int64) * p2.toInt64)))])) _
    refine XS.dmulS X5.here hx rfl (hb hby d7_30) rfl (nn_w k3) k3 ?_
    show Steps p.tables e below (T5.setTop (mkF m 31 #[.val (.ref a1), .val (.int p1), .val (.int p2)] [(.double (FP.l2d (((3 : Int64) * p2.toInt64) * (mt - mf))))])) _
    refine XS.aloadN X5.here hx rfl (hb hby d7_31) rfl (rfl) ?_
    show Steps p.tables e below (T5.setTop (mkF m 32 #[.val (.ref a1), .val (.int p1), .val (.int p2)] [(.ref a1), (.double (FP.l2d (((3 : Int64) * p2.toInt64) * (mt - mf))))])) _
    refine st6 _ ?_
    show Steps p.tables e below (T6.setTop (mkF m 35 #[.val (.ref a1), .val (.int p1), .val (.int p2)] [(.ref bq), (.double (FP.l2d (((3 : Int64) * p2.toInt64) * (mt - mf))))])) _
    refine XS.iloadN X6.here hx rfl (hb hby d7_35) rfl ?_
    show Steps p.tables e below (T6.setTop (mkF m 36 #[.val (.ref a1), .val (.int p1), .val (.int p2)] [(.int p2), (.ref bq), (.double (FP.l2d (((3 : Int64) * p2.toInt64) * (mt - mf))))])) _
    refine X6.daload hx (j := p2) (v := (.double (FP.l2d qt))) (by rw [e6]; exact Ar3.1) (State.isArrayOf_alike hZ.alike Ar3.2.1) Ar3.2.2 iqt aqt (g := (mkF m 36 #[.val (.ref a1), .val (.int p1), .val (.int p2)] [(.int p2), (.ref bq), (.double (FP.l2d (((3 : Int64) * p2.toInt64) * (mt - mf))))])) rfl rfl (hb hby d7_36) _ ?_
    show Steps p.tables e below (T6.setTop (mkF m 37 #[.val (.ref a1), .val (.int p1), .val (.int p2)] [(.double (FP.l2d qt)), (.double (FP.l2d (((3 : Int64) * p2.toInt64) * (mt - mf))))])) _
    refine XS.aloadN X6.here hx rfl (hb hby d7_37) rfl (rfl) ?_
    show Steps p.tables e below (T6.setTop (mkF m 38 #[.val (.ref a1), .val (.int p1), .val (.int p2)] [(.ref a1), (.double (FP.l2d qt)), (.double (FP.l2d (((3 : Int64) * p2.toInt64) * (mt - mf))))])) _
    refine st7 _ ?_
    show Steps p.tables e below (T7.setTop (mkF m 41 #[.val (.ref a1), .val (.int p1), .val (.int p2)] [(.ref bq), (.double (FP.l2d qt)), (.double (FP.l2d (((3 : Int64) * p2.toInt64) * (mt - mf))))])) _
    refine XS.iloadN X7.here hx rfl (hb hby d7_41) rfl ?_
    show Steps p.tables e below (T7.setTop (mkF m 42 #[.val (.ref a1), .val (.int p1), .val (.int p2)] [(.int p1), (.ref bq), (.double (FP.l2d qt)), (.double (FP.l2d (((3 : Int64) * p2.toInt64) * (mt - mf))))])) _
    refine X7.daload hx (j := p1) (v := (.double (FP.l2d qf))) (by rw [e7]; exact Ar3.1) (State.isArrayOf_alike hZ.alike Ar3.2.1) Ar3.2.2 iqf aqf (g := (mkF m 42 #[.val (.ref a1), .val (.int p1), .val (.int p2)] [(.int p1), (.ref bq), (.double (FP.l2d qt)), (.double (FP.l2d (((3 : Int64) * p2.toInt64) * (mt - mf))))])) rfl rfl (hb hby d7_42) _ ?_
    show Steps p.tables e below (T7.setTop (mkF m 43 #[.val (.ref a1), .val (.int p1), .val (.int p2)] [(.double (FP.l2d qf)), (.double (FP.l2d qt)), (.double (FP.l2d (((3 : Int64) * p2.toInt64) * (mt - mf))))])) _
    refine XS.dsubS X7.here hx rfl (hb hby d7_43) rfl (nn_w k4) k4 ?_
    show Steps p.tables e below (T7.setTop (mkF m 44 #[.val (.ref a1), .val (.int p1), .val (.int p2)] [(.double (FP.l2d (qt - qf))), (.double (FP.l2d (((3 : Int64) * p2.toInt64) * (mt - mf))))])) _
    refine XS.dsubS X7.here hx rfl (hb hby d7_44) rfl (nn_w k5) k5 ?_
    show Steps p.tables e below (T7.setTop (mkF m 45 #[.val (.ref a1), .val (.int p1), .val (.int p2)] [(.double (FP.l2d (own_ref p1 p2 r0 r1 r2)))])) _
    exact k
  obtain ⟨fs, hr, hrun, hended, hW, hsame⟩ := X7.leave (v := some (.double (FP.l2d (own_ref p1 p2 r0 r1 r2)))) (fun h => by rw [Bd.returns] at h; cases h)
  refine ⟨_, _, pre8 _ ?_, hrun, hended, _, _, rfl, ?_, ⟨_, rfl⟩, hW, hsame.mono (by decide) (by decide)⟩
  · exact retOut X7 hx Bd.returns rfl (Or.inr (Or.inr (Or.inl ⟨rfl, rfl, _, rfl⟩))) (hb hby d7_45) hr
  · show Q_rmWb Z a1 p1 p2 r0 r1 r2 bm km bq kq m1 m2 m3 m4 m5 m6 w1 w2 w3 w4 w5 w6 h0 n0 _ T7.heap _
    rw [e7]
    exact ⟨rfl, N0, rfl⟩
theorem own_r {x z : Int64} (e : z = x &&& (17179869183 : Int64)) : own_R z 17179869183 := by
  have e1 : (x &&& 17179869183).toInt = x.toInt % 2 ^ 34 := Jvm.Kit.i64_mask x 17179869183 (k := 34) (by decide) (by decide)
  unfold own_R; rw [e, e1]; omega
theorem own_p {x z : Int32} (e : z = (x &&& (2147483647 : Int32)) % (7 : Int32)) : 0 ≤ z.toInt ∧ z.toInt ≤ 6 := by
  have e1 : (x &&& 2147483647).toInt = x.toInt % 2 ^ 31 := Jvm.Kit.i32_mask x 2147483647 (k := 31) (by decide) (by decide)
  have e2 : z.toInt = (x &&& 2147483647).toInt % (7 : Int32).toInt := by rw [e]; exact Jvm.Kit.i32_rem_nonneg (by omega)
  rw [show (7 : Int32).toInt = 7 from rfl] at e2
  omega
theorem own_s {x z : Int32} (e : z = (x &&& (32767 : Int32)) % (7 : Int32)) : 0 ≤ z.toInt ∧ z.toInt ≤ 6 := by
  have e1 : (x &&& 32767).toInt = x.toInt % 2 ^ 15 := Jvm.Kit.i32_mask x 32767 (k := 15) (by decide) (by decide)
  have e2 : z.toInt = (x &&& 32767).toInt % (7 : Int32).toInt := by rw [e]; exact Jvm.Kit.i32_rem_nonneg (by omega)
  rw [show (7 : Int32).toInt = 7 from rfl] at e2
  omega
theorem own_mm {p q : Int32} (hp : 0 ≤ p.toInt ∧ p.toInt ≤ 6) (hq : 0 ≤ q.toInt ∧ q.toInt ≤ 6) : own_6 (own_min p q) ∧ own_6 (own_max p q) ∧ (own_min p q).toInt ≤ (own_max p q).toInt := by
  unfold own_min own_max
  by_cases h1 : q < p <;> by_cases h2 : p < q <;> simp only [h1, h2, if_true, if_false] <;> rw [Int32.lt_iff_toInt_lt] at h1 h2 <;> exact ⟨own_6of (by omega) (by omega), own_6of (by omega) (by omega), by omega⟩
theorem ef_rm0 (m : MethodId) (x0 : Int64) (x1 : Int64) (x2 : Int64) (x3 : Int32) (x4 : Int32) (x5 : Int32) : entryFrame m #[(.long x0), (.long x1), (.long x2), (.int x3), (.int x4), (.int x5)] maxLocals = mkF m 0 #[.val (.long x0), .second, .val (.long x1), .second, .val (.long x2), .second, .val (.int x3), .val (.int x4), .val (.int x5), .unset, .unset, .unset, .unset, .unset, .unset, .unset, .unset, .unset, .unset, .unset, .unset, .unset, .unset, .unset, .unset, .unset, .unset] [] := by first | (simp [entryFrame, mkF, argsToLocals, Value.category, maxLocals]; done) | rfl
theorem pd_2 : parseMethodDescriptor "(II)I" = some ⟨[.int, .int], some .int⟩ := by decide +kernel
theorem pd_3 : parseMethodDescriptor "([JII)J" = some ⟨[(.array .long), .int, .int], some .long⟩ := by decide +kernel
theorem pd_4 : parseMethodDescriptor "([J)V" = some ⟨[(.array .long)], none⟩ := by decide +kernel
theorem pd_5 : parseMethodDescriptor "(II)D" = some ⟨[.int, .int], some .double⟩ := by decide +kernel
def Q_rm0 (Z : State) (j0 : Int64) (j1 : Int64) (j2 : Int64) (p3 : Int32) (p4 : Int32) (p5 : Int32) (h0 : Heap) (n0 : Nat) (v : Option Value) (h : Heap) (L : List Loc) : Prop := v = some (.int 1) ∧ Fr n0 L
set_option maxRecDepth 65536 in
set_option maxHeartbeats 40000000 in
theorem rm0 (l : Launch) (Z : State) (a0 : Array Value) (hw : ∀ d ∈ tables_1, d.before a0 Z = true) (ws : List Jvm.Cond) (j0 : Int64) (j1 : Int64) (j2 : Int64) (p3 : Int32) (p4 : Int32) (p5 : Int32) (h0 : Heap) (n0 : Nat) (Z0 : n0 ≤ h0.size) :
    MetFree l x (head1 (Jvm.Cond.code x code maxLocals ret :: ws) room_1) (fun a U => a = #[(.long j0), (.long j1), (.long j2), (.int p3), (.int p4), (.int p5)] ∧ Z.Warmed39 U.vm ∧ U.heap = h0) (fun _ _ _ _ _ => True) (fun _ U o U' => ∃ v L, o = .returned v ∧ Q_rm0 Z j0 j1 j2 p3 p4 p5 h0 n0 v U'.heap L ∧ FrameEnd U o U' L room_1.cells room_1.slots) := by
  refine MetFree.of_bodySF (plainFor_of_name pn_1) hisR ?_
  intro p e s m args below meth c s₁ Bd hml0 hP hK
  obtain ⟨rfl, hZ, hh⟩ := hP
  have hx := Bd.exec
  have hby := Bd.bytes
  have hml : c.maxLocals = 27 := hml0
  have hown : s.vm.findClass "com/example/hummingbird/hummingbird/engine/RhythmWaitingPinLaw" = some m.cls := (findClass_of_methodNamed Bd.named :)
  have hnm := (name_of_methodNamed Bd.named Bd.method).1
  have X0 : Stand p l e room_1 s m #[(.long j0), (.long j1), (.long j2), (.int p3), (.int p4), (.int p5)] below meth c s₁ [] 0 0 := Stand.of_body Bd
  have e0 : s₁.heap = h0 := by rw [← hh, Bd.state]; rfl
  have N0 := Fr.nil n0
  have pre0 : ∀ t, Steps p.tables e below (s₁.setTop (mkF m 0 #[.val (.long j0), .second, .val (.long j1), .second, .val (.long j2), .second, .val (.int p3), .val (.int p4), .val (.int p5), .unset, .unset, .unset, .unset, .unset, .unset, .unset, .unset, .unset, .unset, .unset, .unset, .unset, .unset, .unset, .unset, .unset, .unset] [])) t → Steps p.tables e below (s₁.setTop (entryFrame m #[(.long j0), (.long j1), (.long j2), (.int p3), (.int p4), (.int p5)] maxLocals)) t := fun t k => castTop (ef_rm0 m j0 j1 j2 p3 p4 p5) k
  obtain ⟨T1, h1, k1, X1, e1, E1, A1, st1⟩ := newP X0 hx hZ (hw _ (List.mem_of_getElem? (i := 0) rfl)) e0 (g := (mkF m 1 #[.val (.long j0), .second, .val (.long j1), .second, .val (.long j2), .second, .val (.int p3), .val (.int p4), .val (.int p5), .unset, .unset, .unset, .unset, .unset, .unset, .unset, .unset, .unset, .unset, .unset, .unset, .unset, .unset, .unset, .unset, .unset, .unset] [(.int (3 : Int32))])) rfl (hb hby at_1) rfl (by decide) (cap := 3) (by decide) (by decide) (by decide) (by decide)
  obtain ⟨b1, g1⟩ : ∃ z, z = h0.size := ⟨_, rfl⟩
  rw [← g1] at A1 st1
  have V1 : Arv Z h1 b1 k1 .long (3 : Int32) [(.long (0 : Int64)), (.long (0 : Int64)), (.long (0 : Int64))] (.long (0 : Int64)) := (Arv.new A1 (by decide)).pad (pad_rep [] (.long (0 : Int64)) 3)
  have g_b1 : n0 ≤ b1 := Nat.le_trans Z0 (Nat.le_of_eq g1.symm)
  have sz_b1 : h0.size ≤ b1 := (Nat.le_trans (Keep.refl h0 []).1 (Nat.le_of_eq g1.symm))
  have K1 : Keep h0 h1 [] := (Keep.refl h0 []).ext E1
  have pre2 : ∀ t, Steps p.tables e below (T1.setTop (mkF m 10 #[.val (.long j0), .second, .val (.long j1), .second, .val (.long j2), .second, .val (.int p3), .val (.int p4), .val (.int p5), .unset, .unset, .unset, .unset, .unset, .unset, .unset, .unset, .unset, .unset, .unset, .unset, .unset, .unset, .unset, .unset, .unset, .unset] [(.long (j0 &&& (17179869183 : Int64))), (.int (0 : Int32)), (.ref b1), (.ref b1)])) t → Steps p.tables e below (s₁.setTop (entryFrame m #[(.long j0), (.long j1), (.long j2), (.int p3), (.int p4), (.int p5)] maxLocals)) t := by
    intro t k
    refine pre0 t ?_
    show Steps p.tables e below (s₁.setTop (mkF m 0 #[.val (.long j0), .second, .val (.long j1), .second, .val (.long j2), .second, .val (.int p3), .val (.int p4), .val (.int p5), .unset, .unset, .unset, .unset, .unset, .unset, .unset, .unset, .unset, .unset, .unset, .unset, .unset, .unset, .unset, .unset, .unset, .unset] [])) _
    refine XS.iconst X0.here hx rfl (hb hby at_0) ?_
    show Steps p.tables e below (s₁.setTop (mkF m 1 #[.val (.long j0), .second, .val (.long j1), .second, .val (.long j2), .second, .val (.int p3), .val (.int p4), .val (.int p5), .unset, .unset, .unset, .unset, .unset, .unset, .unset, .unset, .unset, .unset, .unset, .unset, .unset, .unset, .unset, .unset, .unset, .unset] [(.int (3 : Int32))])) _
    refine st1 _ ?_
    show Steps p.tables e below (T1.setTop (mkF m 3 #[.val (.long j0), .second, .val (.long j1), .second, .val (.long j2), .second, .val (.int p3), .val (.int p4), .val (.int p5), .unset, .unset, .unset, .unset, .unset, .unset, .unset, .unset, .unset, .unset, .unset, .unset, .unset, .unset, .unset, .unset, .unset, .unset] [(.ref b1)])) _
    refine XS.dup X1.here hx rfl (hb hby at_3) rfl rfl ?_
    show Steps p.tables e below (T1.setTop (mkF m 4 #[.val (.long j0), .second, .val (.long j1), .second, .val (.long j2), .second, .val (.int p3), .val (.int p4), .val (.int p5), .unset, .unset, .unset, .unset, .unset, .unset, .unset, .unset, .unset, .unset, .unset, .unset, .unset, .unset, .unset, .unset, .unset, .unset] [(.ref b1), (.ref b1)])) _
    refine XS.iconst X1.here hx rfl (hb hby at_4) ?_
    show Steps p.tables e below (T1.setTop (mkF m 5 #[.val (.long j0), .second, .val (.long j1), .second, .val (.long j2), .second, .val (.int p3), .val (.int p4), .val (.int p5), .unset, .unset, .unset, .unset, .unset, .unset, .unset, .unset, .unset, .unset, .unset, .unset, .unset, .unset, .unset, .unset, .unset, .unset] [(.int (0 : Int32)), (.ref b1), (.ref b1)])) _
    refine XS.lloadN X1.here hx rfl (hb hby at_5) rfl ?_
    show Steps p.tables e below (T1.setTop (mkF m 6 #[.val (.long j0), .second, .val (.long j1), .second, .val (.long j2), .second, .val (.int p3), .val (.int p4), .val (.int p5), .unset, .unset, .unset, .unset, .unset, .unset, .unset, .unset, .unset, .unset, .unset, .unset, .unset, .unset, .unset, .unset, .unset, .unset] [(.long j0), (.int (0 : Int32)), (.ref b1), (.ref b1)])) _
    refine X1.ldc2Long hx hown (mvT hZ (hw _ (List.mem_of_getElem? (i := 1) rfl))) (g := (mkF m 6 #[.val (.long j0), .second, .val (.long j1), .second, .val (.long j2), .second, .val (.int p3), .val (.int p4), .val (.int p5), .unset, .unset, .unset, .unset, .unset, .unset, .unset, .unset, .unset, .unset, .unset, .unset, .unset, .unset, .unset, .unset, .unset, .unset] [(.long j0), (.int (0 : Int32)), (.ref b1), (.ref b1)])) rfl (hb hby at_6) _ ?_
    show Steps p.tables e below (T1.setTop (mkF m 9 #[.val (.long j0), .second, .val (.long j1), .second, .val (.long j2), .second, .val (.int p3), .val (.int p4), .val (.int p5), .unset, .unset, .unset, .unset, .unset, .unset, .unset, .unset, .unset, .unset, .unset, .unset, .unset, .unset, .unset, .unset, .unset, .unset] [(.long (17179869183 : Int64)), (.long j0), (.int (0 : Int32)), (.ref b1), (.ref b1)])) _
    refine XS.land X1.here hx rfl (hb hby at_9) rfl ?_
    show Steps p.tables e below (T1.setTop (mkF m 10 #[.val (.long j0), .second, .val (.long j1), .second, .val (.long j2), .second, .val (.int p3), .val (.int p4), .val (.int p5), .unset, .unset, .unset, .unset, .unset, .unset, .unset, .unset, .unset, .unset, .unset, .unset, .unset, .unset, .unset, .unset, .unset, .unset] [(.long (j0 &&& (17179869183 : Int64))), (.int (0 : Int32)), (.ref b1), (.ref b1)])) _
    exact k
  obtain ⟨r0, hr0⟩ : ∃ z : Int64, z = (j0 &&& (17179869183 : Int64)) := ⟨_, rfl⟩
  rw [← hr0] at pre2
  have Hr0 := own_r hr0
  obtain ⟨cl3, Ar3, q3, S3, M3, H3, G3⟩ := id V1
  have hin3 : ¬ ((0 : Int32) < 0 ∨ cl3.slots.size ≤ ((0 : Int32)).toNatClampNeg) := inb_of S3 ⟨by decide, by decide⟩
  obtain ⟨T4, h4, X4, e4, W4, st4⟩ := stJ X1 hx hZ e1 Ar3 (j := (0 : Int32)) hin3 (g := (mkF m 10 #[.val (.long j0), .second, .val (.long j1), .second, .val (.long j2), .second, .val (.int p3), .val (.int p4), .val (.int p5), .unset, .unset, .unset, .unset, .unset, .unset, .unset, .unset, .unset, .unset, .unset, .unset, .unset, .unset, .unset, .unset, .unset, .unset] [(.long r0), (.int (0 : Int32)), (.ref b1), (.ref b1)])) rfl rfl (hb hby at_10)
  have V4 : Arv Z h4 b1 k1 .long (3 : Int32) [(.long r0), (.long (0 : Int64)), (.long (0 : Int64))] (.long (0 : Int64)) := Arv.set Ar3 q3 S3 M3 H3 G3 rfl W4 0 rfl (Nat.le_of_ble_eq_true rfl)
  have K4 : Keep h0 h4 [] := K1.wr W4 (Or.inr sz_b1)
  have N4 := Fr.snoc X4 N0 g_b1
  have pre5 : ∀ t, Steps p.tables e below (T4.setTop (mkF m 18 #[.val (.long j0), .second, .val (.long j1), .second, .val (.long j2), .second, .val (.int p3), .val (.int p4), .val (.int p5), .unset, .unset, .unset, .unset, .unset, .unset, .unset, .unset, .unset, .unset, .unset, .unset, .unset, .unset, .unset, .unset, .unset, .unset] [(.long (j1 &&& (17179869183 : Int64))), (.int (1 : Int32)), (.ref b1), (.ref b1)])) t → Steps p.tables e below (s₁.setTop (entryFrame m #[(.long j0), (.long j1), (.long j2), (.int p3), (.int p4), (.int p5)] maxLocals)) t := by
    intro t k
    refine pre2 t ?_
    refine st4 _ ?_
    show Steps p.tables e below (T4.setTop (mkF m 11 #[.val (.long j0), .second, .val (.long j1), .second, .val (.long j2), .second, .val (.int p3), .val (.int p4), .val (.int p5), .unset, .unset, .unset, .unset, .unset, .unset, .unset, .unset, .unset, .unset, .unset, .unset, .unset, .unset, .unset, .unset, .unset, .unset] [(.ref b1)])) _
    refine XS.dup X4.here hx rfl (hb hby at_11) rfl rfl ?_
    show Steps p.tables e below (T4.setTop (mkF m 12 #[.val (.long j0), .second, .val (.long j1), .second, .val (.long j2), .second, .val (.int p3), .val (.int p4), .val (.int p5), .unset, .unset, .unset, .unset, .unset, .unset, .unset, .unset, .unset, .unset, .unset, .unset, .unset, .unset, .unset, .unset, .unset, .unset] [(.ref b1), (.ref b1)])) _
    refine XS.iconst X4.here hx rfl (hb hby at_12) ?_
    show Steps p.tables e below (T4.setTop (mkF m 13 #[.val (.long j0), .second, .val (.long j1), .second, .val (.long j2), .second, .val (.int p3), .val (.int p4), .val (.int p5), .unset, .unset, .unset, .unset, .unset, .unset, .unset, .unset, .unset, .unset, .unset, .unset, .unset, .unset, .unset, .unset, .unset, .unset] [(.int (1 : Int32)), (.ref b1), (.ref b1)])) _
    refine XS.lloadN X4.here hx rfl (hb hby at_13) rfl ?_
    show Steps p.tables e below (T4.setTop (mkF m 14 #[.val (.long j0), .second, .val (.long j1), .second, .val (.long j2), .second, .val (.int p3), .val (.int p4), .val (.int p5), .unset, .unset, .unset, .unset, .unset, .unset, .unset, .unset, .unset, .unset, .unset, .unset, .unset, .unset, .unset, .unset, .unset, .unset] [(.long j1), (.int (1 : Int32)), (.ref b1), (.ref b1)])) _
    refine X4.ldc2Long hx hown (mvT hZ (hw _ (List.mem_of_getElem? (i := 1) rfl))) (g := (mkF m 14 #[.val (.long j0), .second, .val (.long j1), .second, .val (.long j2), .second, .val (.int p3), .val (.int p4), .val (.int p5), .unset, .unset, .unset, .unset, .unset, .unset, .unset, .unset, .unset, .unset, .unset, .unset, .unset, .unset, .unset, .unset, .unset, .unset] [(.long j1), (.int (1 : Int32)), (.ref b1), (.ref b1)])) rfl (hb hby at_14) _ ?_
    show Steps p.tables e below (T4.setTop (mkF m 17 #[.val (.long j0), .second, .val (.long j1), .second, .val (.long j2), .second, .val (.int p3), .val (.int p4), .val (.int p5), .unset, .unset, .unset, .unset, .unset, .unset, .unset, .unset, .unset, .unset, .unset, .unset, .unset, .unset, .unset, .unset, .unset, .unset] [(.long (17179869183 : Int64)), (.long j1), (.int (1 : Int32)), (.ref b1), (.ref b1)])) _
    refine XS.land X4.here hx rfl (hb hby at_17) rfl ?_
    show Steps p.tables e below (T4.setTop (mkF m 18 #[.val (.long j0), .second, .val (.long j1), .second, .val (.long j2), .second, .val (.int p3), .val (.int p4), .val (.int p5), .unset, .unset, .unset, .unset, .unset, .unset, .unset, .unset, .unset, .unset, .unset, .unset, .unset, .unset, .unset, .unset, .unset, .unset] [(.long (j1 &&& (17179869183 : Int64))), (.int (1 : Int32)), (.ref b1), (.ref b1)])) _
    exact k
  obtain ⟨r1, hr1⟩ : ∃ z : Int64, z = (j1 &&& (17179869183 : Int64)) := ⟨_, rfl⟩
  rw [← hr1] at pre5
  have Hr1 := own_r hr1
  obtain ⟨cl6, Ar6, q6, S6, M6, H6, G6⟩ := id V4
  have hin6 : ¬ ((1 : Int32) < 0 ∨ cl6.slots.size ≤ ((1 : Int32)).toNatClampNeg) := inb_of S6 ⟨by decide, by decide⟩
  obtain ⟨T7, h7, X7, e7, W7, st7⟩ := stJ X4 hx hZ e4 Ar6 (j := (1 : Int32)) hin6 (g := (mkF m 18 #[.val (.long j0), .second, .val (.long j1), .second, .val (.long j2), .second, .val (.int p3), .val (.int p4), .val (.int p5), .unset, .unset, .unset, .unset, .unset, .unset, .unset, .unset, .unset, .unset, .unset, .unset, .unset, .unset, .unset, .unset, .unset, .unset] [(.long r1), (.int (1 : Int32)), (.ref b1), (.ref b1)])) rfl rfl (hb hby at_18)
  have V7 : Arv Z h7 b1 k1 .long (3 : Int32) [(.long r0), (.long r1), (.long (0 : Int64))] (.long (0 : Int64)) := Arv.set Ar6 q6 S6 M6 H6 G6 rfl W7 1 rfl (Nat.le_of_ble_eq_true rfl)
  have K7 : Keep h0 h7 [] := K4.wr W7 (Or.inr sz_b1)
  have N7 := Fr.snoc X7 N4 g_b1
  have pre8 : ∀ t, Steps p.tables e below (T7.setTop (mkF m 27 #[.val (.long j0), .second, .val (.long j1), .second, .val (.long j2), .second, .val (.int p3), .val (.int p4), .val (.int p5), .unset, .unset, .unset, .unset, .unset, .unset, .unset, .unset, .unset, .unset, .unset, .unset, .unset, .unset, .unset, .unset, .unset, .unset] [(.long (j2 &&& (17179869183 : Int64))), (.int (2 : Int32)), (.ref b1), (.ref b1)])) t → Steps p.tables e below (s₁.setTop (entryFrame m #[(.long j0), (.long j1), (.long j2), (.int p3), (.int p4), (.int p5)] maxLocals)) t := by
    intro t k
    refine pre5 t ?_
    refine st7 _ ?_
    show Steps p.tables e below (T7.setTop (mkF m 19 #[.val (.long j0), .second, .val (.long j1), .second, .val (.long j2), .second, .val (.int p3), .val (.int p4), .val (.int p5), .unset, .unset, .unset, .unset, .unset, .unset, .unset, .unset, .unset, .unset, .unset, .unset, .unset, .unset, .unset, .unset, .unset, .unset] [(.ref b1)])) _
    refine XS.dup X7.here hx rfl (hb hby at_19) rfl rfl ?_
    show Steps p.tables e below (T7.setTop (mkF m 20 #[.val (.long j0), .second, .val (.long j1), .second, .val (.long j2), .second, .val (.int p3), .val (.int p4), .val (.int p5), .unset, .unset, .unset, .unset, .unset, .unset, .unset, .unset, .unset, .unset, .unset, .unset, .unset, .unset, .unset, .unset, .unset, .unset] [(.ref b1), (.ref b1)])) _
    refine XS.iconst X7.here hx rfl (hb hby at_20) ?_
    show Steps p.tables e below (T7.setTop (mkF m 21 #[.val (.long j0), .second, .val (.long j1), .second, .val (.long j2), .second, .val (.int p3), .val (.int p4), .val (.int p5), .unset, .unset, .unset, .unset, .unset, .unset, .unset, .unset, .unset, .unset, .unset, .unset, .unset, .unset, .unset, .unset, .unset, .unset] [(.int (2 : Int32)), (.ref b1), (.ref b1)])) _
    refine XS.lload X7.here hx rfl (hb hby at_21) rfl ?_
    show Steps p.tables e below (T7.setTop (mkF m 23 #[.val (.long j0), .second, .val (.long j1), .second, .val (.long j2), .second, .val (.int p3), .val (.int p4), .val (.int p5), .unset, .unset, .unset, .unset, .unset, .unset, .unset, .unset, .unset, .unset, .unset, .unset, .unset, .unset, .unset, .unset, .unset, .unset] [(.long j2), (.int (2 : Int32)), (.ref b1), (.ref b1)])) _
    refine X7.ldc2Long hx hown (mvT hZ (hw _ (List.mem_of_getElem? (i := 1) rfl))) (g := (mkF m 23 #[.val (.long j0), .second, .val (.long j1), .second, .val (.long j2), .second, .val (.int p3), .val (.int p4), .val (.int p5), .unset, .unset, .unset, .unset, .unset, .unset, .unset, .unset, .unset, .unset, .unset, .unset, .unset, .unset, .unset, .unset, .unset, .unset] [(.long j2), (.int (2 : Int32)), (.ref b1), (.ref b1)])) rfl (hb hby at_23) _ ?_
    show Steps p.tables e below (T7.setTop (mkF m 26 #[.val (.long j0), .second, .val (.long j1), .second, .val (.long j2), .second, .val (.int p3), .val (.int p4), .val (.int p5), .unset, .unset, .unset, .unset, .unset, .unset, .unset, .unset, .unset, .unset, .unset, .unset, .unset, .unset, .unset, .unset, .unset, .unset] [(.long (17179869183 : Int64)), (.long j2), (.int (2 : Int32)), (.ref b1), (.ref b1)])) _
    refine XS.land X7.here hx rfl (hb hby at_26) rfl ?_
    show Steps p.tables e below (T7.setTop (mkF m 27 #[.val (.long j0), .second, .val (.long j1), .second, .val (.long j2), .second, .val (.int p3), .val (.int p4), .val (.int p5), .unset, .unset, .unset, .unset, .unset, .unset, .unset, .unset, .unset, .unset, .unset, .unset, .unset, .unset, .unset, .unset, .unset, .unset] [(.long (j2 &&& (17179869183 : Int64))), (.int (2 : Int32)), (.ref b1), (.ref b1)])) _
    exact k
  obtain ⟨r2, hr2⟩ : ∃ z : Int64, z = (j2 &&& (17179869183 : Int64)) := ⟨_, rfl⟩
  rw [← hr2] at pre8
  have Hr2 := own_r hr2
  obtain ⟨cl9, Ar9, q9, S9, M9, H9, G9⟩ := id V7
  have hin9 : ¬ ((2 : Int32) < 0 ∨ cl9.slots.size ≤ ((2 : Int32)).toNatClampNeg) := inb_of S9 ⟨by decide, by decide⟩
  obtain ⟨T10, h10, X10, e10, W10, st10⟩ := stJ X7 hx hZ e7 Ar9 (j := (2 : Int32)) hin9 (g := (mkF m 27 #[.val (.long j0), .second, .val (.long j1), .second, .val (.long j2), .second, .val (.int p3), .val (.int p4), .val (.int p5), .unset, .unset, .unset, .unset, .unset, .unset, .unset, .unset, .unset, .unset, .unset, .unset, .unset, .unset, .unset, .unset, .unset, .unset] [(.long r2), (.int (2 : Int32)), (.ref b1), (.ref b1)])) rfl rfl (hb hby at_27)
  have V10 : Arv Z h10 b1 k1 .long (3 : Int32) [(.long r0), (.long r1), (.long r2)] (.long (0 : Int64)) := Arv.set Ar9 q9 S9 M9 H9 G9 rfl W10 2 rfl (Nat.le_of_ble_eq_true rfl)
  have K10 : Keep h0 h10 [] := K7.wr W10 (Or.inr sz_b1)
  have N10 := Fr.snoc X10 N7 g_b1
  obtain ⟨cl11, Ar11, q11, S11, M11, H11, G11⟩ := id V10
  have t0 : cl11.slots[0]? = some (.long r0) := H11 0 (by rw [S11]; decide)
  have t1 : cl11.slots[1]? = some (.long r1) := H11 1 (by rw [S11]; decide)
  have t2 : cl11.slots[2]? = some (.long r2) := H11 2 (by rw [S11]; decide)
  have pre12 : ∀ t, Steps p.tables e below (T10.setTop (mkF m 36 #[.val (.long j0), .second, .val (.long j1), .second, .val (.long j2), .second, .val (.int p3), .val (.int p4), .val (.int p5), .val (.ref b1), .unset, .unset, .unset, .unset, .unset, .unset, .unset, .unset, .unset, .unset, .unset, .unset, .unset, .unset, .unset, .unset, .unset] [(.int (lcmpW r0 (0 : Int64)))])) t → Steps p.tables e below (s₁.setTop (entryFrame m #[(.long j0), (.long j1), (.long j2), (.int p3), (.int p4), (.int p5)] maxLocals)) t := by
    intro t k
    refine pre8 t ?_
    refine st10 _ ?_
    show Steps p.tables e below (T10.setTop (mkF m 28 #[.val (.long j0), .second, .val (.long j1), .second, .val (.long j2), .second, .val (.int p3), .val (.int p4), .val (.int p5), .unset, .unset, .unset, .unset, .unset, .unset, .unset, .unset, .unset, .unset, .unset, .unset, .unset, .unset, .unset, .unset, .unset, .unset] [(.ref b1)])) _
    refine XS.astore X10.here hx rfl (hb hby at_28) rfl (rfl) (l' := #[.val (.long j0), .second, .val (.long j1), .second, .val (.long j2), .second, .val (.int p3), .val (.int p4), .val (.int p5), .val (.ref b1), .unset, .unset, .unset, .unset, .unset, .unset, .unset, .unset, .unset, .unset, .unset, .unset, .unset, .unset, .unset, .unset, .unset]) rfl ?_
    show Steps p.tables e below (T10.setTop (mkF m 30 #[.val (.long j0), .second, .val (.long j1), .second, .val (.long j2), .second, .val (.int p3), .val (.int p4), .val (.int p5), .val (.ref b1), .unset, .unset, .unset, .unset, .unset, .unset, .unset, .unset, .unset, .unset, .unset, .unset, .unset, .unset, .unset, .unset, .unset] [])) _
    refine XS.aload X10.here hx rfl (hb hby at_30) rfl (rfl) ?_
    show Steps p.tables e below (T10.setTop (mkF m 32 #[.val (.long j0), .second, .val (.long j1), .second, .val (.long j2), .second, .val (.int p3), .val (.int p4), .val (.int p5), .val (.ref b1), .unset, .unset, .unset, .unset, .unset, .unset, .unset, .unset, .unset, .unset, .unset, .unset, .unset, .unset, .unset, .unset, .unset] [(.ref b1)])) _
    refine XS.iconst X10.here hx rfl (hb hby at_32) ?_
    show Steps p.tables e below (T10.setTop (mkF m 33 #[.val (.long j0), .second, .val (.long j1), .second, .val (.long j2), .second, .val (.int p3), .val (.int p4), .val (.int p5), .val (.ref b1), .unset, .unset, .unset, .unset, .unset, .unset, .unset, .unset, .unset, .unset, .unset, .unset, .unset, .unset, .unset, .unset, .unset] [(.int (0 : Int32)), (.ref b1)])) _
    refine X10.laload hx (j := (0 : Int32)) (v := (.long r0)) (by rw [e10]; exact Ar11.1) (State.isArrayOf_alike hZ.alike Ar11.2.1) Ar11.2.2 (inb_of S11 ⟨by decide, by decide⟩) t0 (g := (mkF m 33 #[.val (.long j0), .second, .val (.long j1), .second, .val (.long j2), .second, .val (.int p3), .val (.int p4), .val (.int p5), .val (.ref b1), .unset, .unset, .unset, .unset, .unset, .unset, .unset, .unset, .unset, .unset, .unset, .unset, .unset, .unset, .unset, .unset, .unset] [(.int (0 : Int32)), (.ref b1)])) rfl rfl (hb hby at_33) _ ?_
    show Steps p.tables e below (T10.setTop (mkF m 34 #[.val (.long j0), .second, .val (.long j1), .second, .val (.long j2), .second, .val (.int p3), .val (.int p4), .val (.int p5), .val (.ref b1), .unset, .unset, .unset, .unset, .unset, .unset, .unset, .unset, .unset, .unset, .unset, .unset, .unset, .unset, .unset, .unset, .unset] [(.long r0)])) _
    refine XS.lconst X10.here hx rfl (hb hby at_34) ?_
    show Steps p.tables e below (T10.setTop (mkF m 35 #[.val (.long j0), .second, .val (.long j1), .second, .val (.long j2), .second, .val (.int p3), .val (.int p4), .val (.int p5), .val (.ref b1), .unset, .unset, .unset, .unset, .unset, .unset, .unset, .unset, .unset, .unset, .unset, .unset, .unset, .unset, .unset, .unset, .unset] [(.long (0 : Int64)), (.long r0)])) _
    refine XS.lcmp X10.here hx rfl (hb hby at_35) rfl ?_
    show Steps p.tables e below (T10.setTop (mkF m 36 #[.val (.long j0), .second, .val (.long j1), .second, .val (.long j2), .second, .val (.int p3), .val (.int p4), .val (.int p5), .val (.ref b1), .unset, .unset, .unset, .unset, .unset, .unset, .unset, .unset, .unset, .unset, .unset, .unset, .unset, .unset, .unset, .unset, .unset] [(.int (lcmpW r0 (0 : Int64)))])) _
    exact k
  by_cases h36 : r0 = (0 : Int64)
  · skip
    have pre13 : ∀ t, Steps p.tables e below (T10.setTop (mkF m 45 #[.val (.long j0), .second, .val (.long j1), .second, .val (.long j2), .second, .val (.int p3), .val (.int p4), .val (.int p5), .val (.ref b1), .unset, .unset, .unset, .unset, .unset, .unset, .unset, .unset, .unset, .unset, .unset, .unset, .unset, .unset, .unset, .unset, .unset] [(.int (lcmpW r1 (0 : Int64)))])) t → Steps p.tables e below (s₁.setTop (entryFrame m #[(.long j0), (.long j1), (.long j2), (.int p3), (.int p4), (.int p5)] maxLocals)) t := by
      intro t k
      refine pre12 t ?_
      refine XS.ifNo X10.here hx rfl (hb hby at_36) rfl ((if0 _ _).trans (teq ((lw_eq r0 (0 : Int64)).mpr h36)).2) ?_
      show Steps p.tables e below (T10.setTop (mkF m 39 #[.val (.long j0), .second, .val (.long j1), .second, .val (.long j2), .second, .val (.int p3), .val (.int p4), .val (.int p5), .val (.ref b1), .unset, .unset, .unset, .unset, .unset, .unset, .unset, .unset, .unset, .unset, .unset, .unset, .unset, .unset, .unset, .unset, .unset] [])) _
      refine XS.aload X10.here hx rfl (hb hby at_39) rfl (rfl) ?_
      show Steps p.tables e below (T10.setTop (mkF m 41 #[.val (.long j0), .second, .val (.long j1), .second, .val (.long j2), .second, .val (.int p3), .val (.int p4), .val (.int p5), .val (.ref b1), .unset, .unset, .unset, .unset, .unset, .unset, .unset, .unset, .unset, .unset, .unset, .unset, .unset, .unset, .unset, .unset, .unset] [(.ref b1)])) _
      refine XS.iconst X10.here hx rfl (hb hby at_41) ?_
      show Steps p.tables e below (T10.setTop (mkF m 42 #[.val (.long j0), .second, .val (.long j1), .second, .val (.long j2), .second, .val (.int p3), .val (.int p4), .val (.int p5), .val (.ref b1), .unset, .unset, .unset, .unset, .unset, .unset, .unset, .unset, .unset, .unset, .unset, .unset, .unset, .unset, .unset, .unset, .unset] [(.int (1 : Int32)), (.ref b1)])) _
      refine X10.laload hx (j := (1 : Int32)) (v := (.long r1)) (by rw [e10]; exact Ar11.1) (State.isArrayOf_alike hZ.alike Ar11.2.1) Ar11.2.2 (inb_of S11 ⟨by decide, by decide⟩) t1 (g := (mkF m 42 #[.val (.long j0), .second, .val (.long j1), .second, .val (.long j2), .second, .val (.int p3), .val (.int p4), .val (.int p5), .val (.ref b1), .unset, .unset, .unset, .unset, .unset, .unset, .unset, .unset, .unset, .unset, .unset, .unset, .unset, .unset, .unset, .unset, .unset] [(.int (1 : Int32)), (.ref b1)])) rfl rfl (hb hby at_42) _ ?_
      show Steps p.tables e below (T10.setTop (mkF m 43 #[.val (.long j0), .second, .val (.long j1), .second, .val (.long j2), .second, .val (.int p3), .val (.int p4), .val (.int p5), .val (.ref b1), .unset, .unset, .unset, .unset, .unset, .unset, .unset, .unset, .unset, .unset, .unset, .unset, .unset, .unset, .unset, .unset, .unset] [(.long r1)])) _
      refine XS.lconst X10.here hx rfl (hb hby at_43) ?_
      show Steps p.tables e below (T10.setTop (mkF m 44 #[.val (.long j0), .second, .val (.long j1), .second, .val (.long j2), .second, .val (.int p3), .val (.int p4), .val (.int p5), .val (.ref b1), .unset, .unset, .unset, .unset, .unset, .unset, .unset, .unset, .unset, .unset, .unset, .unset, .unset, .unset, .unset, .unset, .unset] [(.long (0 : Int64)), (.long r1)])) _
      refine XS.lcmp X10.here hx rfl (hb hby at_44) rfl ?_
      show Steps p.tables e below (T10.setTop (mkF m 45 #[.val (.long j0), .second, .val (.long j1), .second, .val (.long j2), .second, .val (.int p3), .val (.int p4), .val (.int p5), .val (.ref b1), .unset, .unset, .unset, .unset, .unset, .unset, .unset, .unset, .unset, .unset, .unset, .unset, .unset, .unset, .unset, .unset, .unset] [(.int (lcmpW r1 (0 : Int64)))])) _
      exact k
    by_cases h45 : r1 = (0 : Int64)
    · skip
      have pre14 : ∀ t, Steps p.tables e below (T10.setTop (mkF m 54 #[.val (.long j0), .second, .val (.long j1), .second, .val (.long j2), .second, .val (.int p3), .val (.int p4), .val (.int p5), .val (.ref b1), .unset, .unset, .unset, .unset, .unset, .unset, .unset, .unset, .unset, .unset, .unset, .unset, .unset, .unset, .unset, .unset, .unset] [(.int (lcmpW r2 (0 : Int64)))])) t → Steps p.tables e below (s₁.setTop (entryFrame m #[(.long j0), (.long j1), (.long j2), (.int p3), (.int p4), (.int p5)] maxLocals)) t := by
        intro t k
        refine pre13 t ?_
        refine XS.ifNo X10.here hx rfl (hb hby at_45) rfl ((if0 _ _).trans (teq ((lw_eq r1 (0 : Int64)).mpr h45)).2) ?_
        show Steps p.tables e below (T10.setTop (mkF m 48 #[.val (.long j0), .second, .val (.long j1), .second, .val (.long j2), .second, .val (.int p3), .val (.int p4), .val (.int p5), .val (.ref b1), .unset, .unset, .unset, .unset, .unset, .unset, .unset, .unset, .unset, .unset, .unset, .unset, .unset, .unset, .unset, .unset, .unset] [])) _
        refine XS.aload X10.here hx rfl (hb hby at_48) rfl (rfl) ?_
        show Steps p.tables e below (T10.setTop (mkF m 50 #[.val (.long j0), .second, .val (.long j1), .second, .val (.long j2), .second, .val (.int p3), .val (.int p4), .val (.int p5), .val (.ref b1), .unset, .unset, .unset, .unset, .unset, .unset, .unset, .unset, .unset, .unset, .unset, .unset, .unset, .unset, .unset, .unset, .unset] [(.ref b1)])) _
        refine XS.iconst X10.here hx rfl (hb hby at_50) ?_
        show Steps p.tables e below (T10.setTop (mkF m 51 #[.val (.long j0), .second, .val (.long j1), .second, .val (.long j2), .second, .val (.int p3), .val (.int p4), .val (.int p5), .val (.ref b1), .unset, .unset, .unset, .unset, .unset, .unset, .unset, .unset, .unset, .unset, .unset, .unset, .unset, .unset, .unset, .unset, .unset] [(.int (2 : Int32)), (.ref b1)])) _
        refine X10.laload hx (j := (2 : Int32)) (v := (.long r2)) (by rw [e10]; exact Ar11.1) (State.isArrayOf_alike hZ.alike Ar11.2.1) Ar11.2.2 (inb_of S11 ⟨by decide, by decide⟩) t2 (g := (mkF m 51 #[.val (.long j0), .second, .val (.long j1), .second, .val (.long j2), .second, .val (.int p3), .val (.int p4), .val (.int p5), .val (.ref b1), .unset, .unset, .unset, .unset, .unset, .unset, .unset, .unset, .unset, .unset, .unset, .unset, .unset, .unset, .unset, .unset, .unset] [(.int (2 : Int32)), (.ref b1)])) rfl rfl (hb hby at_51) _ ?_
        show Steps p.tables e below (T10.setTop (mkF m 52 #[.val (.long j0), .second, .val (.long j1), .second, .val (.long j2), .second, .val (.int p3), .val (.int p4), .val (.int p5), .val (.ref b1), .unset, .unset, .unset, .unset, .unset, .unset, .unset, .unset, .unset, .unset, .unset, .unset, .unset, .unset, .unset, .unset, .unset] [(.long r2)])) _
        refine XS.lconst X10.here hx rfl (hb hby at_52) ?_
        show Steps p.tables e below (T10.setTop (mkF m 53 #[.val (.long j0), .second, .val (.long j1), .second, .val (.long j2), .second, .val (.int p3), .val (.int p4), .val (.int p5), .val (.ref b1), .unset, .unset, .unset, .unset, .unset, .unset, .unset, .unset, .unset, .unset, .unset, .unset, .unset, .unset, .unset, .unset, .unset] [(.long (0 : Int64)), (.long r2)])) _
        refine XS.lcmp X10.here hx rfl (hb hby at_53) rfl ?_
        show Steps p.tables e below (T10.setTop (mkF m 54 #[.val (.long j0), .second, .val (.long j1), .second, .val (.long j2), .second, .val (.int p3), .val (.int p4), .val (.int p5), .val (.ref b1), .unset, .unset, .unset, .unset, .unset, .unset, .unset, .unset, .unset, .unset, .unset, .unset, .unset, .unset, .unset, .unset, .unset] [(.int (lcmpW r2 (0 : Int64)))])) _
        exact k
      by_cases h54 : r2 = (0 : Int64)
      · skip
        have pre15 : ∀ t, Steps p.tables e below (T10.setTop (mkF m 58 #[.val (.long j0), .second, .val (.long j1), .second, .val (.long j2), .second, .val (.int p3), .val (.int p4), .val (.int p5), .val (.ref b1), .unset, .unset, .unset, .unset, .unset, .unset, .unset, .unset, .unset, .unset, .unset, .unset, .unset, .unset, .unset, .unset, .unset] [(.int (1 : Int32))])) t → Steps p.tables e below (s₁.setTop (entryFrame m #[(.long j0), (.long j1), (.long j2), (.int p3), (.int p4), (.int p5)] maxLocals)) t := by
          intro t k
          refine pre14 t ?_
          refine XS.ifNo X10.here hx rfl (hb hby at_54) rfl ((if0 _ _).trans (teq ((lw_eq r2 (0 : Int64)).mpr h54)).2) ?_
          show Steps p.tables e below (T10.setTop (mkF m 57 #[.val (.long j0), .second, .val (.long j1), .second, .val (.long j2), .second, .val (.int p3), .val (.int p4), .val (.int p5), .val (.ref b1), .unset, .unset, .unset, .unset, .unset, .unset, .unset, .unset, .unset, .unset, .unset, .unset, .unset, .unset, .unset, .unset, .unset] [])) _
          refine XS.iconst X10.here hx rfl (hb hby at_57) ?_
          show Steps p.tables e below (T10.setTop (mkF m 58 #[.val (.long j0), .second, .val (.long j1), .second, .val (.long j2), .second, .val (.int p3), .val (.int p4), .val (.int p5), .val (.ref b1), .unset, .unset, .unset, .unset, .unset, .unset, .unset, .unset, .unset, .unset, .unset, .unset, .unset, .unset, .unset, .unset, .unset] [(.int (1 : Int32))])) _
          exact k
        obtain ⟨fs, hr, hrun, hended, hW, hsame⟩ := X10.leave (v := some (.int (1 : Int32))) (fun h => by rw [Bd.returns] at h; cases h)
        refine ⟨_, _, pre15 _ ?_, hrun, hended, _, _, rfl, ?_, ⟨_, rfl⟩, hW, hsame.mono (by decide) (by decide)⟩
        · exact retN X10 hx (t := .boolean) Bd.returns (by simp) (hb hby at_58) hr
        · show Q_rm0 Z j0 j1 j2 p3 p4 p5 h0 n0 _ T10.heap _
          rw [e10]
          exact ⟨rfl, N10⟩
      · skip
        have pre16 : ∀ t, Steps p.tables e below (T10.setTop (mkF m 67 #[.val (.long j0), .second, .val (.long j1), .second, .val (.long j2), .second, .val (.int p3), .val (.int p4), .val (.int p5), .val (.ref b1), .unset, .unset, .unset, .unset, .unset, .unset, .unset, .unset, .unset, .unset, .unset, .unset, .unset, .unset, .unset, .unset, .unset] [(.int ((p3 &&& (2147483647 : Int32)) % (7 : Int32)))])) t → Steps p.tables e below (s₁.setTop (entryFrame m #[(.long j0), (.long j1), (.long j2), (.int p3), (.int p4), (.int p5)] maxLocals)) t := by
          intro t k
          refine pre14 t ?_
          refine XS.ifYes X10.here hx rfl (pc0 := 54) (pc' := 59) rfl (hb hby at_54) rfl ((if0 _ _).trans (feq (mt (lw_eq r2 (0 : Int64)).mp h54)).2) (by decide) (by decide) ?_
          show Steps p.tables e below (T10.setTop (mkF m 59 #[.val (.long j0), .second, .val (.long j1), .second, .val (.long j2), .second, .val (.int p3), .val (.int p4), .val (.int p5), .val (.ref b1), .unset, .unset, .unset, .unset, .unset, .unset, .unset, .unset, .unset, .unset, .unset, .unset, .unset, .unset, .unset, .unset, .unset] [])) _
          refine XS.iload X10.here hx rfl (hb hby at_59) rfl ?_
          show Steps p.tables e below (T10.setTop (mkF m 61 #[.val (.long j0), .second, .val (.long j1), .second, .val (.long j2), .second, .val (.int p3), .val (.int p4), .val (.int p5), .val (.ref b1), .unset, .unset, .unset, .unset, .unset, .unset, .unset, .unset, .unset, .unset, .unset, .unset, .unset, .unset, .unset, .unset, .unset] [(.int p3)])) _
          refine X10.ldcInt hx hown (mvT hZ (hw _ (List.mem_of_getElem? (i := 2) rfl))) (g := (mkF m 61 #[.val (.long j0), .second, .val (.long j1), .second, .val (.long j2), .second, .val (.int p3), .val (.int p4), .val (.int p5), .val (.ref b1), .unset, .unset, .unset, .unset, .unset, .unset, .unset, .unset, .unset, .unset, .unset, .unset, .unset, .unset, .unset, .unset, .unset] [(.int p3)])) rfl (hb hby at_61) _ ?_
          show Steps p.tables e below (T10.setTop (mkF m 63 #[.val (.long j0), .second, .val (.long j1), .second, .val (.long j2), .second, .val (.int p3), .val (.int p4), .val (.int p5), .val (.ref b1), .unset, .unset, .unset, .unset, .unset, .unset, .unset, .unset, .unset, .unset, .unset, .unset, .unset, .unset, .unset, .unset, .unset] [(.int (2147483647 : Int32)), (.int p3)])) _
          refine XS.iand X10.here hx rfl (hb hby at_63) rfl ?_
          show Steps p.tables e below (T10.setTop (mkF m 64 #[.val (.long j0), .second, .val (.long j1), .second, .val (.long j2), .second, .val (.int p3), .val (.int p4), .val (.int p5), .val (.ref b1), .unset, .unset, .unset, .unset, .unset, .unset, .unset, .unset, .unset, .unset, .unset, .unset, .unset, .unset, .unset, .unset, .unset] [(.int (p3 &&& (2147483647 : Int32)))])) _
          refine XS.bipush X10.here hx rfl (hb hby at_64) ?_
          show Steps p.tables e below (T10.setTop (mkF m 66 #[.val (.long j0), .second, .val (.long j1), .second, .val (.long j2), .second, .val (.int p3), .val (.int p4), .val (.int p5), .val (.ref b1), .unset, .unset, .unset, .unset, .unset, .unset, .unset, .unset, .unset, .unset, .unset, .unset, .unset, .unset, .unset, .unset, .unset] [(.int (7 : Int32)), (.int (p3 &&& (2147483647 : Int32)))])) _
          refine iremM X10 hx rfl (hb hby at_66) rfl (by decide) ?_
          show Steps p.tables e below (T10.setTop (mkF m 67 #[.val (.long j0), .second, .val (.long j1), .second, .val (.long j2), .second, .val (.int p3), .val (.int p4), .val (.int p5), .val (.ref b1), .unset, .unset, .unset, .unset, .unset, .unset, .unset, .unset, .unset, .unset, .unset, .unset, .unset, .unset, .unset, .unset, .unset] [(.int ((p3 &&& (2147483647 : Int32)) % (7 : Int32)))])) _
          exact k
        obtain ⟨pp, hpp⟩ : ∃ z : Int32, z = ((p3 &&& (2147483647 : Int32)) % (7 : Int32)) := ⟨_, rfl⟩
        rw [← hpp] at pre16
        have pre17 : ∀ t, Steps p.tables e below (T10.setTop (mkF m 77 #[.val (.long j0), .second, .val (.long j1), .second, .val (.long j2), .second, .val (.int p3), .val (.int p4), .val (.int p5), .val (.ref b1), .val (.int pp), .unset, .unset, .unset, .unset, .unset, .unset, .unset, .unset, .unset, .unset, .unset, .unset, .unset, .unset, .unset, .unset] [(.int ((p4 &&& (2147483647 : Int32)) % (7 : Int32)))])) t → Steps p.tables e below (s₁.setTop (entryFrame m #[(.long j0), (.long j1), (.long j2), (.int p3), (.int p4), (.int p5)] maxLocals)) t := by
          intro t k
          refine pre16 t ?_
          show Steps p.tables e below (T10.setTop (mkF m 67 #[.val (.long j0), .second, .val (.long j1), .second, .val (.long j2), .second, .val (.int p3), .val (.int p4), .val (.int p5), .val (.ref b1), .unset, .unset, .unset, .unset, .unset, .unset, .unset, .unset, .unset, .unset, .unset, .unset, .unset, .unset, .unset, .unset, .unset] [(.int pp)])) _
          refine XS.istore X10.here hx rfl (hb hby at_67) rfl (l' := #[.val (.long j0), .second, .val (.long j1), .second, .val (.long j2), .second, .val (.int p3), .val (.int p4), .val (.int p5), .val (.ref b1), .val (.int pp), .unset, .unset, .unset, .unset, .unset, .unset, .unset, .unset, .unset, .unset, .unset, .unset, .unset, .unset, .unset, .unset]) rfl ?_
          show Steps p.tables e below (T10.setTop (mkF m 69 #[.val (.long j0), .second, .val (.long j1), .second, .val (.long j2), .second, .val (.int p3), .val (.int p4), .val (.int p5), .val (.ref b1), .val (.int pp), .unset, .unset, .unset, .unset, .unset, .unset, .unset, .unset, .unset, .unset, .unset, .unset, .unset, .unset, .unset, .unset] [])) _
          refine XS.iload X10.here hx rfl (hb hby at_69) rfl ?_
          show Steps p.tables e below (T10.setTop (mkF m 71 #[.val (.long j0), .second, .val (.long j1), .second, .val (.long j2), .second, .val (.int p3), .val (.int p4), .val (.int p5), .val (.ref b1), .val (.int pp), .unset, .unset, .unset, .unset, .unset, .unset, .unset, .unset, .unset, .unset, .unset, .unset, .unset, .unset, .unset, .unset] [(.int p4)])) _
          refine X10.ldcInt hx hown (mvT hZ (hw _ (List.mem_of_getElem? (i := 2) rfl))) (g := (mkF m 71 #[.val (.long j0), .second, .val (.long j1), .second, .val (.long j2), .second, .val (.int p3), .val (.int p4), .val (.int p5), .val (.ref b1), .val (.int pp), .unset, .unset, .unset, .unset, .unset, .unset, .unset, .unset, .unset, .unset, .unset, .unset, .unset, .unset, .unset, .unset] [(.int p4)])) rfl (hb hby at_71) _ ?_
          show Steps p.tables e below (T10.setTop (mkF m 73 #[.val (.long j0), .second, .val (.long j1), .second, .val (.long j2), .second, .val (.int p3), .val (.int p4), .val (.int p5), .val (.ref b1), .val (.int pp), .unset, .unset, .unset, .unset, .unset, .unset, .unset, .unset, .unset, .unset, .unset, .unset, .unset, .unset, .unset, .unset] [(.int (2147483647 : Int32)), (.int p4)])) _
          refine XS.iand X10.here hx rfl (hb hby at_73) rfl ?_
          show Steps p.tables e below (T10.setTop (mkF m 74 #[.val (.long j0), .second, .val (.long j1), .second, .val (.long j2), .second, .val (.int p3), .val (.int p4), .val (.int p5), .val (.ref b1), .val (.int pp), .unset, .unset, .unset, .unset, .unset, .unset, .unset, .unset, .unset, .unset, .unset, .unset, .unset, .unset, .unset, .unset] [(.int (p4 &&& (2147483647 : Int32)))])) _
          refine XS.bipush X10.here hx rfl (hb hby at_74) ?_
          show Steps p.tables e below (T10.setTop (mkF m 76 #[.val (.long j0), .second, .val (.long j1), .second, .val (.long j2), .second, .val (.int p3), .val (.int p4), .val (.int p5), .val (.ref b1), .val (.int pp), .unset, .unset, .unset, .unset, .unset, .unset, .unset, .unset, .unset, .unset, .unset, .unset, .unset, .unset, .unset, .unset] [(.int (7 : Int32)), (.int (p4 &&& (2147483647 : Int32)))])) _
          refine iremM X10 hx rfl (hb hby at_76) rfl (by decide) ?_
          show Steps p.tables e below (T10.setTop (mkF m 77 #[.val (.long j0), .second, .val (.long j1), .second, .val (.long j2), .second, .val (.int p3), .val (.int p4), .val (.int p5), .val (.ref b1), .val (.int pp), .unset, .unset, .unset, .unset, .unset, .unset, .unset, .unset, .unset, .unset, .unset, .unset, .unset, .unset, .unset, .unset] [(.int ((p4 &&& (2147483647 : Int32)) % (7 : Int32)))])) _
          exact k
        obtain ⟨qq, hqq⟩ : ∃ z : Int32, z = ((p4 &&& (2147483647 : Int32)) % (7 : Int32)) := ⟨_, rfl⟩
        rw [← hqq] at pre17
        obtain ⟨s1, s2, s3⟩ := own_mm (own_p hpp) (own_p hqq)
        obtain ⟨_, _, ⟨T18, L18, k18, n18⟩, -, X18, ⟨Lc18, hQ18, l18, y18, z18⟩, st18⟩ := Jvm.LawKit.callS X10 hx (y := (⟨"java/lang/Math", "min", "(II)I"⟩ : MethodName)) hown (mvT hZ (hw _ (List.mem_of_getElem? (i := 3) rfl))) (mvT hZ (hw _ (List.mem_of_getElem? (i := 4) rfl))) (mvT hZ (hw _ (List.mem_of_getElem? (i := 5) rfl))) (mvT hZ (hw _ (List.mem_of_getElem? (i := 6) rfl))) (by decide) (backOf (W := 0) (rmmin l Z a0 hw [] pp qq  h10 n0 (Nat.le_trans (Nat.le_trans (Nat.le_trans (Nat.le_trans Z0 E1.1) (Keep.of_wr W4).1) (Keep.of_wr W7).1) (Keep.of_wr W10).1) ) hZ (hw _ (List.mem_of_getElem? (i := 6) rfl)) (hw _ (List.mem_of_getElem? (i := 5) rfl)) (by decide) (by decide)) (g := (mkF m 83 #[.val (.long j0), .second, .val (.long j1), .second, .val (.long j2), .second, .val (.int p3), .val (.int p4), .val (.int p5), .val (.ref b1), .val (.int pp), .val (.int qq), .unset, .unset, .unset, .unset, .unset, .unset, .unset, .unset, .unset, .unset, .unset, .unset, .unset, .unset, .unset] [(.int qq), (.int pp)])) rfl (by rw [hml]; rfl) (argsL := [(.int pp), (.int qq)]) (rest := []) (lenOf pd_2 rfl) rfl (by show 2 * 0 + _ ≤ _; exact Nat.le_of_eq rfl) (hb hby at_83) (fun _ _ => ⟨rfl, e10, (by decide : 1 + 0 ≤ _), (by decide : 3 + 0 ≤ _)⟩)
        dsimp only [Pt.U, Pt.locs, Pt.cells, Pt.slots] at X18 l18 y18 z18 st18 hQ18
        subst l18 y18 z18
        obtain ⟨rfl, N18q, hq18⟩ := hQ18
        have N18 := Fr.app N10 N18q
        have pre19 : ∀ t, Steps p.tables e below (T18.setTop (mkF m 86 #[.val (.long j0), .second, .val (.long j1), .second, .val (.long j2), .second, .val (.int p3), .val (.int p4), .val (.int p5), .val (.ref b1), .val (.int pp), .val (.int qq), .unset, .unset, .unset, .unset, .unset, .unset, .unset, .unset, .unset, .unset, .unset, .unset, .unset, .unset, .unset] [(.int (own_min pp qq))])) t → Steps p.tables e below (s₁.setTop (entryFrame m #[(.long j0), (.long j1), (.long j2), (.int p3), (.int p4), (.int p5)] maxLocals)) t := by
          intro t k
          refine pre17 t ?_
          show Steps p.tables e below (T10.setTop (mkF m 77 #[.val (.long j0), .second, .val (.long j1), .second, .val (.long j2), .second, .val (.int p3), .val (.int p4), .val (.int p5), .val (.ref b1), .val (.int pp), .unset, .unset, .unset, .unset, .unset, .unset, .unset, .unset, .unset, .unset, .unset, .unset, .unset, .unset, .unset, .unset] [(.int qq)])) _
          refine XS.istore X10.here hx rfl (hb hby at_77) rfl (l' := #[.val (.long j0), .second, .val (.long j1), .second, .val (.long j2), .second, .val (.int p3), .val (.int p4), .val (.int p5), .val (.ref b1), .val (.int pp), .val (.int qq), .unset, .unset, .unset, .unset, .unset, .unset, .unset, .unset, .unset, .unset, .unset, .unset, .unset, .unset, .unset]) rfl ?_
          show Steps p.tables e below (T10.setTop (mkF m 79 #[.val (.long j0), .second, .val (.long j1), .second, .val (.long j2), .second, .val (.int p3), .val (.int p4), .val (.int p5), .val (.ref b1), .val (.int pp), .val (.int qq), .unset, .unset, .unset, .unset, .unset, .unset, .unset, .unset, .unset, .unset, .unset, .unset, .unset, .unset, .unset] [])) _
          refine XS.iload X10.here hx rfl (hb hby at_79) rfl ?_
          show Steps p.tables e below (T10.setTop (mkF m 81 #[.val (.long j0), .second, .val (.long j1), .second, .val (.long j2), .second, .val (.int p3), .val (.int p4), .val (.int p5), .val (.ref b1), .val (.int pp), .val (.int qq), .unset, .unset, .unset, .unset, .unset, .unset, .unset, .unset, .unset, .unset, .unset, .unset, .unset, .unset, .unset] [(.int pp)])) _
          refine XS.iload X10.here hx rfl (hb hby at_81) rfl ?_
          show Steps p.tables e below (T10.setTop (mkF m 83 #[.val (.long j0), .second, .val (.long j1), .second, .val (.long j2), .second, .val (.int p3), .val (.int p4), .val (.int p5), .val (.ref b1), .val (.int pp), .val (.int qq), .unset, .unset, .unset, .unset, .unset, .unset, .unset, .unset, .unset, .unset, .unset, .unset, .unset, .unset, .unset] [(.int qq), (.int pp)])) _
          refine st18 _ ?_
          show Steps p.tables e below (T18.setTop (mkF m 86 #[.val (.long j0), .second, .val (.long j1), .second, .val (.long j2), .second, .val (.int p3), .val (.int p4), .val (.int p5), .val (.ref b1), .val (.int pp), .val (.int qq), .unset, .unset, .unset, .unset, .unset, .unset, .unset, .unset, .unset, .unset, .unset, .unset, .unset, .unset, .unset] [(.int (own_min pp qq))])) _
          exact k
        obtain ⟨f1, hf1⟩ : ∃ z : Int32, z = (own_min pp qq) := ⟨_, rfl⟩
        rw [← hf1] at pre19
        obtain ⟨_, _, ⟨T20, L20, k20, n20⟩, -, X20, ⟨Lc20, hQ20, l20, y20, z20⟩, st20⟩ := Jvm.LawKit.callS X18 hx (y := (⟨"java/lang/Math", "max", "(II)I"⟩ : MethodName)) hown (mvT hZ (hw _ (List.mem_of_getElem? (i := 7) rfl))) (mvT hZ (hw _ (List.mem_of_getElem? (i := 8) rfl))) (mvT hZ (hw _ (List.mem_of_getElem? (i := 5) rfl))) (mvT hZ (hw _ (List.mem_of_getElem? (i := 9) rfl))) (by decide) (backOf (W := 0) (rmmax l Z a0 hw [] pp qq  h10 n0 (Nat.le_trans (Nat.le_trans (Nat.le_trans (Nat.le_trans Z0 E1.1) (Keep.of_wr W4).1) (Keep.of_wr W7).1) (Keep.of_wr W10).1) ) hZ (hw _ (List.mem_of_getElem? (i := 9) rfl)) (hw _ (List.mem_of_getElem? (i := 5) rfl)) (by decide) (by decide)) (g := (mkF m 92 #[.val (.long j0), .second, .val (.long j1), .second, .val (.long j2), .second, .val (.int p3), .val (.int p4), .val (.int p5), .val (.ref b1), .val (.int pp), .val (.int qq), .val (.int f1), .unset, .unset, .unset, .unset, .unset, .unset, .unset, .unset, .unset, .unset, .unset, .unset, .unset, .unset] [(.int qq), (.int pp)])) rfl (by rw [hml]; rfl) (argsL := [(.int pp), (.int qq)]) (rest := []) (lenOf pd_2 rfl) rfl (by show 2 * 0 + _ ≤ _; exact Nat.le_of_eq rfl) (hb hby at_92) (fun _ _ => ⟨rfl, hq18, (by decide : 1 + 0 ≤ _), (by decide : 3 + 0 ≤ _)⟩)
        dsimp only [Pt.U, Pt.locs, Pt.cells, Pt.slots] at X20 l20 y20 z20 st20 hQ20
        subst l20 y20 z20
        obtain ⟨rfl, N20q, hq20⟩ := hQ20
        have N20 := Fr.app N18 N20q
        have pre21 : ∀ t, Steps p.tables e below (T20.setTop (mkF m 95 #[.val (.long j0), .second, .val (.long j1), .second, .val (.long j2), .second, .val (.int p3), .val (.int p4), .val (.int p5), .val (.ref b1), .val (.int pp), .val (.int qq), .val (.int f1), .unset, .unset, .unset, .unset, .unset, .unset, .unset, .unset, .unset, .unset, .unset, .unset, .unset, .unset] [(.int (own_max pp qq))])) t → Steps p.tables e below (s₁.setTop (entryFrame m #[(.long j0), (.long j1), (.long j2), (.int p3), (.int p4), (.int p5)] maxLocals)) t := by
          intro t k
          refine pre19 t ?_
          show Steps p.tables e below (T18.setTop (mkF m 86 #[.val (.long j0), .second, .val (.long j1), .second, .val (.long j2), .second, .val (.int p3), .val (.int p4), .val (.int p5), .val (.ref b1), .val (.int pp), .val (.int qq), .unset, .unset, .unset, .unset, .unset, .unset, .unset, .unset, .unset, .unset, .unset, .unset, .unset, .unset, .unset] [(.int f1)])) _
          refine XS.istore X18.here hx rfl (hb hby at_86) rfl (l' := #[.val (.long j0), .second, .val (.long j1), .second, .val (.long j2), .second, .val (.int p3), .val (.int p4), .val (.int p5), .val (.ref b1), .val (.int pp), .val (.int qq), .val (.int f1), .unset, .unset, .unset, .unset, .unset, .unset, .unset, .unset, .unset, .unset, .unset, .unset, .unset, .unset]) rfl ?_
          show Steps p.tables e below (T18.setTop (mkF m 88 #[.val (.long j0), .second, .val (.long j1), .second, .val (.long j2), .second, .val (.int p3), .val (.int p4), .val (.int p5), .val (.ref b1), .val (.int pp), .val (.int qq), .val (.int f1), .unset, .unset, .unset, .unset, .unset, .unset, .unset, .unset, .unset, .unset, .unset, .unset, .unset, .unset] [])) _
          refine XS.iload X18.here hx rfl (hb hby at_88) rfl ?_
          show Steps p.tables e below (T18.setTop (mkF m 90 #[.val (.long j0), .second, .val (.long j1), .second, .val (.long j2), .second, .val (.int p3), .val (.int p4), .val (.int p5), .val (.ref b1), .val (.int pp), .val (.int qq), .val (.int f1), .unset, .unset, .unset, .unset, .unset, .unset, .unset, .unset, .unset, .unset, .unset, .unset, .unset, .unset] [(.int pp)])) _
          refine XS.iload X18.here hx rfl (hb hby at_90) rfl ?_
          show Steps p.tables e below (T18.setTop (mkF m 92 #[.val (.long j0), .second, .val (.long j1), .second, .val (.long j2), .second, .val (.int p3), .val (.int p4), .val (.int p5), .val (.ref b1), .val (.int pp), .val (.int qq), .val (.int f1), .unset, .unset, .unset, .unset, .unset, .unset, .unset, .unset, .unset, .unset, .unset, .unset, .unset, .unset] [(.int qq), (.int pp)])) _
          refine st20 _ ?_
          show Steps p.tables e below (T20.setTop (mkF m 95 #[.val (.long j0), .second, .val (.long j1), .second, .val (.long j2), .second, .val (.int p3), .val (.int p4), .val (.int p5), .val (.ref b1), .val (.int pp), .val (.int qq), .val (.int f1), .unset, .unset, .unset, .unset, .unset, .unset, .unset, .unset, .unset, .unset, .unset, .unset, .unset, .unset] [(.int (own_max pp qq))])) _
          exact k
        obtain ⟨t1', ht1'⟩ : ∃ z : Int32, z = (own_max pp qq) := ⟨_, rfl⟩
        rw [← ht1'] at pre21
        have pre22 : ∀ t, Steps p.tables e below (T20.setTop (mkF m 106 #[.val (.long j0), .second, .val (.long j1), .second, .val (.long j2), .second, .val (.int p3), .val (.int p4), .val (.int p5), .val (.ref b1), .val (.int pp), .val (.int qq), .val (.int f1), .val (.int t1'), .unset, .unset, .unset, .unset, .unset, .unset, .unset, .unset, .unset, .unset, .unset, .unset, .unset] [(.int ((p5 &&& (32767 : Int32)) % (7 : Int32)))])) t → Steps p.tables e below (s₁.setTop (entryFrame m #[(.long j0), (.long j1), (.long j2), (.int p3), (.int p4), (.int p5)] maxLocals)) t := by
          intro t k
          refine pre21 t ?_
          show Steps p.tables e below (T20.setTop (mkF m 95 #[.val (.long j0), .second, .val (.long j1), .second, .val (.long j2), .second, .val (.int p3), .val (.int p4), .val (.int p5), .val (.ref b1), .val (.int pp), .val (.int qq), .val (.int f1), .unset, .unset, .unset, .unset, .unset, .unset, .unset, .unset, .unset, .unset, .unset, .unset, .unset, .unset] [(.int t1')])) _
          refine XS.istore X20.here hx rfl (hb hby at_95) rfl (l' := #[.val (.long j0), .second, .val (.long j1), .second, .val (.long j2), .second, .val (.int p3), .val (.int p4), .val (.int p5), .val (.ref b1), .val (.int pp), .val (.int qq), .val (.int f1), .val (.int t1'), .unset, .unset, .unset, .unset, .unset, .unset, .unset, .unset, .unset, .unset, .unset, .unset, .unset]) rfl ?_
          show Steps p.tables e below (T20.setTop (mkF m 97 #[.val (.long j0), .second, .val (.long j1), .second, .val (.long j2), .second, .val (.int p3), .val (.int p4), .val (.int p5), .val (.ref b1), .val (.int pp), .val (.int qq), .val (.int f1), .val (.int t1'), .unset, .unset, .unset, .unset, .unset, .unset, .unset, .unset, .unset, .unset, .unset, .unset, .unset] [])) _
          refine XS.iload X20.here hx rfl (hb hby at_97) rfl ?_
          show Steps p.tables e below (T20.setTop (mkF m 99 #[.val (.long j0), .second, .val (.long j1), .second, .val (.long j2), .second, .val (.int p3), .val (.int p4), .val (.int p5), .val (.ref b1), .val (.int pp), .val (.int qq), .val (.int f1), .val (.int t1'), .unset, .unset, .unset, .unset, .unset, .unset, .unset, .unset, .unset, .unset, .unset, .unset, .unset] [(.int p5)])) _
          refine XS.sipush X20.here hx rfl (hb hby at_99) ?_
          show Steps p.tables e below (T20.setTop (mkF m 102 #[.val (.long j0), .second, .val (.long j1), .second, .val (.long j2), .second, .val (.int p3), .val (.int p4), .val (.int p5), .val (.ref b1), .val (.int pp), .val (.int qq), .val (.int f1), .val (.int t1'), .unset, .unset, .unset, .unset, .unset, .unset, .unset, .unset, .unset, .unset, .unset, .unset, .unset] [(.int (32767 : Int32)), (.int p5)])) _
          refine XS.iand X20.here hx rfl (hb hby at_102) rfl ?_
          show Steps p.tables e below (T20.setTop (mkF m 103 #[.val (.long j0), .second, .val (.long j1), .second, .val (.long j2), .second, .val (.int p3), .val (.int p4), .val (.int p5), .val (.ref b1), .val (.int pp), .val (.int qq), .val (.int f1), .val (.int t1'), .unset, .unset, .unset, .unset, .unset, .unset, .unset, .unset, .unset, .unset, .unset, .unset, .unset] [(.int (p5 &&& (32767 : Int32)))])) _
          refine XS.bipush X20.here hx rfl (hb hby at_103) ?_
          show Steps p.tables e below (T20.setTop (mkF m 105 #[.val (.long j0), .second, .val (.long j1), .second, .val (.long j2), .second, .val (.int p3), .val (.int p4), .val (.int p5), .val (.ref b1), .val (.int pp), .val (.int qq), .val (.int f1), .val (.int t1'), .unset, .unset, .unset, .unset, .unset, .unset, .unset, .unset, .unset, .unset, .unset, .unset, .unset] [(.int (7 : Int32)), (.int (p5 &&& (32767 : Int32)))])) _
          refine iremM X20 hx rfl (hb hby at_105) rfl (by decide) ?_
          show Steps p.tables e below (T20.setTop (mkF m 106 #[.val (.long j0), .second, .val (.long j1), .second, .val (.long j2), .second, .val (.int p3), .val (.int p4), .val (.int p5), .val (.ref b1), .val (.int pp), .val (.int qq), .val (.int f1), .val (.int t1'), .unset, .unset, .unset, .unset, .unset, .unset, .unset, .unset, .unset, .unset, .unset, .unset, .unset] [(.int ((p5 &&& (32767 : Int32)) % (7 : Int32)))])) _
          exact k
        obtain ⟨uu, huu⟩ : ∃ z : Int32, z = ((p5 &&& (32767 : Int32)) % (7 : Int32)) := ⟨_, rfl⟩
        rw [← huu] at pre22
        have pre23 : ∀ t, Steps p.tables e below (T20.setTop (mkF m 120 #[.val (.long j0), .second, .val (.long j1), .second, .val (.long j2), .second, .val (.int p3), .val (.int p4), .val (.int p5), .val (.ref b1), .val (.int pp), .val (.int qq), .val (.int f1), .val (.int t1'), .val (.int uu), .unset, .unset, .unset, .unset, .unset, .unset, .unset, .unset, .unset, .unset, .unset, .unset] [(.int ((((p5.toUInt32 >>> ((16 : Int32) &&& 31).toUInt32).toInt32) &&& (32767 : Int32)) % (7 : Int32)))])) t → Steps p.tables e below (s₁.setTop (entryFrame m #[(.long j0), (.long j1), (.long j2), (.int p3), (.int p4), (.int p5)] maxLocals)) t := by
          intro t k
          refine pre22 t ?_
          show Steps p.tables e below (T20.setTop (mkF m 106 #[.val (.long j0), .second, .val (.long j1), .second, .val (.long j2), .second, .val (.int p3), .val (.int p4), .val (.int p5), .val (.ref b1), .val (.int pp), .val (.int qq), .val (.int f1), .val (.int t1'), .unset, .unset, .unset, .unset, .unset, .unset, .unset, .unset, .unset, .unset, .unset, .unset, .unset] [(.int uu)])) _
          refine XS.istore X20.here hx rfl (hb hby at_106) rfl (l' := #[.val (.long j0), .second, .val (.long j1), .second, .val (.long j2), .second, .val (.int p3), .val (.int p4), .val (.int p5), .val (.ref b1), .val (.int pp), .val (.int qq), .val (.int f1), .val (.int t1'), .val (.int uu), .unset, .unset, .unset, .unset, .unset, .unset, .unset, .unset, .unset, .unset, .unset, .unset]) rfl ?_
          show Steps p.tables e below (T20.setTop (mkF m 108 #[.val (.long j0), .second, .val (.long j1), .second, .val (.long j2), .second, .val (.int p3), .val (.int p4), .val (.int p5), .val (.ref b1), .val (.int pp), .val (.int qq), .val (.int f1), .val (.int t1'), .val (.int uu), .unset, .unset, .unset, .unset, .unset, .unset, .unset, .unset, .unset, .unset, .unset, .unset] [])) _
          refine XS.iload X20.here hx rfl (hb hby at_108) rfl ?_
          show Steps p.tables e below (T20.setTop (mkF m 110 #[.val (.long j0), .second, .val (.long j1), .second, .val (.long j2), .second, .val (.int p3), .val (.int p4), .val (.int p5), .val (.ref b1), .val (.int pp), .val (.int qq), .val (.int f1), .val (.int t1'), .val (.int uu), .unset, .unset, .unset, .unset, .unset, .unset, .unset, .unset, .unset, .unset, .unset, .unset] [(.int p5)])) _
          refine XS.bipush X20.here hx rfl (hb hby at_110) ?_
          show Steps p.tables e below (T20.setTop (mkF m 112 #[.val (.long j0), .second, .val (.long j1), .second, .val (.long j2), .second, .val (.int p3), .val (.int p4), .val (.int p5), .val (.ref b1), .val (.int pp), .val (.int qq), .val (.int f1), .val (.int t1'), .val (.int uu), .unset, .unset, .unset, .unset, .unset, .unset, .unset, .unset, .unset, .unset, .unset, .unset] [(.int (16 : Int32)), (.int p5)])) _
          refine XS.iushr X20.here hx rfl (hb hby at_112) rfl ?_
          show Steps p.tables e below (T20.setTop (mkF m 113 #[.val (.long j0), .second, .val (.long j1), .second, .val (.long j2), .second, .val (.int p3), .val (.int p4), .val (.int p5), .val (.ref b1), .val (.int pp), .val (.int qq), .val (.int f1), .val (.int t1'), .val (.int uu), .unset, .unset, .unset, .unset, .unset, .unset, .unset, .unset, .unset, .unset, .unset, .unset] [(.int ((p5.toUInt32 >>> ((16 : Int32) &&& 31).toUInt32).toInt32))])) _
          refine XS.sipush X20.here hx rfl (hb hby at_113) ?_
          show Steps p.tables e below (T20.setTop (mkF m 116 #[.val (.long j0), .second, .val (.long j1), .second, .val (.long j2), .second, .val (.int p3), .val (.int p4), .val (.int p5), .val (.ref b1), .val (.int pp), .val (.int qq), .val (.int f1), .val (.int t1'), .val (.int uu), .unset, .unset, .unset, .unset, .unset, .unset, .unset, .unset, .unset, .unset, .unset, .unset] [(.int (32767 : Int32)), (.int ((p5.toUInt32 >>> ((16 : Int32) &&& 31).toUInt32).toInt32))])) _
          refine XS.iand X20.here hx rfl (hb hby at_116) rfl ?_
          show Steps p.tables e below (T20.setTop (mkF m 117 #[.val (.long j0), .second, .val (.long j1), .second, .val (.long j2), .second, .val (.int p3), .val (.int p4), .val (.int p5), .val (.ref b1), .val (.int pp), .val (.int qq), .val (.int f1), .val (.int t1'), .val (.int uu), .unset, .unset, .unset, .unset, .unset, .unset, .unset, .unset, .unset, .unset, .unset, .unset] [(.int (((p5.toUInt32 >>> ((16 : Int32) &&& 31).toUInt32).toInt32) &&& (32767 : Int32)))])) _
          refine XS.bipush X20.here hx rfl (hb hby at_117) ?_
          show Steps p.tables e below (T20.setTop (mkF m 119 #[.val (.long j0), .second, .val (.long j1), .second, .val (.long j2), .second, .val (.int p3), .val (.int p4), .val (.int p5), .val (.ref b1), .val (.int pp), .val (.int qq), .val (.int f1), .val (.int t1'), .val (.int uu), .unset, .unset, .unset, .unset, .unset, .unset, .unset, .unset, .unset, .unset, .unset, .unset] [(.int (7 : Int32)), (.int (((p5.toUInt32 >>> ((16 : Int32) &&& 31).toUInt32).toInt32) &&& (32767 : Int32)))])) _
          refine iremM X20 hx rfl (hb hby at_119) rfl (by decide) ?_
          show Steps p.tables e below (T20.setTop (mkF m 120 #[.val (.long j0), .second, .val (.long j1), .second, .val (.long j2), .second, .val (.int p3), .val (.int p4), .val (.int p5), .val (.ref b1), .val (.int pp), .val (.int qq), .val (.int f1), .val (.int t1'), .val (.int uu), .unset, .unset, .unset, .unset, .unset, .unset, .unset, .unset, .unset, .unset, .unset, .unset] [(.int ((((p5.toUInt32 >>> ((16 : Int32) &&& 31).toUInt32).toInt32) &&& (32767 : Int32)) % (7 : Int32)))])) _
          exact k
        obtain ⟨vv, hvv⟩ : ∃ z : Int32, z = ((((p5.toUInt32 >>> ((16 : Int32) &&& 31).toUInt32).toInt32) &&& (32767 : Int32)) % (7 : Int32)) := ⟨_, rfl⟩
        rw [← hvv] at pre23
        obtain ⟨s4, s5, s6⟩ := own_mm (own_s huu) (own_s hvv)
        obtain ⟨_, _, ⟨T24, L24, k24, n24⟩, -, X24, ⟨Lc24, hQ24, l24, y24, z24⟩, st24⟩ := Jvm.LawKit.callS X20 hx (y := (⟨"java/lang/Math", "min", "(II)I"⟩ : MethodName)) hown (mvT hZ (hw _ (List.mem_of_getElem? (i := 3) rfl))) (mvT hZ (hw _ (List.mem_of_getElem? (i := 4) rfl))) (mvT hZ (hw _ (List.mem_of_getElem? (i := 5) rfl))) (mvT hZ (hw _ (List.mem_of_getElem? (i := 6) rfl))) (by decide) (backOf (W := 0) (rmmin l Z a0 hw [] uu vv  h10 n0 (Nat.le_trans (Nat.le_trans (Nat.le_trans (Nat.le_trans Z0 E1.1) (Keep.of_wr W4).1) (Keep.of_wr W7).1) (Keep.of_wr W10).1) ) hZ (hw _ (List.mem_of_getElem? (i := 6) rfl)) (hw _ (List.mem_of_getElem? (i := 5) rfl)) (by decide) (by decide)) (g := (mkF m 126 #[.val (.long j0), .second, .val (.long j1), .second, .val (.long j2), .second, .val (.int p3), .val (.int p4), .val (.int p5), .val (.ref b1), .val (.int pp), .val (.int qq), .val (.int f1), .val (.int t1'), .val (.int uu), .val (.int vv), .unset, .unset, .unset, .unset, .unset, .unset, .unset, .unset, .unset, .unset, .unset] [(.int vv), (.int uu)])) rfl (by rw [hml]; rfl) (argsL := [(.int uu), (.int vv)]) (rest := []) (lenOf pd_2 rfl) rfl (by show 2 * 0 + _ ≤ _; exact Nat.le_of_eq rfl) (hb hby at_126) (fun _ _ => ⟨rfl, hq20, (by decide : 1 + 0 ≤ _), (by decide : 3 + 0 ≤ _)⟩)
        dsimp only [Pt.U, Pt.locs, Pt.cells, Pt.slots] at X24 l24 y24 z24 st24 hQ24
        subst l24 y24 z24
        obtain ⟨rfl, N24q, hq24⟩ := hQ24
        have N24 := Fr.app N20 N24q
        have pre25 : ∀ t, Steps p.tables e below (T24.setTop (mkF m 129 #[.val (.long j0), .second, .val (.long j1), .second, .val (.long j2), .second, .val (.int p3), .val (.int p4), .val (.int p5), .val (.ref b1), .val (.int pp), .val (.int qq), .val (.int f1), .val (.int t1'), .val (.int uu), .val (.int vv), .unset, .unset, .unset, .unset, .unset, .unset, .unset, .unset, .unset, .unset, .unset] [(.int (own_min uu vv))])) t → Steps p.tables e below (s₁.setTop (entryFrame m #[(.long j0), (.long j1), (.long j2), (.int p3), (.int p4), (.int p5)] maxLocals)) t := by
          intro t k
          refine pre23 t ?_
          show Steps p.tables e below (T20.setTop (mkF m 120 #[.val (.long j0), .second, .val (.long j1), .second, .val (.long j2), .second, .val (.int p3), .val (.int p4), .val (.int p5), .val (.ref b1), .val (.int pp), .val (.int qq), .val (.int f1), .val (.int t1'), .val (.int uu), .unset, .unset, .unset, .unset, .unset, .unset, .unset, .unset, .unset, .unset, .unset, .unset] [(.int vv)])) _
          refine XS.istore X20.here hx rfl (hb hby at_120) rfl (l' := #[.val (.long j0), .second, .val (.long j1), .second, .val (.long j2), .second, .val (.int p3), .val (.int p4), .val (.int p5), .val (.ref b1), .val (.int pp), .val (.int qq), .val (.int f1), .val (.int t1'), .val (.int uu), .val (.int vv), .unset, .unset, .unset, .unset, .unset, .unset, .unset, .unset, .unset, .unset, .unset]) rfl ?_
          show Steps p.tables e below (T20.setTop (mkF m 122 #[.val (.long j0), .second, .val (.long j1), .second, .val (.long j2), .second, .val (.int p3), .val (.int p4), .val (.int p5), .val (.ref b1), .val (.int pp), .val (.int qq), .val (.int f1), .val (.int t1'), .val (.int uu), .val (.int vv), .unset, .unset, .unset, .unset, .unset, .unset, .unset, .unset, .unset, .unset, .unset] [])) _
          refine XS.iload X20.here hx rfl (hb hby at_122) rfl ?_
          show Steps p.tables e below (T20.setTop (mkF m 124 #[.val (.long j0), .second, .val (.long j1), .second, .val (.long j2), .second, .val (.int p3), .val (.int p4), .val (.int p5), .val (.ref b1), .val (.int pp), .val (.int qq), .val (.int f1), .val (.int t1'), .val (.int uu), .val (.int vv), .unset, .unset, .unset, .unset, .unset, .unset, .unset, .unset, .unset, .unset, .unset] [(.int uu)])) _
          refine XS.iload X20.here hx rfl (hb hby at_124) rfl ?_
          show Steps p.tables e below (T20.setTop (mkF m 126 #[.val (.long j0), .second, .val (.long j1), .second, .val (.long j2), .second, .val (.int p3), .val (.int p4), .val (.int p5), .val (.ref b1), .val (.int pp), .val (.int qq), .val (.int f1), .val (.int t1'), .val (.int uu), .val (.int vv), .unset, .unset, .unset, .unset, .unset, .unset, .unset, .unset, .unset, .unset, .unset] [(.int vv), (.int uu)])) _
          refine st24 _ ?_
          show Steps p.tables e below (T24.setTop (mkF m 129 #[.val (.long j0), .second, .val (.long j1), .second, .val (.long j2), .second, .val (.int p3), .val (.int p4), .val (.int p5), .val (.ref b1), .val (.int pp), .val (.int qq), .val (.int f1), .val (.int t1'), .val (.int uu), .val (.int vv), .unset, .unset, .unset, .unset, .unset, .unset, .unset, .unset, .unset, .unset, .unset] [(.int (own_min uu vv))])) _
          exact k
        obtain ⟨f2, hf2⟩ : ∃ z : Int32, z = (own_min uu vv) := ⟨_, rfl⟩
        rw [← hf2] at pre25
        obtain ⟨_, _, ⟨T26, L26, k26, n26⟩, -, X26, ⟨Lc26, hQ26, l26, y26, z26⟩, st26⟩ := Jvm.LawKit.callS X24 hx (y := (⟨"java/lang/Math", "max", "(II)I"⟩ : MethodName)) hown (mvT hZ (hw _ (List.mem_of_getElem? (i := 7) rfl))) (mvT hZ (hw _ (List.mem_of_getElem? (i := 8) rfl))) (mvT hZ (hw _ (List.mem_of_getElem? (i := 5) rfl))) (mvT hZ (hw _ (List.mem_of_getElem? (i := 9) rfl))) (by decide) (backOf (W := 0) (rmmax l Z a0 hw [] uu vv  h10 n0 (Nat.le_trans (Nat.le_trans (Nat.le_trans (Nat.le_trans Z0 E1.1) (Keep.of_wr W4).1) (Keep.of_wr W7).1) (Keep.of_wr W10).1) ) hZ (hw _ (List.mem_of_getElem? (i := 9) rfl)) (hw _ (List.mem_of_getElem? (i := 5) rfl)) (by decide) (by decide)) (g := (mkF m 135 #[.val (.long j0), .second, .val (.long j1), .second, .val (.long j2), .second, .val (.int p3), .val (.int p4), .val (.int p5), .val (.ref b1), .val (.int pp), .val (.int qq), .val (.int f1), .val (.int t1'), .val (.int uu), .val (.int vv), .val (.int f2), .unset, .unset, .unset, .unset, .unset, .unset, .unset, .unset, .unset, .unset] [(.int vv), (.int uu)])) rfl (by rw [hml]; rfl) (argsL := [(.int uu), (.int vv)]) (rest := []) (lenOf pd_2 rfl) rfl (by show 2 * 0 + _ ≤ _; exact Nat.le_of_eq rfl) (hb hby at_135) (fun _ _ => ⟨rfl, hq24, (by decide : 1 + 0 ≤ _), (by decide : 3 + 0 ≤ _)⟩)
        dsimp only [Pt.U, Pt.locs, Pt.cells, Pt.slots] at X26 l26 y26 z26 st26 hQ26
        subst l26 y26 z26
        obtain ⟨rfl, N26q, hq26⟩ := hQ26
        have N26 := Fr.app N24 N26q
        have pre27 : ∀ t, Steps p.tables e below (T26.setTop (mkF m 138 #[.val (.long j0), .second, .val (.long j1), .second, .val (.long j2), .second, .val (.int p3), .val (.int p4), .val (.int p5), .val (.ref b1), .val (.int pp), .val (.int qq), .val (.int f1), .val (.int t1'), .val (.int uu), .val (.int vv), .val (.int f2), .unset, .unset, .unset, .unset, .unset, .unset, .unset, .unset, .unset, .unset] [(.int (own_max uu vv))])) t → Steps p.tables e below (s₁.setTop (entryFrame m #[(.long j0), (.long j1), (.long j2), (.int p3), (.int p4), (.int p5)] maxLocals)) t := by
          intro t k
          refine pre25 t ?_
          show Steps p.tables e below (T24.setTop (mkF m 129 #[.val (.long j0), .second, .val (.long j1), .second, .val (.long j2), .second, .val (.int p3), .val (.int p4), .val (.int p5), .val (.ref b1), .val (.int pp), .val (.int qq), .val (.int f1), .val (.int t1'), .val (.int uu), .val (.int vv), .unset, .unset, .unset, .unset, .unset, .unset, .unset, .unset, .unset, .unset, .unset] [(.int f2)])) _
          refine XS.istore X24.here hx rfl (hb hby at_129) rfl (l' := #[.val (.long j0), .second, .val (.long j1), .second, .val (.long j2), .second, .val (.int p3), .val (.int p4), .val (.int p5), .val (.ref b1), .val (.int pp), .val (.int qq), .val (.int f1), .val (.int t1'), .val (.int uu), .val (.int vv), .val (.int f2), .unset, .unset, .unset, .unset, .unset, .unset, .unset, .unset, .unset, .unset]) rfl ?_
          show Steps p.tables e below (T24.setTop (mkF m 131 #[.val (.long j0), .second, .val (.long j1), .second, .val (.long j2), .second, .val (.int p3), .val (.int p4), .val (.int p5), .val (.ref b1), .val (.int pp), .val (.int qq), .val (.int f1), .val (.int t1'), .val (.int uu), .val (.int vv), .val (.int f2), .unset, .unset, .unset, .unset, .unset, .unset, .unset, .unset, .unset, .unset] [])) _
          refine XS.iload X24.here hx rfl (hb hby at_131) rfl ?_
          show Steps p.tables e below (T24.setTop (mkF m 133 #[.val (.long j0), .second, .val (.long j1), .second, .val (.long j2), .second, .val (.int p3), .val (.int p4), .val (.int p5), .val (.ref b1), .val (.int pp), .val (.int qq), .val (.int f1), .val (.int t1'), .val (.int uu), .val (.int vv), .val (.int f2), .unset, .unset, .unset, .unset, .unset, .unset, .unset, .unset, .unset, .unset] [(.int uu)])) _
          refine XS.iload X24.here hx rfl (hb hby at_133) rfl ?_
          show Steps p.tables e below (T24.setTop (mkF m 135 #[.val (.long j0), .second, .val (.long j1), .second, .val (.long j2), .second, .val (.int p3), .val (.int p4), .val (.int p5), .val (.ref b1), .val (.int pp), .val (.int qq), .val (.int f1), .val (.int t1'), .val (.int uu), .val (.int vv), .val (.int f2), .unset, .unset, .unset, .unset, .unset, .unset, .unset, .unset, .unset, .unset] [(.int vv), (.int uu)])) _
          refine st26 _ ?_
          show Steps p.tables e below (T26.setTop (mkF m 138 #[.val (.long j0), .second, .val (.long j1), .second, .val (.long j2), .second, .val (.int p3), .val (.int p4), .val (.int p5), .val (.ref b1), .val (.int pp), .val (.int qq), .val (.int f1), .val (.int t1'), .val (.int uu), .val (.int vv), .val (.int f2), .unset, .unset, .unset, .unset, .unset, .unset, .unset, .unset, .unset, .unset] [(.int (own_max uu vv))])) _
          exact k
        obtain ⟨t2', ht2'⟩ : ∃ z : Int32, z = (own_max uu vv) := ⟨_, rfl⟩
        rw [← ht2'] at pre27
        rw [← hf1] at s1 s3
        rw [← ht1'] at s2 s3
        rw [← hf2] at s4 s6
        rw [← ht2'] at s5 s6
        obtain ⟨_, _, ⟨T28, L28, k28, n28⟩, -, X28, ⟨Lc28, hQ28, l28, y28, z28⟩, st28⟩ := Jvm.LawKit.callS X26 hx (y := (⟨"com/example/hummingbird/hummingbird/engine/RhythmWaitingPinLaw", "reference", "([JII)J"⟩ : MethodName)) hown (mvT hZ (hw _ (List.mem_of_getElem? (i := 10) rfl))) (mvT hZ (hw _ (List.mem_of_getElem? (i := 11) rfl))) (mvT hZ (hw _ (List.mem_of_getElem? (i := 12) rfl))) (mvT hZ (hw _ (List.mem_of_getElem? (i := 13) rfl))) (by decide) (backOf (W := 0) (rmRef l Z a0 hw [] b1 f1 t1' cl11 r0 r1 r2 h10 n0 (Nat.le_trans (Nat.le_trans (Nat.le_trans (Nat.le_trans Z0 E1.1) (Keep.of_wr W4).1) (Keep.of_wr W7).1) (Keep.of_wr W10).1) Ar11 S11 t0 t1 t2) hZ (hw _ (List.mem_of_getElem? (i := 13) rfl)) (hw _ (List.mem_of_getElem? (i := 12) rfl)) (by decide) (by decide)) (g := (mkF m 146 #[.val (.long j0), .second, .val (.long j1), .second, .val (.long j2), .second, .val (.int p3), .val (.int p4), .val (.int p5), .val (.ref b1), .val (.int pp), .val (.int qq), .val (.int f1), .val (.int t1'), .val (.int uu), .val (.int vv), .val (.int f2), .val (.int t2'), .unset, .unset, .unset, .unset, .unset, .unset, .unset, .unset, .unset] [(.int t1'), (.int f1), (.ref b1)])) rfl (by rw [hml]; rfl) (argsL := [(.ref b1), (.int f1), (.int t1')]) (rest := []) (lenOf pd_3 rfl) rfl (by show 2 * 0 + _ ≤ _; exact Nat.le_of_eq rfl) (hb hby at_146) (fun _ _ => ⟨rfl, hq26, (by decide : 1 + 0 ≤ _), (by decide : 3 + 0 ≤ _)⟩)
        dsimp only [Pt.U, Pt.locs, Pt.cells, Pt.slots] at X28 l28 y28 z28 st28 hQ28
        subst l28 y28 z28
        obtain ⟨rfl, N28q, hq28⟩ := hQ28
        have N28 := Fr.app N26 N28q
        obtain ⟨_, _, ⟨T29, L29, k29, n29⟩, -, X29, ⟨Lc29, hQ29, l29, y29, z29⟩, st29⟩ := Jvm.LawKit.callS X28 hx (y := (⟨"com/example/hummingbird/hummingbird/engine/RhythmWaitingPinLaw", "reference", "([JII)J"⟩ : MethodName)) hown (mvT hZ (hw _ (List.mem_of_getElem? (i := 10) rfl))) (mvT hZ (hw _ (List.mem_of_getElem? (i := 11) rfl))) (mvT hZ (hw _ (List.mem_of_getElem? (i := 12) rfl))) (mvT hZ (hw _ (List.mem_of_getElem? (i := 13) rfl))) (by decide) (backOf (W := 0) (rmRef l Z a0 hw [] b1 f2 t2' cl11 r0 r1 r2 h10 n0 (Nat.le_trans (Nat.le_trans (Nat.le_trans (Nat.le_trans Z0 E1.1) (Keep.of_wr W4).1) (Keep.of_wr W7).1) (Keep.of_wr W10).1) Ar11 S11 t0 t1 t2) hZ (hw _ (List.mem_of_getElem? (i := 13) rfl)) (hw _ (List.mem_of_getElem? (i := 12) rfl)) (by decide) (by decide)) (g := (mkF m 157 #[.val (.long j0), .second, .val (.long j1), .second, .val (.long j2), .second, .val (.int p3), .val (.int p4), .val (.int p5), .val (.ref b1), .val (.int pp), .val (.int qq), .val (.int f1), .val (.int t1'), .val (.int uu), .val (.int vv), .val (.int f2), .val (.int t2'), .val (.long (own_ref f1 t1' r0 r1 r2)), .second, .unset, .unset, .unset, .unset, .unset, .unset, .unset] [(.int t2'), (.int f2), (.ref b1)])) rfl (by rw [hml]; rfl) (argsL := [(.ref b1), (.int f2), (.int t2')]) (rest := []) (lenOf pd_3 rfl) rfl (by show 2 * 0 + _ ≤ _; exact Nat.le_of_eq rfl) (hb hby at_157) (fun _ _ => ⟨rfl, hq28, (by decide : 1 + 0 ≤ _), (by decide : 3 + 0 ≤ _)⟩)
        dsimp only [Pt.U, Pt.locs, Pt.cells, Pt.slots] at X29 l29 y29 z29 st29 hQ29
        subst l29 y29 z29
        obtain ⟨rfl, N29q, hq29⟩ := hQ29
        have N29 := Fr.app N28 N29q
        obtain ⟨T30, h30, X30, e30, E30, A30, D30, -, st30⟩ := newO X29 hx hZ hown (hw _ (List.mem_of_getElem? (i := 19) rfl)) (hw _ (List.mem_of_getElem? (i := 20) rfl)) (hw _ (List.mem_of_getElem? (i := 21) rfl)) hq29 (g := (mkF m 162 #[.val (.long j0), .second, .val (.long j1), .second, .val (.long j2), .second, .val (.int p3), .val (.int p4), .val (.int p5), .val (.ref b1), .val (.int pp), .val (.int qq), .val (.int f1), .val (.int t1'), .val (.int uu), .val (.int vv), .val (.int f2), .val (.int t2'), .val (.long (own_ref f1 t1' r0 r1 r2)), .second, .val (.long (own_ref f2 t2' r0 r1 r2)), .second, .unset, .unset, .unset, .unset, .unset] [])) rfl (hb hby at_162) (by decide) (by decide)
        obtain ⟨b30, g30⟩ : ∃ z, z = h10.size := ⟨_, rfl⟩
        rw [← g30] at A30 D30 st30
        have ne_b1_b30 : b1 ≠ b30 := Nat.ne_of_lt (Nat.lt_of_lt_of_le V10.lt (Nat.le_of_eq g30.symm))
        have F30_points : Fld Z h30 b30 "com/example/hummingbird/hummingbird/engine/Rhythm" "points" "I" (.int (0 : Int32)) := D30 (Or.inr (hw _ (List.mem_of_getElem? (i := 29) rfl))) (ty := .int) (by decide)
        have F30_rates : Fld Z h30 b30 "com/example/hummingbird/hummingbird/engine/Rhythm" "rates" "[J" .null := D30 (Or.inr (hw _ (List.mem_of_getElem? (i := 31) rfl))) (ty := (.array .long)) (by decide)
        have F30_mass : Fld Z h30 b30 "com/example/hummingbird/hummingbird/engine/Rhythm" "mass" "[D" .null := D30 (Or.inl (hw _ (List.mem_of_getElem? (i := 38) rfl))) (ty := (.array .double)) (by decide)
        have F30_moment : Fld Z h30 b30 "com/example/hummingbird/hummingbird/engine/Rhythm" "moment" "[D" .null := D30 (Or.inl (hw _ (List.mem_of_getElem? (i := 45) rfl))) (ty := (.array .double)) (by decide)
        have g_b30 : n0 ≤ b30 := Nat.le_trans (Nat.le_trans (Nat.le_trans (Nat.le_trans (Nat.le_trans Z0 E1.1) (Keep.of_wr W4).1) (Keep.of_wr W7).1) (Keep.of_wr W10).1) (Nat.le_of_eq g30.symm)
        have sz_b30 : h0.size ≤ b30 := (Nat.le_trans K10.1 (Nat.le_of_eq g30.symm))
        have K30 : Keep h0 h30 [] := K10.ext E30
        obtain ⟨_, _, ⟨T31, L31, k31, n31⟩, -, X31, ⟨Lc31, hQ31, l31, y31, z31⟩, st31⟩ := X30.specialBack hx (y := (⟨"com/example/hummingbird/hummingbird/engine/Rhythm", "<init>", "([J)V"⟩ : MethodName)) rfl hown (mvT hZ (hw _ (List.mem_of_getElem? (i := 22) rfl))) (mvT hZ (hw _ (List.mem_of_getElem? (i := 23) rfl))) (mvT hZ (hw _ (List.mem_of_getElem? (i := 24) rfl))) (by decide) (backOf (W := 1) (rmI l Z a0 hw [] b30 b1 cl11 (3 : Int32) h30 n0 (Nat.le_trans (Nat.le_trans (Nat.le_trans (Nat.le_trans (Nat.le_trans Z0 E1.1) (Keep.of_wr W4).1) (Keep.of_wr W7).1) (Keep.of_wr W10).1) E30.1) F30_points F30_rates F30_mass F30_moment A30 g_b30 (Ar11.ext E30) S11 M11) hZ (hw _ (List.mem_of_getElem? (i := 24) rfl)) (hw _ (List.mem_of_getElem? (i := 21) rfl)) (by decide) (by decide)) (g := (mkF m 168 #[.val (.long j0), .second, .val (.long j1), .second, .val (.long j2), .second, .val (.int p3), .val (.int p4), .val (.int p5), .val (.ref b1), .val (.int pp), .val (.int qq), .val (.int f1), .val (.int t1'), .val (.int uu), .val (.int vv), .val (.int f2), .val (.int t2'), .val (.long (own_ref f1 t1' r0 r1 r2)), .second, .val (.long (own_ref f2 t2' r0 r1 r2)), .second, .unset, .unset, .unset, .unset, .unset] [(.ref b1), (.ref b30), (.ref b30)])) rfl (by rw [hml]; rfl) (Steps.refl _) (a := b30) (argsL := [(.ref b1)]) (rest := [(.ref b30)]) (lenOf pd_4 rfl) rfl (by show 2 * 0 + _ ≤ _; exact Nat.le_of_eq rfl) (hb hby at_168) (fun _ _ => ⟨rfl, e30, (by decide : 2 + 0 ≤ _), (by decide : 7 + 0 ≤ _)⟩)
        dsimp only [Pt.U, Pt.locs, Pt.cells, Pt.slots] at X31 l31 y31 z31 st31 hQ31
        subst l31 y31 z31
        obtain ⟨rfl, N31q, Kq31, Eq31, G0q31, G1q31, G2q31, G3q31⟩ := hQ31
        have N31 := Fr.app N29 N31q
        have K31 : Keep h0 T31.heap [] := K30.trans Kq31 (allS (Or.inr sz_b30) all0)
        obtain ⟨cl32, Ar32, q32, S32, M32, H32, G32⟩ := id ((V10.ext E30).keep Kq31 (ninS ne_b1_b30 nin0))
        have u0 : cl32.slots[0]? = some (.long r0) := H32 0 (by rw [S32]; decide)
        have u1 : cl32.slots[1]? = some (.long r1) := H32 1 (by rw [S32]; decide)
        have u2 : cl32.slots[2]? = some (.long r2) := H32 2 (by rw [S32]; decide)
        obtain ⟨cq33, kq33, q33a, q33b, q33c⟩ := isOf hZ rfl Eq31
        obtain ⟨_, _, ⟨T33, L33, k33, n33⟩, -, X33, ⟨Lc33, hQ33, l33, y33, z33⟩, st33⟩ := X31.virtualBack hx (y := (⟨"com/example/hummingbird/hummingbird/engine/Rhythm", "waiting", "(II)D"⟩ : MethodName)) (z := (⟨"com/example/hummingbird/hummingbird/engine/Rhythm", "waiting", "(II)D"⟩ : MethodName)) hown (mvT hZ (hw _ (List.mem_of_getElem? (i := 32) rfl))) (mvT hZ (hw _ (List.mem_of_getElem? (i := 33) rfl))) (notFace_of_selects (args := #[]) (mvT hZ (hw _ (List.mem_of_getElem? (i := 35) rfl)))) (mvT hZ (hw _ (List.mem_of_getElem? (i := 35) rfl))) (mvT hZ (hw _ (List.mem_of_getElem? (i := 34) rfl))) (by decide) (backOf (W := 0) (rmWa l Z a0 hw [] b30 f1 t1' b1 cl32 r0 r1 r2 T31.heap n0 (Nat.le_trans (Nat.le_trans (Nat.le_trans (Nat.le_trans (Nat.le_trans (Nat.le_trans Z0 E1.1) (Keep.of_wr W4).1) (Keep.of_wr W7).1) (Keep.of_wr W10).1) E30.1) Kq31.1) G0q31 G1q31 G2q31 G3q31 Eq31 g_b30 ne_b1_b30 Ar32 S32 u0 u1 u2 Hr0 Hr1 Hr2 s1 s2 s3) hZ (hw _ (List.mem_of_getElem? (i := 36) rfl)) (hw _ (List.mem_of_getElem? (i := 21) rfl)) (by decide) (by decide)) q33a q33c (g := (mkF m 179 #[.val (.long j0), .second, .val (.long j1), .second, .val (.long j2), .second, .val (.int p3), .val (.int p4), .val (.int p5), .val (.ref b1), .val (.int pp), .val (.int qq), .val (.int f1), .val (.int t1'), .val (.int uu), .val (.int vv), .val (.int f2), .val (.int t2'), .val (.long (own_ref f1 t1' r0 r1 r2)), .second, .val (.long (own_ref f2 t2' r0 r1 r2)), .second, .val (.ref b30), .unset, .unset, .unset, .unset] [(.int t1'), (.int f1), (.ref b30)])) rfl (by rw [hml]; rfl) (Steps.refl _) (argsL := [(.int f1), (.int t1')]) (rest := []) (lenOf pd_5 rfl) rfl (by show 2 * 0 + _ ≤ _; exact Nat.le_of_eq rfl) (hb hby at_179) (fun _ _ => ⟨rfl, rfl, (by decide : 2 + 2 ≤ _), (by decide : 7 + 14 ≤ _)⟩)
        dsimp only [Pt.U, Pt.locs, Pt.cells, Pt.slots] at X33 l33 y33 z33 st33 hQ33
        subst l33 y33 z33
        obtain ⟨bm, km, bq, kq, m1, m2, m3, m4, m5, m6, w1, w2, w3, w4, w5, w6, rfl, N33q, Kq33, Eq33, G0q33, G1q33, G2q33, G3q33, V1, V2, hI⟩ := hQ33
        have N33 := Fr.app N31 N33q
        have K33 : Keep h0 T33.heap [] := K31.trans Kq33 (allS (Or.inr sz_b30) all0)
        obtain ⟨cq34, kq34, q34a, q34b, q34c⟩ := isOf hZ rfl Eq33
        obtain ⟨_, _, ⟨T34, L34, k34, n34⟩, -, X34, ⟨Lc34, hQ34, l34, y34, z34⟩, st34⟩ := X33.virtualBack hx (y := (⟨"com/example/hummingbird/hummingbird/engine/Rhythm", "waiting", "(II)D"⟩ : MethodName)) (z := (⟨"com/example/hummingbird/hummingbird/engine/Rhythm", "waiting", "(II)D"⟩ : MethodName)) hown (mvT hZ (hw _ (List.mem_of_getElem? (i := 32) rfl))) (mvT hZ (hw _ (List.mem_of_getElem? (i := 33) rfl))) (notFace_of_selects (args := #[]) (mvT hZ (hw _ (List.mem_of_getElem? (i := 35) rfl)))) (mvT hZ (hw _ (List.mem_of_getElem? (i := 35) rfl))) (mvT hZ (hw _ (List.mem_of_getElem? (i := 34) rfl))) (by decide) (backOf (W := 0) (rmWb l Z a0 hw [] b30 f2 t2' r0 r1 r2 bm km bq kq m1 m2 m3 m4 m5 m6 w1 w2 w3 w4 w5 w6 T33.heap n0 (Nat.le_trans (Nat.le_trans (Nat.le_trans (Nat.le_trans (Nat.le_trans (Nat.le_trans (Nat.le_trans Z0 E1.1) (Keep.of_wr W4).1) (Keep.of_wr W7).1) (Keep.of_wr W10).1) E30.1) Kq31.1) Kq33.1) G2q33 G3q33 V1 V2 hI Hr0 Hr1 Hr2 s4 s5 s6) hZ (hw _ (List.mem_of_getElem? (i := 36) rfl)) (hw _ (List.mem_of_getElem? (i := 21) rfl)) (by decide) (by decide)) q34a q34c (g := (mkF m 190 #[.val (.long j0), .second, .val (.long j1), .second, .val (.long j2), .second, .val (.int p3), .val (.int p4), .val (.int p5), .val (.ref b1), .val (.int pp), .val (.int qq), .val (.int f1), .val (.int t1'), .val (.int uu), .val (.int vv), .val (.int f2), .val (.int t2'), .val (.long (own_ref f1 t1' r0 r1 r2)), .second, .val (.long (own_ref f2 t2' r0 r1 r2)), .second, .val (.ref b30), .val (.double (FP.l2d (own_ref f1 t1' r0 r1 r2))), .second, .unset, .unset] [(.int t2'), (.int f2), (.ref b30)])) rfl (by rw [hml]; rfl) (Steps.refl _) (argsL := [(.int f2), (.int t2')]) (rest := []) (lenOf pd_5 rfl) rfl (by show 2 * 0 + _ ≤ _; exact Nat.le_of_eq rfl) (hb hby at_190) (fun _ _ => ⟨rfl, rfl, (by decide : 4 + 0 ≤ _), (by decide : 21 + 0 ≤ _)⟩)
        dsimp only [Pt.U, Pt.locs, Pt.cells, Pt.slots] at X34 l34 y34 z34 st34 hQ34
        subst l34 y34 z34
        obtain ⟨rfl, N34q, hq34⟩ := hQ34
        have N34 := Fr.app N33 N34q
        have pre35 : ∀ t, Steps p.tables e below (T34.setTop (mkF m 218 #[.val (.long j0), .second, .val (.long j1), .second, .val (.long j2), .second, .val (.int p3), .val (.int p4), .val (.int p5), .val (.ref b1), .val (.int pp), .val (.int qq), .val (.int f1), .val (.int t1'), .val (.int uu), .val (.int vv), .val (.int f2), .val (.int t2'), .val (.long (own_ref f1 t1' r0 r1 r2)), .second, .val (.long (own_ref f2 t2' r0 r1 r2)), .second, .val (.ref b30), .val (.double (FP.l2d (own_ref f1 t1' r0 r1 r2))), .second, .val (.double (FP.l2d (own_ref f2 t2' r0 r1 r2))), .second] [(.int (1 : Int32))])) t → Steps p.tables e below (s₁.setTop (entryFrame m #[(.long j0), (.long j1), (.long j2), (.int p3), (.int p4), (.int p5)] maxLocals)) t := by
          intro t k
          refine pre27 t ?_
          show Steps p.tables e below (T26.setTop (mkF m 138 #[.val (.long j0), .second, .val (.long j1), .second, .val (.long j2), .second, .val (.int p3), .val (.int p4), .val (.int p5), .val (.ref b1), .val (.int pp), .val (.int qq), .val (.int f1), .val (.int t1'), .val (.int uu), .val (.int vv), .val (.int f2), .unset, .unset, .unset, .unset, .unset, .unset, .unset, .unset, .unset, .unset] [(.int t2')])) _
          refine XS.istore X26.here hx rfl (hb hby at_138) rfl (l' := #[.val (.long j0), .second, .val (.long j1), .second, .val (.long j2), .second, .val (.int p3), .val (.int p4), .val (.int p5), .val (.ref b1), .val (.int pp), .val (.int qq), .val (.int f1), .val (.int t1'), .val (.int uu), .val (.int vv), .val (.int f2), .val (.int t2'), .unset, .unset, .unset, .unset, .unset, .unset, .unset, .unset, .unset]) rfl ?_
          show Steps p.tables e below (T26.setTop (mkF m 140 #[.val (.long j0), .second, .val (.long j1), .second, .val (.long j2), .second, .val (.int p3), .val (.int p4), .val (.int p5), .val (.ref b1), .val (.int pp), .val (.int qq), .val (.int f1), .val (.int t1'), .val (.int uu), .val (.int vv), .val (.int f2), .val (.int t2'), .unset, .unset, .unset, .unset, .unset, .unset, .unset, .unset, .unset] [])) _
          refine XS.aload X26.here hx rfl (hb hby at_140) rfl (rfl) ?_
          show Steps p.tables e below (T26.setTop (mkF m 142 #[.val (.long j0), .second, .val (.long j1), .second, .val (.long j2), .second, .val (.int p3), .val (.int p4), .val (.int p5), .val (.ref b1), .val (.int pp), .val (.int qq), .val (.int f1), .val (.int t1'), .val (.int uu), .val (.int vv), .val (.int f2), .val (.int t2'), .unset, .unset, .unset, .unset, .unset, .unset, .unset, .unset, .unset] [(.ref b1)])) _
          refine XS.iload X26.here hx rfl (hb hby at_142) rfl ?_
          show Steps p.tables e below (T26.setTop (mkF m 144 #[.val (.long j0), .second, .val (.long j1), .second, .val (.long j2), .second, .val (.int p3), .val (.int p4), .val (.int p5), .val (.ref b1), .val (.int pp), .val (.int qq), .val (.int f1), .val (.int t1'), .val (.int uu), .val (.int vv), .val (.int f2), .val (.int t2'), .unset, .unset, .unset, .unset, .unset, .unset, .unset, .unset, .unset] [(.int f1), (.ref b1)])) _
          refine XS.iload X26.here hx rfl (hb hby at_144) rfl ?_
          show Steps p.tables e below (T26.setTop (mkF m 146 #[.val (.long j0), .second, .val (.long j1), .second, .val (.long j2), .second, .val (.int p3), .val (.int p4), .val (.int p5), .val (.ref b1), .val (.int pp), .val (.int qq), .val (.int f1), .val (.int t1'), .val (.int uu), .val (.int vv), .val (.int f2), .val (.int t2'), .unset, .unset, .unset, .unset, .unset, .unset, .unset, .unset, .unset] [(.int t1'), (.int f1), (.ref b1)])) _
          refine st28 _ ?_
          show Steps p.tables e below (T28.setTop (mkF m 149 #[.val (.long j0), .second, .val (.long j1), .second, .val (.long j2), .second, .val (.int p3), .val (.int p4), .val (.int p5), .val (.ref b1), .val (.int pp), .val (.int qq), .val (.int f1), .val (.int t1'), .val (.int uu), .val (.int vv), .val (.int f2), .val (.int t2'), .unset, .unset, .unset, .unset, .unset, .unset, .unset, .unset, .unset] [(.long (own_ref f1 t1' r0 r1 r2))])) _
          refine XS.lstore X28.here hx rfl (hb hby at_149) rfl (l' := #[.val (.long j0), .second, .val (.long j1), .second, .val (.long j2), .second, .val (.int p3), .val (.int p4), .val (.int p5), .val (.ref b1), .val (.int pp), .val (.int qq), .val (.int f1), .val (.int t1'), .val (.int uu), .val (.int vv), .val (.int f2), .val (.int t2'), .val (.long (own_ref f1 t1' r0 r1 r2)), .second, .unset, .unset, .unset, .unset, .unset, .unset, .unset]) rfl ?_
          show Steps p.tables e below (T28.setTop (mkF m 151 #[.val (.long j0), .second, .val (.long j1), .second, .val (.long j2), .second, .val (.int p3), .val (.int p4), .val (.int p5), .val (.ref b1), .val (.int pp), .val (.int qq), .val (.int f1), .val (.int t1'), .val (.int uu), .val (.int vv), .val (.int f2), .val (.int t2'), .val (.long (own_ref f1 t1' r0 r1 r2)), .second, .unset, .unset, .unset, .unset, .unset, .unset, .unset] [])) _
          refine XS.aload X28.here hx rfl (hb hby at_151) rfl (rfl) ?_
          show Steps p.tables e below (T28.setTop (mkF m 153 #[.val (.long j0), .second, .val (.long j1), .second, .val (.long j2), .second, .val (.int p3), .val (.int p4), .val (.int p5), .val (.ref b1), .val (.int pp), .val (.int qq), .val (.int f1), .val (.int t1'), .val (.int uu), .val (.int vv), .val (.int f2), .val (.int t2'), .val (.long (own_ref f1 t1' r0 r1 r2)), .second, .unset, .unset, .unset, .unset, .unset, .unset, .unset] [(.ref b1)])) _
          refine XS.iload X28.here hx rfl (hb hby at_153) rfl ?_
          show Steps p.tables e below (T28.setTop (mkF m 155 #[.val (.long j0), .second, .val (.long j1), .second, .val (.long j2), .second, .val (.int p3), .val (.int p4), .val (.int p5), .val (.ref b1), .val (.int pp), .val (.int qq), .val (.int f1), .val (.int t1'), .val (.int uu), .val (.int vv), .val (.int f2), .val (.int t2'), .val (.long (own_ref f1 t1' r0 r1 r2)), .second, .unset, .unset, .unset, .unset, .unset, .unset, .unset] [(.int f2), (.ref b1)])) _
          refine XS.iload X28.here hx rfl (hb hby at_155) rfl ?_
          show Steps p.tables e below (T28.setTop (mkF m 157 #[.val (.long j0), .second, .val (.long j1), .second, .val (.long j2), .second, .val (.int p3), .val (.int p4), .val (.int p5), .val (.ref b1), .val (.int pp), .val (.int qq), .val (.int f1), .val (.int t1'), .val (.int uu), .val (.int vv), .val (.int f2), .val (.int t2'), .val (.long (own_ref f1 t1' r0 r1 r2)), .second, .unset, .unset, .unset, .unset, .unset, .unset, .unset] [(.int t2'), (.int f2), (.ref b1)])) _
          refine st29 _ ?_
          show Steps p.tables e below (T29.setTop (mkF m 160 #[.val (.long j0), .second, .val (.long j1), .second, .val (.long j2), .second, .val (.int p3), .val (.int p4), .val (.int p5), .val (.ref b1), .val (.int pp), .val (.int qq), .val (.int f1), .val (.int t1'), .val (.int uu), .val (.int vv), .val (.int f2), .val (.int t2'), .val (.long (own_ref f1 t1' r0 r1 r2)), .second, .unset, .unset, .unset, .unset, .unset, .unset, .unset] [(.long (own_ref f2 t2' r0 r1 r2))])) _
          refine XS.lstore X29.here hx rfl (hb hby at_160) rfl (l' := #[.val (.long j0), .second, .val (.long j1), .second, .val (.long j2), .second, .val (.int p3), .val (.int p4), .val (.int p5), .val (.ref b1), .val (.int pp), .val (.int qq), .val (.int f1), .val (.int t1'), .val (.int uu), .val (.int vv), .val (.int f2), .val (.int t2'), .val (.long (own_ref f1 t1' r0 r1 r2)), .second, .val (.long (own_ref f2 t2' r0 r1 r2)), .second, .unset, .unset, .unset, .unset, .unset]) rfl ?_
          show Steps p.tables e below (T29.setTop (mkF m 162 #[.val (.long j0), .second, .val (.long j1), .second, .val (.long j2), .second, .val (.int p3), .val (.int p4), .val (.int p5), .val (.ref b1), .val (.int pp), .val (.int qq), .val (.int f1), .val (.int t1'), .val (.int uu), .val (.int vv), .val (.int f2), .val (.int t2'), .val (.long (own_ref f1 t1' r0 r1 r2)), .second, .val (.long (own_ref f2 t2' r0 r1 r2)), .second, .unset, .unset, .unset, .unset, .unset] [])) _
          refine st30 _ ?_
          show Steps p.tables e below (T30.setTop (mkF m 165 #[.val (.long j0), .second, .val (.long j1), .second, .val (.long j2), .second, .val (.int p3), .val (.int p4), .val (.int p5), .val (.ref b1), .val (.int pp), .val (.int qq), .val (.int f1), .val (.int t1'), .val (.int uu), .val (.int vv), .val (.int f2), .val (.int t2'), .val (.long (own_ref f1 t1' r0 r1 r2)), .second, .val (.long (own_ref f2 t2' r0 r1 r2)), .second, .unset, .unset, .unset, .unset, .unset] [(.ref b30)])) _
          refine XS.dup X30.here hx rfl (hb hby at_165) rfl rfl ?_
          show Steps p.tables e below (T30.setTop (mkF m 166 #[.val (.long j0), .second, .val (.long j1), .second, .val (.long j2), .second, .val (.int p3), .val (.int p4), .val (.int p5), .val (.ref b1), .val (.int pp), .val (.int qq), .val (.int f1), .val (.int t1'), .val (.int uu), .val (.int vv), .val (.int f2), .val (.int t2'), .val (.long (own_ref f1 t1' r0 r1 r2)), .second, .val (.long (own_ref f2 t2' r0 r1 r2)), .second, .unset, .unset, .unset, .unset, .unset] [(.ref b30), (.ref b30)])) _
          refine XS.aload X30.here hx rfl (hb hby at_166) rfl (rfl) ?_
          show Steps p.tables e below (T30.setTop (mkF m 168 #[.val (.long j0), .second, .val (.long j1), .second, .val (.long j2), .second, .val (.int p3), .val (.int p4), .val (.int p5), .val (.ref b1), .val (.int pp), .val (.int qq), .val (.int f1), .val (.int t1'), .val (.int uu), .val (.int vv), .val (.int f2), .val (.int t2'), .val (.long (own_ref f1 t1' r0 r1 r2)), .second, .val (.long (own_ref f2 t2' r0 r1 r2)), .second, .unset, .unset, .unset, .unset, .unset] [(.ref b1), (.ref b30), (.ref b30)])) _
          refine st31.trans ?_
          show Steps p.tables e below (T31.setTop (mkF m 171 #[.val (.long j0), .second, .val (.long j1), .second, .val (.long j2), .second, .val (.int p3), .val (.int p4), .val (.int p5), .val (.ref b1), .val (.int pp), .val (.int qq), .val (.int f1), .val (.int t1'), .val (.int uu), .val (.int vv), .val (.int f2), .val (.int t2'), .val (.long (own_ref f1 t1' r0 r1 r2)), .second, .val (.long (own_ref f2 t2' r0 r1 r2)), .second, .unset, .unset, .unset, .unset, .unset] [(.ref b30)])) _
          refine XS.astore X31.here hx rfl (hb hby at_171) rfl (rfl) (l' := #[.val (.long j0), .second, .val (.long j1), .second, .val (.long j2), .second, .val (.int p3), .val (.int p4), .val (.int p5), .val (.ref b1), .val (.int pp), .val (.int qq), .val (.int f1), .val (.int t1'), .val (.int uu), .val (.int vv), .val (.int f2), .val (.int t2'), .val (.long (own_ref f1 t1' r0 r1 r2)), .second, .val (.long (own_ref f2 t2' r0 r1 r2)), .second, .val (.ref b30), .unset, .unset, .unset, .unset]) rfl ?_
          show Steps p.tables e below (T31.setTop (mkF m 173 #[.val (.long j0), .second, .val (.long j1), .second, .val (.long j2), .second, .val (.int p3), .val (.int p4), .val (.int p5), .val (.ref b1), .val (.int pp), .val (.int qq), .val (.int f1), .val (.int t1'), .val (.int uu), .val (.int vv), .val (.int f2), .val (.int t2'), .val (.long (own_ref f1 t1' r0 r1 r2)), .second, .val (.long (own_ref f2 t2' r0 r1 r2)), .second, .val (.ref b30), .unset, .unset, .unset, .unset] [])) _
          refine XS.aload X31.here hx rfl (hb hby at_173) rfl (rfl) ?_
          show Steps p.tables e below (T31.setTop (mkF m 175 #[.val (.long j0), .second, .val (.long j1), .second, .val (.long j2), .second, .val (.int p3), .val (.int p4), .val (.int p5), .val (.ref b1), .val (.int pp), .val (.int qq), .val (.int f1), .val (.int t1'), .val (.int uu), .val (.int vv), .val (.int f2), .val (.int t2'), .val (.long (own_ref f1 t1' r0 r1 r2)), .second, .val (.long (own_ref f2 t2' r0 r1 r2)), .second, .val (.ref b30), .unset, .unset, .unset, .unset] [(.ref b30)])) _
          refine XS.iload X31.here hx rfl (hb hby at_175) rfl ?_
          show Steps p.tables e below (T31.setTop (mkF m 177 #[.val (.long j0), .second, .val (.long j1), .second, .val (.long j2), .second, .val (.int p3), .val (.int p4), .val (.int p5), .val (.ref b1), .val (.int pp), .val (.int qq), .val (.int f1), .val (.int t1'), .val (.int uu), .val (.int vv), .val (.int f2), .val (.int t2'), .val (.long (own_ref f1 t1' r0 r1 r2)), .second, .val (.long (own_ref f2 t2' r0 r1 r2)), .second, .val (.ref b30), .unset, .unset, .unset, .unset] [(.int f1), (.ref b30)])) _
          refine XS.iload X31.here hx rfl (hb hby at_177) rfl ?_
          show Steps p.tables e below (T31.setTop (mkF m 179 #[.val (.long j0), .second, .val (.long j1), .second, .val (.long j2), .second, .val (.int p3), .val (.int p4), .val (.int p5), .val (.ref b1), .val (.int pp), .val (.int qq), .val (.int f1), .val (.int t1'), .val (.int uu), .val (.int vv), .val (.int f2), .val (.int t2'), .val (.long (own_ref f1 t1' r0 r1 r2)), .second, .val (.long (own_ref f2 t2' r0 r1 r2)), .second, .val (.ref b30), .unset, .unset, .unset, .unset] [(.int t1'), (.int f1), (.ref b30)])) _
          refine st33.trans ?_
          show Steps p.tables e below (T33.setTop (mkF m 182 #[.val (.long j0), .second, .val (.long j1), .second, .val (.long j2), .second, .val (.int p3), .val (.int p4), .val (.int p5), .val (.ref b1), .val (.int pp), .val (.int qq), .val (.int f1), .val (.int t1'), .val (.int uu), .val (.int vv), .val (.int f2), .val (.int t2'), .val (.long (own_ref f1 t1' r0 r1 r2)), .second, .val (.long (own_ref f2 t2' r0 r1 r2)), .second, .val (.ref b30), .unset, .unset, .unset, .unset] [(.double (FP.l2d (own_ref f1 t1' r0 r1 r2)))])) _
          refine XS.dstore X33.here hx rfl (hb hby at_182) rfl (l' := #[.val (.long j0), .second, .val (.long j1), .second, .val (.long j2), .second, .val (.int p3), .val (.int p4), .val (.int p5), .val (.ref b1), .val (.int pp), .val (.int qq), .val (.int f1), .val (.int t1'), .val (.int uu), .val (.int vv), .val (.int f2), .val (.int t2'), .val (.long (own_ref f1 t1' r0 r1 r2)), .second, .val (.long (own_ref f2 t2' r0 r1 r2)), .second, .val (.ref b30), .val (.double (FP.l2d (own_ref f1 t1' r0 r1 r2))), .second, .unset, .unset]) rfl ?_
          show Steps p.tables e below (T33.setTop (mkF m 184 #[.val (.long j0), .second, .val (.long j1), .second, .val (.long j2), .second, .val (.int p3), .val (.int p4), .val (.int p5), .val (.ref b1), .val (.int pp), .val (.int qq), .val (.int f1), .val (.int t1'), .val (.int uu), .val (.int vv), .val (.int f2), .val (.int t2'), .val (.long (own_ref f1 t1' r0 r1 r2)), .second, .val (.long (own_ref f2 t2' r0 r1 r2)), .second, .val (.ref b30), .val (.double (FP.l2d (own_ref f1 t1' r0 r1 r2))), .second, .unset, .unset] [])) _
          refine XS.aload X33.here hx rfl (hb hby at_184) rfl (rfl) ?_
          show Steps p.tables e below (T33.setTop (mkF m 186 #[.val (.long j0), .second, .val (.long j1), .second, .val (.long j2), .second, .val (.int p3), .val (.int p4), .val (.int p5), .val (.ref b1), .val (.int pp), .val (.int qq), .val (.int f1), .val (.int t1'), .val (.int uu), .val (.int vv), .val (.int f2), .val (.int t2'), .val (.long (own_ref f1 t1' r0 r1 r2)), .second, .val (.long (own_ref f2 t2' r0 r1 r2)), .second, .val (.ref b30), .val (.double (FP.l2d (own_ref f1 t1' r0 r1 r2))), .second, .unset, .unset] [(.ref b30)])) _
          refine XS.iload X33.here hx rfl (hb hby at_186) rfl ?_
          show Steps p.tables e below (T33.setTop (mkF m 188 #[.val (.long j0), .second, .val (.long j1), .second, .val (.long j2), .second, .val (.int p3), .val (.int p4), .val (.int p5), .val (.ref b1), .val (.int pp), .val (.int qq), .val (.int f1), .val (.int t1'), .val (.int uu), .val (.int vv), .val (.int f2), .val (.int t2'), .val (.long (own_ref f1 t1' r0 r1 r2)), .second, .val (.long (own_ref f2 t2' r0 r1 r2)), .second, .val (.ref b30), .val (.double (FP.l2d (own_ref f1 t1' r0 r1 r2))), .second, .unset, .unset] [(.int f2), (.ref b30)])) _
          refine XS.iload X33.here hx rfl (hb hby at_188) rfl ?_
          show Steps p.tables e below (T33.setTop (mkF m 190 #[.val (.long j0), .second, .val (.long j1), .second, .val (.long j2), .second, .val (.int p3), .val (.int p4), .val (.int p5), .val (.ref b1), .val (.int pp), .val (.int qq), .val (.int f1), .val (.int t1'), .val (.int uu), .val (.int vv), .val (.int f2), .val (.int t2'), .val (.long (own_ref f1 t1' r0 r1 r2)), .second, .val (.long (own_ref f2 t2' r0 r1 r2)), .second, .val (.ref b30), .val (.double (FP.l2d (own_ref f1 t1' r0 r1 r2))), .second, .unset, .unset] [(.int t2'), (.int f2), (.ref b30)])) _
          refine st34.trans ?_
          show Steps p.tables e below (T34.setTop (mkF m 193 #[.val (.long j0), .second, .val (.long j1), .second, .val (.long j2), .second, .val (.int p3), .val (.int p4), .val (.int p5), .val (.ref b1), .val (.int pp), .val (.int qq), .val (.int f1), .val (.int t1'), .val (.int uu), .val (.int vv), .val (.int f2), .val (.int t2'), .val (.long (own_ref f1 t1' r0 r1 r2)), .second, .val (.long (own_ref f2 t2' r0 r1 r2)), .second, .val (.ref b30), .val (.double (FP.l2d (own_ref f1 t1' r0 r1 r2))), .second, .unset, .unset] [(.double (FP.l2d (own_ref f2 t2' r0 r1 r2)))])) _
          refine XS.dstore X34.here hx rfl (hb hby at_193) rfl (l' := #[.val (.long j0), .second, .val (.long j1), .second, .val (.long j2), .second, .val (.int p3), .val (.int p4), .val (.int p5), .val (.ref b1), .val (.int pp), .val (.int qq), .val (.int f1), .val (.int t1'), .val (.int uu), .val (.int vv), .val (.int f2), .val (.int t2'), .val (.long (own_ref f1 t1' r0 r1 r2)), .second, .val (.long (own_ref f2 t2' r0 r1 r2)), .second, .val (.ref b30), .val (.double (FP.l2d (own_ref f1 t1' r0 r1 r2))), .second, .val (.double (FP.l2d (own_ref f2 t2' r0 r1 r2))), .second]) rfl ?_
          show Steps p.tables e below (T34.setTop (mkF m 195 #[.val (.long j0), .second, .val (.long j1), .second, .val (.long j2), .second, .val (.int p3), .val (.int p4), .val (.int p5), .val (.ref b1), .val (.int pp), .val (.int qq), .val (.int f1), .val (.int t1'), .val (.int uu), .val (.int vv), .val (.int f2), .val (.int t2'), .val (.long (own_ref f1 t1' r0 r1 r2)), .second, .val (.long (own_ref f2 t2' r0 r1 r2)), .second, .val (.ref b30), .val (.double (FP.l2d (own_ref f1 t1' r0 r1 r2))), .second, .val (.double (FP.l2d (own_ref f2 t2' r0 r1 r2))), .second] [])) _
          refine XS.dload X34.here hx rfl (hb hby at_195) rfl ?_
          show Steps p.tables e below (T34.setTop (mkF m 197 #[.val (.long j0), .second, .val (.long j1), .second, .val (.long j2), .second, .val (.int p3), .val (.int p4), .val (.int p5), .val (.ref b1), .val (.int pp), .val (.int qq), .val (.int f1), .val (.int t1'), .val (.int uu), .val (.int vv), .val (.int f2), .val (.int t2'), .val (.long (own_ref f1 t1' r0 r1 r2)), .second, .val (.long (own_ref f2 t2' r0 r1 r2)), .second, .val (.ref b30), .val (.double (FP.l2d (own_ref f1 t1' r0 r1 r2))), .second, .val (.double (FP.l2d (own_ref f2 t2' r0 r1 r2))), .second] [(.double (FP.l2d (own_ref f1 t1' r0 r1 r2)))])) _
          refine XS.lload X34.here hx rfl (hb hby at_197) rfl ?_
          show Steps p.tables e below (T34.setTop (mkF m 199 #[.val (.long j0), .second, .val (.long j1), .second, .val (.long j2), .second, .val (.int p3), .val (.int p4), .val (.int p5), .val (.ref b1), .val (.int pp), .val (.int qq), .val (.int f1), .val (.int t1'), .val (.int uu), .val (.int vv), .val (.int f2), .val (.int t2'), .val (.long (own_ref f1 t1' r0 r1 r2)), .second, .val (.long (own_ref f2 t2' r0 r1 r2)), .second, .val (.ref b30), .val (.double (FP.l2d (own_ref f1 t1' r0 r1 r2))), .second, .val (.double (FP.l2d (own_ref f2 t2' r0 r1 r2))), .second] [(.long (own_ref f1 t1' r0 r1 r2)), (.double (FP.l2d (own_ref f1 t1' r0 r1 r2)))])) _
          refine XS.l2dS X34.here hx rfl (hb hby at_199) rfl rfl ?_
          show Steps p.tables e below (T34.setTop (mkF m 200 #[.val (.long j0), .second, .val (.long j1), .second, .val (.long j2), .second, .val (.int p3), .val (.int p4), .val (.int p5), .val (.ref b1), .val (.int pp), .val (.int qq), .val (.int f1), .val (.int t1'), .val (.int uu), .val (.int vv), .val (.int f2), .val (.int t2'), .val (.long (own_ref f1 t1' r0 r1 r2)), .second, .val (.long (own_ref f2 t2' r0 r1 r2)), .second, .val (.ref b30), .val (.double (FP.l2d (own_ref f1 t1' r0 r1 r2))), .second, .val (.double (FP.l2d (own_ref f2 t2' r0 r1 r2))), .second] [(.double (FP.l2d (own_ref f1 t1' r0 r1 r2))), (.double (FP.l2d (own_ref f1 t1' r0 r1 r2)))])) _
          refine XS.dcmpS X34.here hx rfl (hb hby at_200) rfl (dcmpV_self (nn_w rfl) _) ?_
          show Steps p.tables e below (T34.setTop (mkF m 201 #[.val (.long j0), .second, .val (.long j1), .second, .val (.long j2), .second, .val (.int p3), .val (.int p4), .val (.int p5), .val (.ref b1), .val (.int pp), .val (.int qq), .val (.int f1), .val (.int t1'), .val (.int uu), .val (.int vv), .val (.int f2), .val (.int t2'), .val (.long (own_ref f1 t1' r0 r1 r2)), .second, .val (.long (own_ref f2 t2' r0 r1 r2)), .second, .val (.ref b30), .val (.double (FP.l2d (own_ref f1 t1' r0 r1 r2))), .second, .val (.double (FP.l2d (own_ref f2 t2' r0 r1 r2))), .second] [(.int (0 : Int32))])) _
          refine XS.ifNo X34.here hx rfl (hb hby at_201) rfl ((if0 _ _).trans (teq (by decide : (0 : Int32) = (0 : Int32))).2) ?_
          show Steps p.tables e below (T34.setTop (mkF m 204 #[.val (.long j0), .second, .val (.long j1), .second, .val (.long j2), .second, .val (.int p3), .val (.int p4), .val (.int p5), .val (.ref b1), .val (.int pp), .val (.int qq), .val (.int f1), .val (.int t1'), .val (.int uu), .val (.int vv), .val (.int f2), .val (.int t2'), .val (.long (own_ref f1 t1' r0 r1 r2)), .second, .val (.long (own_ref f2 t2' r0 r1 r2)), .second, .val (.ref b30), .val (.double (FP.l2d (own_ref f1 t1' r0 r1 r2))), .second, .val (.double (FP.l2d (own_ref f2 t2' r0 r1 r2))), .second] [])) _
          refine XS.dload X34.here hx rfl (hb hby at_204) rfl ?_
          show Steps p.tables e below (T34.setTop (mkF m 206 #[.val (.long j0), .second, .val (.long j1), .second, .val (.long j2), .second, .val (.int p3), .val (.int p4), .val (.int p5), .val (.ref b1), .val (.int pp), .val (.int qq), .val (.int f1), .val (.int t1'), .val (.int uu), .val (.int vv), .val (.int f2), .val (.int t2'), .val (.long (own_ref f1 t1' r0 r1 r2)), .second, .val (.long (own_ref f2 t2' r0 r1 r2)), .second, .val (.ref b30), .val (.double (FP.l2d (own_ref f1 t1' r0 r1 r2))), .second, .val (.double (FP.l2d (own_ref f2 t2' r0 r1 r2))), .second] [(.double (FP.l2d (own_ref f2 t2' r0 r1 r2)))])) _
          refine XS.lload X34.here hx rfl (hb hby at_206) rfl ?_
          show Steps p.tables e below (T34.setTop (mkF m 208 #[.val (.long j0), .second, .val (.long j1), .second, .val (.long j2), .second, .val (.int p3), .val (.int p4), .val (.int p5), .val (.ref b1), .val (.int pp), .val (.int qq), .val (.int f1), .val (.int t1'), .val (.int uu), .val (.int vv), .val (.int f2), .val (.int t2'), .val (.long (own_ref f1 t1' r0 r1 r2)), .second, .val (.long (own_ref f2 t2' r0 r1 r2)), .second, .val (.ref b30), .val (.double (FP.l2d (own_ref f1 t1' r0 r1 r2))), .second, .val (.double (FP.l2d (own_ref f2 t2' r0 r1 r2))), .second] [(.long (own_ref f2 t2' r0 r1 r2)), (.double (FP.l2d (own_ref f2 t2' r0 r1 r2)))])) _
          refine XS.l2dS X34.here hx rfl (hb hby at_208) rfl rfl ?_
          show Steps p.tables e below (T34.setTop (mkF m 209 #[.val (.long j0), .second, .val (.long j1), .second, .val (.long j2), .second, .val (.int p3), .val (.int p4), .val (.int p5), .val (.ref b1), .val (.int pp), .val (.int qq), .val (.int f1), .val (.int t1'), .val (.int uu), .val (.int vv), .val (.int f2), .val (.int t2'), .val (.long (own_ref f1 t1' r0 r1 r2)), .second, .val (.long (own_ref f2 t2' r0 r1 r2)), .second, .val (.ref b30), .val (.double (FP.l2d (own_ref f1 t1' r0 r1 r2))), .second, .val (.double (FP.l2d (own_ref f2 t2' r0 r1 r2))), .second] [(.double (FP.l2d (own_ref f2 t2' r0 r1 r2))), (.double (FP.l2d (own_ref f2 t2' r0 r1 r2)))])) _
          refine XS.dcmpS X34.here hx rfl (hb hby at_209) rfl (dcmpV_self (nn_w rfl) _) ?_
          show Steps p.tables e below (T34.setTop (mkF m 210 #[.val (.long j0), .second, .val (.long j1), .second, .val (.long j2), .second, .val (.int p3), .val (.int p4), .val (.int p5), .val (.ref b1), .val (.int pp), .val (.int qq), .val (.int f1), .val (.int t1'), .val (.int uu), .val (.int vv), .val (.int f2), .val (.int t2'), .val (.long (own_ref f1 t1' r0 r1 r2)), .second, .val (.long (own_ref f2 t2' r0 r1 r2)), .second, .val (.ref b30), .val (.double (FP.l2d (own_ref f1 t1' r0 r1 r2))), .second, .val (.double (FP.l2d (own_ref f2 t2' r0 r1 r2))), .second] [(.int (0 : Int32))])) _
          refine XS.ifNo X34.here hx rfl (hb hby at_210) rfl ((if0 _ _).trans (teq (by decide : (0 : Int32) = (0 : Int32))).2) ?_
          show Steps p.tables e below (T34.setTop (mkF m 213 #[.val (.long j0), .second, .val (.long j1), .second, .val (.long j2), .second, .val (.int p3), .val (.int p4), .val (.int p5), .val (.ref b1), .val (.int pp), .val (.int qq), .val (.int f1), .val (.int t1'), .val (.int uu), .val (.int vv), .val (.int f2), .val (.int t2'), .val (.long (own_ref f1 t1' r0 r1 r2)), .second, .val (.long (own_ref f2 t2' r0 r1 r2)), .second, .val (.ref b30), .val (.double (FP.l2d (own_ref f1 t1' r0 r1 r2))), .second, .val (.double (FP.l2d (own_ref f2 t2' r0 r1 r2))), .second] [])) _
          refine XS.iconst X34.here hx rfl (hb hby at_213) ?_
          show Steps p.tables e below (T34.setTop (mkF m 214 #[.val (.long j0), .second, .val (.long j1), .second, .val (.long j2), .second, .val (.int p3), .val (.int p4), .val (.int p5), .val (.ref b1), .val (.int pp), .val (.int qq), .val (.int f1), .val (.int t1'), .val (.int uu), .val (.int vv), .val (.int f2), .val (.int t2'), .val (.long (own_ref f1 t1' r0 r1 r2)), .second, .val (.long (own_ref f2 t2' r0 r1 r2)), .second, .val (.ref b30), .val (.double (FP.l2d (own_ref f1 t1' r0 r1 r2))), .second, .val (.double (FP.l2d (own_ref f2 t2' r0 r1 r2))), .second] [(.int (1 : Int32))])) _
          refine XS.goto X34.here hx rfl (pc0 := 214) (pc' := 218) rfl (hb hby at_214) (by decide) (by decide) ?_
          show Steps p.tables e below (T34.setTop (mkF m 218 #[.val (.long j0), .second, .val (.long j1), .second, .val (.long j2), .second, .val (.int p3), .val (.int p4), .val (.int p5), .val (.ref b1), .val (.int pp), .val (.int qq), .val (.int f1), .val (.int t1'), .val (.int uu), .val (.int vv), .val (.int f2), .val (.int t2'), .val (.long (own_ref f1 t1' r0 r1 r2)), .second, .val (.long (own_ref f2 t2' r0 r1 r2)), .second, .val (.ref b30), .val (.double (FP.l2d (own_ref f1 t1' r0 r1 r2))), .second, .val (.double (FP.l2d (own_ref f2 t2' r0 r1 r2))), .second] [(.int (1 : Int32))])) _
          exact k
        obtain ⟨fs, hr, hrun, hended, hW, hsame⟩ := X34.leave (v := some (.int (1 : Int32))) (fun h => by rw [Bd.returns] at h; cases h)
        refine ⟨_, _, pre35 _ ?_, hrun, hended, _, _, rfl, ?_, ⟨_, rfl⟩, hW, hsame.mono (by decide) (by decide)⟩
        · exact retN X34 hx (t := .boolean) Bd.returns (by simp) (hb hby at_218) hr
        · show Q_rm0 Z j0 j1 j2 p3 p4 p5 h0 n0 _ T34.heap _
          rw [hq34]
          exact ⟨rfl, N34⟩
    · skip
      have pre36 : ∀ t, Steps p.tables e below (T10.setTop (mkF m 67 #[.val (.long j0), .second, .val (.long j1), .second, .val (.long j2), .second, .val (.int p3), .val (.int p4), .val (.int p5), .val (.ref b1), .unset, .unset, .unset, .unset, .unset, .unset, .unset, .unset, .unset, .unset, .unset, .unset, .unset, .unset, .unset, .unset, .unset] [(.int ((p3 &&& (2147483647 : Int32)) % (7 : Int32)))])) t → Steps p.tables e below (s₁.setTop (entryFrame m #[(.long j0), (.long j1), (.long j2), (.int p3), (.int p4), (.int p5)] maxLocals)) t := by
        intro t k
        refine pre13 t ?_
        refine XS.ifYes X10.here hx rfl (pc0 := 45) (pc' := 59) rfl (hb hby at_45) rfl ((if0 _ _).trans (feq (mt (lw_eq r1 (0 : Int64)).mp h45)).2) (by decide) (by decide) ?_
        show Steps p.tables e below (T10.setTop (mkF m 59 #[.val (.long j0), .second, .val (.long j1), .second, .val (.long j2), .second, .val (.int p3), .val (.int p4), .val (.int p5), .val (.ref b1), .unset, .unset, .unset, .unset, .unset, .unset, .unset, .unset, .unset, .unset, .unset, .unset, .unset, .unset, .unset, .unset, .unset] [])) _
        refine XS.iload X10.here hx rfl (hb hby at_59) rfl ?_
        show Steps p.tables e below (T10.setTop (mkF m 61 #[.val (.long j0), .second, .val (.long j1), .second, .val (.long j2), .second, .val (.int p3), .val (.int p4), .val (.int p5), .val (.ref b1), .unset, .unset, .unset, .unset, .unset, .unset, .unset, .unset, .unset, .unset, .unset, .unset, .unset, .unset, .unset, .unset, .unset] [(.int p3)])) _
        refine X10.ldcInt hx hown (mvT hZ (hw _ (List.mem_of_getElem? (i := 2) rfl))) (g := (mkF m 61 #[.val (.long j0), .second, .val (.long j1), .second, .val (.long j2), .second, .val (.int p3), .val (.int p4), .val (.int p5), .val (.ref b1), .unset, .unset, .unset, .unset, .unset, .unset, .unset, .unset, .unset, .unset, .unset, .unset, .unset, .unset, .unset, .unset, .unset] [(.int p3)])) rfl (hb hby at_61) _ ?_
        show Steps p.tables e below (T10.setTop (mkF m 63 #[.val (.long j0), .second, .val (.long j1), .second, .val (.long j2), .second, .val (.int p3), .val (.int p4), .val (.int p5), .val (.ref b1), .unset, .unset, .unset, .unset, .unset, .unset, .unset, .unset, .unset, .unset, .unset, .unset, .unset, .unset, .unset, .unset, .unset] [(.int (2147483647 : Int32)), (.int p3)])) _
        refine XS.iand X10.here hx rfl (hb hby at_63) rfl ?_
        show Steps p.tables e below (T10.setTop (mkF m 64 #[.val (.long j0), .second, .val (.long j1), .second, .val (.long j2), .second, .val (.int p3), .val (.int p4), .val (.int p5), .val (.ref b1), .unset, .unset, .unset, .unset, .unset, .unset, .unset, .unset, .unset, .unset, .unset, .unset, .unset, .unset, .unset, .unset, .unset] [(.int (p3 &&& (2147483647 : Int32)))])) _
        refine XS.bipush X10.here hx rfl (hb hby at_64) ?_
        show Steps p.tables e below (T10.setTop (mkF m 66 #[.val (.long j0), .second, .val (.long j1), .second, .val (.long j2), .second, .val (.int p3), .val (.int p4), .val (.int p5), .val (.ref b1), .unset, .unset, .unset, .unset, .unset, .unset, .unset, .unset, .unset, .unset, .unset, .unset, .unset, .unset, .unset, .unset, .unset] [(.int (7 : Int32)), (.int (p3 &&& (2147483647 : Int32)))])) _
        refine iremM X10 hx rfl (hb hby at_66) rfl (by decide) ?_
        show Steps p.tables e below (T10.setTop (mkF m 67 #[.val (.long j0), .second, .val (.long j1), .second, .val (.long j2), .second, .val (.int p3), .val (.int p4), .val (.int p5), .val (.ref b1), .unset, .unset, .unset, .unset, .unset, .unset, .unset, .unset, .unset, .unset, .unset, .unset, .unset, .unset, .unset, .unset, .unset] [(.int ((p3 &&& (2147483647 : Int32)) % (7 : Int32)))])) _
        exact k
      obtain ⟨pp, hpp⟩ : ∃ z : Int32, z = ((p3 &&& (2147483647 : Int32)) % (7 : Int32)) := ⟨_, rfl⟩
      rw [← hpp] at pre36
      have pre37 : ∀ t, Steps p.tables e below (T10.setTop (mkF m 77 #[.val (.long j0), .second, .val (.long j1), .second, .val (.long j2), .second, .val (.int p3), .val (.int p4), .val (.int p5), .val (.ref b1), .val (.int pp), .unset, .unset, .unset, .unset, .unset, .unset, .unset, .unset, .unset, .unset, .unset, .unset, .unset, .unset, .unset, .unset] [(.int ((p4 &&& (2147483647 : Int32)) % (7 : Int32)))])) t → Steps p.tables e below (s₁.setTop (entryFrame m #[(.long j0), (.long j1), (.long j2), (.int p3), (.int p4), (.int p5)] maxLocals)) t := by
        intro t k
        refine pre36 t ?_
        show Steps p.tables e below (T10.setTop (mkF m 67 #[.val (.long j0), .second, .val (.long j1), .second, .val (.long j2), .second, .val (.int p3), .val (.int p4), .val (.int p5), .val (.ref b1), .unset, .unset, .unset, .unset, .unset, .unset, .unset, .unset, .unset, .unset, .unset, .unset, .unset, .unset, .unset, .unset, .unset] [(.int pp)])) _
        refine XS.istore X10.here hx rfl (hb hby at_67) rfl (l' := #[.val (.long j0), .second, .val (.long j1), .second, .val (.long j2), .second, .val (.int p3), .val (.int p4), .val (.int p5), .val (.ref b1), .val (.int pp), .unset, .unset, .unset, .unset, .unset, .unset, .unset, .unset, .unset, .unset, .unset, .unset, .unset, .unset, .unset, .unset]) rfl ?_
        show Steps p.tables e below (T10.setTop (mkF m 69 #[.val (.long j0), .second, .val (.long j1), .second, .val (.long j2), .second, .val (.int p3), .val (.int p4), .val (.int p5), .val (.ref b1), .val (.int pp), .unset, .unset, .unset, .unset, .unset, .unset, .unset, .unset, .unset, .unset, .unset, .unset, .unset, .unset, .unset, .unset] [])) _
        refine XS.iload X10.here hx rfl (hb hby at_69) rfl ?_
        show Steps p.tables e below (T10.setTop (mkF m 71 #[.val (.long j0), .second, .val (.long j1), .second, .val (.long j2), .second, .val (.int p3), .val (.int p4), .val (.int p5), .val (.ref b1), .val (.int pp), .unset, .unset, .unset, .unset, .unset, .unset, .unset, .unset, .unset, .unset, .unset, .unset, .unset, .unset, .unset, .unset] [(.int p4)])) _
        refine X10.ldcInt hx hown (mvT hZ (hw _ (List.mem_of_getElem? (i := 2) rfl))) (g := (mkF m 71 #[.val (.long j0), .second, .val (.long j1), .second, .val (.long j2), .second, .val (.int p3), .val (.int p4), .val (.int p5), .val (.ref b1), .val (.int pp), .unset, .unset, .unset, .unset, .unset, .unset, .unset, .unset, .unset, .unset, .unset, .unset, .unset, .unset, .unset, .unset] [(.int p4)])) rfl (hb hby at_71) _ ?_
        show Steps p.tables e below (T10.setTop (mkF m 73 #[.val (.long j0), .second, .val (.long j1), .second, .val (.long j2), .second, .val (.int p3), .val (.int p4), .val (.int p5), .val (.ref b1), .val (.int pp), .unset, .unset, .unset, .unset, .unset, .unset, .unset, .unset, .unset, .unset, .unset, .unset, .unset, .unset, .unset, .unset] [(.int (2147483647 : Int32)), (.int p4)])) _
        refine XS.iand X10.here hx rfl (hb hby at_73) rfl ?_
        show Steps p.tables e below (T10.setTop (mkF m 74 #[.val (.long j0), .second, .val (.long j1), .second, .val (.long j2), .second, .val (.int p3), .val (.int p4), .val (.int p5), .val (.ref b1), .val (.int pp), .unset, .unset, .unset, .unset, .unset, .unset, .unset, .unset, .unset, .unset, .unset, .unset, .unset, .unset, .unset, .unset] [(.int (p4 &&& (2147483647 : Int32)))])) _
        refine XS.bipush X10.here hx rfl (hb hby at_74) ?_
        show Steps p.tables e below (T10.setTop (mkF m 76 #[.val (.long j0), .second, .val (.long j1), .second, .val (.long j2), .second, .val (.int p3), .val (.int p4), .val (.int p5), .val (.ref b1), .val (.int pp), .unset, .unset, .unset, .unset, .unset, .unset, .unset, .unset, .unset, .unset, .unset, .unset, .unset, .unset, .unset, .unset] [(.int (7 : Int32)), (.int (p4 &&& (2147483647 : Int32)))])) _
        refine iremM X10 hx rfl (hb hby at_76) rfl (by decide) ?_
        show Steps p.tables e below (T10.setTop (mkF m 77 #[.val (.long j0), .second, .val (.long j1), .second, .val (.long j2), .second, .val (.int p3), .val (.int p4), .val (.int p5), .val (.ref b1), .val (.int pp), .unset, .unset, .unset, .unset, .unset, .unset, .unset, .unset, .unset, .unset, .unset, .unset, .unset, .unset, .unset, .unset] [(.int ((p4 &&& (2147483647 : Int32)) % (7 : Int32)))])) _
        exact k
      obtain ⟨qq, hqq⟩ : ∃ z : Int32, z = ((p4 &&& (2147483647 : Int32)) % (7 : Int32)) := ⟨_, rfl⟩
      rw [← hqq] at pre37
      obtain ⟨s1, s2, s3⟩ := own_mm (own_p hpp) (own_p hqq)
      obtain ⟨_, _, ⟨T38, L38, k38, n38⟩, -, X38, ⟨Lc38, hQ38, l38, y38, z38⟩, st38⟩ := Jvm.LawKit.callS X10 hx (y := (⟨"java/lang/Math", "min", "(II)I"⟩ : MethodName)) hown (mvT hZ (hw _ (List.mem_of_getElem? (i := 3) rfl))) (mvT hZ (hw _ (List.mem_of_getElem? (i := 4) rfl))) (mvT hZ (hw _ (List.mem_of_getElem? (i := 5) rfl))) (mvT hZ (hw _ (List.mem_of_getElem? (i := 6) rfl))) (by decide) (backOf (W := 0) (rmmin l Z a0 hw [] pp qq  h10 n0 (Nat.le_trans (Nat.le_trans (Nat.le_trans (Nat.le_trans Z0 E1.1) (Keep.of_wr W4).1) (Keep.of_wr W7).1) (Keep.of_wr W10).1) ) hZ (hw _ (List.mem_of_getElem? (i := 6) rfl)) (hw _ (List.mem_of_getElem? (i := 5) rfl)) (by decide) (by decide)) (g := (mkF m 83 #[.val (.long j0), .second, .val (.long j1), .second, .val (.long j2), .second, .val (.int p3), .val (.int p4), .val (.int p5), .val (.ref b1), .val (.int pp), .val (.int qq), .unset, .unset, .unset, .unset, .unset, .unset, .unset, .unset, .unset, .unset, .unset, .unset, .unset, .unset, .unset] [(.int qq), (.int pp)])) rfl (by rw [hml]; rfl) (argsL := [(.int pp), (.int qq)]) (rest := []) (lenOf pd_2 rfl) rfl (by show 2 * 0 + _ ≤ _; exact Nat.le_of_eq rfl) (hb hby at_83) (fun _ _ => ⟨rfl, e10, (by decide : 1 + 0 ≤ _), (by decide : 3 + 0 ≤ _)⟩)
      dsimp only [Pt.U, Pt.locs, Pt.cells, Pt.slots] at X38 l38 y38 z38 st38 hQ38
      subst l38 y38 z38
      obtain ⟨rfl, N38q, hq38⟩ := hQ38
      have N38 := Fr.app N10 N38q
      have pre39 : ∀ t, Steps p.tables e below (T38.setTop (mkF m 86 #[.val (.long j0), .second, .val (.long j1), .second, .val (.long j2), .second, .val (.int p3), .val (.int p4), .val (.int p5), .val (.ref b1), .val (.int pp), .val (.int qq), .unset, .unset, .unset, .unset, .unset, .unset, .unset, .unset, .unset, .unset, .unset, .unset, .unset, .unset, .unset] [(.int (own_min pp qq))])) t → Steps p.tables e below (s₁.setTop (entryFrame m #[(.long j0), (.long j1), (.long j2), (.int p3), (.int p4), (.int p5)] maxLocals)) t := by
        intro t k
        refine pre37 t ?_
        show Steps p.tables e below (T10.setTop (mkF m 77 #[.val (.long j0), .second, .val (.long j1), .second, .val (.long j2), .second, .val (.int p3), .val (.int p4), .val (.int p5), .val (.ref b1), .val (.int pp), .unset, .unset, .unset, .unset, .unset, .unset, .unset, .unset, .unset, .unset, .unset, .unset, .unset, .unset, .unset, .unset] [(.int qq)])) _
        refine XS.istore X10.here hx rfl (hb hby at_77) rfl (l' := #[.val (.long j0), .second, .val (.long j1), .second, .val (.long j2), .second, .val (.int p3), .val (.int p4), .val (.int p5), .val (.ref b1), .val (.int pp), .val (.int qq), .unset, .unset, .unset, .unset, .unset, .unset, .unset, .unset, .unset, .unset, .unset, .unset, .unset, .unset, .unset]) rfl ?_
        show Steps p.tables e below (T10.setTop (mkF m 79 #[.val (.long j0), .second, .val (.long j1), .second, .val (.long j2), .second, .val (.int p3), .val (.int p4), .val (.int p5), .val (.ref b1), .val (.int pp), .val (.int qq), .unset, .unset, .unset, .unset, .unset, .unset, .unset, .unset, .unset, .unset, .unset, .unset, .unset, .unset, .unset] [])) _
        refine XS.iload X10.here hx rfl (hb hby at_79) rfl ?_
        show Steps p.tables e below (T10.setTop (mkF m 81 #[.val (.long j0), .second, .val (.long j1), .second, .val (.long j2), .second, .val (.int p3), .val (.int p4), .val (.int p5), .val (.ref b1), .val (.int pp), .val (.int qq), .unset, .unset, .unset, .unset, .unset, .unset, .unset, .unset, .unset, .unset, .unset, .unset, .unset, .unset, .unset] [(.int pp)])) _
        refine XS.iload X10.here hx rfl (hb hby at_81) rfl ?_
        show Steps p.tables e below (T10.setTop (mkF m 83 #[.val (.long j0), .second, .val (.long j1), .second, .val (.long j2), .second, .val (.int p3), .val (.int p4), .val (.int p5), .val (.ref b1), .val (.int pp), .val (.int qq), .unset, .unset, .unset, .unset, .unset, .unset, .unset, .unset, .unset, .unset, .unset, .unset, .unset, .unset, .unset] [(.int qq), (.int pp)])) _
        refine st38 _ ?_
        show Steps p.tables e below (T38.setTop (mkF m 86 #[.val (.long j0), .second, .val (.long j1), .second, .val (.long j2), .second, .val (.int p3), .val (.int p4), .val (.int p5), .val (.ref b1), .val (.int pp), .val (.int qq), .unset, .unset, .unset, .unset, .unset, .unset, .unset, .unset, .unset, .unset, .unset, .unset, .unset, .unset, .unset] [(.int (own_min pp qq))])) _
        exact k
      obtain ⟨f1, hf1⟩ : ∃ z : Int32, z = (own_min pp qq) := ⟨_, rfl⟩
      rw [← hf1] at pre39
      obtain ⟨_, _, ⟨T40, L40, k40, n40⟩, -, X40, ⟨Lc40, hQ40, l40, y40, z40⟩, st40⟩ := Jvm.LawKit.callS X38 hx (y := (⟨"java/lang/Math", "max", "(II)I"⟩ : MethodName)) hown (mvT hZ (hw _ (List.mem_of_getElem? (i := 7) rfl))) (mvT hZ (hw _ (List.mem_of_getElem? (i := 8) rfl))) (mvT hZ (hw _ (List.mem_of_getElem? (i := 5) rfl))) (mvT hZ (hw _ (List.mem_of_getElem? (i := 9) rfl))) (by decide) (backOf (W := 0) (rmmax l Z a0 hw [] pp qq  h10 n0 (Nat.le_trans (Nat.le_trans (Nat.le_trans (Nat.le_trans Z0 E1.1) (Keep.of_wr W4).1) (Keep.of_wr W7).1) (Keep.of_wr W10).1) ) hZ (hw _ (List.mem_of_getElem? (i := 9) rfl)) (hw _ (List.mem_of_getElem? (i := 5) rfl)) (by decide) (by decide)) (g := (mkF m 92 #[.val (.long j0), .second, .val (.long j1), .second, .val (.long j2), .second, .val (.int p3), .val (.int p4), .val (.int p5), .val (.ref b1), .val (.int pp), .val (.int qq), .val (.int f1), .unset, .unset, .unset, .unset, .unset, .unset, .unset, .unset, .unset, .unset, .unset, .unset, .unset, .unset] [(.int qq), (.int pp)])) rfl (by rw [hml]; rfl) (argsL := [(.int pp), (.int qq)]) (rest := []) (lenOf pd_2 rfl) rfl (by show 2 * 0 + _ ≤ _; exact Nat.le_of_eq rfl) (hb hby at_92) (fun _ _ => ⟨rfl, hq38, (by decide : 1 + 0 ≤ _), (by decide : 3 + 0 ≤ _)⟩)
      dsimp only [Pt.U, Pt.locs, Pt.cells, Pt.slots] at X40 l40 y40 z40 st40 hQ40
      subst l40 y40 z40
      obtain ⟨rfl, N40q, hq40⟩ := hQ40
      have N40 := Fr.app N38 N40q
      have pre41 : ∀ t, Steps p.tables e below (T40.setTop (mkF m 95 #[.val (.long j0), .second, .val (.long j1), .second, .val (.long j2), .second, .val (.int p3), .val (.int p4), .val (.int p5), .val (.ref b1), .val (.int pp), .val (.int qq), .val (.int f1), .unset, .unset, .unset, .unset, .unset, .unset, .unset, .unset, .unset, .unset, .unset, .unset, .unset, .unset] [(.int (own_max pp qq))])) t → Steps p.tables e below (s₁.setTop (entryFrame m #[(.long j0), (.long j1), (.long j2), (.int p3), (.int p4), (.int p5)] maxLocals)) t := by
        intro t k
        refine pre39 t ?_
        show Steps p.tables e below (T38.setTop (mkF m 86 #[.val (.long j0), .second, .val (.long j1), .second, .val (.long j2), .second, .val (.int p3), .val (.int p4), .val (.int p5), .val (.ref b1), .val (.int pp), .val (.int qq), .unset, .unset, .unset, .unset, .unset, .unset, .unset, .unset, .unset, .unset, .unset, .unset, .unset, .unset, .unset] [(.int f1)])) _
        refine XS.istore X38.here hx rfl (hb hby at_86) rfl (l' := #[.val (.long j0), .second, .val (.long j1), .second, .val (.long j2), .second, .val (.int p3), .val (.int p4), .val (.int p5), .val (.ref b1), .val (.int pp), .val (.int qq), .val (.int f1), .unset, .unset, .unset, .unset, .unset, .unset, .unset, .unset, .unset, .unset, .unset, .unset, .unset, .unset]) rfl ?_
        show Steps p.tables e below (T38.setTop (mkF m 88 #[.val (.long j0), .second, .val (.long j1), .second, .val (.long j2), .second, .val (.int p3), .val (.int p4), .val (.int p5), .val (.ref b1), .val (.int pp), .val (.int qq), .val (.int f1), .unset, .unset, .unset, .unset, .unset, .unset, .unset, .unset, .unset, .unset, .unset, .unset, .unset, .unset] [])) _
        refine XS.iload X38.here hx rfl (hb hby at_88) rfl ?_
        show Steps p.tables e below (T38.setTop (mkF m 90 #[.val (.long j0), .second, .val (.long j1), .second, .val (.long j2), .second, .val (.int p3), .val (.int p4), .val (.int p5), .val (.ref b1), .val (.int pp), .val (.int qq), .val (.int f1), .unset, .unset, .unset, .unset, .unset, .unset, .unset, .unset, .unset, .unset, .unset, .unset, .unset, .unset] [(.int pp)])) _
        refine XS.iload X38.here hx rfl (hb hby at_90) rfl ?_
        show Steps p.tables e below (T38.setTop (mkF m 92 #[.val (.long j0), .second, .val (.long j1), .second, .val (.long j2), .second, .val (.int p3), .val (.int p4), .val (.int p5), .val (.ref b1), .val (.int pp), .val (.int qq), .val (.int f1), .unset, .unset, .unset, .unset, .unset, .unset, .unset, .unset, .unset, .unset, .unset, .unset, .unset, .unset] [(.int qq), (.int pp)])) _
        refine st40 _ ?_
        show Steps p.tables e below (T40.setTop (mkF m 95 #[.val (.long j0), .second, .val (.long j1), .second, .val (.long j2), .second, .val (.int p3), .val (.int p4), .val (.int p5), .val (.ref b1), .val (.int pp), .val (.int qq), .val (.int f1), .unset, .unset, .unset, .unset, .unset, .unset, .unset, .unset, .unset, .unset, .unset, .unset, .unset, .unset] [(.int (own_max pp qq))])) _
        exact k
      obtain ⟨t1', ht1'⟩ : ∃ z : Int32, z = (own_max pp qq) := ⟨_, rfl⟩
      rw [← ht1'] at pre41
      have pre42 : ∀ t, Steps p.tables e below (T40.setTop (mkF m 106 #[.val (.long j0), .second, .val (.long j1), .second, .val (.long j2), .second, .val (.int p3), .val (.int p4), .val (.int p5), .val (.ref b1), .val (.int pp), .val (.int qq), .val (.int f1), .val (.int t1'), .unset, .unset, .unset, .unset, .unset, .unset, .unset, .unset, .unset, .unset, .unset, .unset, .unset] [(.int ((p5 &&& (32767 : Int32)) % (7 : Int32)))])) t → Steps p.tables e below (s₁.setTop (entryFrame m #[(.long j0), (.long j1), (.long j2), (.int p3), (.int p4), (.int p5)] maxLocals)) t := by
        intro t k
        refine pre41 t ?_
        show Steps p.tables e below (T40.setTop (mkF m 95 #[.val (.long j0), .second, .val (.long j1), .second, .val (.long j2), .second, .val (.int p3), .val (.int p4), .val (.int p5), .val (.ref b1), .val (.int pp), .val (.int qq), .val (.int f1), .unset, .unset, .unset, .unset, .unset, .unset, .unset, .unset, .unset, .unset, .unset, .unset, .unset, .unset] [(.int t1')])) _
        refine XS.istore X40.here hx rfl (hb hby at_95) rfl (l' := #[.val (.long j0), .second, .val (.long j1), .second, .val (.long j2), .second, .val (.int p3), .val (.int p4), .val (.int p5), .val (.ref b1), .val (.int pp), .val (.int qq), .val (.int f1), .val (.int t1'), .unset, .unset, .unset, .unset, .unset, .unset, .unset, .unset, .unset, .unset, .unset, .unset, .unset]) rfl ?_
        show Steps p.tables e below (T40.setTop (mkF m 97 #[.val (.long j0), .second, .val (.long j1), .second, .val (.long j2), .second, .val (.int p3), .val (.int p4), .val (.int p5), .val (.ref b1), .val (.int pp), .val (.int qq), .val (.int f1), .val (.int t1'), .unset, .unset, .unset, .unset, .unset, .unset, .unset, .unset, .unset, .unset, .unset, .unset, .unset] [])) _
        refine XS.iload X40.here hx rfl (hb hby at_97) rfl ?_
        show Steps p.tables e below (T40.setTop (mkF m 99 #[.val (.long j0), .second, .val (.long j1), .second, .val (.long j2), .second, .val (.int p3), .val (.int p4), .val (.int p5), .val (.ref b1), .val (.int pp), .val (.int qq), .val (.int f1), .val (.int t1'), .unset, .unset, .unset, .unset, .unset, .unset, .unset, .unset, .unset, .unset, .unset, .unset, .unset] [(.int p5)])) _
        refine XS.sipush X40.here hx rfl (hb hby at_99) ?_
        show Steps p.tables e below (T40.setTop (mkF m 102 #[.val (.long j0), .second, .val (.long j1), .second, .val (.long j2), .second, .val (.int p3), .val (.int p4), .val (.int p5), .val (.ref b1), .val (.int pp), .val (.int qq), .val (.int f1), .val (.int t1'), .unset, .unset, .unset, .unset, .unset, .unset, .unset, .unset, .unset, .unset, .unset, .unset, .unset] [(.int (32767 : Int32)), (.int p5)])) _
        refine XS.iand X40.here hx rfl (hb hby at_102) rfl ?_
        show Steps p.tables e below (T40.setTop (mkF m 103 #[.val (.long j0), .second, .val (.long j1), .second, .val (.long j2), .second, .val (.int p3), .val (.int p4), .val (.int p5), .val (.ref b1), .val (.int pp), .val (.int qq), .val (.int f1), .val (.int t1'), .unset, .unset, .unset, .unset, .unset, .unset, .unset, .unset, .unset, .unset, .unset, .unset, .unset] [(.int (p5 &&& (32767 : Int32)))])) _
        refine XS.bipush X40.here hx rfl (hb hby at_103) ?_
        show Steps p.tables e below (T40.setTop (mkF m 105 #[.val (.long j0), .second, .val (.long j1), .second, .val (.long j2), .second, .val (.int p3), .val (.int p4), .val (.int p5), .val (.ref b1), .val (.int pp), .val (.int qq), .val (.int f1), .val (.int t1'), .unset, .unset, .unset, .unset, .unset, .unset, .unset, .unset, .unset, .unset, .unset, .unset, .unset] [(.int (7 : Int32)), (.int (p5 &&& (32767 : Int32)))])) _
        refine iremM X40 hx rfl (hb hby at_105) rfl (by decide) ?_
        show Steps p.tables e below (T40.setTop (mkF m 106 #[.val (.long j0), .second, .val (.long j1), .second, .val (.long j2), .second, .val (.int p3), .val (.int p4), .val (.int p5), .val (.ref b1), .val (.int pp), .val (.int qq), .val (.int f1), .val (.int t1'), .unset, .unset, .unset, .unset, .unset, .unset, .unset, .unset, .unset, .unset, .unset, .unset, .unset] [(.int ((p5 &&& (32767 : Int32)) % (7 : Int32)))])) _
        exact k
      obtain ⟨uu, huu⟩ : ∃ z : Int32, z = ((p5 &&& (32767 : Int32)) % (7 : Int32)) := ⟨_, rfl⟩
      rw [← huu] at pre42
      have pre43 : ∀ t, Steps p.tables e below (T40.setTop (mkF m 120 #[.val (.long j0), .second, .val (.long j1), .second, .val (.long j2), .second, .val (.int p3), .val (.int p4), .val (.int p5), .val (.ref b1), .val (.int pp), .val (.int qq), .val (.int f1), .val (.int t1'), .val (.int uu), .unset, .unset, .unset, .unset, .unset, .unset, .unset, .unset, .unset, .unset, .unset, .unset] [(.int ((((p5.toUInt32 >>> ((16 : Int32) &&& 31).toUInt32).toInt32) &&& (32767 : Int32)) % (7 : Int32)))])) t → Steps p.tables e below (s₁.setTop (entryFrame m #[(.long j0), (.long j1), (.long j2), (.int p3), (.int p4), (.int p5)] maxLocals)) t := by
        intro t k
        refine pre42 t ?_
        show Steps p.tables e below (T40.setTop (mkF m 106 #[.val (.long j0), .second, .val (.long j1), .second, .val (.long j2), .second, .val (.int p3), .val (.int p4), .val (.int p5), .val (.ref b1), .val (.int pp), .val (.int qq), .val (.int f1), .val (.int t1'), .unset, .unset, .unset, .unset, .unset, .unset, .unset, .unset, .unset, .unset, .unset, .unset, .unset] [(.int uu)])) _
        refine XS.istore X40.here hx rfl (hb hby at_106) rfl (l' := #[.val (.long j0), .second, .val (.long j1), .second, .val (.long j2), .second, .val (.int p3), .val (.int p4), .val (.int p5), .val (.ref b1), .val (.int pp), .val (.int qq), .val (.int f1), .val (.int t1'), .val (.int uu), .unset, .unset, .unset, .unset, .unset, .unset, .unset, .unset, .unset, .unset, .unset, .unset]) rfl ?_
        show Steps p.tables e below (T40.setTop (mkF m 108 #[.val (.long j0), .second, .val (.long j1), .second, .val (.long j2), .second, .val (.int p3), .val (.int p4), .val (.int p5), .val (.ref b1), .val (.int pp), .val (.int qq), .val (.int f1), .val (.int t1'), .val (.int uu), .unset, .unset, .unset, .unset, .unset, .unset, .unset, .unset, .unset, .unset, .unset, .unset] [])) _
        refine XS.iload X40.here hx rfl (hb hby at_108) rfl ?_
        show Steps p.tables e below (T40.setTop (mkF m 110 #[.val (.long j0), .second, .val (.long j1), .second, .val (.long j2), .second, .val (.int p3), .val (.int p4), .val (.int p5), .val (.ref b1), .val (.int pp), .val (.int qq), .val (.int f1), .val (.int t1'), .val (.int uu), .unset, .unset, .unset, .unset, .unset, .unset, .unset, .unset, .unset, .unset, .unset, .unset] [(.int p5)])) _
        refine XS.bipush X40.here hx rfl (hb hby at_110) ?_
        show Steps p.tables e below (T40.setTop (mkF m 112 #[.val (.long j0), .second, .val (.long j1), .second, .val (.long j2), .second, .val (.int p3), .val (.int p4), .val (.int p5), .val (.ref b1), .val (.int pp), .val (.int qq), .val (.int f1), .val (.int t1'), .val (.int uu), .unset, .unset, .unset, .unset, .unset, .unset, .unset, .unset, .unset, .unset, .unset, .unset] [(.int (16 : Int32)), (.int p5)])) _
        refine XS.iushr X40.here hx rfl (hb hby at_112) rfl ?_
        show Steps p.tables e below (T40.setTop (mkF m 113 #[.val (.long j0), .second, .val (.long j1), .second, .val (.long j2), .second, .val (.int p3), .val (.int p4), .val (.int p5), .val (.ref b1), .val (.int pp), .val (.int qq), .val (.int f1), .val (.int t1'), .val (.int uu), .unset, .unset, .unset, .unset, .unset, .unset, .unset, .unset, .unset, .unset, .unset, .unset] [(.int ((p5.toUInt32 >>> ((16 : Int32) &&& 31).toUInt32).toInt32))])) _
        refine XS.sipush X40.here hx rfl (hb hby at_113) ?_
        show Steps p.tables e below (T40.setTop (mkF m 116 #[.val (.long j0), .second, .val (.long j1), .second, .val (.long j2), .second, .val (.int p3), .val (.int p4), .val (.int p5), .val (.ref b1), .val (.int pp), .val (.int qq), .val (.int f1), .val (.int t1'), .val (.int uu), .unset, .unset, .unset, .unset, .unset, .unset, .unset, .unset, .unset, .unset, .unset, .unset] [(.int (32767 : Int32)), (.int ((p5.toUInt32 >>> ((16 : Int32) &&& 31).toUInt32).toInt32))])) _
        refine XS.iand X40.here hx rfl (hb hby at_116) rfl ?_
        show Steps p.tables e below (T40.setTop (mkF m 117 #[.val (.long j0), .second, .val (.long j1), .second, .val (.long j2), .second, .val (.int p3), .val (.int p4), .val (.int p5), .val (.ref b1), .val (.int pp), .val (.int qq), .val (.int f1), .val (.int t1'), .val (.int uu), .unset, .unset, .unset, .unset, .unset, .unset, .unset, .unset, .unset, .unset, .unset, .unset] [(.int (((p5.toUInt32 >>> ((16 : Int32) &&& 31).toUInt32).toInt32) &&& (32767 : Int32)))])) _
        refine XS.bipush X40.here hx rfl (hb hby at_117) ?_
        show Steps p.tables e below (T40.setTop (mkF m 119 #[.val (.long j0), .second, .val (.long j1), .second, .val (.long j2), .second, .val (.int p3), .val (.int p4), .val (.int p5), .val (.ref b1), .val (.int pp), .val (.int qq), .val (.int f1), .val (.int t1'), .val (.int uu), .unset, .unset, .unset, .unset, .unset, .unset, .unset, .unset, .unset, .unset, .unset, .unset] [(.int (7 : Int32)), (.int (((p5.toUInt32 >>> ((16 : Int32) &&& 31).toUInt32).toInt32) &&& (32767 : Int32)))])) _
        refine iremM X40 hx rfl (hb hby at_119) rfl (by decide) ?_
        show Steps p.tables e below (T40.setTop (mkF m 120 #[.val (.long j0), .second, .val (.long j1), .second, .val (.long j2), .second, .val (.int p3), .val (.int p4), .val (.int p5), .val (.ref b1), .val (.int pp), .val (.int qq), .val (.int f1), .val (.int t1'), .val (.int uu), .unset, .unset, .unset, .unset, .unset, .unset, .unset, .unset, .unset, .unset, .unset, .unset] [(.int ((((p5.toUInt32 >>> ((16 : Int32) &&& 31).toUInt32).toInt32) &&& (32767 : Int32)) % (7 : Int32)))])) _
        exact k
      obtain ⟨vv, hvv⟩ : ∃ z : Int32, z = ((((p5.toUInt32 >>> ((16 : Int32) &&& 31).toUInt32).toInt32) &&& (32767 : Int32)) % (7 : Int32)) := ⟨_, rfl⟩
      rw [← hvv] at pre43
      obtain ⟨s4, s5, s6⟩ := own_mm (own_s huu) (own_s hvv)
      obtain ⟨_, _, ⟨T44, L44, k44, n44⟩, -, X44, ⟨Lc44, hQ44, l44, y44, z44⟩, st44⟩ := Jvm.LawKit.callS X40 hx (y := (⟨"java/lang/Math", "min", "(II)I"⟩ : MethodName)) hown (mvT hZ (hw _ (List.mem_of_getElem? (i := 3) rfl))) (mvT hZ (hw _ (List.mem_of_getElem? (i := 4) rfl))) (mvT hZ (hw _ (List.mem_of_getElem? (i := 5) rfl))) (mvT hZ (hw _ (List.mem_of_getElem? (i := 6) rfl))) (by decide) (backOf (W := 0) (rmmin l Z a0 hw [] uu vv  h10 n0 (Nat.le_trans (Nat.le_trans (Nat.le_trans (Nat.le_trans Z0 E1.1) (Keep.of_wr W4).1) (Keep.of_wr W7).1) (Keep.of_wr W10).1) ) hZ (hw _ (List.mem_of_getElem? (i := 6) rfl)) (hw _ (List.mem_of_getElem? (i := 5) rfl)) (by decide) (by decide)) (g := (mkF m 126 #[.val (.long j0), .second, .val (.long j1), .second, .val (.long j2), .second, .val (.int p3), .val (.int p4), .val (.int p5), .val (.ref b1), .val (.int pp), .val (.int qq), .val (.int f1), .val (.int t1'), .val (.int uu), .val (.int vv), .unset, .unset, .unset, .unset, .unset, .unset, .unset, .unset, .unset, .unset, .unset] [(.int vv), (.int uu)])) rfl (by rw [hml]; rfl) (argsL := [(.int uu), (.int vv)]) (rest := []) (lenOf pd_2 rfl) rfl (by show 2 * 0 + _ ≤ _; exact Nat.le_of_eq rfl) (hb hby at_126) (fun _ _ => ⟨rfl, hq40, (by decide : 1 + 0 ≤ _), (by decide : 3 + 0 ≤ _)⟩)
      dsimp only [Pt.U, Pt.locs, Pt.cells, Pt.slots] at X44 l44 y44 z44 st44 hQ44
      subst l44 y44 z44
      obtain ⟨rfl, N44q, hq44⟩ := hQ44
      have N44 := Fr.app N40 N44q
      have pre45 : ∀ t, Steps p.tables e below (T44.setTop (mkF m 129 #[.val (.long j0), .second, .val (.long j1), .second, .val (.long j2), .second, .val (.int p3), .val (.int p4), .val (.int p5), .val (.ref b1), .val (.int pp), .val (.int qq), .val (.int f1), .val (.int t1'), .val (.int uu), .val (.int vv), .unset, .unset, .unset, .unset, .unset, .unset, .unset, .unset, .unset, .unset, .unset] [(.int (own_min uu vv))])) t → Steps p.tables e below (s₁.setTop (entryFrame m #[(.long j0), (.long j1), (.long j2), (.int p3), (.int p4), (.int p5)] maxLocals)) t := by
        intro t k
        refine pre43 t ?_
        show Steps p.tables e below (T40.setTop (mkF m 120 #[.val (.long j0), .second, .val (.long j1), .second, .val (.long j2), .second, .val (.int p3), .val (.int p4), .val (.int p5), .val (.ref b1), .val (.int pp), .val (.int qq), .val (.int f1), .val (.int t1'), .val (.int uu), .unset, .unset, .unset, .unset, .unset, .unset, .unset, .unset, .unset, .unset, .unset, .unset] [(.int vv)])) _
        refine XS.istore X40.here hx rfl (hb hby at_120) rfl (l' := #[.val (.long j0), .second, .val (.long j1), .second, .val (.long j2), .second, .val (.int p3), .val (.int p4), .val (.int p5), .val (.ref b1), .val (.int pp), .val (.int qq), .val (.int f1), .val (.int t1'), .val (.int uu), .val (.int vv), .unset, .unset, .unset, .unset, .unset, .unset, .unset, .unset, .unset, .unset, .unset]) rfl ?_
        show Steps p.tables e below (T40.setTop (mkF m 122 #[.val (.long j0), .second, .val (.long j1), .second, .val (.long j2), .second, .val (.int p3), .val (.int p4), .val (.int p5), .val (.ref b1), .val (.int pp), .val (.int qq), .val (.int f1), .val (.int t1'), .val (.int uu), .val (.int vv), .unset, .unset, .unset, .unset, .unset, .unset, .unset, .unset, .unset, .unset, .unset] [])) _
        refine XS.iload X40.here hx rfl (hb hby at_122) rfl ?_
        show Steps p.tables e below (T40.setTop (mkF m 124 #[.val (.long j0), .second, .val (.long j1), .second, .val (.long j2), .second, .val (.int p3), .val (.int p4), .val (.int p5), .val (.ref b1), .val (.int pp), .val (.int qq), .val (.int f1), .val (.int t1'), .val (.int uu), .val (.int vv), .unset, .unset, .unset, .unset, .unset, .unset, .unset, .unset, .unset, .unset, .unset] [(.int uu)])) _
        refine XS.iload X40.here hx rfl (hb hby at_124) rfl ?_
        show Steps p.tables e below (T40.setTop (mkF m 126 #[.val (.long j0), .second, .val (.long j1), .second, .val (.long j2), .second, .val (.int p3), .val (.int p4), .val (.int p5), .val (.ref b1), .val (.int pp), .val (.int qq), .val (.int f1), .val (.int t1'), .val (.int uu), .val (.int vv), .unset, .unset, .unset, .unset, .unset, .unset, .unset, .unset, .unset, .unset, .unset] [(.int vv), (.int uu)])) _
        refine st44 _ ?_
        show Steps p.tables e below (T44.setTop (mkF m 129 #[.val (.long j0), .second, .val (.long j1), .second, .val (.long j2), .second, .val (.int p3), .val (.int p4), .val (.int p5), .val (.ref b1), .val (.int pp), .val (.int qq), .val (.int f1), .val (.int t1'), .val (.int uu), .val (.int vv), .unset, .unset, .unset, .unset, .unset, .unset, .unset, .unset, .unset, .unset, .unset] [(.int (own_min uu vv))])) _
        exact k
      obtain ⟨f2, hf2⟩ : ∃ z : Int32, z = (own_min uu vv) := ⟨_, rfl⟩
      rw [← hf2] at pre45
      obtain ⟨_, _, ⟨T46, L46, k46, n46⟩, -, X46, ⟨Lc46, hQ46, l46, y46, z46⟩, st46⟩ := Jvm.LawKit.callS X44 hx (y := (⟨"java/lang/Math", "max", "(II)I"⟩ : MethodName)) hown (mvT hZ (hw _ (List.mem_of_getElem? (i := 7) rfl))) (mvT hZ (hw _ (List.mem_of_getElem? (i := 8) rfl))) (mvT hZ (hw _ (List.mem_of_getElem? (i := 5) rfl))) (mvT hZ (hw _ (List.mem_of_getElem? (i := 9) rfl))) (by decide) (backOf (W := 0) (rmmax l Z a0 hw [] uu vv  h10 n0 (Nat.le_trans (Nat.le_trans (Nat.le_trans (Nat.le_trans Z0 E1.1) (Keep.of_wr W4).1) (Keep.of_wr W7).1) (Keep.of_wr W10).1) ) hZ (hw _ (List.mem_of_getElem? (i := 9) rfl)) (hw _ (List.mem_of_getElem? (i := 5) rfl)) (by decide) (by decide)) (g := (mkF m 135 #[.val (.long j0), .second, .val (.long j1), .second, .val (.long j2), .second, .val (.int p3), .val (.int p4), .val (.int p5), .val (.ref b1), .val (.int pp), .val (.int qq), .val (.int f1), .val (.int t1'), .val (.int uu), .val (.int vv), .val (.int f2), .unset, .unset, .unset, .unset, .unset, .unset, .unset, .unset, .unset, .unset] [(.int vv), (.int uu)])) rfl (by rw [hml]; rfl) (argsL := [(.int uu), (.int vv)]) (rest := []) (lenOf pd_2 rfl) rfl (by show 2 * 0 + _ ≤ _; exact Nat.le_of_eq rfl) (hb hby at_135) (fun _ _ => ⟨rfl, hq44, (by decide : 1 + 0 ≤ _), (by decide : 3 + 0 ≤ _)⟩)
      dsimp only [Pt.U, Pt.locs, Pt.cells, Pt.slots] at X46 l46 y46 z46 st46 hQ46
      subst l46 y46 z46
      obtain ⟨rfl, N46q, hq46⟩ := hQ46
      have N46 := Fr.app N44 N46q
      have pre47 : ∀ t, Steps p.tables e below (T46.setTop (mkF m 138 #[.val (.long j0), .second, .val (.long j1), .second, .val (.long j2), .second, .val (.int p3), .val (.int p4), .val (.int p5), .val (.ref b1), .val (.int pp), .val (.int qq), .val (.int f1), .val (.int t1'), .val (.int uu), .val (.int vv), .val (.int f2), .unset, .unset, .unset, .unset, .unset, .unset, .unset, .unset, .unset, .unset] [(.int (own_max uu vv))])) t → Steps p.tables e below (s₁.setTop (entryFrame m #[(.long j0), (.long j1), (.long j2), (.int p3), (.int p4), (.int p5)] maxLocals)) t := by
        intro t k
        refine pre45 t ?_
        show Steps p.tables e below (T44.setTop (mkF m 129 #[.val (.long j0), .second, .val (.long j1), .second, .val (.long j2), .second, .val (.int p3), .val (.int p4), .val (.int p5), .val (.ref b1), .val (.int pp), .val (.int qq), .val (.int f1), .val (.int t1'), .val (.int uu), .val (.int vv), .unset, .unset, .unset, .unset, .unset, .unset, .unset, .unset, .unset, .unset, .unset] [(.int f2)])) _
        refine XS.istore X44.here hx rfl (hb hby at_129) rfl (l' := #[.val (.long j0), .second, .val (.long j1), .second, .val (.long j2), .second, .val (.int p3), .val (.int p4), .val (.int p5), .val (.ref b1), .val (.int pp), .val (.int qq), .val (.int f1), .val (.int t1'), .val (.int uu), .val (.int vv), .val (.int f2), .unset, .unset, .unset, .unset, .unset, .unset, .unset, .unset, .unset, .unset]) rfl ?_
        show Steps p.tables e below (T44.setTop (mkF m 131 #[.val (.long j0), .second, .val (.long j1), .second, .val (.long j2), .second, .val (.int p3), .val (.int p4), .val (.int p5), .val (.ref b1), .val (.int pp), .val (.int qq), .val (.int f1), .val (.int t1'), .val (.int uu), .val (.int vv), .val (.int f2), .unset, .unset, .unset, .unset, .unset, .unset, .unset, .unset, .unset, .unset] [])) _
        refine XS.iload X44.here hx rfl (hb hby at_131) rfl ?_
        show Steps p.tables e below (T44.setTop (mkF m 133 #[.val (.long j0), .second, .val (.long j1), .second, .val (.long j2), .second, .val (.int p3), .val (.int p4), .val (.int p5), .val (.ref b1), .val (.int pp), .val (.int qq), .val (.int f1), .val (.int t1'), .val (.int uu), .val (.int vv), .val (.int f2), .unset, .unset, .unset, .unset, .unset, .unset, .unset, .unset, .unset, .unset] [(.int uu)])) _
        refine XS.iload X44.here hx rfl (hb hby at_133) rfl ?_
        show Steps p.tables e below (T44.setTop (mkF m 135 #[.val (.long j0), .second, .val (.long j1), .second, .val (.long j2), .second, .val (.int p3), .val (.int p4), .val (.int p5), .val (.ref b1), .val (.int pp), .val (.int qq), .val (.int f1), .val (.int t1'), .val (.int uu), .val (.int vv), .val (.int f2), .unset, .unset, .unset, .unset, .unset, .unset, .unset, .unset, .unset, .unset] [(.int vv), (.int uu)])) _
        refine st46 _ ?_
        show Steps p.tables e below (T46.setTop (mkF m 138 #[.val (.long j0), .second, .val (.long j1), .second, .val (.long j2), .second, .val (.int p3), .val (.int p4), .val (.int p5), .val (.ref b1), .val (.int pp), .val (.int qq), .val (.int f1), .val (.int t1'), .val (.int uu), .val (.int vv), .val (.int f2), .unset, .unset, .unset, .unset, .unset, .unset, .unset, .unset, .unset, .unset] [(.int (own_max uu vv))])) _
        exact k
      obtain ⟨t2', ht2'⟩ : ∃ z : Int32, z = (own_max uu vv) := ⟨_, rfl⟩
      rw [← ht2'] at pre47
      rw [← hf1] at s1 s3
      rw [← ht1'] at s2 s3
      rw [← hf2] at s4 s6
      rw [← ht2'] at s5 s6
      obtain ⟨_, _, ⟨T48, L48, k48, n48⟩, -, X48, ⟨Lc48, hQ48, l48, y48, z48⟩, st48⟩ := Jvm.LawKit.callS X46 hx (y := (⟨"com/example/hummingbird/hummingbird/engine/RhythmWaitingPinLaw", "reference", "([JII)J"⟩ : MethodName)) hown (mvT hZ (hw _ (List.mem_of_getElem? (i := 10) rfl))) (mvT hZ (hw _ (List.mem_of_getElem? (i := 11) rfl))) (mvT hZ (hw _ (List.mem_of_getElem? (i := 12) rfl))) (mvT hZ (hw _ (List.mem_of_getElem? (i := 13) rfl))) (by decide) (backOf (W := 0) (rmRef l Z a0 hw [] b1 f1 t1' cl11 r0 r1 r2 h10 n0 (Nat.le_trans (Nat.le_trans (Nat.le_trans (Nat.le_trans Z0 E1.1) (Keep.of_wr W4).1) (Keep.of_wr W7).1) (Keep.of_wr W10).1) Ar11 S11 t0 t1 t2) hZ (hw _ (List.mem_of_getElem? (i := 13) rfl)) (hw _ (List.mem_of_getElem? (i := 12) rfl)) (by decide) (by decide)) (g := (mkF m 146 #[.val (.long j0), .second, .val (.long j1), .second, .val (.long j2), .second, .val (.int p3), .val (.int p4), .val (.int p5), .val (.ref b1), .val (.int pp), .val (.int qq), .val (.int f1), .val (.int t1'), .val (.int uu), .val (.int vv), .val (.int f2), .val (.int t2'), .unset, .unset, .unset, .unset, .unset, .unset, .unset, .unset, .unset] [(.int t1'), (.int f1), (.ref b1)])) rfl (by rw [hml]; rfl) (argsL := [(.ref b1), (.int f1), (.int t1')]) (rest := []) (lenOf pd_3 rfl) rfl (by show 2 * 0 + _ ≤ _; exact Nat.le_of_eq rfl) (hb hby at_146) (fun _ _ => ⟨rfl, hq46, (by decide : 1 + 0 ≤ _), (by decide : 3 + 0 ≤ _)⟩)
      dsimp only [Pt.U, Pt.locs, Pt.cells, Pt.slots] at X48 l48 y48 z48 st48 hQ48
      subst l48 y48 z48
      obtain ⟨rfl, N48q, hq48⟩ := hQ48
      have N48 := Fr.app N46 N48q
      obtain ⟨_, _, ⟨T49, L49, k49, n49⟩, -, X49, ⟨Lc49, hQ49, l49, y49, z49⟩, st49⟩ := Jvm.LawKit.callS X48 hx (y := (⟨"com/example/hummingbird/hummingbird/engine/RhythmWaitingPinLaw", "reference", "([JII)J"⟩ : MethodName)) hown (mvT hZ (hw _ (List.mem_of_getElem? (i := 10) rfl))) (mvT hZ (hw _ (List.mem_of_getElem? (i := 11) rfl))) (mvT hZ (hw _ (List.mem_of_getElem? (i := 12) rfl))) (mvT hZ (hw _ (List.mem_of_getElem? (i := 13) rfl))) (by decide) (backOf (W := 0) (rmRef l Z a0 hw [] b1 f2 t2' cl11 r0 r1 r2 h10 n0 (Nat.le_trans (Nat.le_trans (Nat.le_trans (Nat.le_trans Z0 E1.1) (Keep.of_wr W4).1) (Keep.of_wr W7).1) (Keep.of_wr W10).1) Ar11 S11 t0 t1 t2) hZ (hw _ (List.mem_of_getElem? (i := 13) rfl)) (hw _ (List.mem_of_getElem? (i := 12) rfl)) (by decide) (by decide)) (g := (mkF m 157 #[.val (.long j0), .second, .val (.long j1), .second, .val (.long j2), .second, .val (.int p3), .val (.int p4), .val (.int p5), .val (.ref b1), .val (.int pp), .val (.int qq), .val (.int f1), .val (.int t1'), .val (.int uu), .val (.int vv), .val (.int f2), .val (.int t2'), .val (.long (own_ref f1 t1' r0 r1 r2)), .second, .unset, .unset, .unset, .unset, .unset, .unset, .unset] [(.int t2'), (.int f2), (.ref b1)])) rfl (by rw [hml]; rfl) (argsL := [(.ref b1), (.int f2), (.int t2')]) (rest := []) (lenOf pd_3 rfl) rfl (by show 2 * 0 + _ ≤ _; exact Nat.le_of_eq rfl) (hb hby at_157) (fun _ _ => ⟨rfl, hq48, (by decide : 1 + 0 ≤ _), (by decide : 3 + 0 ≤ _)⟩)
      dsimp only [Pt.U, Pt.locs, Pt.cells, Pt.slots] at X49 l49 y49 z49 st49 hQ49
      subst l49 y49 z49
      obtain ⟨rfl, N49q, hq49⟩ := hQ49
      have N49 := Fr.app N48 N49q
      obtain ⟨T50, h50, X50, e50, E50, A50, D50, -, st50⟩ := newO X49 hx hZ hown (hw _ (List.mem_of_getElem? (i := 19) rfl)) (hw _ (List.mem_of_getElem? (i := 20) rfl)) (hw _ (List.mem_of_getElem? (i := 21) rfl)) hq49 (g := (mkF m 162 #[.val (.long j0), .second, .val (.long j1), .second, .val (.long j2), .second, .val (.int p3), .val (.int p4), .val (.int p5), .val (.ref b1), .val (.int pp), .val (.int qq), .val (.int f1), .val (.int t1'), .val (.int uu), .val (.int vv), .val (.int f2), .val (.int t2'), .val (.long (own_ref f1 t1' r0 r1 r2)), .second, .val (.long (own_ref f2 t2' r0 r1 r2)), .second, .unset, .unset, .unset, .unset, .unset] [])) rfl (hb hby at_162) (by decide) (by decide)
      obtain ⟨b50, g50⟩ : ∃ z, z = h10.size := ⟨_, rfl⟩
      rw [← g50] at A50 D50 st50
      have ne_b1_b50 : b1 ≠ b50 := Nat.ne_of_lt (Nat.lt_of_lt_of_le V10.lt (Nat.le_of_eq g50.symm))
      have F50_points : Fld Z h50 b50 "com/example/hummingbird/hummingbird/engine/Rhythm" "points" "I" (.int (0 : Int32)) := D50 (Or.inr (hw _ (List.mem_of_getElem? (i := 29) rfl))) (ty := .int) (by decide)
      have F50_rates : Fld Z h50 b50 "com/example/hummingbird/hummingbird/engine/Rhythm" "rates" "[J" .null := D50 (Or.inr (hw _ (List.mem_of_getElem? (i := 31) rfl))) (ty := (.array .long)) (by decide)
      have F50_mass : Fld Z h50 b50 "com/example/hummingbird/hummingbird/engine/Rhythm" "mass" "[D" .null := D50 (Or.inl (hw _ (List.mem_of_getElem? (i := 38) rfl))) (ty := (.array .double)) (by decide)
      have F50_moment : Fld Z h50 b50 "com/example/hummingbird/hummingbird/engine/Rhythm" "moment" "[D" .null := D50 (Or.inl (hw _ (List.mem_of_getElem? (i := 45) rfl))) (ty := (.array .double)) (by decide)
      have g_b50 : n0 ≤ b50 := Nat.le_trans (Nat.le_trans (Nat.le_trans (Nat.le_trans (Nat.le_trans Z0 E1.1) (Keep.of_wr W4).1) (Keep.of_wr W7).1) (Keep.of_wr W10).1) (Nat.le_of_eq g50.symm)
      have sz_b50 : h0.size ≤ b50 := (Nat.le_trans K10.1 (Nat.le_of_eq g50.symm))
      have K50 : Keep h0 h50 [] := K10.ext E50
      obtain ⟨_, _, ⟨T51, L51, k51, n51⟩, -, X51, ⟨Lc51, hQ51, l51, y51, z51⟩, st51⟩ := X50.specialBack hx (y := (⟨"com/example/hummingbird/hummingbird/engine/Rhythm", "<init>", "([J)V"⟩ : MethodName)) rfl hown (mvT hZ (hw _ (List.mem_of_getElem? (i := 22) rfl))) (mvT hZ (hw _ (List.mem_of_getElem? (i := 23) rfl))) (mvT hZ (hw _ (List.mem_of_getElem? (i := 24) rfl))) (by decide) (backOf (W := 1) (rmI l Z a0 hw [] b50 b1 cl11 (3 : Int32) h50 n0 (Nat.le_trans (Nat.le_trans (Nat.le_trans (Nat.le_trans (Nat.le_trans Z0 E1.1) (Keep.of_wr W4).1) (Keep.of_wr W7).1) (Keep.of_wr W10).1) E50.1) F50_points F50_rates F50_mass F50_moment A50 g_b50 (Ar11.ext E50) S11 M11) hZ (hw _ (List.mem_of_getElem? (i := 24) rfl)) (hw _ (List.mem_of_getElem? (i := 21) rfl)) (by decide) (by decide)) (g := (mkF m 168 #[.val (.long j0), .second, .val (.long j1), .second, .val (.long j2), .second, .val (.int p3), .val (.int p4), .val (.int p5), .val (.ref b1), .val (.int pp), .val (.int qq), .val (.int f1), .val (.int t1'), .val (.int uu), .val (.int vv), .val (.int f2), .val (.int t2'), .val (.long (own_ref f1 t1' r0 r1 r2)), .second, .val (.long (own_ref f2 t2' r0 r1 r2)), .second, .unset, .unset, .unset, .unset, .unset] [(.ref b1), (.ref b50), (.ref b50)])) rfl (by rw [hml]; rfl) (Steps.refl _) (a := b50) (argsL := [(.ref b1)]) (rest := [(.ref b50)]) (lenOf pd_4 rfl) rfl (by show 2 * 0 + _ ≤ _; exact Nat.le_of_eq rfl) (hb hby at_168) (fun _ _ => ⟨rfl, e50, (by decide : 2 + 0 ≤ _), (by decide : 7 + 0 ≤ _)⟩)
      dsimp only [Pt.U, Pt.locs, Pt.cells, Pt.slots] at X51 l51 y51 z51 st51 hQ51
      subst l51 y51 z51
      obtain ⟨rfl, N51q, Kq51, Eq51, G0q51, G1q51, G2q51, G3q51⟩ := hQ51
      have N51 := Fr.app N49 N51q
      have K51 : Keep h0 T51.heap [] := K50.trans Kq51 (allS (Or.inr sz_b50) all0)
      obtain ⟨cl52, Ar52, q52, S52, M52, H52, G52⟩ := id ((V10.ext E50).keep Kq51 (ninS ne_b1_b50 nin0))
      have u0 : cl52.slots[0]? = some (.long r0) := H52 0 (by rw [S52]; decide)
      have u1 : cl52.slots[1]? = some (.long r1) := H52 1 (by rw [S52]; decide)
      have u2 : cl52.slots[2]? = some (.long r2) := H52 2 (by rw [S52]; decide)
      obtain ⟨cq53, kq53, q53a, q53b, q53c⟩ := isOf hZ rfl Eq51
      obtain ⟨_, _, ⟨T53, L53, k53, n53⟩, -, X53, ⟨Lc53, hQ53, l53, y53, z53⟩, st53⟩ := X51.virtualBack hx (y := (⟨"com/example/hummingbird/hummingbird/engine/Rhythm", "waiting", "(II)D"⟩ : MethodName)) (z := (⟨"com/example/hummingbird/hummingbird/engine/Rhythm", "waiting", "(II)D"⟩ : MethodName)) hown (mvT hZ (hw _ (List.mem_of_getElem? (i := 32) rfl))) (mvT hZ (hw _ (List.mem_of_getElem? (i := 33) rfl))) (notFace_of_selects (args := #[]) (mvT hZ (hw _ (List.mem_of_getElem? (i := 35) rfl)))) (mvT hZ (hw _ (List.mem_of_getElem? (i := 35) rfl))) (mvT hZ (hw _ (List.mem_of_getElem? (i := 34) rfl))) (by decide) (backOf (W := 0) (rmWa l Z a0 hw [] b50 f1 t1' b1 cl52 r0 r1 r2 T51.heap n0 (Nat.le_trans (Nat.le_trans (Nat.le_trans (Nat.le_trans (Nat.le_trans (Nat.le_trans Z0 E1.1) (Keep.of_wr W4).1) (Keep.of_wr W7).1) (Keep.of_wr W10).1) E50.1) Kq51.1) G0q51 G1q51 G2q51 G3q51 Eq51 g_b50 ne_b1_b50 Ar52 S52 u0 u1 u2 Hr0 Hr1 Hr2 s1 s2 s3) hZ (hw _ (List.mem_of_getElem? (i := 36) rfl)) (hw _ (List.mem_of_getElem? (i := 21) rfl)) (by decide) (by decide)) q53a q53c (g := (mkF m 179 #[.val (.long j0), .second, .val (.long j1), .second, .val (.long j2), .second, .val (.int p3), .val (.int p4), .val (.int p5), .val (.ref b1), .val (.int pp), .val (.int qq), .val (.int f1), .val (.int t1'), .val (.int uu), .val (.int vv), .val (.int f2), .val (.int t2'), .val (.long (own_ref f1 t1' r0 r1 r2)), .second, .val (.long (own_ref f2 t2' r0 r1 r2)), .second, .val (.ref b50), .unset, .unset, .unset, .unset] [(.int t1'), (.int f1), (.ref b50)])) rfl (by rw [hml]; rfl) (Steps.refl _) (argsL := [(.int f1), (.int t1')]) (rest := []) (lenOf pd_5 rfl) rfl (by show 2 * 0 + _ ≤ _; exact Nat.le_of_eq rfl) (hb hby at_179) (fun _ _ => ⟨rfl, rfl, (by decide : 2 + 2 ≤ _), (by decide : 7 + 14 ≤ _)⟩)
      dsimp only [Pt.U, Pt.locs, Pt.cells, Pt.slots] at X53 l53 y53 z53 st53 hQ53
      subst l53 y53 z53
      obtain ⟨bm, km, bq, kq, m1, m2, m3, m4, m5, m6, w1, w2, w3, w4, w5, w6, rfl, N53q, Kq53, Eq53, G0q53, G1q53, G2q53, G3q53, V1, V2, hI⟩ := hQ53
      have N53 := Fr.app N51 N53q
      have K53 : Keep h0 T53.heap [] := K51.trans Kq53 (allS (Or.inr sz_b50) all0)
      obtain ⟨cq54, kq54, q54a, q54b, q54c⟩ := isOf hZ rfl Eq53
      obtain ⟨_, _, ⟨T54, L54, k54, n54⟩, -, X54, ⟨Lc54, hQ54, l54, y54, z54⟩, st54⟩ := X53.virtualBack hx (y := (⟨"com/example/hummingbird/hummingbird/engine/Rhythm", "waiting", "(II)D"⟩ : MethodName)) (z := (⟨"com/example/hummingbird/hummingbird/engine/Rhythm", "waiting", "(II)D"⟩ : MethodName)) hown (mvT hZ (hw _ (List.mem_of_getElem? (i := 32) rfl))) (mvT hZ (hw _ (List.mem_of_getElem? (i := 33) rfl))) (notFace_of_selects (args := #[]) (mvT hZ (hw _ (List.mem_of_getElem? (i := 35) rfl)))) (mvT hZ (hw _ (List.mem_of_getElem? (i := 35) rfl))) (mvT hZ (hw _ (List.mem_of_getElem? (i := 34) rfl))) (by decide) (backOf (W := 0) (rmWb l Z a0 hw [] b50 f2 t2' r0 r1 r2 bm km bq kq m1 m2 m3 m4 m5 m6 w1 w2 w3 w4 w5 w6 T53.heap n0 (Nat.le_trans (Nat.le_trans (Nat.le_trans (Nat.le_trans (Nat.le_trans (Nat.le_trans (Nat.le_trans Z0 E1.1) (Keep.of_wr W4).1) (Keep.of_wr W7).1) (Keep.of_wr W10).1) E50.1) Kq51.1) Kq53.1) G2q53 G3q53 V1 V2 hI Hr0 Hr1 Hr2 s4 s5 s6) hZ (hw _ (List.mem_of_getElem? (i := 36) rfl)) (hw _ (List.mem_of_getElem? (i := 21) rfl)) (by decide) (by decide)) q54a q54c (g := (mkF m 190 #[.val (.long j0), .second, .val (.long j1), .second, .val (.long j2), .second, .val (.int p3), .val (.int p4), .val (.int p5), .val (.ref b1), .val (.int pp), .val (.int qq), .val (.int f1), .val (.int t1'), .val (.int uu), .val (.int vv), .val (.int f2), .val (.int t2'), .val (.long (own_ref f1 t1' r0 r1 r2)), .second, .val (.long (own_ref f2 t2' r0 r1 r2)), .second, .val (.ref b50), .val (.double (FP.l2d (own_ref f1 t1' r0 r1 r2))), .second, .unset, .unset] [(.int t2'), (.int f2), (.ref b50)])) rfl (by rw [hml]; rfl) (Steps.refl _) (argsL := [(.int f2), (.int t2')]) (rest := []) (lenOf pd_5 rfl) rfl (by show 2 * 0 + _ ≤ _; exact Nat.le_of_eq rfl) (hb hby at_190) (fun _ _ => ⟨rfl, rfl, (by decide : 4 + 0 ≤ _), (by decide : 21 + 0 ≤ _)⟩)
      dsimp only [Pt.U, Pt.locs, Pt.cells, Pt.slots] at X54 l54 y54 z54 st54 hQ54
      subst l54 y54 z54
      obtain ⟨rfl, N54q, hq54⟩ := hQ54
      have N54 := Fr.app N53 N54q
      have pre55 : ∀ t, Steps p.tables e below (T54.setTop (mkF m 218 #[.val (.long j0), .second, .val (.long j1), .second, .val (.long j2), .second, .val (.int p3), .val (.int p4), .val (.int p5), .val (.ref b1), .val (.int pp), .val (.int qq), .val (.int f1), .val (.int t1'), .val (.int uu), .val (.int vv), .val (.int f2), .val (.int t2'), .val (.long (own_ref f1 t1' r0 r1 r2)), .second, .val (.long (own_ref f2 t2' r0 r1 r2)), .second, .val (.ref b50), .val (.double (FP.l2d (own_ref f1 t1' r0 r1 r2))), .second, .val (.double (FP.l2d (own_ref f2 t2' r0 r1 r2))), .second] [(.int (1 : Int32))])) t → Steps p.tables e below (s₁.setTop (entryFrame m #[(.long j0), (.long j1), (.long j2), (.int p3), (.int p4), (.int p5)] maxLocals)) t := by
        intro t k
        refine pre47 t ?_
        show Steps p.tables e below (T46.setTop (mkF m 138 #[.val (.long j0), .second, .val (.long j1), .second, .val (.long j2), .second, .val (.int p3), .val (.int p4), .val (.int p5), .val (.ref b1), .val (.int pp), .val (.int qq), .val (.int f1), .val (.int t1'), .val (.int uu), .val (.int vv), .val (.int f2), .unset, .unset, .unset, .unset, .unset, .unset, .unset, .unset, .unset, .unset] [(.int t2')])) _
        refine XS.istore X46.here hx rfl (hb hby at_138) rfl (l' := #[.val (.long j0), .second, .val (.long j1), .second, .val (.long j2), .second, .val (.int p3), .val (.int p4), .val (.int p5), .val (.ref b1), .val (.int pp), .val (.int qq), .val (.int f1), .val (.int t1'), .val (.int uu), .val (.int vv), .val (.int f2), .val (.int t2'), .unset, .unset, .unset, .unset, .unset, .unset, .unset, .unset, .unset]) rfl ?_
        show Steps p.tables e below (T46.setTop (mkF m 140 #[.val (.long j0), .second, .val (.long j1), .second, .val (.long j2), .second, .val (.int p3), .val (.int p4), .val (.int p5), .val (.ref b1), .val (.int pp), .val (.int qq), .val (.int f1), .val (.int t1'), .val (.int uu), .val (.int vv), .val (.int f2), .val (.int t2'), .unset, .unset, .unset, .unset, .unset, .unset, .unset, .unset, .unset] [])) _
        refine XS.aload X46.here hx rfl (hb hby at_140) rfl (rfl) ?_
        show Steps p.tables e below (T46.setTop (mkF m 142 #[.val (.long j0), .second, .val (.long j1), .second, .val (.long j2), .second, .val (.int p3), .val (.int p4), .val (.int p5), .val (.ref b1), .val (.int pp), .val (.int qq), .val (.int f1), .val (.int t1'), .val (.int uu), .val (.int vv), .val (.int f2), .val (.int t2'), .unset, .unset, .unset, .unset, .unset, .unset, .unset, .unset, .unset] [(.ref b1)])) _
        refine XS.iload X46.here hx rfl (hb hby at_142) rfl ?_
        show Steps p.tables e below (T46.setTop (mkF m 144 #[.val (.long j0), .second, .val (.long j1), .second, .val (.long j2), .second, .val (.int p3), .val (.int p4), .val (.int p5), .val (.ref b1), .val (.int pp), .val (.int qq), .val (.int f1), .val (.int t1'), .val (.int uu), .val (.int vv), .val (.int f2), .val (.int t2'), .unset, .unset, .unset, .unset, .unset, .unset, .unset, .unset, .unset] [(.int f1), (.ref b1)])) _
        refine XS.iload X46.here hx rfl (hb hby at_144) rfl ?_
        show Steps p.tables e below (T46.setTop (mkF m 146 #[.val (.long j0), .second, .val (.long j1), .second, .val (.long j2), .second, .val (.int p3), .val (.int p4), .val (.int p5), .val (.ref b1), .val (.int pp), .val (.int qq), .val (.int f1), .val (.int t1'), .val (.int uu), .val (.int vv), .val (.int f2), .val (.int t2'), .unset, .unset, .unset, .unset, .unset, .unset, .unset, .unset, .unset] [(.int t1'), (.int f1), (.ref b1)])) _
        refine st48 _ ?_
        show Steps p.tables e below (T48.setTop (mkF m 149 #[.val (.long j0), .second, .val (.long j1), .second, .val (.long j2), .second, .val (.int p3), .val (.int p4), .val (.int p5), .val (.ref b1), .val (.int pp), .val (.int qq), .val (.int f1), .val (.int t1'), .val (.int uu), .val (.int vv), .val (.int f2), .val (.int t2'), .unset, .unset, .unset, .unset, .unset, .unset, .unset, .unset, .unset] [(.long (own_ref f1 t1' r0 r1 r2))])) _
        refine XS.lstore X48.here hx rfl (hb hby at_149) rfl (l' := #[.val (.long j0), .second, .val (.long j1), .second, .val (.long j2), .second, .val (.int p3), .val (.int p4), .val (.int p5), .val (.ref b1), .val (.int pp), .val (.int qq), .val (.int f1), .val (.int t1'), .val (.int uu), .val (.int vv), .val (.int f2), .val (.int t2'), .val (.long (own_ref f1 t1' r0 r1 r2)), .second, .unset, .unset, .unset, .unset, .unset, .unset, .unset]) rfl ?_
        show Steps p.tables e below (T48.setTop (mkF m 151 #[.val (.long j0), .second, .val (.long j1), .second, .val (.long j2), .second, .val (.int p3), .val (.int p4), .val (.int p5), .val (.ref b1), .val (.int pp), .val (.int qq), .val (.int f1), .val (.int t1'), .val (.int uu), .val (.int vv), .val (.int f2), .val (.int t2'), .val (.long (own_ref f1 t1' r0 r1 r2)), .second, .unset, .unset, .unset, .unset, .unset, .unset, .unset] [])) _
        refine XS.aload X48.here hx rfl (hb hby at_151) rfl (rfl) ?_
        show Steps p.tables e below (T48.setTop (mkF m 153 #[.val (.long j0), .second, .val (.long j1), .second, .val (.long j2), .second, .val (.int p3), .val (.int p4), .val (.int p5), .val (.ref b1), .val (.int pp), .val (.int qq), .val (.int f1), .val (.int t1'), .val (.int uu), .val (.int vv), .val (.int f2), .val (.int t2'), .val (.long (own_ref f1 t1' r0 r1 r2)), .second, .unset, .unset, .unset, .unset, .unset, .unset, .unset] [(.ref b1)])) _
        refine XS.iload X48.here hx rfl (hb hby at_153) rfl ?_
        show Steps p.tables e below (T48.setTop (mkF m 155 #[.val (.long j0), .second, .val (.long j1), .second, .val (.long j2), .second, .val (.int p3), .val (.int p4), .val (.int p5), .val (.ref b1), .val (.int pp), .val (.int qq), .val (.int f1), .val (.int t1'), .val (.int uu), .val (.int vv), .val (.int f2), .val (.int t2'), .val (.long (own_ref f1 t1' r0 r1 r2)), .second, .unset, .unset, .unset, .unset, .unset, .unset, .unset] [(.int f2), (.ref b1)])) _
        refine XS.iload X48.here hx rfl (hb hby at_155) rfl ?_
        show Steps p.tables e below (T48.setTop (mkF m 157 #[.val (.long j0), .second, .val (.long j1), .second, .val (.long j2), .second, .val (.int p3), .val (.int p4), .val (.int p5), .val (.ref b1), .val (.int pp), .val (.int qq), .val (.int f1), .val (.int t1'), .val (.int uu), .val (.int vv), .val (.int f2), .val (.int t2'), .val (.long (own_ref f1 t1' r0 r1 r2)), .second, .unset, .unset, .unset, .unset, .unset, .unset, .unset] [(.int t2'), (.int f2), (.ref b1)])) _
        refine st49 _ ?_
        show Steps p.tables e below (T49.setTop (mkF m 160 #[.val (.long j0), .second, .val (.long j1), .second, .val (.long j2), .second, .val (.int p3), .val (.int p4), .val (.int p5), .val (.ref b1), .val (.int pp), .val (.int qq), .val (.int f1), .val (.int t1'), .val (.int uu), .val (.int vv), .val (.int f2), .val (.int t2'), .val (.long (own_ref f1 t1' r0 r1 r2)), .second, .unset, .unset, .unset, .unset, .unset, .unset, .unset] [(.long (own_ref f2 t2' r0 r1 r2))])) _
        refine XS.lstore X49.here hx rfl (hb hby at_160) rfl (l' := #[.val (.long j0), .second, .val (.long j1), .second, .val (.long j2), .second, .val (.int p3), .val (.int p4), .val (.int p5), .val (.ref b1), .val (.int pp), .val (.int qq), .val (.int f1), .val (.int t1'), .val (.int uu), .val (.int vv), .val (.int f2), .val (.int t2'), .val (.long (own_ref f1 t1' r0 r1 r2)), .second, .val (.long (own_ref f2 t2' r0 r1 r2)), .second, .unset, .unset, .unset, .unset, .unset]) rfl ?_
        show Steps p.tables e below (T49.setTop (mkF m 162 #[.val (.long j0), .second, .val (.long j1), .second, .val (.long j2), .second, .val (.int p3), .val (.int p4), .val (.int p5), .val (.ref b1), .val (.int pp), .val (.int qq), .val (.int f1), .val (.int t1'), .val (.int uu), .val (.int vv), .val (.int f2), .val (.int t2'), .val (.long (own_ref f1 t1' r0 r1 r2)), .second, .val (.long (own_ref f2 t2' r0 r1 r2)), .second, .unset, .unset, .unset, .unset, .unset] [])) _
        refine st50 _ ?_
        show Steps p.tables e below (T50.setTop (mkF m 165 #[.val (.long j0), .second, .val (.long j1), .second, .val (.long j2), .second, .val (.int p3), .val (.int p4), .val (.int p5), .val (.ref b1), .val (.int pp), .val (.int qq), .val (.int f1), .val (.int t1'), .val (.int uu), .val (.int vv), .val (.int f2), .val (.int t2'), .val (.long (own_ref f1 t1' r0 r1 r2)), .second, .val (.long (own_ref f2 t2' r0 r1 r2)), .second, .unset, .unset, .unset, .unset, .unset] [(.ref b50)])) _
        refine XS.dup X50.here hx rfl (hb hby at_165) rfl rfl ?_
        show Steps p.tables e below (T50.setTop (mkF m 166 #[.val (.long j0), .second, .val (.long j1), .second, .val (.long j2), .second, .val (.int p3), .val (.int p4), .val (.int p5), .val (.ref b1), .val (.int pp), .val (.int qq), .val (.int f1), .val (.int t1'), .val (.int uu), .val (.int vv), .val (.int f2), .val (.int t2'), .val (.long (own_ref f1 t1' r0 r1 r2)), .second, .val (.long (own_ref f2 t2' r0 r1 r2)), .second, .unset, .unset, .unset, .unset, .unset] [(.ref b50), (.ref b50)])) _
        refine XS.aload X50.here hx rfl (hb hby at_166) rfl (rfl) ?_
        show Steps p.tables e below (T50.setTop (mkF m 168 #[.val (.long j0), .second, .val (.long j1), .second, .val (.long j2), .second, .val (.int p3), .val (.int p4), .val (.int p5), .val (.ref b1), .val (.int pp), .val (.int qq), .val (.int f1), .val (.int t1'), .val (.int uu), .val (.int vv), .val (.int f2), .val (.int t2'), .val (.long (own_ref f1 t1' r0 r1 r2)), .second, .val (.long (own_ref f2 t2' r0 r1 r2)), .second, .unset, .unset, .unset, .unset, .unset] [(.ref b1), (.ref b50), (.ref b50)])) _
        refine st51.trans ?_
        show Steps p.tables e below (T51.setTop (mkF m 171 #[.val (.long j0), .second, .val (.long j1), .second, .val (.long j2), .second, .val (.int p3), .val (.int p4), .val (.int p5), .val (.ref b1), .val (.int pp), .val (.int qq), .val (.int f1), .val (.int t1'), .val (.int uu), .val (.int vv), .val (.int f2), .val (.int t2'), .val (.long (own_ref f1 t1' r0 r1 r2)), .second, .val (.long (own_ref f2 t2' r0 r1 r2)), .second, .unset, .unset, .unset, .unset, .unset] [(.ref b50)])) _
        refine XS.astore X51.here hx rfl (hb hby at_171) rfl (rfl) (l' := #[.val (.long j0), .second, .val (.long j1), .second, .val (.long j2), .second, .val (.int p3), .val (.int p4), .val (.int p5), .val (.ref b1), .val (.int pp), .val (.int qq), .val (.int f1), .val (.int t1'), .val (.int uu), .val (.int vv), .val (.int f2), .val (.int t2'), .val (.long (own_ref f1 t1' r0 r1 r2)), .second, .val (.long (own_ref f2 t2' r0 r1 r2)), .second, .val (.ref b50), .unset, .unset, .unset, .unset]) rfl ?_
        show Steps p.tables e below (T51.setTop (mkF m 173 #[.val (.long j0), .second, .val (.long j1), .second, .val (.long j2), .second, .val (.int p3), .val (.int p4), .val (.int p5), .val (.ref b1), .val (.int pp), .val (.int qq), .val (.int f1), .val (.int t1'), .val (.int uu), .val (.int vv), .val (.int f2), .val (.int t2'), .val (.long (own_ref f1 t1' r0 r1 r2)), .second, .val (.long (own_ref f2 t2' r0 r1 r2)), .second, .val (.ref b50), .unset, .unset, .unset, .unset] [])) _
        refine XS.aload X51.here hx rfl (hb hby at_173) rfl (rfl) ?_
        show Steps p.tables e below (T51.setTop (mkF m 175 #[.val (.long j0), .second, .val (.long j1), .second, .val (.long j2), .second, .val (.int p3), .val (.int p4), .val (.int p5), .val (.ref b1), .val (.int pp), .val (.int qq), .val (.int f1), .val (.int t1'), .val (.int uu), .val (.int vv), .val (.int f2), .val (.int t2'), .val (.long (own_ref f1 t1' r0 r1 r2)), .second, .val (.long (own_ref f2 t2' r0 r1 r2)), .second, .val (.ref b50), .unset, .unset, .unset, .unset] [(.ref b50)])) _
        refine XS.iload X51.here hx rfl (hb hby at_175) rfl ?_
        show Steps p.tables e below (T51.setTop (mkF m 177 #[.val (.long j0), .second, .val (.long j1), .second, .val (.long j2), .second, .val (.int p3), .val (.int p4), .val (.int p5), .val (.ref b1), .val (.int pp), .val (.int qq), .val (.int f1), .val (.int t1'), .val (.int uu), .val (.int vv), .val (.int f2), .val (.int t2'), .val (.long (own_ref f1 t1' r0 r1 r2)), .second, .val (.long (own_ref f2 t2' r0 r1 r2)), .second, .val (.ref b50), .unset, .unset, .unset, .unset] [(.int f1), (.ref b50)])) _
        refine XS.iload X51.here hx rfl (hb hby at_177) rfl ?_
        show Steps p.tables e below (T51.setTop (mkF m 179 #[.val (.long j0), .second, .val (.long j1), .second, .val (.long j2), .second, .val (.int p3), .val (.int p4), .val (.int p5), .val (.ref b1), .val (.int pp), .val (.int qq), .val (.int f1), .val (.int t1'), .val (.int uu), .val (.int vv), .val (.int f2), .val (.int t2'), .val (.long (own_ref f1 t1' r0 r1 r2)), .second, .val (.long (own_ref f2 t2' r0 r1 r2)), .second, .val (.ref b50), .unset, .unset, .unset, .unset] [(.int t1'), (.int f1), (.ref b50)])) _
        refine st53.trans ?_
        show Steps p.tables e below (T53.setTop (mkF m 182 #[.val (.long j0), .second, .val (.long j1), .second, .val (.long j2), .second, .val (.int p3), .val (.int p4), .val (.int p5), .val (.ref b1), .val (.int pp), .val (.int qq), .val (.int f1), .val (.int t1'), .val (.int uu), .val (.int vv), .val (.int f2), .val (.int t2'), .val (.long (own_ref f1 t1' r0 r1 r2)), .second, .val (.long (own_ref f2 t2' r0 r1 r2)), .second, .val (.ref b50), .unset, .unset, .unset, .unset] [(.double (FP.l2d (own_ref f1 t1' r0 r1 r2)))])) _
        refine XS.dstore X53.here hx rfl (hb hby at_182) rfl (l' := #[.val (.long j0), .second, .val (.long j1), .second, .val (.long j2), .second, .val (.int p3), .val (.int p4), .val (.int p5), .val (.ref b1), .val (.int pp), .val (.int qq), .val (.int f1), .val (.int t1'), .val (.int uu), .val (.int vv), .val (.int f2), .val (.int t2'), .val (.long (own_ref f1 t1' r0 r1 r2)), .second, .val (.long (own_ref f2 t2' r0 r1 r2)), .second, .val (.ref b50), .val (.double (FP.l2d (own_ref f1 t1' r0 r1 r2))), .second, .unset, .unset]) rfl ?_
        show Steps p.tables e below (T53.setTop (mkF m 184 #[.val (.long j0), .second, .val (.long j1), .second, .val (.long j2), .second, .val (.int p3), .val (.int p4), .val (.int p5), .val (.ref b1), .val (.int pp), .val (.int qq), .val (.int f1), .val (.int t1'), .val (.int uu), .val (.int vv), .val (.int f2), .val (.int t2'), .val (.long (own_ref f1 t1' r0 r1 r2)), .second, .val (.long (own_ref f2 t2' r0 r1 r2)), .second, .val (.ref b50), .val (.double (FP.l2d (own_ref f1 t1' r0 r1 r2))), .second, .unset, .unset] [])) _
        refine XS.aload X53.here hx rfl (hb hby at_184) rfl (rfl) ?_
        show Steps p.tables e below (T53.setTop (mkF m 186 #[.val (.long j0), .second, .val (.long j1), .second, .val (.long j2), .second, .val (.int p3), .val (.int p4), .val (.int p5), .val (.ref b1), .val (.int pp), .val (.int qq), .val (.int f1), .val (.int t1'), .val (.int uu), .val (.int vv), .val (.int f2), .val (.int t2'), .val (.long (own_ref f1 t1' r0 r1 r2)), .second, .val (.long (own_ref f2 t2' r0 r1 r2)), .second, .val (.ref b50), .val (.double (FP.l2d (own_ref f1 t1' r0 r1 r2))), .second, .unset, .unset] [(.ref b50)])) _
        refine XS.iload X53.here hx rfl (hb hby at_186) rfl ?_
        show Steps p.tables e below (T53.setTop (mkF m 188 #[.val (.long j0), .second, .val (.long j1), .second, .val (.long j2), .second, .val (.int p3), .val (.int p4), .val (.int p5), .val (.ref b1), .val (.int pp), .val (.int qq), .val (.int f1), .val (.int t1'), .val (.int uu), .val (.int vv), .val (.int f2), .val (.int t2'), .val (.long (own_ref f1 t1' r0 r1 r2)), .second, .val (.long (own_ref f2 t2' r0 r1 r2)), .second, .val (.ref b50), .val (.double (FP.l2d (own_ref f1 t1' r0 r1 r2))), .second, .unset, .unset] [(.int f2), (.ref b50)])) _
        refine XS.iload X53.here hx rfl (hb hby at_188) rfl ?_
        show Steps p.tables e below (T53.setTop (mkF m 190 #[.val (.long j0), .second, .val (.long j1), .second, .val (.long j2), .second, .val (.int p3), .val (.int p4), .val (.int p5), .val (.ref b1), .val (.int pp), .val (.int qq), .val (.int f1), .val (.int t1'), .val (.int uu), .val (.int vv), .val (.int f2), .val (.int t2'), .val (.long (own_ref f1 t1' r0 r1 r2)), .second, .val (.long (own_ref f2 t2' r0 r1 r2)), .second, .val (.ref b50), .val (.double (FP.l2d (own_ref f1 t1' r0 r1 r2))), .second, .unset, .unset] [(.int t2'), (.int f2), (.ref b50)])) _
        refine st54.trans ?_
        show Steps p.tables e below (T54.setTop (mkF m 193 #[.val (.long j0), .second, .val (.long j1), .second, .val (.long j2), .second, .val (.int p3), .val (.int p4), .val (.int p5), .val (.ref b1), .val (.int pp), .val (.int qq), .val (.int f1), .val (.int t1'), .val (.int uu), .val (.int vv), .val (.int f2), .val (.int t2'), .val (.long (own_ref f1 t1' r0 r1 r2)), .second, .val (.long (own_ref f2 t2' r0 r1 r2)), .second, .val (.ref b50), .val (.double (FP.l2d (own_ref f1 t1' r0 r1 r2))), .second, .unset, .unset] [(.double (FP.l2d (own_ref f2 t2' r0 r1 r2)))])) _
        refine XS.dstore X54.here hx rfl (hb hby at_193) rfl (l' := #[.val (.long j0), .second, .val (.long j1), .second, .val (.long j2), .second, .val (.int p3), .val (.int p4), .val (.int p5), .val (.ref b1), .val (.int pp), .val (.int qq), .val (.int f1), .val (.int t1'), .val (.int uu), .val (.int vv), .val (.int f2), .val (.int t2'), .val (.long (own_ref f1 t1' r0 r1 r2)), .second, .val (.long (own_ref f2 t2' r0 r1 r2)), .second, .val (.ref b50), .val (.double (FP.l2d (own_ref f1 t1' r0 r1 r2))), .second, .val (.double (FP.l2d (own_ref f2 t2' r0 r1 r2))), .second]) rfl ?_
        show Steps p.tables e below (T54.setTop (mkF m 195 #[.val (.long j0), .second, .val (.long j1), .second, .val (.long j2), .second, .val (.int p3), .val (.int p4), .val (.int p5), .val (.ref b1), .val (.int pp), .val (.int qq), .val (.int f1), .val (.int t1'), .val (.int uu), .val (.int vv), .val (.int f2), .val (.int t2'), .val (.long (own_ref f1 t1' r0 r1 r2)), .second, .val (.long (own_ref f2 t2' r0 r1 r2)), .second, .val (.ref b50), .val (.double (FP.l2d (own_ref f1 t1' r0 r1 r2))), .second, .val (.double (FP.l2d (own_ref f2 t2' r0 r1 r2))), .second] [])) _
        refine XS.dload X54.here hx rfl (hb hby at_195) rfl ?_
        show Steps p.tables e below (T54.setTop (mkF m 197 #[.val (.long j0), .second, .val (.long j1), .second, .val (.long j2), .second, .val (.int p3), .val (.int p4), .val (.int p5), .val (.ref b1), .val (.int pp), .val (.int qq), .val (.int f1), .val (.int t1'), .val (.int uu), .val (.int vv), .val (.int f2), .val (.int t2'), .val (.long (own_ref f1 t1' r0 r1 r2)), .second, .val (.long (own_ref f2 t2' r0 r1 r2)), .second, .val (.ref b50), .val (.double (FP.l2d (own_ref f1 t1' r0 r1 r2))), .second, .val (.double (FP.l2d (own_ref f2 t2' r0 r1 r2))), .second] [(.double (FP.l2d (own_ref f1 t1' r0 r1 r2)))])) _
        refine XS.lload X54.here hx rfl (hb hby at_197) rfl ?_
        show Steps p.tables e below (T54.setTop (mkF m 199 #[.val (.long j0), .second, .val (.long j1), .second, .val (.long j2), .second, .val (.int p3), .val (.int p4), .val (.int p5), .val (.ref b1), .val (.int pp), .val (.int qq), .val (.int f1), .val (.int t1'), .val (.int uu), .val (.int vv), .val (.int f2), .val (.int t2'), .val (.long (own_ref f1 t1' r0 r1 r2)), .second, .val (.long (own_ref f2 t2' r0 r1 r2)), .second, .val (.ref b50), .val (.double (FP.l2d (own_ref f1 t1' r0 r1 r2))), .second, .val (.double (FP.l2d (own_ref f2 t2' r0 r1 r2))), .second] [(.long (own_ref f1 t1' r0 r1 r2)), (.double (FP.l2d (own_ref f1 t1' r0 r1 r2)))])) _
        refine XS.l2dS X54.here hx rfl (hb hby at_199) rfl rfl ?_
        show Steps p.tables e below (T54.setTop (mkF m 200 #[.val (.long j0), .second, .val (.long j1), .second, .val (.long j2), .second, .val (.int p3), .val (.int p4), .val (.int p5), .val (.ref b1), .val (.int pp), .val (.int qq), .val (.int f1), .val (.int t1'), .val (.int uu), .val (.int vv), .val (.int f2), .val (.int t2'), .val (.long (own_ref f1 t1' r0 r1 r2)), .second, .val (.long (own_ref f2 t2' r0 r1 r2)), .second, .val (.ref b50), .val (.double (FP.l2d (own_ref f1 t1' r0 r1 r2))), .second, .val (.double (FP.l2d (own_ref f2 t2' r0 r1 r2))), .second] [(.double (FP.l2d (own_ref f1 t1' r0 r1 r2))), (.double (FP.l2d (own_ref f1 t1' r0 r1 r2)))])) _
        refine XS.dcmpS X54.here hx rfl (hb hby at_200) rfl (dcmpV_self (nn_w rfl) _) ?_
        show Steps p.tables e below (T54.setTop (mkF m 201 #[.val (.long j0), .second, .val (.long j1), .second, .val (.long j2), .second, .val (.int p3), .val (.int p4), .val (.int p5), .val (.ref b1), .val (.int pp), .val (.int qq), .val (.int f1), .val (.int t1'), .val (.int uu), .val (.int vv), .val (.int f2), .val (.int t2'), .val (.long (own_ref f1 t1' r0 r1 r2)), .second, .val (.long (own_ref f2 t2' r0 r1 r2)), .second, .val (.ref b50), .val (.double (FP.l2d (own_ref f1 t1' r0 r1 r2))), .second, .val (.double (FP.l2d (own_ref f2 t2' r0 r1 r2))), .second] [(.int (0 : Int32))])) _
        refine XS.ifNo X54.here hx rfl (hb hby at_201) rfl ((if0 _ _).trans (teq (by decide : (0 : Int32) = (0 : Int32))).2) ?_
        show Steps p.tables e below (T54.setTop (mkF m 204 #[.val (.long j0), .second, .val (.long j1), .second, .val (.long j2), .second, .val (.int p3), .val (.int p4), .val (.int p5), .val (.ref b1), .val (.int pp), .val (.int qq), .val (.int f1), .val (.int t1'), .val (.int uu), .val (.int vv), .val (.int f2), .val (.int t2'), .val (.long (own_ref f1 t1' r0 r1 r2)), .second, .val (.long (own_ref f2 t2' r0 r1 r2)), .second, .val (.ref b50), .val (.double (FP.l2d (own_ref f1 t1' r0 r1 r2))), .second, .val (.double (FP.l2d (own_ref f2 t2' r0 r1 r2))), .second] [])) _
        refine XS.dload X54.here hx rfl (hb hby at_204) rfl ?_
        show Steps p.tables e below (T54.setTop (mkF m 206 #[.val (.long j0), .second, .val (.long j1), .second, .val (.long j2), .second, .val (.int p3), .val (.int p4), .val (.int p5), .val (.ref b1), .val (.int pp), .val (.int qq), .val (.int f1), .val (.int t1'), .val (.int uu), .val (.int vv), .val (.int f2), .val (.int t2'), .val (.long (own_ref f1 t1' r0 r1 r2)), .second, .val (.long (own_ref f2 t2' r0 r1 r2)), .second, .val (.ref b50), .val (.double (FP.l2d (own_ref f1 t1' r0 r1 r2))), .second, .val (.double (FP.l2d (own_ref f2 t2' r0 r1 r2))), .second] [(.double (FP.l2d (own_ref f2 t2' r0 r1 r2)))])) _
        refine XS.lload X54.here hx rfl (hb hby at_206) rfl ?_
        show Steps p.tables e below (T54.setTop (mkF m 208 #[.val (.long j0), .second, .val (.long j1), .second, .val (.long j2), .second, .val (.int p3), .val (.int p4), .val (.int p5), .val (.ref b1), .val (.int pp), .val (.int qq), .val (.int f1), .val (.int t1'), .val (.int uu), .val (.int vv), .val (.int f2), .val (.int t2'), .val (.long (own_ref f1 t1' r0 r1 r2)), .second, .val (.long (own_ref f2 t2' r0 r1 r2)), .second, .val (.ref b50), .val (.double (FP.l2d (own_ref f1 t1' r0 r1 r2))), .second, .val (.double (FP.l2d (own_ref f2 t2' r0 r1 r2))), .second] [(.long (own_ref f2 t2' r0 r1 r2)), (.double (FP.l2d (own_ref f2 t2' r0 r1 r2)))])) _
        refine XS.l2dS X54.here hx rfl (hb hby at_208) rfl rfl ?_
        show Steps p.tables e below (T54.setTop (mkF m 209 #[.val (.long j0), .second, .val (.long j1), .second, .val (.long j2), .second, .val (.int p3), .val (.int p4), .val (.int p5), .val (.ref b1), .val (.int pp), .val (.int qq), .val (.int f1), .val (.int t1'), .val (.int uu), .val (.int vv), .val (.int f2), .val (.int t2'), .val (.long (own_ref f1 t1' r0 r1 r2)), .second, .val (.long (own_ref f2 t2' r0 r1 r2)), .second, .val (.ref b50), .val (.double (FP.l2d (own_ref f1 t1' r0 r1 r2))), .second, .val (.double (FP.l2d (own_ref f2 t2' r0 r1 r2))), .second] [(.double (FP.l2d (own_ref f2 t2' r0 r1 r2))), (.double (FP.l2d (own_ref f2 t2' r0 r1 r2)))])) _
        refine XS.dcmpS X54.here hx rfl (hb hby at_209) rfl (dcmpV_self (nn_w rfl) _) ?_
        show Steps p.tables e below (T54.setTop (mkF m 210 #[.val (.long j0), .second, .val (.long j1), .second, .val (.long j2), .second, .val (.int p3), .val (.int p4), .val (.int p5), .val (.ref b1), .val (.int pp), .val (.int qq), .val (.int f1), .val (.int t1'), .val (.int uu), .val (.int vv), .val (.int f2), .val (.int t2'), .val (.long (own_ref f1 t1' r0 r1 r2)), .second, .val (.long (own_ref f2 t2' r0 r1 r2)), .second, .val (.ref b50), .val (.double (FP.l2d (own_ref f1 t1' r0 r1 r2))), .second, .val (.double (FP.l2d (own_ref f2 t2' r0 r1 r2))), .second] [(.int (0 : Int32))])) _
        refine XS.ifNo X54.here hx rfl (hb hby at_210) rfl ((if0 _ _).trans (teq (by decide : (0 : Int32) = (0 : Int32))).2) ?_
        show Steps p.tables e below (T54.setTop (mkF m 213 #[.val (.long j0), .second, .val (.long j1), .second, .val (.long j2), .second, .val (.int p3), .val (.int p4), .val (.int p5), .val (.ref b1), .val (.int pp), .val (.int qq), .val (.int f1), .val (.int t1'), .val (.int uu), .val (.int vv), .val (.int f2), .val (.int t2'), .val (.long (own_ref f1 t1' r0 r1 r2)), .second, .val (.long (own_ref f2 t2' r0 r1 r2)), .second, .val (.ref b50), .val (.double (FP.l2d (own_ref f1 t1' r0 r1 r2))), .second, .val (.double (FP.l2d (own_ref f2 t2' r0 r1 r2))), .second] [])) _
        refine XS.iconst X54.here hx rfl (hb hby at_213) ?_
        show Steps p.tables e below (T54.setTop (mkF m 214 #[.val (.long j0), .second, .val (.long j1), .second, .val (.long j2), .second, .val (.int p3), .val (.int p4), .val (.int p5), .val (.ref b1), .val (.int pp), .val (.int qq), .val (.int f1), .val (.int t1'), .val (.int uu), .val (.int vv), .val (.int f2), .val (.int t2'), .val (.long (own_ref f1 t1' r0 r1 r2)), .second, .val (.long (own_ref f2 t2' r0 r1 r2)), .second, .val (.ref b50), .val (.double (FP.l2d (own_ref f1 t1' r0 r1 r2))), .second, .val (.double (FP.l2d (own_ref f2 t2' r0 r1 r2))), .second] [(.int (1 : Int32))])) _
        refine XS.goto X54.here hx rfl (pc0 := 214) (pc' := 218) rfl (hb hby at_214) (by decide) (by decide) ?_
        show Steps p.tables e below (T54.setTop (mkF m 218 #[.val (.long j0), .second, .val (.long j1), .second, .val (.long j2), .second, .val (.int p3), .val (.int p4), .val (.int p5), .val (.ref b1), .val (.int pp), .val (.int qq), .val (.int f1), .val (.int t1'), .val (.int uu), .val (.int vv), .val (.int f2), .val (.int t2'), .val (.long (own_ref f1 t1' r0 r1 r2)), .second, .val (.long (own_ref f2 t2' r0 r1 r2)), .second, .val (.ref b50), .val (.double (FP.l2d (own_ref f1 t1' r0 r1 r2))), .second, .val (.double (FP.l2d (own_ref f2 t2' r0 r1 r2))), .second] [(.int (1 : Int32))])) _
        exact k
      obtain ⟨fs, hr, hrun, hended, hW, hsame⟩ := X54.leave (v := some (.int (1 : Int32))) (fun h => by rw [Bd.returns] at h; cases h)
      refine ⟨_, _, pre55 _ ?_, hrun, hended, _, _, rfl, ?_, ⟨_, rfl⟩, hW, hsame.mono (by decide) (by decide)⟩
      · exact retN X54 hx (t := .boolean) Bd.returns (by simp) (hb hby at_218) hr
      · show Q_rm0 Z j0 j1 j2 p3 p4 p5 h0 n0 _ T54.heap _
        rw [hq54]
        exact ⟨rfl, N54⟩
  · skip
    have pre56 : ∀ t, Steps p.tables e below (T10.setTop (mkF m 67 #[.val (.long j0), .second, .val (.long j1), .second, .val (.long j2), .second, .val (.int p3), .val (.int p4), .val (.int p5), .val (.ref b1), .unset, .unset, .unset, .unset, .unset, .unset, .unset, .unset, .unset, .unset, .unset, .unset, .unset, .unset, .unset, .unset, .unset] [(.int ((p3 &&& (2147483647 : Int32)) % (7 : Int32)))])) t → Steps p.tables e below (s₁.setTop (entryFrame m #[(.long j0), (.long j1), (.long j2), (.int p3), (.int p4), (.int p5)] maxLocals)) t := by
      intro t k
      refine pre12 t ?_
      refine XS.ifYes X10.here hx rfl (pc0 := 36) (pc' := 59) rfl (hb hby at_36) rfl ((if0 _ _).trans (feq (mt (lw_eq r0 (0 : Int64)).mp h36)).2) (by decide) (by decide) ?_
      show Steps p.tables e below (T10.setTop (mkF m 59 #[.val (.long j0), .second, .val (.long j1), .second, .val (.long j2), .second, .val (.int p3), .val (.int p4), .val (.int p5), .val (.ref b1), .unset, .unset, .unset, .unset, .unset, .unset, .unset, .unset, .unset, .unset, .unset, .unset, .unset, .unset, .unset, .unset, .unset] [])) _
      refine XS.iload X10.here hx rfl (hb hby at_59) rfl ?_
      show Steps p.tables e below (T10.setTop (mkF m 61 #[.val (.long j0), .second, .val (.long j1), .second, .val (.long j2), .second, .val (.int p3), .val (.int p4), .val (.int p5), .val (.ref b1), .unset, .unset, .unset, .unset, .unset, .unset, .unset, .unset, .unset, .unset, .unset, .unset, .unset, .unset, .unset, .unset, .unset] [(.int p3)])) _
      refine X10.ldcInt hx hown (mvT hZ (hw _ (List.mem_of_getElem? (i := 2) rfl))) (g := (mkF m 61 #[.val (.long j0), .second, .val (.long j1), .second, .val (.long j2), .second, .val (.int p3), .val (.int p4), .val (.int p5), .val (.ref b1), .unset, .unset, .unset, .unset, .unset, .unset, .unset, .unset, .unset, .unset, .unset, .unset, .unset, .unset, .unset, .unset, .unset] [(.int p3)])) rfl (hb hby at_61) _ ?_
      show Steps p.tables e below (T10.setTop (mkF m 63 #[.val (.long j0), .second, .val (.long j1), .second, .val (.long j2), .second, .val (.int p3), .val (.int p4), .val (.int p5), .val (.ref b1), .unset, .unset, .unset, .unset, .unset, .unset, .unset, .unset, .unset, .unset, .unset, .unset, .unset, .unset, .unset, .unset, .unset] [(.int (2147483647 : Int32)), (.int p3)])) _
      refine XS.iand X10.here hx rfl (hb hby at_63) rfl ?_
      show Steps p.tables e below (T10.setTop (mkF m 64 #[.val (.long j0), .second, .val (.long j1), .second, .val (.long j2), .second, .val (.int p3), .val (.int p4), .val (.int p5), .val (.ref b1), .unset, .unset, .unset, .unset, .unset, .unset, .unset, .unset, .unset, .unset, .unset, .unset, .unset, .unset, .unset, .unset, .unset] [(.int (p3 &&& (2147483647 : Int32)))])) _
      refine XS.bipush X10.here hx rfl (hb hby at_64) ?_
      show Steps p.tables e below (T10.setTop (mkF m 66 #[.val (.long j0), .second, .val (.long j1), .second, .val (.long j2), .second, .val (.int p3), .val (.int p4), .val (.int p5), .val (.ref b1), .unset, .unset, .unset, .unset, .unset, .unset, .unset, .unset, .unset, .unset, .unset, .unset, .unset, .unset, .unset, .unset, .unset] [(.int (7 : Int32)), (.int (p3 &&& (2147483647 : Int32)))])) _
      refine iremM X10 hx rfl (hb hby at_66) rfl (by decide) ?_
      show Steps p.tables e below (T10.setTop (mkF m 67 #[.val (.long j0), .second, .val (.long j1), .second, .val (.long j2), .second, .val (.int p3), .val (.int p4), .val (.int p5), .val (.ref b1), .unset, .unset, .unset, .unset, .unset, .unset, .unset, .unset, .unset, .unset, .unset, .unset, .unset, .unset, .unset, .unset, .unset] [(.int ((p3 &&& (2147483647 : Int32)) % (7 : Int32)))])) _
      exact k
    obtain ⟨pp, hpp⟩ : ∃ z : Int32, z = ((p3 &&& (2147483647 : Int32)) % (7 : Int32)) := ⟨_, rfl⟩
    rw [← hpp] at pre56
    have pre57 : ∀ t, Steps p.tables e below (T10.setTop (mkF m 77 #[.val (.long j0), .second, .val (.long j1), .second, .val (.long j2), .second, .val (.int p3), .val (.int p4), .val (.int p5), .val (.ref b1), .val (.int pp), .unset, .unset, .unset, .unset, .unset, .unset, .unset, .unset, .unset, .unset, .unset, .unset, .unset, .unset, .unset, .unset] [(.int ((p4 &&& (2147483647 : Int32)) % (7 : Int32)))])) t → Steps p.tables e below (s₁.setTop (entryFrame m #[(.long j0), (.long j1), (.long j2), (.int p3), (.int p4), (.int p5)] maxLocals)) t := by
      intro t k
      refine pre56 t ?_
      show Steps p.tables e below (T10.setTop (mkF m 67 #[.val (.long j0), .second, .val (.long j1), .second, .val (.long j2), .second, .val (.int p3), .val (.int p4), .val (.int p5), .val (.ref b1), .unset, .unset, .unset, .unset, .unset, .unset, .unset, .unset, .unset, .unset, .unset, .unset, .unset, .unset, .unset, .unset, .unset] [(.int pp)])) _
      refine XS.istore X10.here hx rfl (hb hby at_67) rfl (l' := #[.val (.long j0), .second, .val (.long j1), .second, .val (.long j2), .second, .val (.int p3), .val (.int p4), .val (.int p5), .val (.ref b1), .val (.int pp), .unset, .unset, .unset, .unset, .unset, .unset, .unset, .unset, .unset, .unset, .unset, .unset, .unset, .unset, .unset, .unset]) rfl ?_
      show Steps p.tables e below (T10.setTop (mkF m 69 #[.val (.long j0), .second, .val (.long j1), .second, .val (.long j2), .second, .val (.int p3), .val (.int p4), .val (.int p5), .val (.ref b1), .val (.int pp), .unset, .unset, .unset, .unset, .unset, .unset, .unset, .unset, .unset, .unset, .unset, .unset, .unset, .unset, .unset, .unset] [])) _
      refine XS.iload X10.here hx rfl (hb hby at_69) rfl ?_
      show Steps p.tables e below (T10.setTop (mkF m 71 #[.val (.long j0), .second, .val (.long j1), .second, .val (.long j2), .second, .val (.int p3), .val (.int p4), .val (.int p5), .val (.ref b1), .val (.int pp), .unset, .unset, .unset, .unset, .unset, .unset, .unset, .unset, .unset, .unset, .unset, .unset, .unset, .unset, .unset, .unset] [(.int p4)])) _
      refine X10.ldcInt hx hown (mvT hZ (hw _ (List.mem_of_getElem? (i := 2) rfl))) (g := (mkF m 71 #[.val (.long j0), .second, .val (.long j1), .second, .val (.long j2), .second, .val (.int p3), .val (.int p4), .val (.int p5), .val (.ref b1), .val (.int pp), .unset, .unset, .unset, .unset, .unset, .unset, .unset, .unset, .unset, .unset, .unset, .unset, .unset, .unset, .unset, .unset] [(.int p4)])) rfl (hb hby at_71) _ ?_
      show Steps p.tables e below (T10.setTop (mkF m 73 #[.val (.long j0), .second, .val (.long j1), .second, .val (.long j2), .second, .val (.int p3), .val (.int p4), .val (.int p5), .val (.ref b1), .val (.int pp), .unset, .unset, .unset, .unset, .unset, .unset, .unset, .unset, .unset, .unset, .unset, .unset, .unset, .unset, .unset, .unset] [(.int (2147483647 : Int32)), (.int p4)])) _
      refine XS.iand X10.here hx rfl (hb hby at_73) rfl ?_
      show Steps p.tables e below (T10.setTop (mkF m 74 #[.val (.long j0), .second, .val (.long j1), .second, .val (.long j2), .second, .val (.int p3), .val (.int p4), .val (.int p5), .val (.ref b1), .val (.int pp), .unset, .unset, .unset, .unset, .unset, .unset, .unset, .unset, .unset, .unset, .unset, .unset, .unset, .unset, .unset, .unset] [(.int (p4 &&& (2147483647 : Int32)))])) _
      refine XS.bipush X10.here hx rfl (hb hby at_74) ?_
      show Steps p.tables e below (T10.setTop (mkF m 76 #[.val (.long j0), .second, .val (.long j1), .second, .val (.long j2), .second, .val (.int p3), .val (.int p4), .val (.int p5), .val (.ref b1), .val (.int pp), .unset, .unset, .unset, .unset, .unset, .unset, .unset, .unset, .unset, .unset, .unset, .unset, .unset, .unset, .unset, .unset] [(.int (7 : Int32)), (.int (p4 &&& (2147483647 : Int32)))])) _
      refine iremM X10 hx rfl (hb hby at_76) rfl (by decide) ?_
      show Steps p.tables e below (T10.setTop (mkF m 77 #[.val (.long j0), .second, .val (.long j1), .second, .val (.long j2), .second, .val (.int p3), .val (.int p4), .val (.int p5), .val (.ref b1), .val (.int pp), .unset, .unset, .unset, .unset, .unset, .unset, .unset, .unset, .unset, .unset, .unset, .unset, .unset, .unset, .unset, .unset] [(.int ((p4 &&& (2147483647 : Int32)) % (7 : Int32)))])) _
      exact k
    obtain ⟨qq, hqq⟩ : ∃ z : Int32, z = ((p4 &&& (2147483647 : Int32)) % (7 : Int32)) := ⟨_, rfl⟩
    rw [← hqq] at pre57
    obtain ⟨s1, s2, s3⟩ := own_mm (own_p hpp) (own_p hqq)
    obtain ⟨_, _, ⟨T58, L58, k58, n58⟩, -, X58, ⟨Lc58, hQ58, l58, y58, z58⟩, st58⟩ := Jvm.LawKit.callS X10 hx (y := (⟨"java/lang/Math", "min", "(II)I"⟩ : MethodName)) hown (mvT hZ (hw _ (List.mem_of_getElem? (i := 3) rfl))) (mvT hZ (hw _ (List.mem_of_getElem? (i := 4) rfl))) (mvT hZ (hw _ (List.mem_of_getElem? (i := 5) rfl))) (mvT hZ (hw _ (List.mem_of_getElem? (i := 6) rfl))) (by decide) (backOf (W := 0) (rmmin l Z a0 hw [] pp qq  h10 n0 (Nat.le_trans (Nat.le_trans (Nat.le_trans (Nat.le_trans Z0 E1.1) (Keep.of_wr W4).1) (Keep.of_wr W7).1) (Keep.of_wr W10).1) ) hZ (hw _ (List.mem_of_getElem? (i := 6) rfl)) (hw _ (List.mem_of_getElem? (i := 5) rfl)) (by decide) (by decide)) (g := (mkF m 83 #[.val (.long j0), .second, .val (.long j1), .second, .val (.long j2), .second, .val (.int p3), .val (.int p4), .val (.int p5), .val (.ref b1), .val (.int pp), .val (.int qq), .unset, .unset, .unset, .unset, .unset, .unset, .unset, .unset, .unset, .unset, .unset, .unset, .unset, .unset, .unset] [(.int qq), (.int pp)])) rfl (by rw [hml]; rfl) (argsL := [(.int pp), (.int qq)]) (rest := []) (lenOf pd_2 rfl) rfl (by show 2 * 0 + _ ≤ _; exact Nat.le_of_eq rfl) (hb hby at_83) (fun _ _ => ⟨rfl, e10, (by decide : 1 + 0 ≤ _), (by decide : 3 + 0 ≤ _)⟩)
    dsimp only [Pt.U, Pt.locs, Pt.cells, Pt.slots] at X58 l58 y58 z58 st58 hQ58
    subst l58 y58 z58
    obtain ⟨rfl, N58q, hq58⟩ := hQ58
    have N58 := Fr.app N10 N58q
    have pre59 : ∀ t, Steps p.tables e below (T58.setTop (mkF m 86 #[.val (.long j0), .second, .val (.long j1), .second, .val (.long j2), .second, .val (.int p3), .val (.int p4), .val (.int p5), .val (.ref b1), .val (.int pp), .val (.int qq), .unset, .unset, .unset, .unset, .unset, .unset, .unset, .unset, .unset, .unset, .unset, .unset, .unset, .unset, .unset] [(.int (own_min pp qq))])) t → Steps p.tables e below (s₁.setTop (entryFrame m #[(.long j0), (.long j1), (.long j2), (.int p3), (.int p4), (.int p5)] maxLocals)) t := by
      intro t k
      refine pre57 t ?_
      show Steps p.tables e below (T10.setTop (mkF m 77 #[.val (.long j0), .second, .val (.long j1), .second, .val (.long j2), .second, .val (.int p3), .val (.int p4), .val (.int p5), .val (.ref b1), .val (.int pp), .unset, .unset, .unset, .unset, .unset, .unset, .unset, .unset, .unset, .unset, .unset, .unset, .unset, .unset, .unset, .unset] [(.int qq)])) _
      refine XS.istore X10.here hx rfl (hb hby at_77) rfl (l' := #[.val (.long j0), .second, .val (.long j1), .second, .val (.long j2), .second, .val (.int p3), .val (.int p4), .val (.int p5), .val (.ref b1), .val (.int pp), .val (.int qq), .unset, .unset, .unset, .unset, .unset, .unset, .unset, .unset, .unset, .unset, .unset, .unset, .unset, .unset, .unset]) rfl ?_
      show Steps p.tables e below (T10.setTop (mkF m 79 #[.val (.long j0), .second, .val (.long j1), .second, .val (.long j2), .second, .val (.int p3), .val (.int p4), .val (.int p5), .val (.ref b1), .val (.int pp), .val (.int qq), .unset, .unset, .unset, .unset, .unset, .unset, .unset, .unset, .unset, .unset, .unset, .unset, .unset, .unset, .unset] [])) _
      refine XS.iload X10.here hx rfl (hb hby at_79) rfl ?_
      show Steps p.tables e below (T10.setTop (mkF m 81 #[.val (.long j0), .second, .val (.long j1), .second, .val (.long j2), .second, .val (.int p3), .val (.int p4), .val (.int p5), .val (.ref b1), .val (.int pp), .val (.int qq), .unset, .unset, .unset, .unset, .unset, .unset, .unset, .unset, .unset, .unset, .unset, .unset, .unset, .unset, .unset] [(.int pp)])) _
      refine XS.iload X10.here hx rfl (hb hby at_81) rfl ?_
      show Steps p.tables e below (T10.setTop (mkF m 83 #[.val (.long j0), .second, .val (.long j1), .second, .val (.long j2), .second, .val (.int p3), .val (.int p4), .val (.int p5), .val (.ref b1), .val (.int pp), .val (.int qq), .unset, .unset, .unset, .unset, .unset, .unset, .unset, .unset, .unset, .unset, .unset, .unset, .unset, .unset, .unset] [(.int qq), (.int pp)])) _
      refine st58 _ ?_
      show Steps p.tables e below (T58.setTop (mkF m 86 #[.val (.long j0), .second, .val (.long j1), .second, .val (.long j2), .second, .val (.int p3), .val (.int p4), .val (.int p5), .val (.ref b1), .val (.int pp), .val (.int qq), .unset, .unset, .unset, .unset, .unset, .unset, .unset, .unset, .unset, .unset, .unset, .unset, .unset, .unset, .unset] [(.int (own_min pp qq))])) _
      exact k
    obtain ⟨f1, hf1⟩ : ∃ z : Int32, z = (own_min pp qq) := ⟨_, rfl⟩
    rw [← hf1] at pre59
    obtain ⟨_, _, ⟨T60, L60, k60, n60⟩, -, X60, ⟨Lc60, hQ60, l60, y60, z60⟩, st60⟩ := Jvm.LawKit.callS X58 hx (y := (⟨"java/lang/Math", "max", "(II)I"⟩ : MethodName)) hown (mvT hZ (hw _ (List.mem_of_getElem? (i := 7) rfl))) (mvT hZ (hw _ (List.mem_of_getElem? (i := 8) rfl))) (mvT hZ (hw _ (List.mem_of_getElem? (i := 5) rfl))) (mvT hZ (hw _ (List.mem_of_getElem? (i := 9) rfl))) (by decide) (backOf (W := 0) (rmmax l Z a0 hw [] pp qq  h10 n0 (Nat.le_trans (Nat.le_trans (Nat.le_trans (Nat.le_trans Z0 E1.1) (Keep.of_wr W4).1) (Keep.of_wr W7).1) (Keep.of_wr W10).1) ) hZ (hw _ (List.mem_of_getElem? (i := 9) rfl)) (hw _ (List.mem_of_getElem? (i := 5) rfl)) (by decide) (by decide)) (g := (mkF m 92 #[.val (.long j0), .second, .val (.long j1), .second, .val (.long j2), .second, .val (.int p3), .val (.int p4), .val (.int p5), .val (.ref b1), .val (.int pp), .val (.int qq), .val (.int f1), .unset, .unset, .unset, .unset, .unset, .unset, .unset, .unset, .unset, .unset, .unset, .unset, .unset, .unset] [(.int qq), (.int pp)])) rfl (by rw [hml]; rfl) (argsL := [(.int pp), (.int qq)]) (rest := []) (lenOf pd_2 rfl) rfl (by show 2 * 0 + _ ≤ _; exact Nat.le_of_eq rfl) (hb hby at_92) (fun _ _ => ⟨rfl, hq58, (by decide : 1 + 0 ≤ _), (by decide : 3 + 0 ≤ _)⟩)
    dsimp only [Pt.U, Pt.locs, Pt.cells, Pt.slots] at X60 l60 y60 z60 st60 hQ60
    subst l60 y60 z60
    obtain ⟨rfl, N60q, hq60⟩ := hQ60
    have N60 := Fr.app N58 N60q
    have pre61 : ∀ t, Steps p.tables e below (T60.setTop (mkF m 95 #[.val (.long j0), .second, .val (.long j1), .second, .val (.long j2), .second, .val (.int p3), .val (.int p4), .val (.int p5), .val (.ref b1), .val (.int pp), .val (.int qq), .val (.int f1), .unset, .unset, .unset, .unset, .unset, .unset, .unset, .unset, .unset, .unset, .unset, .unset, .unset, .unset] [(.int (own_max pp qq))])) t → Steps p.tables e below (s₁.setTop (entryFrame m #[(.long j0), (.long j1), (.long j2), (.int p3), (.int p4), (.int p5)] maxLocals)) t := by
      intro t k
      refine pre59 t ?_
      show Steps p.tables e below (T58.setTop (mkF m 86 #[.val (.long j0), .second, .val (.long j1), .second, .val (.long j2), .second, .val (.int p3), .val (.int p4), .val (.int p5), .val (.ref b1), .val (.int pp), .val (.int qq), .unset, .unset, .unset, .unset, .unset, .unset, .unset, .unset, .unset, .unset, .unset, .unset, .unset, .unset, .unset] [(.int f1)])) _
      refine XS.istore X58.here hx rfl (hb hby at_86) rfl (l' := #[.val (.long j0), .second, .val (.long j1), .second, .val (.long j2), .second, .val (.int p3), .val (.int p4), .val (.int p5), .val (.ref b1), .val (.int pp), .val (.int qq), .val (.int f1), .unset, .unset, .unset, .unset, .unset, .unset, .unset, .unset, .unset, .unset, .unset, .unset, .unset, .unset]) rfl ?_
      show Steps p.tables e below (T58.setTop (mkF m 88 #[.val (.long j0), .second, .val (.long j1), .second, .val (.long j2), .second, .val (.int p3), .val (.int p4), .val (.int p5), .val (.ref b1), .val (.int pp), .val (.int qq), .val (.int f1), .unset, .unset, .unset, .unset, .unset, .unset, .unset, .unset, .unset, .unset, .unset, .unset, .unset, .unset] [])) _
      refine XS.iload X58.here hx rfl (hb hby at_88) rfl ?_
      show Steps p.tables e below (T58.setTop (mkF m 90 #[.val (.long j0), .second, .val (.long j1), .second, .val (.long j2), .second, .val (.int p3), .val (.int p4), .val (.int p5), .val (.ref b1), .val (.int pp), .val (.int qq), .val (.int f1), .unset, .unset, .unset, .unset, .unset, .unset, .unset, .unset, .unset, .unset, .unset, .unset, .unset, .unset] [(.int pp)])) _
      refine XS.iload X58.here hx rfl (hb hby at_90) rfl ?_
      show Steps p.tables e below (T58.setTop (mkF m 92 #[.val (.long j0), .second, .val (.long j1), .second, .val (.long j2), .second, .val (.int p3), .val (.int p4), .val (.int p5), .val (.ref b1), .val (.int pp), .val (.int qq), .val (.int f1), .unset, .unset, .unset, .unset, .unset, .unset, .unset, .unset, .unset, .unset, .unset, .unset, .unset, .unset] [(.int qq), (.int pp)])) _
      refine st60 _ ?_
      show Steps p.tables e below (T60.setTop (mkF m 95 #[.val (.long j0), .second, .val (.long j1), .second, .val (.long j2), .second, .val (.int p3), .val (.int p4), .val (.int p5), .val (.ref b1), .val (.int pp), .val (.int qq), .val (.int f1), .unset, .unset, .unset, .unset, .unset, .unset, .unset, .unset, .unset, .unset, .unset, .unset, .unset, .unset] [(.int (own_max pp qq))])) _
      exact k
    obtain ⟨t1', ht1'⟩ : ∃ z : Int32, z = (own_max pp qq) := ⟨_, rfl⟩
    rw [← ht1'] at pre61
    have pre62 : ∀ t, Steps p.tables e below (T60.setTop (mkF m 106 #[.val (.long j0), .second, .val (.long j1), .second, .val (.long j2), .second, .val (.int p3), .val (.int p4), .val (.int p5), .val (.ref b1), .val (.int pp), .val (.int qq), .val (.int f1), .val (.int t1'), .unset, .unset, .unset, .unset, .unset, .unset, .unset, .unset, .unset, .unset, .unset, .unset, .unset] [(.int ((p5 &&& (32767 : Int32)) % (7 : Int32)))])) t → Steps p.tables e below (s₁.setTop (entryFrame m #[(.long j0), (.long j1), (.long j2), (.int p3), (.int p4), (.int p5)] maxLocals)) t := by
      intro t k
      refine pre61 t ?_
      show Steps p.tables e below (T60.setTop (mkF m 95 #[.val (.long j0), .second, .val (.long j1), .second, .val (.long j2), .second, .val (.int p3), .val (.int p4), .val (.int p5), .val (.ref b1), .val (.int pp), .val (.int qq), .val (.int f1), .unset, .unset, .unset, .unset, .unset, .unset, .unset, .unset, .unset, .unset, .unset, .unset, .unset, .unset] [(.int t1')])) _
      refine XS.istore X60.here hx rfl (hb hby at_95) rfl (l' := #[.val (.long j0), .second, .val (.long j1), .second, .val (.long j2), .second, .val (.int p3), .val (.int p4), .val (.int p5), .val (.ref b1), .val (.int pp), .val (.int qq), .val (.int f1), .val (.int t1'), .unset, .unset, .unset, .unset, .unset, .unset, .unset, .unset, .unset, .unset, .unset, .unset, .unset]) rfl ?_
      show Steps p.tables e below (T60.setTop (mkF m 97 #[.val (.long j0), .second, .val (.long j1), .second, .val (.long j2), .second, .val (.int p3), .val (.int p4), .val (.int p5), .val (.ref b1), .val (.int pp), .val (.int qq), .val (.int f1), .val (.int t1'), .unset, .unset, .unset, .unset, .unset, .unset, .unset, .unset, .unset, .unset, .unset, .unset, .unset] [])) _
      refine XS.iload X60.here hx rfl (hb hby at_97) rfl ?_
      show Steps p.tables e below (T60.setTop (mkF m 99 #[.val (.long j0), .second, .val (.long j1), .second, .val (.long j2), .second, .val (.int p3), .val (.int p4), .val (.int p5), .val (.ref b1), .val (.int pp), .val (.int qq), .val (.int f1), .val (.int t1'), .unset, .unset, .unset, .unset, .unset, .unset, .unset, .unset, .unset, .unset, .unset, .unset, .unset] [(.int p5)])) _
      refine XS.sipush X60.here hx rfl (hb hby at_99) ?_
      show Steps p.tables e below (T60.setTop (mkF m 102 #[.val (.long j0), .second, .val (.long j1), .second, .val (.long j2), .second, .val (.int p3), .val (.int p4), .val (.int p5), .val (.ref b1), .val (.int pp), .val (.int qq), .val (.int f1), .val (.int t1'), .unset, .unset, .unset, .unset, .unset, .unset, .unset, .unset, .unset, .unset, .unset, .unset, .unset] [(.int (32767 : Int32)), (.int p5)])) _
      refine XS.iand X60.here hx rfl (hb hby at_102) rfl ?_
      show Steps p.tables e below (T60.setTop (mkF m 103 #[.val (.long j0), .second, .val (.long j1), .second, .val (.long j2), .second, .val (.int p3), .val (.int p4), .val (.int p5), .val (.ref b1), .val (.int pp), .val (.int qq), .val (.int f1), .val (.int t1'), .unset, .unset, .unset, .unset, .unset, .unset, .unset, .unset, .unset, .unset, .unset, .unset, .unset] [(.int (p5 &&& (32767 : Int32)))])) _
      refine XS.bipush X60.here hx rfl (hb hby at_103) ?_
      show Steps p.tables e below (T60.setTop (mkF m 105 #[.val (.long j0), .second, .val (.long j1), .second, .val (.long j2), .second, .val (.int p3), .val (.int p4), .val (.int p5), .val (.ref b1), .val (.int pp), .val (.int qq), .val (.int f1), .val (.int t1'), .unset, .unset, .unset, .unset, .unset, .unset, .unset, .unset, .unset, .unset, .unset, .unset, .unset] [(.int (7 : Int32)), (.int (p5 &&& (32767 : Int32)))])) _
      refine iremM X60 hx rfl (hb hby at_105) rfl (by decide) ?_
      show Steps p.tables e below (T60.setTop (mkF m 106 #[.val (.long j0), .second, .val (.long j1), .second, .val (.long j2), .second, .val (.int p3), .val (.int p4), .val (.int p5), .val (.ref b1), .val (.int pp), .val (.int qq), .val (.int f1), .val (.int t1'), .unset, .unset, .unset, .unset, .unset, .unset, .unset, .unset, .unset, .unset, .unset, .unset, .unset] [(.int ((p5 &&& (32767 : Int32)) % (7 : Int32)))])) _
      exact k
    obtain ⟨uu, huu⟩ : ∃ z : Int32, z = ((p5 &&& (32767 : Int32)) % (7 : Int32)) := ⟨_, rfl⟩
    rw [← huu] at pre62
    have pre63 : ∀ t, Steps p.tables e below (T60.setTop (mkF m 120 #[.val (.long j0), .second, .val (.long j1), .second, .val (.long j2), .second, .val (.int p3), .val (.int p4), .val (.int p5), .val (.ref b1), .val (.int pp), .val (.int qq), .val (.int f1), .val (.int t1'), .val (.int uu), .unset, .unset, .unset, .unset, .unset, .unset, .unset, .unset, .unset, .unset, .unset, .unset] [(.int ((((p5.toUInt32 >>> ((16 : Int32) &&& 31).toUInt32).toInt32) &&& (32767 : Int32)) % (7 : Int32)))])) t → Steps p.tables e below (s₁.setTop (entryFrame m #[(.long j0), (.long j1), (.long j2), (.int p3), (.int p4), (.int p5)] maxLocals)) t := by
      intro t k
      refine pre62 t ?_
      show Steps p.tables e below (T60.setTop (mkF m 106 #[.val (.long j0), .second, .val (.long j1), .second, .val (.long j2), .second, .val (.int p3), .val (.int p4), .val (.int p5), .val (.ref b1), .val (.int pp), .val (.int qq), .val (.int f1), .val (.int t1'), .unset, .unset, .unset, .unset, .unset, .unset, .unset, .unset, .unset, .unset, .unset, .unset, .unset] [(.int uu)])) _
      refine XS.istore X60.here hx rfl (hb hby at_106) rfl (l' := #[.val (.long j0), .second, .val (.long j1), .second, .val (.long j2), .second, .val (.int p3), .val (.int p4), .val (.int p5), .val (.ref b1), .val (.int pp), .val (.int qq), .val (.int f1), .val (.int t1'), .val (.int uu), .unset, .unset, .unset, .unset, .unset, .unset, .unset, .unset, .unset, .unset, .unset, .unset]) rfl ?_
      show Steps p.tables e below (T60.setTop (mkF m 108 #[.val (.long j0), .second, .val (.long j1), .second, .val (.long j2), .second, .val (.int p3), .val (.int p4), .val (.int p5), .val (.ref b1), .val (.int pp), .val (.int qq), .val (.int f1), .val (.int t1'), .val (.int uu), .unset, .unset, .unset, .unset, .unset, .unset, .unset, .unset, .unset, .unset, .unset, .unset] [])) _
      refine XS.iload X60.here hx rfl (hb hby at_108) rfl ?_
      show Steps p.tables e below (T60.setTop (mkF m 110 #[.val (.long j0), .second, .val (.long j1), .second, .val (.long j2), .second, .val (.int p3), .val (.int p4), .val (.int p5), .val (.ref b1), .val (.int pp), .val (.int qq), .val (.int f1), .val (.int t1'), .val (.int uu), .unset, .unset, .unset, .unset, .unset, .unset, .unset, .unset, .unset, .unset, .unset, .unset] [(.int p5)])) _
      refine XS.bipush X60.here hx rfl (hb hby at_110) ?_
      show Steps p.tables e below (T60.setTop (mkF m 112 #[.val (.long j0), .second, .val (.long j1), .second, .val (.long j2), .second, .val (.int p3), .val (.int p4), .val (.int p5), .val (.ref b1), .val (.int pp), .val (.int qq), .val (.int f1), .val (.int t1'), .val (.int uu), .unset, .unset, .unset, .unset, .unset, .unset, .unset, .unset, .unset, .unset, .unset, .unset] [(.int (16 : Int32)), (.int p5)])) _
      refine XS.iushr X60.here hx rfl (hb hby at_112) rfl ?_
      show Steps p.tables e below (T60.setTop (mkF m 113 #[.val (.long j0), .second, .val (.long j1), .second, .val (.long j2), .second, .val (.int p3), .val (.int p4), .val (.int p5), .val (.ref b1), .val (.int pp), .val (.int qq), .val (.int f1), .val (.int t1'), .val (.int uu), .unset, .unset, .unset, .unset, .unset, .unset, .unset, .unset, .unset, .unset, .unset, .unset] [(.int ((p5.toUInt32 >>> ((16 : Int32) &&& 31).toUInt32).toInt32))])) _
      refine XS.sipush X60.here hx rfl (hb hby at_113) ?_
      show Steps p.tables e below (T60.setTop (mkF m 116 #[.val (.long j0), .second, .val (.long j1), .second, .val (.long j2), .second, .val (.int p3), .val (.int p4), .val (.int p5), .val (.ref b1), .val (.int pp), .val (.int qq), .val (.int f1), .val (.int t1'), .val (.int uu), .unset, .unset, .unset, .unset, .unset, .unset, .unset, .unset, .unset, .unset, .unset, .unset] [(.int (32767 : Int32)), (.int ((p5.toUInt32 >>> ((16 : Int32) &&& 31).toUInt32).toInt32))])) _
      refine XS.iand X60.here hx rfl (hb hby at_116) rfl ?_
      show Steps p.tables e below (T60.setTop (mkF m 117 #[.val (.long j0), .second, .val (.long j1), .second, .val (.long j2), .second, .val (.int p3), .val (.int p4), .val (.int p5), .val (.ref b1), .val (.int pp), .val (.int qq), .val (.int f1), .val (.int t1'), .val (.int uu), .unset, .unset, .unset, .unset, .unset, .unset, .unset, .unset, .unset, .unset, .unset, .unset] [(.int (((p5.toUInt32 >>> ((16 : Int32) &&& 31).toUInt32).toInt32) &&& (32767 : Int32)))])) _
      refine XS.bipush X60.here hx rfl (hb hby at_117) ?_
      show Steps p.tables e below (T60.setTop (mkF m 119 #[.val (.long j0), .second, .val (.long j1), .second, .val (.long j2), .second, .val (.int p3), .val (.int p4), .val (.int p5), .val (.ref b1), .val (.int pp), .val (.int qq), .val (.int f1), .val (.int t1'), .val (.int uu), .unset, .unset, .unset, .unset, .unset, .unset, .unset, .unset, .unset, .unset, .unset, .unset] [(.int (7 : Int32)), (.int (((p5.toUInt32 >>> ((16 : Int32) &&& 31).toUInt32).toInt32) &&& (32767 : Int32)))])) _
      refine iremM X60 hx rfl (hb hby at_119) rfl (by decide) ?_
      show Steps p.tables e below (T60.setTop (mkF m 120 #[.val (.long j0), .second, .val (.long j1), .second, .val (.long j2), .second, .val (.int p3), .val (.int p4), .val (.int p5), .val (.ref b1), .val (.int pp), .val (.int qq), .val (.int f1), .val (.int t1'), .val (.int uu), .unset, .unset, .unset, .unset, .unset, .unset, .unset, .unset, .unset, .unset, .unset, .unset] [(.int ((((p5.toUInt32 >>> ((16 : Int32) &&& 31).toUInt32).toInt32) &&& (32767 : Int32)) % (7 : Int32)))])) _
      exact k
    obtain ⟨vv, hvv⟩ : ∃ z : Int32, z = ((((p5.toUInt32 >>> ((16 : Int32) &&& 31).toUInt32).toInt32) &&& (32767 : Int32)) % (7 : Int32)) := ⟨_, rfl⟩
    rw [← hvv] at pre63
    obtain ⟨s4, s5, s6⟩ := own_mm (own_s huu) (own_s hvv)
    obtain ⟨_, _, ⟨T64, L64, k64, n64⟩, -, X64, ⟨Lc64, hQ64, l64, y64, z64⟩, st64⟩ := Jvm.LawKit.callS X60 hx (y := (⟨"java/lang/Math", "min", "(II)I"⟩ : MethodName)) hown (mvT hZ (hw _ (List.mem_of_getElem? (i := 3) rfl))) (mvT hZ (hw _ (List.mem_of_getElem? (i := 4) rfl))) (mvT hZ (hw _ (List.mem_of_getElem? (i := 5) rfl))) (mvT hZ (hw _ (List.mem_of_getElem? (i := 6) rfl))) (by decide) (backOf (W := 0) (rmmin l Z a0 hw [] uu vv  h10 n0 (Nat.le_trans (Nat.le_trans (Nat.le_trans (Nat.le_trans Z0 E1.1) (Keep.of_wr W4).1) (Keep.of_wr W7).1) (Keep.of_wr W10).1) ) hZ (hw _ (List.mem_of_getElem? (i := 6) rfl)) (hw _ (List.mem_of_getElem? (i := 5) rfl)) (by decide) (by decide)) (g := (mkF m 126 #[.val (.long j0), .second, .val (.long j1), .second, .val (.long j2), .second, .val (.int p3), .val (.int p4), .val (.int p5), .val (.ref b1), .val (.int pp), .val (.int qq), .val (.int f1), .val (.int t1'), .val (.int uu), .val (.int vv), .unset, .unset, .unset, .unset, .unset, .unset, .unset, .unset, .unset, .unset, .unset] [(.int vv), (.int uu)])) rfl (by rw [hml]; rfl) (argsL := [(.int uu), (.int vv)]) (rest := []) (lenOf pd_2 rfl) rfl (by show 2 * 0 + _ ≤ _; exact Nat.le_of_eq rfl) (hb hby at_126) (fun _ _ => ⟨rfl, hq60, (by decide : 1 + 0 ≤ _), (by decide : 3 + 0 ≤ _)⟩)
    dsimp only [Pt.U, Pt.locs, Pt.cells, Pt.slots] at X64 l64 y64 z64 st64 hQ64
    subst l64 y64 z64
    obtain ⟨rfl, N64q, hq64⟩ := hQ64
    have N64 := Fr.app N60 N64q
    have pre65 : ∀ t, Steps p.tables e below (T64.setTop (mkF m 129 #[.val (.long j0), .second, .val (.long j1), .second, .val (.long j2), .second, .val (.int p3), .val (.int p4), .val (.int p5), .val (.ref b1), .val (.int pp), .val (.int qq), .val (.int f1), .val (.int t1'), .val (.int uu), .val (.int vv), .unset, .unset, .unset, .unset, .unset, .unset, .unset, .unset, .unset, .unset, .unset] [(.int (own_min uu vv))])) t → Steps p.tables e below (s₁.setTop (entryFrame m #[(.long j0), (.long j1), (.long j2), (.int p3), (.int p4), (.int p5)] maxLocals)) t := by
      intro t k
      refine pre63 t ?_
      show Steps p.tables e below (T60.setTop (mkF m 120 #[.val (.long j0), .second, .val (.long j1), .second, .val (.long j2), .second, .val (.int p3), .val (.int p4), .val (.int p5), .val (.ref b1), .val (.int pp), .val (.int qq), .val (.int f1), .val (.int t1'), .val (.int uu), .unset, .unset, .unset, .unset, .unset, .unset, .unset, .unset, .unset, .unset, .unset, .unset] [(.int vv)])) _
      refine XS.istore X60.here hx rfl (hb hby at_120) rfl (l' := #[.val (.long j0), .second, .val (.long j1), .second, .val (.long j2), .second, .val (.int p3), .val (.int p4), .val (.int p5), .val (.ref b1), .val (.int pp), .val (.int qq), .val (.int f1), .val (.int t1'), .val (.int uu), .val (.int vv), .unset, .unset, .unset, .unset, .unset, .unset, .unset, .unset, .unset, .unset, .unset]) rfl ?_
      show Steps p.tables e below (T60.setTop (mkF m 122 #[.val (.long j0), .second, .val (.long j1), .second, .val (.long j2), .second, .val (.int p3), .val (.int p4), .val (.int p5), .val (.ref b1), .val (.int pp), .val (.int qq), .val (.int f1), .val (.int t1'), .val (.int uu), .val (.int vv), .unset, .unset, .unset, .unset, .unset, .unset, .unset, .unset, .unset, .unset, .unset] [])) _
      refine XS.iload X60.here hx rfl (hb hby at_122) rfl ?_
      show Steps p.tables e below (T60.setTop (mkF m 124 #[.val (.long j0), .second, .val (.long j1), .second, .val (.long j2), .second, .val (.int p3), .val (.int p4), .val (.int p5), .val (.ref b1), .val (.int pp), .val (.int qq), .val (.int f1), .val (.int t1'), .val (.int uu), .val (.int vv), .unset, .unset, .unset, .unset, .unset, .unset, .unset, .unset, .unset, .unset, .unset] [(.int uu)])) _
      refine XS.iload X60.here hx rfl (hb hby at_124) rfl ?_
      show Steps p.tables e below (T60.setTop (mkF m 126 #[.val (.long j0), .second, .val (.long j1), .second, .val (.long j2), .second, .val (.int p3), .val (.int p4), .val (.int p5), .val (.ref b1), .val (.int pp), .val (.int qq), .val (.int f1), .val (.int t1'), .val (.int uu), .val (.int vv), .unset, .unset, .unset, .unset, .unset, .unset, .unset, .unset, .unset, .unset, .unset] [(.int vv), (.int uu)])) _
      refine st64 _ ?_
      show Steps p.tables e below (T64.setTop (mkF m 129 #[.val (.long j0), .second, .val (.long j1), .second, .val (.long j2), .second, .val (.int p3), .val (.int p4), .val (.int p5), .val (.ref b1), .val (.int pp), .val (.int qq), .val (.int f1), .val (.int t1'), .val (.int uu), .val (.int vv), .unset, .unset, .unset, .unset, .unset, .unset, .unset, .unset, .unset, .unset, .unset] [(.int (own_min uu vv))])) _
      exact k
    obtain ⟨f2, hf2⟩ : ∃ z : Int32, z = (own_min uu vv) := ⟨_, rfl⟩
    rw [← hf2] at pre65
    obtain ⟨_, _, ⟨T66, L66, k66, n66⟩, -, X66, ⟨Lc66, hQ66, l66, y66, z66⟩, st66⟩ := Jvm.LawKit.callS X64 hx (y := (⟨"java/lang/Math", "max", "(II)I"⟩ : MethodName)) hown (mvT hZ (hw _ (List.mem_of_getElem? (i := 7) rfl))) (mvT hZ (hw _ (List.mem_of_getElem? (i := 8) rfl))) (mvT hZ (hw _ (List.mem_of_getElem? (i := 5) rfl))) (mvT hZ (hw _ (List.mem_of_getElem? (i := 9) rfl))) (by decide) (backOf (W := 0) (rmmax l Z a0 hw [] uu vv  h10 n0 (Nat.le_trans (Nat.le_trans (Nat.le_trans (Nat.le_trans Z0 E1.1) (Keep.of_wr W4).1) (Keep.of_wr W7).1) (Keep.of_wr W10).1) ) hZ (hw _ (List.mem_of_getElem? (i := 9) rfl)) (hw _ (List.mem_of_getElem? (i := 5) rfl)) (by decide) (by decide)) (g := (mkF m 135 #[.val (.long j0), .second, .val (.long j1), .second, .val (.long j2), .second, .val (.int p3), .val (.int p4), .val (.int p5), .val (.ref b1), .val (.int pp), .val (.int qq), .val (.int f1), .val (.int t1'), .val (.int uu), .val (.int vv), .val (.int f2), .unset, .unset, .unset, .unset, .unset, .unset, .unset, .unset, .unset, .unset] [(.int vv), (.int uu)])) rfl (by rw [hml]; rfl) (argsL := [(.int uu), (.int vv)]) (rest := []) (lenOf pd_2 rfl) rfl (by show 2 * 0 + _ ≤ _; exact Nat.le_of_eq rfl) (hb hby at_135) (fun _ _ => ⟨rfl, hq64, (by decide : 1 + 0 ≤ _), (by decide : 3 + 0 ≤ _)⟩)
    dsimp only [Pt.U, Pt.locs, Pt.cells, Pt.slots] at X66 l66 y66 z66 st66 hQ66
    subst l66 y66 z66
    obtain ⟨rfl, N66q, hq66⟩ := hQ66
    have N66 := Fr.app N64 N66q
    have pre67 : ∀ t, Steps p.tables e below (T66.setTop (mkF m 138 #[.val (.long j0), .second, .val (.long j1), .second, .val (.long j2), .second, .val (.int p3), .val (.int p4), .val (.int p5), .val (.ref b1), .val (.int pp), .val (.int qq), .val (.int f1), .val (.int t1'), .val (.int uu), .val (.int vv), .val (.int f2), .unset, .unset, .unset, .unset, .unset, .unset, .unset, .unset, .unset, .unset] [(.int (own_max uu vv))])) t → Steps p.tables e below (s₁.setTop (entryFrame m #[(.long j0), (.long j1), (.long j2), (.int p3), (.int p4), (.int p5)] maxLocals)) t := by
      intro t k
      refine pre65 t ?_
      show Steps p.tables e below (T64.setTop (mkF m 129 #[.val (.long j0), .second, .val (.long j1), .second, .val (.long j2), .second, .val (.int p3), .val (.int p4), .val (.int p5), .val (.ref b1), .val (.int pp), .val (.int qq), .val (.int f1), .val (.int t1'), .val (.int uu), .val (.int vv), .unset, .unset, .unset, .unset, .unset, .unset, .unset, .unset, .unset, .unset, .unset] [(.int f2)])) _
      refine XS.istore X64.here hx rfl (hb hby at_129) rfl (l' := #[.val (.long j0), .second, .val (.long j1), .second, .val (.long j2), .second, .val (.int p3), .val (.int p4), .val (.int p5), .val (.ref b1), .val (.int pp), .val (.int qq), .val (.int f1), .val (.int t1'), .val (.int uu), .val (.int vv), .val (.int f2), .unset, .unset, .unset, .unset, .unset, .unset, .unset, .unset, .unset, .unset]) rfl ?_
      show Steps p.tables e below (T64.setTop (mkF m 131 #[.val (.long j0), .second, .val (.long j1), .second, .val (.long j2), .second, .val (.int p3), .val (.int p4), .val (.int p5), .val (.ref b1), .val (.int pp), .val (.int qq), .val (.int f1), .val (.int t1'), .val (.int uu), .val (.int vv), .val (.int f2), .unset, .unset, .unset, .unset, .unset, .unset, .unset, .unset, .unset, .unset] [])) _
      refine XS.iload X64.here hx rfl (hb hby at_131) rfl ?_
      show Steps p.tables e below (T64.setTop (mkF m 133 #[.val (.long j0), .second, .val (.long j1), .second, .val (.long j2), .second, .val (.int p3), .val (.int p4), .val (.int p5), .val (.ref b1), .val (.int pp), .val (.int qq), .val (.int f1), .val (.int t1'), .val (.int uu), .val (.int vv), .val (.int f2), .unset, .unset, .unset, .unset, .unset, .unset, .unset, .unset, .unset, .unset] [(.int uu)])) _
      refine XS.iload X64.here hx rfl (hb hby at_133) rfl ?_
      show Steps p.tables e below (T64.setTop (mkF m 135 #[.val (.long j0), .second, .val (.long j1), .second, .val (.long j2), .second, .val (.int p3), .val (.int p4), .val (.int p5), .val (.ref b1), .val (.int pp), .val (.int qq), .val (.int f1), .val (.int t1'), .val (.int uu), .val (.int vv), .val (.int f2), .unset, .unset, .unset, .unset, .unset, .unset, .unset, .unset, .unset, .unset] [(.int vv), (.int uu)])) _
      refine st66 _ ?_
      show Steps p.tables e below (T66.setTop (mkF m 138 #[.val (.long j0), .second, .val (.long j1), .second, .val (.long j2), .second, .val (.int p3), .val (.int p4), .val (.int p5), .val (.ref b1), .val (.int pp), .val (.int qq), .val (.int f1), .val (.int t1'), .val (.int uu), .val (.int vv), .val (.int f2), .unset, .unset, .unset, .unset, .unset, .unset, .unset, .unset, .unset, .unset] [(.int (own_max uu vv))])) _
      exact k
    obtain ⟨t2', ht2'⟩ : ∃ z : Int32, z = (own_max uu vv) := ⟨_, rfl⟩
    rw [← ht2'] at pre67
    rw [← hf1] at s1 s3
    rw [← ht1'] at s2 s3
    rw [← hf2] at s4 s6
    rw [← ht2'] at s5 s6
    obtain ⟨_, _, ⟨T68, L68, k68, n68⟩, -, X68, ⟨Lc68, hQ68, l68, y68, z68⟩, st68⟩ := Jvm.LawKit.callS X66 hx (y := (⟨"com/example/hummingbird/hummingbird/engine/RhythmWaitingPinLaw", "reference", "([JII)J"⟩ : MethodName)) hown (mvT hZ (hw _ (List.mem_of_getElem? (i := 10) rfl))) (mvT hZ (hw _ (List.mem_of_getElem? (i := 11) rfl))) (mvT hZ (hw _ (List.mem_of_getElem? (i := 12) rfl))) (mvT hZ (hw _ (List.mem_of_getElem? (i := 13) rfl))) (by decide) (backOf (W := 0) (rmRef l Z a0 hw [] b1 f1 t1' cl11 r0 r1 r2 h10 n0 (Nat.le_trans (Nat.le_trans (Nat.le_trans (Nat.le_trans Z0 E1.1) (Keep.of_wr W4).1) (Keep.of_wr W7).1) (Keep.of_wr W10).1) Ar11 S11 t0 t1 t2) hZ (hw _ (List.mem_of_getElem? (i := 13) rfl)) (hw _ (List.mem_of_getElem? (i := 12) rfl)) (by decide) (by decide)) (g := (mkF m 146 #[.val (.long j0), .second, .val (.long j1), .second, .val (.long j2), .second, .val (.int p3), .val (.int p4), .val (.int p5), .val (.ref b1), .val (.int pp), .val (.int qq), .val (.int f1), .val (.int t1'), .val (.int uu), .val (.int vv), .val (.int f2), .val (.int t2'), .unset, .unset, .unset, .unset, .unset, .unset, .unset, .unset, .unset] [(.int t1'), (.int f1), (.ref b1)])) rfl (by rw [hml]; rfl) (argsL := [(.ref b1), (.int f1), (.int t1')]) (rest := []) (lenOf pd_3 rfl) rfl (by show 2 * 0 + _ ≤ _; exact Nat.le_of_eq rfl) (hb hby at_146) (fun _ _ => ⟨rfl, hq66, (by decide : 1 + 0 ≤ _), (by decide : 3 + 0 ≤ _)⟩)
    dsimp only [Pt.U, Pt.locs, Pt.cells, Pt.slots] at X68 l68 y68 z68 st68 hQ68
    subst l68 y68 z68
    obtain ⟨rfl, N68q, hq68⟩ := hQ68
    have N68 := Fr.app N66 N68q
    obtain ⟨_, _, ⟨T69, L69, k69, n69⟩, -, X69, ⟨Lc69, hQ69, l69, y69, z69⟩, st69⟩ := Jvm.LawKit.callS X68 hx (y := (⟨"com/example/hummingbird/hummingbird/engine/RhythmWaitingPinLaw", "reference", "([JII)J"⟩ : MethodName)) hown (mvT hZ (hw _ (List.mem_of_getElem? (i := 10) rfl))) (mvT hZ (hw _ (List.mem_of_getElem? (i := 11) rfl))) (mvT hZ (hw _ (List.mem_of_getElem? (i := 12) rfl))) (mvT hZ (hw _ (List.mem_of_getElem? (i := 13) rfl))) (by decide) (backOf (W := 0) (rmRef l Z a0 hw [] b1 f2 t2' cl11 r0 r1 r2 h10 n0 (Nat.le_trans (Nat.le_trans (Nat.le_trans (Nat.le_trans Z0 E1.1) (Keep.of_wr W4).1) (Keep.of_wr W7).1) (Keep.of_wr W10).1) Ar11 S11 t0 t1 t2) hZ (hw _ (List.mem_of_getElem? (i := 13) rfl)) (hw _ (List.mem_of_getElem? (i := 12) rfl)) (by decide) (by decide)) (g := (mkF m 157 #[.val (.long j0), .second, .val (.long j1), .second, .val (.long j2), .second, .val (.int p3), .val (.int p4), .val (.int p5), .val (.ref b1), .val (.int pp), .val (.int qq), .val (.int f1), .val (.int t1'), .val (.int uu), .val (.int vv), .val (.int f2), .val (.int t2'), .val (.long (own_ref f1 t1' r0 r1 r2)), .second, .unset, .unset, .unset, .unset, .unset, .unset, .unset] [(.int t2'), (.int f2), (.ref b1)])) rfl (by rw [hml]; rfl) (argsL := [(.ref b1), (.int f2), (.int t2')]) (rest := []) (lenOf pd_3 rfl) rfl (by show 2 * 0 + _ ≤ _; exact Nat.le_of_eq rfl) (hb hby at_157) (fun _ _ => ⟨rfl, hq68, (by decide : 1 + 0 ≤ _), (by decide : 3 + 0 ≤ _)⟩)
    dsimp only [Pt.U, Pt.locs, Pt.cells, Pt.slots] at X69 l69 y69 z69 st69 hQ69
    subst l69 y69 z69
    obtain ⟨rfl, N69q, hq69⟩ := hQ69
    have N69 := Fr.app N68 N69q
    obtain ⟨T70, h70, X70, e70, E70, A70, D70, -, st70⟩ := newO X69 hx hZ hown (hw _ (List.mem_of_getElem? (i := 19) rfl)) (hw _ (List.mem_of_getElem? (i := 20) rfl)) (hw _ (List.mem_of_getElem? (i := 21) rfl)) hq69 (g := (mkF m 162 #[.val (.long j0), .second, .val (.long j1), .second, .val (.long j2), .second, .val (.int p3), .val (.int p4), .val (.int p5), .val (.ref b1), .val (.int pp), .val (.int qq), .val (.int f1), .val (.int t1'), .val (.int uu), .val (.int vv), .val (.int f2), .val (.int t2'), .val (.long (own_ref f1 t1' r0 r1 r2)), .second, .val (.long (own_ref f2 t2' r0 r1 r2)), .second, .unset, .unset, .unset, .unset, .unset] [])) rfl (hb hby at_162) (by decide) (by decide)
    obtain ⟨b70, g70⟩ : ∃ z, z = h10.size := ⟨_, rfl⟩
    rw [← g70] at A70 D70 st70
    have ne_b1_b70 : b1 ≠ b70 := Nat.ne_of_lt (Nat.lt_of_lt_of_le V10.lt (Nat.le_of_eq g70.symm))
    have F70_points : Fld Z h70 b70 "com/example/hummingbird/hummingbird/engine/Rhythm" "points" "I" (.int (0 : Int32)) := D70 (Or.inr (hw _ (List.mem_of_getElem? (i := 29) rfl))) (ty := .int) (by decide)
    have F70_rates : Fld Z h70 b70 "com/example/hummingbird/hummingbird/engine/Rhythm" "rates" "[J" .null := D70 (Or.inr (hw _ (List.mem_of_getElem? (i := 31) rfl))) (ty := (.array .long)) (by decide)
    have F70_mass : Fld Z h70 b70 "com/example/hummingbird/hummingbird/engine/Rhythm" "mass" "[D" .null := D70 (Or.inl (hw _ (List.mem_of_getElem? (i := 38) rfl))) (ty := (.array .double)) (by decide)
    have F70_moment : Fld Z h70 b70 "com/example/hummingbird/hummingbird/engine/Rhythm" "moment" "[D" .null := D70 (Or.inl (hw _ (List.mem_of_getElem? (i := 45) rfl))) (ty := (.array .double)) (by decide)
    have g_b70 : n0 ≤ b70 := Nat.le_trans (Nat.le_trans (Nat.le_trans (Nat.le_trans (Nat.le_trans Z0 E1.1) (Keep.of_wr W4).1) (Keep.of_wr W7).1) (Keep.of_wr W10).1) (Nat.le_of_eq g70.symm)
    have sz_b70 : h0.size ≤ b70 := (Nat.le_trans K10.1 (Nat.le_of_eq g70.symm))
    have K70 : Keep h0 h70 [] := K10.ext E70
    obtain ⟨_, _, ⟨T71, L71, k71, n71⟩, -, X71, ⟨Lc71, hQ71, l71, y71, z71⟩, st71⟩ := X70.specialBack hx (y := (⟨"com/example/hummingbird/hummingbird/engine/Rhythm", "<init>", "([J)V"⟩ : MethodName)) rfl hown (mvT hZ (hw _ (List.mem_of_getElem? (i := 22) rfl))) (mvT hZ (hw _ (List.mem_of_getElem? (i := 23) rfl))) (mvT hZ (hw _ (List.mem_of_getElem? (i := 24) rfl))) (by decide) (backOf (W := 1) (rmI l Z a0 hw [] b70 b1 cl11 (3 : Int32) h70 n0 (Nat.le_trans (Nat.le_trans (Nat.le_trans (Nat.le_trans (Nat.le_trans Z0 E1.1) (Keep.of_wr W4).1) (Keep.of_wr W7).1) (Keep.of_wr W10).1) E70.1) F70_points F70_rates F70_mass F70_moment A70 g_b70 (Ar11.ext E70) S11 M11) hZ (hw _ (List.mem_of_getElem? (i := 24) rfl)) (hw _ (List.mem_of_getElem? (i := 21) rfl)) (by decide) (by decide)) (g := (mkF m 168 #[.val (.long j0), .second, .val (.long j1), .second, .val (.long j2), .second, .val (.int p3), .val (.int p4), .val (.int p5), .val (.ref b1), .val (.int pp), .val (.int qq), .val (.int f1), .val (.int t1'), .val (.int uu), .val (.int vv), .val (.int f2), .val (.int t2'), .val (.long (own_ref f1 t1' r0 r1 r2)), .second, .val (.long (own_ref f2 t2' r0 r1 r2)), .second, .unset, .unset, .unset, .unset, .unset] [(.ref b1), (.ref b70), (.ref b70)])) rfl (by rw [hml]; rfl) (Steps.refl _) (a := b70) (argsL := [(.ref b1)]) (rest := [(.ref b70)]) (lenOf pd_4 rfl) rfl (by show 2 * 0 + _ ≤ _; exact Nat.le_of_eq rfl) (hb hby at_168) (fun _ _ => ⟨rfl, e70, (by decide : 2 + 0 ≤ _), (by decide : 7 + 0 ≤ _)⟩)
    dsimp only [Pt.U, Pt.locs, Pt.cells, Pt.slots] at X71 l71 y71 z71 st71 hQ71
    subst l71 y71 z71
    obtain ⟨rfl, N71q, Kq71, Eq71, G0q71, G1q71, G2q71, G3q71⟩ := hQ71
    have N71 := Fr.app N69 N71q
    have K71 : Keep h0 T71.heap [] := K70.trans Kq71 (allS (Or.inr sz_b70) all0)
    obtain ⟨cl72, Ar72, q72, S72, M72, H72, G72⟩ := id ((V10.ext E70).keep Kq71 (ninS ne_b1_b70 nin0))
    have u0 : cl72.slots[0]? = some (.long r0) := H72 0 (by rw [S72]; decide)
    have u1 : cl72.slots[1]? = some (.long r1) := H72 1 (by rw [S72]; decide)
    have u2 : cl72.slots[2]? = some (.long r2) := H72 2 (by rw [S72]; decide)
    obtain ⟨cq73, kq73, q73a, q73b, q73c⟩ := isOf hZ rfl Eq71
    obtain ⟨_, _, ⟨T73, L73, k73, n73⟩, -, X73, ⟨Lc73, hQ73, l73, y73, z73⟩, st73⟩ := X71.virtualBack hx (y := (⟨"com/example/hummingbird/hummingbird/engine/Rhythm", "waiting", "(II)D"⟩ : MethodName)) (z := (⟨"com/example/hummingbird/hummingbird/engine/Rhythm", "waiting", "(II)D"⟩ : MethodName)) hown (mvT hZ (hw _ (List.mem_of_getElem? (i := 32) rfl))) (mvT hZ (hw _ (List.mem_of_getElem? (i := 33) rfl))) (notFace_of_selects (args := #[]) (mvT hZ (hw _ (List.mem_of_getElem? (i := 35) rfl)))) (mvT hZ (hw _ (List.mem_of_getElem? (i := 35) rfl))) (mvT hZ (hw _ (List.mem_of_getElem? (i := 34) rfl))) (by decide) (backOf (W := 0) (rmWa l Z a0 hw [] b70 f1 t1' b1 cl72 r0 r1 r2 T71.heap n0 (Nat.le_trans (Nat.le_trans (Nat.le_trans (Nat.le_trans (Nat.le_trans (Nat.le_trans Z0 E1.1) (Keep.of_wr W4).1) (Keep.of_wr W7).1) (Keep.of_wr W10).1) E70.1) Kq71.1) G0q71 G1q71 G2q71 G3q71 Eq71 g_b70 ne_b1_b70 Ar72 S72 u0 u1 u2 Hr0 Hr1 Hr2 s1 s2 s3) hZ (hw _ (List.mem_of_getElem? (i := 36) rfl)) (hw _ (List.mem_of_getElem? (i := 21) rfl)) (by decide) (by decide)) q73a q73c (g := (mkF m 179 #[.val (.long j0), .second, .val (.long j1), .second, .val (.long j2), .second, .val (.int p3), .val (.int p4), .val (.int p5), .val (.ref b1), .val (.int pp), .val (.int qq), .val (.int f1), .val (.int t1'), .val (.int uu), .val (.int vv), .val (.int f2), .val (.int t2'), .val (.long (own_ref f1 t1' r0 r1 r2)), .second, .val (.long (own_ref f2 t2' r0 r1 r2)), .second, .val (.ref b70), .unset, .unset, .unset, .unset] [(.int t1'), (.int f1), (.ref b70)])) rfl (by rw [hml]; rfl) (Steps.refl _) (argsL := [(.int f1), (.int t1')]) (rest := []) (lenOf pd_5 rfl) rfl (by show 2 * 0 + _ ≤ _; exact Nat.le_of_eq rfl) (hb hby at_179) (fun _ _ => ⟨rfl, rfl, (by decide : 2 + 2 ≤ _), (by decide : 7 + 14 ≤ _)⟩)
    dsimp only [Pt.U, Pt.locs, Pt.cells, Pt.slots] at X73 l73 y73 z73 st73 hQ73
    subst l73 y73 z73
    obtain ⟨bm, km, bq, kq, m1, m2, m3, m4, m5, m6, w1, w2, w3, w4, w5, w6, rfl, N73q, Kq73, Eq73, G0q73, G1q73, G2q73, G3q73, V1, V2, hI⟩ := hQ73
    have N73 := Fr.app N71 N73q
    have K73 : Keep h0 T73.heap [] := K71.trans Kq73 (allS (Or.inr sz_b70) all0)
    obtain ⟨cq74, kq74, q74a, q74b, q74c⟩ := isOf hZ rfl Eq73
    obtain ⟨_, _, ⟨T74, L74, k74, n74⟩, -, X74, ⟨Lc74, hQ74, l74, y74, z74⟩, st74⟩ := X73.virtualBack hx (y := (⟨"com/example/hummingbird/hummingbird/engine/Rhythm", "waiting", "(II)D"⟩ : MethodName)) (z := (⟨"com/example/hummingbird/hummingbird/engine/Rhythm", "waiting", "(II)D"⟩ : MethodName)) hown (mvT hZ (hw _ (List.mem_of_getElem? (i := 32) rfl))) (mvT hZ (hw _ (List.mem_of_getElem? (i := 33) rfl))) (notFace_of_selects (args := #[]) (mvT hZ (hw _ (List.mem_of_getElem? (i := 35) rfl)))) (mvT hZ (hw _ (List.mem_of_getElem? (i := 35) rfl))) (mvT hZ (hw _ (List.mem_of_getElem? (i := 34) rfl))) (by decide) (backOf (W := 0) (rmWb l Z a0 hw [] b70 f2 t2' r0 r1 r2 bm km bq kq m1 m2 m3 m4 m5 m6 w1 w2 w3 w4 w5 w6 T73.heap n0 (Nat.le_trans (Nat.le_trans (Nat.le_trans (Nat.le_trans (Nat.le_trans (Nat.le_trans (Nat.le_trans Z0 E1.1) (Keep.of_wr W4).1) (Keep.of_wr W7).1) (Keep.of_wr W10).1) E70.1) Kq71.1) Kq73.1) G2q73 G3q73 V1 V2 hI Hr0 Hr1 Hr2 s4 s5 s6) hZ (hw _ (List.mem_of_getElem? (i := 36) rfl)) (hw _ (List.mem_of_getElem? (i := 21) rfl)) (by decide) (by decide)) q74a q74c (g := (mkF m 190 #[.val (.long j0), .second, .val (.long j1), .second, .val (.long j2), .second, .val (.int p3), .val (.int p4), .val (.int p5), .val (.ref b1), .val (.int pp), .val (.int qq), .val (.int f1), .val (.int t1'), .val (.int uu), .val (.int vv), .val (.int f2), .val (.int t2'), .val (.long (own_ref f1 t1' r0 r1 r2)), .second, .val (.long (own_ref f2 t2' r0 r1 r2)), .second, .val (.ref b70), .val (.double (FP.l2d (own_ref f1 t1' r0 r1 r2))), .second, .unset, .unset] [(.int t2'), (.int f2), (.ref b70)])) rfl (by rw [hml]; rfl) (Steps.refl _) (argsL := [(.int f2), (.int t2')]) (rest := []) (lenOf pd_5 rfl) rfl (by show 2 * 0 + _ ≤ _; exact Nat.le_of_eq rfl) (hb hby at_190) (fun _ _ => ⟨rfl, rfl, (by decide : 4 + 0 ≤ _), (by decide : 21 + 0 ≤ _)⟩)
    dsimp only [Pt.U, Pt.locs, Pt.cells, Pt.slots] at X74 l74 y74 z74 st74 hQ74
    subst l74 y74 z74
    obtain ⟨rfl, N74q, hq74⟩ := hQ74
    have N74 := Fr.app N73 N74q
    have pre75 : ∀ t, Steps p.tables e below (T74.setTop (mkF m 218 #[.val (.long j0), .second, .val (.long j1), .second, .val (.long j2), .second, .val (.int p3), .val (.int p4), .val (.int p5), .val (.ref b1), .val (.int pp), .val (.int qq), .val (.int f1), .val (.int t1'), .val (.int uu), .val (.int vv), .val (.int f2), .val (.int t2'), .val (.long (own_ref f1 t1' r0 r1 r2)), .second, .val (.long (own_ref f2 t2' r0 r1 r2)), .second, .val (.ref b70), .val (.double (FP.l2d (own_ref f1 t1' r0 r1 r2))), .second, .val (.double (FP.l2d (own_ref f2 t2' r0 r1 r2))), .second] [(.int (1 : Int32))])) t → Steps p.tables e below (s₁.setTop (entryFrame m #[(.long j0), (.long j1), (.long j2), (.int p3), (.int p4), (.int p5)] maxLocals)) t := by
      intro t k
      refine pre67 t ?_
      show Steps p.tables e below (T66.setTop (mkF m 138 #[.val (.long j0), .second, .val (.long j1), .second, .val (.long j2), .second, .val (.int p3), .val (.int p4), .val (.int p5), .val (.ref b1), .val (.int pp), .val (.int qq), .val (.int f1), .val (.int t1'), .val (.int uu), .val (.int vv), .val (.int f2), .unset, .unset, .unset, .unset, .unset, .unset, .unset, .unset, .unset, .unset] [(.int t2')])) _
      refine XS.istore X66.here hx rfl (hb hby at_138) rfl (l' := #[.val (.long j0), .second, .val (.long j1), .second, .val (.long j2), .second, .val (.int p3), .val (.int p4), .val (.int p5), .val (.ref b1), .val (.int pp), .val (.int qq), .val (.int f1), .val (.int t1'), .val (.int uu), .val (.int vv), .val (.int f2), .val (.int t2'), .unset, .unset, .unset, .unset, .unset, .unset, .unset, .unset, .unset]) rfl ?_
      show Steps p.tables e below (T66.setTop (mkF m 140 #[.val (.long j0), .second, .val (.long j1), .second, .val (.long j2), .second, .val (.int p3), .val (.int p4), .val (.int p5), .val (.ref b1), .val (.int pp), .val (.int qq), .val (.int f1), .val (.int t1'), .val (.int uu), .val (.int vv), .val (.int f2), .val (.int t2'), .unset, .unset, .unset, .unset, .unset, .unset, .unset, .unset, .unset] [])) _
      refine XS.aload X66.here hx rfl (hb hby at_140) rfl (rfl) ?_
      show Steps p.tables e below (T66.setTop (mkF m 142 #[.val (.long j0), .second, .val (.long j1), .second, .val (.long j2), .second, .val (.int p3), .val (.int p4), .val (.int p5), .val (.ref b1), .val (.int pp), .val (.int qq), .val (.int f1), .val (.int t1'), .val (.int uu), .val (.int vv), .val (.int f2), .val (.int t2'), .unset, .unset, .unset, .unset, .unset, .unset, .unset, .unset, .unset] [(.ref b1)])) _
      refine XS.iload X66.here hx rfl (hb hby at_142) rfl ?_
      show Steps p.tables e below (T66.setTop (mkF m 144 #[.val (.long j0), .second, .val (.long j1), .second, .val (.long j2), .second, .val (.int p3), .val (.int p4), .val (.int p5), .val (.ref b1), .val (.int pp), .val (.int qq), .val (.int f1), .val (.int t1'), .val (.int uu), .val (.int vv), .val (.int f2), .val (.int t2'), .unset, .unset, .unset, .unset, .unset, .unset, .unset, .unset, .unset] [(.int f1), (.ref b1)])) _
      refine XS.iload X66.here hx rfl (hb hby at_144) rfl ?_
      show Steps p.tables e below (T66.setTop (mkF m 146 #[.val (.long j0), .second, .val (.long j1), .second, .val (.long j2), .second, .val (.int p3), .val (.int p4), .val (.int p5), .val (.ref b1), .val (.int pp), .val (.int qq), .val (.int f1), .val (.int t1'), .val (.int uu), .val (.int vv), .val (.int f2), .val (.int t2'), .unset, .unset, .unset, .unset, .unset, .unset, .unset, .unset, .unset] [(.int t1'), (.int f1), (.ref b1)])) _
      refine st68 _ ?_
      show Steps p.tables e below (T68.setTop (mkF m 149 #[.val (.long j0), .second, .val (.long j1), .second, .val (.long j2), .second, .val (.int p3), .val (.int p4), .val (.int p5), .val (.ref b1), .val (.int pp), .val (.int qq), .val (.int f1), .val (.int t1'), .val (.int uu), .val (.int vv), .val (.int f2), .val (.int t2'), .unset, .unset, .unset, .unset, .unset, .unset, .unset, .unset, .unset] [(.long (own_ref f1 t1' r0 r1 r2))])) _
      refine XS.lstore X68.here hx rfl (hb hby at_149) rfl (l' := #[.val (.long j0), .second, .val (.long j1), .second, .val (.long j2), .second, .val (.int p3), .val (.int p4), .val (.int p5), .val (.ref b1), .val (.int pp), .val (.int qq), .val (.int f1), .val (.int t1'), .val (.int uu), .val (.int vv), .val (.int f2), .val (.int t2'), .val (.long (own_ref f1 t1' r0 r1 r2)), .second, .unset, .unset, .unset, .unset, .unset, .unset, .unset]) rfl ?_
      show Steps p.tables e below (T68.setTop (mkF m 151 #[.val (.long j0), .second, .val (.long j1), .second, .val (.long j2), .second, .val (.int p3), .val (.int p4), .val (.int p5), .val (.ref b1), .val (.int pp), .val (.int qq), .val (.int f1), .val (.int t1'), .val (.int uu), .val (.int vv), .val (.int f2), .val (.int t2'), .val (.long (own_ref f1 t1' r0 r1 r2)), .second, .unset, .unset, .unset, .unset, .unset, .unset, .unset] [])) _
      refine XS.aload X68.here hx rfl (hb hby at_151) rfl (rfl) ?_
      show Steps p.tables e below (T68.setTop (mkF m 153 #[.val (.long j0), .second, .val (.long j1), .second, .val (.long j2), .second, .val (.int p3), .val (.int p4), .val (.int p5), .val (.ref b1), .val (.int pp), .val (.int qq), .val (.int f1), .val (.int t1'), .val (.int uu), .val (.int vv), .val (.int f2), .val (.int t2'), .val (.long (own_ref f1 t1' r0 r1 r2)), .second, .unset, .unset, .unset, .unset, .unset, .unset, .unset] [(.ref b1)])) _
      refine XS.iload X68.here hx rfl (hb hby at_153) rfl ?_
      show Steps p.tables e below (T68.setTop (mkF m 155 #[.val (.long j0), .second, .val (.long j1), .second, .val (.long j2), .second, .val (.int p3), .val (.int p4), .val (.int p5), .val (.ref b1), .val (.int pp), .val (.int qq), .val (.int f1), .val (.int t1'), .val (.int uu), .val (.int vv), .val (.int f2), .val (.int t2'), .val (.long (own_ref f1 t1' r0 r1 r2)), .second, .unset, .unset, .unset, .unset, .unset, .unset, .unset] [(.int f2), (.ref b1)])) _
      refine XS.iload X68.here hx rfl (hb hby at_155) rfl ?_
      show Steps p.tables e below (T68.setTop (mkF m 157 #[.val (.long j0), .second, .val (.long j1), .second, .val (.long j2), .second, .val (.int p3), .val (.int p4), .val (.int p5), .val (.ref b1), .val (.int pp), .val (.int qq), .val (.int f1), .val (.int t1'), .val (.int uu), .val (.int vv), .val (.int f2), .val (.int t2'), .val (.long (own_ref f1 t1' r0 r1 r2)), .second, .unset, .unset, .unset, .unset, .unset, .unset, .unset] [(.int t2'), (.int f2), (.ref b1)])) _
      refine st69 _ ?_
      show Steps p.tables e below (T69.setTop (mkF m 160 #[.val (.long j0), .second, .val (.long j1), .second, .val (.long j2), .second, .val (.int p3), .val (.int p4), .val (.int p5), .val (.ref b1), .val (.int pp), .val (.int qq), .val (.int f1), .val (.int t1'), .val (.int uu), .val (.int vv), .val (.int f2), .val (.int t2'), .val (.long (own_ref f1 t1' r0 r1 r2)), .second, .unset, .unset, .unset, .unset, .unset, .unset, .unset] [(.long (own_ref f2 t2' r0 r1 r2))])) _
      refine XS.lstore X69.here hx rfl (hb hby at_160) rfl (l' := #[.val (.long j0), .second, .val (.long j1), .second, .val (.long j2), .second, .val (.int p3), .val (.int p4), .val (.int p5), .val (.ref b1), .val (.int pp), .val (.int qq), .val (.int f1), .val (.int t1'), .val (.int uu), .val (.int vv), .val (.int f2), .val (.int t2'), .val (.long (own_ref f1 t1' r0 r1 r2)), .second, .val (.long (own_ref f2 t2' r0 r1 r2)), .second, .unset, .unset, .unset, .unset, .unset]) rfl ?_
      show Steps p.tables e below (T69.setTop (mkF m 162 #[.val (.long j0), .second, .val (.long j1), .second, .val (.long j2), .second, .val (.int p3), .val (.int p4), .val (.int p5), .val (.ref b1), .val (.int pp), .val (.int qq), .val (.int f1), .val (.int t1'), .val (.int uu), .val (.int vv), .val (.int f2), .val (.int t2'), .val (.long (own_ref f1 t1' r0 r1 r2)), .second, .val (.long (own_ref f2 t2' r0 r1 r2)), .second, .unset, .unset, .unset, .unset, .unset] [])) _
      refine st70 _ ?_
      show Steps p.tables e below (T70.setTop (mkF m 165 #[.val (.long j0), .second, .val (.long j1), .second, .val (.long j2), .second, .val (.int p3), .val (.int p4), .val (.int p5), .val (.ref b1), .val (.int pp), .val (.int qq), .val (.int f1), .val (.int t1'), .val (.int uu), .val (.int vv), .val (.int f2), .val (.int t2'), .val (.long (own_ref f1 t1' r0 r1 r2)), .second, .val (.long (own_ref f2 t2' r0 r1 r2)), .second, .unset, .unset, .unset, .unset, .unset] [(.ref b70)])) _
      refine XS.dup X70.here hx rfl (hb hby at_165) rfl rfl ?_
      show Steps p.tables e below (T70.setTop (mkF m 166 #[.val (.long j0), .second, .val (.long j1), .second, .val (.long j2), .second, .val (.int p3), .val (.int p4), .val (.int p5), .val (.ref b1), .val (.int pp), .val (.int qq), .val (.int f1), .val (.int t1'), .val (.int uu), .val (.int vv), .val (.int f2), .val (.int t2'), .val (.long (own_ref f1 t1' r0 r1 r2)), .second, .val (.long (own_ref f2 t2' r0 r1 r2)), .second, .unset, .unset, .unset, .unset, .unset] [(.ref b70), (.ref b70)])) _
      refine XS.aload X70.here hx rfl (hb hby at_166) rfl (rfl) ?_
      show Steps p.tables e below (T70.setTop (mkF m 168 #[.val (.long j0), .second, .val (.long j1), .second, .val (.long j2), .second, .val (.int p3), .val (.int p4), .val (.int p5), .val (.ref b1), .val (.int pp), .val (.int qq), .val (.int f1), .val (.int t1'), .val (.int uu), .val (.int vv), .val (.int f2), .val (.int t2'), .val (.long (own_ref f1 t1' r0 r1 r2)), .second, .val (.long (own_ref f2 t2' r0 r1 r2)), .second, .unset, .unset, .unset, .unset, .unset] [(.ref b1), (.ref b70), (.ref b70)])) _
      refine st71.trans ?_
      show Steps p.tables e below (T71.setTop (mkF m 171 #[.val (.long j0), .second, .val (.long j1), .second, .val (.long j2), .second, .val (.int p3), .val (.int p4), .val (.int p5), .val (.ref b1), .val (.int pp), .val (.int qq), .val (.int f1), .val (.int t1'), .val (.int uu), .val (.int vv), .val (.int f2), .val (.int t2'), .val (.long (own_ref f1 t1' r0 r1 r2)), .second, .val (.long (own_ref f2 t2' r0 r1 r2)), .second, .unset, .unset, .unset, .unset, .unset] [(.ref b70)])) _
      refine XS.astore X71.here hx rfl (hb hby at_171) rfl (rfl) (l' := #[.val (.long j0), .second, .val (.long j1), .second, .val (.long j2), .second, .val (.int p3), .val (.int p4), .val (.int p5), .val (.ref b1), .val (.int pp), .val (.int qq), .val (.int f1), .val (.int t1'), .val (.int uu), .val (.int vv), .val (.int f2), .val (.int t2'), .val (.long (own_ref f1 t1' r0 r1 r2)), .second, .val (.long (own_ref f2 t2' r0 r1 r2)), .second, .val (.ref b70), .unset, .unset, .unset, .unset]) rfl ?_
      show Steps p.tables e below (T71.setTop (mkF m 173 #[.val (.long j0), .second, .val (.long j1), .second, .val (.long j2), .second, .val (.int p3), .val (.int p4), .val (.int p5), .val (.ref b1), .val (.int pp), .val (.int qq), .val (.int f1), .val (.int t1'), .val (.int uu), .val (.int vv), .val (.int f2), .val (.int t2'), .val (.long (own_ref f1 t1' r0 r1 r2)), .second, .val (.long (own_ref f2 t2' r0 r1 r2)), .second, .val (.ref b70), .unset, .unset, .unset, .unset] [])) _
      refine XS.aload X71.here hx rfl (hb hby at_173) rfl (rfl) ?_
      show Steps p.tables e below (T71.setTop (mkF m 175 #[.val (.long j0), .second, .val (.long j1), .second, .val (.long j2), .second, .val (.int p3), .val (.int p4), .val (.int p5), .val (.ref b1), .val (.int pp), .val (.int qq), .val (.int f1), .val (.int t1'), .val (.int uu), .val (.int vv), .val (.int f2), .val (.int t2'), .val (.long (own_ref f1 t1' r0 r1 r2)), .second, .val (.long (own_ref f2 t2' r0 r1 r2)), .second, .val (.ref b70), .unset, .unset, .unset, .unset] [(.ref b70)])) _
      refine XS.iload X71.here hx rfl (hb hby at_175) rfl ?_
      show Steps p.tables e below (T71.setTop (mkF m 177 #[.val (.long j0), .second, .val (.long j1), .second, .val (.long j2), .second, .val (.int p3), .val (.int p4), .val (.int p5), .val (.ref b1), .val (.int pp), .val (.int qq), .val (.int f1), .val (.int t1'), .val (.int uu), .val (.int vv), .val (.int f2), .val (.int t2'), .val (.long (own_ref f1 t1' r0 r1 r2)), .second, .val (.long (own_ref f2 t2' r0 r1 r2)), .second, .val (.ref b70), .unset, .unset, .unset, .unset] [(.int f1), (.ref b70)])) _
      refine XS.iload X71.here hx rfl (hb hby at_177) rfl ?_
      show Steps p.tables e below (T71.setTop (mkF m 179 #[.val (.long j0), .second, .val (.long j1), .second, .val (.long j2), .second, .val (.int p3), .val (.int p4), .val (.int p5), .val (.ref b1), .val (.int pp), .val (.int qq), .val (.int f1), .val (.int t1'), .val (.int uu), .val (.int vv), .val (.int f2), .val (.int t2'), .val (.long (own_ref f1 t1' r0 r1 r2)), .second, .val (.long (own_ref f2 t2' r0 r1 r2)), .second, .val (.ref b70), .unset, .unset, .unset, .unset] [(.int t1'), (.int f1), (.ref b70)])) _
      refine st73.trans ?_
      show Steps p.tables e below (T73.setTop (mkF m 182 #[.val (.long j0), .second, .val (.long j1), .second, .val (.long j2), .second, .val (.int p3), .val (.int p4), .val (.int p5), .val (.ref b1), .val (.int pp), .val (.int qq), .val (.int f1), .val (.int t1'), .val (.int uu), .val (.int vv), .val (.int f2), .val (.int t2'), .val (.long (own_ref f1 t1' r0 r1 r2)), .second, .val (.long (own_ref f2 t2' r0 r1 r2)), .second, .val (.ref b70), .unset, .unset, .unset, .unset] [(.double (FP.l2d (own_ref f1 t1' r0 r1 r2)))])) _
      refine XS.dstore X73.here hx rfl (hb hby at_182) rfl (l' := #[.val (.long j0), .second, .val (.long j1), .second, .val (.long j2), .second, .val (.int p3), .val (.int p4), .val (.int p5), .val (.ref b1), .val (.int pp), .val (.int qq), .val (.int f1), .val (.int t1'), .val (.int uu), .val (.int vv), .val (.int f2), .val (.int t2'), .val (.long (own_ref f1 t1' r0 r1 r2)), .second, .val (.long (own_ref f2 t2' r0 r1 r2)), .second, .val (.ref b70), .val (.double (FP.l2d (own_ref f1 t1' r0 r1 r2))), .second, .unset, .unset]) rfl ?_
      show Steps p.tables e below (T73.setTop (mkF m 184 #[.val (.long j0), .second, .val (.long j1), .second, .val (.long j2), .second, .val (.int p3), .val (.int p4), .val (.int p5), .val (.ref b1), .val (.int pp), .val (.int qq), .val (.int f1), .val (.int t1'), .val (.int uu), .val (.int vv), .val (.int f2), .val (.int t2'), .val (.long (own_ref f1 t1' r0 r1 r2)), .second, .val (.long (own_ref f2 t2' r0 r1 r2)), .second, .val (.ref b70), .val (.double (FP.l2d (own_ref f1 t1' r0 r1 r2))), .second, .unset, .unset] [])) _
      refine XS.aload X73.here hx rfl (hb hby at_184) rfl (rfl) ?_
      show Steps p.tables e below (T73.setTop (mkF m 186 #[.val (.long j0), .second, .val (.long j1), .second, .val (.long j2), .second, .val (.int p3), .val (.int p4), .val (.int p5), .val (.ref b1), .val (.int pp), .val (.int qq), .val (.int f1), .val (.int t1'), .val (.int uu), .val (.int vv), .val (.int f2), .val (.int t2'), .val (.long (own_ref f1 t1' r0 r1 r2)), .second, .val (.long (own_ref f2 t2' r0 r1 r2)), .second, .val (.ref b70), .val (.double (FP.l2d (own_ref f1 t1' r0 r1 r2))), .second, .unset, .unset] [(.ref b70)])) _
      refine XS.iload X73.here hx rfl (hb hby at_186) rfl ?_
      show Steps p.tables e below (T73.setTop (mkF m 188 #[.val (.long j0), .second, .val (.long j1), .second, .val (.long j2), .second, .val (.int p3), .val (.int p4), .val (.int p5), .val (.ref b1), .val (.int pp), .val (.int qq), .val (.int f1), .val (.int t1'), .val (.int uu), .val (.int vv), .val (.int f2), .val (.int t2'), .val (.long (own_ref f1 t1' r0 r1 r2)), .second, .val (.long (own_ref f2 t2' r0 r1 r2)), .second, .val (.ref b70), .val (.double (FP.l2d (own_ref f1 t1' r0 r1 r2))), .second, .unset, .unset] [(.int f2), (.ref b70)])) _
      refine XS.iload X73.here hx rfl (hb hby at_188) rfl ?_
      show Steps p.tables e below (T73.setTop (mkF m 190 #[.val (.long j0), .second, .val (.long j1), .second, .val (.long j2), .second, .val (.int p3), .val (.int p4), .val (.int p5), .val (.ref b1), .val (.int pp), .val (.int qq), .val (.int f1), .val (.int t1'), .val (.int uu), .val (.int vv), .val (.int f2), .val (.int t2'), .val (.long (own_ref f1 t1' r0 r1 r2)), .second, .val (.long (own_ref f2 t2' r0 r1 r2)), .second, .val (.ref b70), .val (.double (FP.l2d (own_ref f1 t1' r0 r1 r2))), .second, .unset, .unset] [(.int t2'), (.int f2), (.ref b70)])) _
      refine st74.trans ?_
      show Steps p.tables e below (T74.setTop (mkF m 193 #[.val (.long j0), .second, .val (.long j1), .second, .val (.long j2), .second, .val (.int p3), .val (.int p4), .val (.int p5), .val (.ref b1), .val (.int pp), .val (.int qq), .val (.int f1), .val (.int t1'), .val (.int uu), .val (.int vv), .val (.int f2), .val (.int t2'), .val (.long (own_ref f1 t1' r0 r1 r2)), .second, .val (.long (own_ref f2 t2' r0 r1 r2)), .second, .val (.ref b70), .val (.double (FP.l2d (own_ref f1 t1' r0 r1 r2))), .second, .unset, .unset] [(.double (FP.l2d (own_ref f2 t2' r0 r1 r2)))])) _
      refine XS.dstore X74.here hx rfl (hb hby at_193) rfl (l' := #[.val (.long j0), .second, .val (.long j1), .second, .val (.long j2), .second, .val (.int p3), .val (.int p4), .val (.int p5), .val (.ref b1), .val (.int pp), .val (.int qq), .val (.int f1), .val (.int t1'), .val (.int uu), .val (.int vv), .val (.int f2), .val (.int t2'), .val (.long (own_ref f1 t1' r0 r1 r2)), .second, .val (.long (own_ref f2 t2' r0 r1 r2)), .second, .val (.ref b70), .val (.double (FP.l2d (own_ref f1 t1' r0 r1 r2))), .second, .val (.double (FP.l2d (own_ref f2 t2' r0 r1 r2))), .second]) rfl ?_
      show Steps p.tables e below (T74.setTop (mkF m 195 #[.val (.long j0), .second, .val (.long j1), .second, .val (.long j2), .second, .val (.int p3), .val (.int p4), .val (.int p5), .val (.ref b1), .val (.int pp), .val (.int qq), .val (.int f1), .val (.int t1'), .val (.int uu), .val (.int vv), .val (.int f2), .val (.int t2'), .val (.long (own_ref f1 t1' r0 r1 r2)), .second, .val (.long (own_ref f2 t2' r0 r1 r2)), .second, .val (.ref b70), .val (.double (FP.l2d (own_ref f1 t1' r0 r1 r2))), .second, .val (.double (FP.l2d (own_ref f2 t2' r0 r1 r2))), .second] [])) _
      refine XS.dload X74.here hx rfl (hb hby at_195) rfl ?_
      show Steps p.tables e below (T74.setTop (mkF m 197 #[.val (.long j0), .second, .val (.long j1), .second, .val (.long j2), .second, .val (.int p3), .val (.int p4), .val (.int p5), .val (.ref b1), .val (.int pp), .val (.int qq), .val (.int f1), .val (.int t1'), .val (.int uu), .val (.int vv), .val (.int f2), .val (.int t2'), .val (.long (own_ref f1 t1' r0 r1 r2)), .second, .val (.long (own_ref f2 t2' r0 r1 r2)), .second, .val (.ref b70), .val (.double (FP.l2d (own_ref f1 t1' r0 r1 r2))), .second, .val (.double (FP.l2d (own_ref f2 t2' r0 r1 r2))), .second] [(.double (FP.l2d (own_ref f1 t1' r0 r1 r2)))])) _
      refine XS.lload X74.here hx rfl (hb hby at_197) rfl ?_
      show Steps p.tables e below (T74.setTop (mkF m 199 #[.val (.long j0), .second, .val (.long j1), .second, .val (.long j2), .second, .val (.int p3), .val (.int p4), .val (.int p5), .val (.ref b1), .val (.int pp), .val (.int qq), .val (.int f1), .val (.int t1'), .val (.int uu), .val (.int vv), .val (.int f2), .val (.int t2'), .val (.long (own_ref f1 t1' r0 r1 r2)), .second, .val (.long (own_ref f2 t2' r0 r1 r2)), .second, .val (.ref b70), .val (.double (FP.l2d (own_ref f1 t1' r0 r1 r2))), .second, .val (.double (FP.l2d (own_ref f2 t2' r0 r1 r2))), .second] [(.long (own_ref f1 t1' r0 r1 r2)), (.double (FP.l2d (own_ref f1 t1' r0 r1 r2)))])) _
      refine XS.l2dS X74.here hx rfl (hb hby at_199) rfl rfl ?_
      show Steps p.tables e below (T74.setTop (mkF m 200 #[.val (.long j0), .second, .val (.long j1), .second, .val (.long j2), .second, .val (.int p3), .val (.int p4), .val (.int p5), .val (.ref b1), .val (.int pp), .val (.int qq), .val (.int f1), .val (.int t1'), .val (.int uu), .val (.int vv), .val (.int f2), .val (.int t2'), .val (.long (own_ref f1 t1' r0 r1 r2)), .second, .val (.long (own_ref f2 t2' r0 r1 r2)), .second, .val (.ref b70), .val (.double (FP.l2d (own_ref f1 t1' r0 r1 r2))), .second, .val (.double (FP.l2d (own_ref f2 t2' r0 r1 r2))), .second] [(.double (FP.l2d (own_ref f1 t1' r0 r1 r2))), (.double (FP.l2d (own_ref f1 t1' r0 r1 r2)))])) _
      refine XS.dcmpS X74.here hx rfl (hb hby at_200) rfl (dcmpV_self (nn_w rfl) _) ?_
      show Steps p.tables e below (T74.setTop (mkF m 201 #[.val (.long j0), .second, .val (.long j1), .second, .val (.long j2), .second, .val (.int p3), .val (.int p4), .val (.int p5), .val (.ref b1), .val (.int pp), .val (.int qq), .val (.int f1), .val (.int t1'), .val (.int uu), .val (.int vv), .val (.int f2), .val (.int t2'), .val (.long (own_ref f1 t1' r0 r1 r2)), .second, .val (.long (own_ref f2 t2' r0 r1 r2)), .second, .val (.ref b70), .val (.double (FP.l2d (own_ref f1 t1' r0 r1 r2))), .second, .val (.double (FP.l2d (own_ref f2 t2' r0 r1 r2))), .second] [(.int (0 : Int32))])) _
      refine XS.ifNo X74.here hx rfl (hb hby at_201) rfl ((if0 _ _).trans (teq (by decide : (0 : Int32) = (0 : Int32))).2) ?_
      show Steps p.tables e below (T74.setTop (mkF m 204 #[.val (.long j0), .second, .val (.long j1), .second, .val (.long j2), .second, .val (.int p3), .val (.int p4), .val (.int p5), .val (.ref b1), .val (.int pp), .val (.int qq), .val (.int f1), .val (.int t1'), .val (.int uu), .val (.int vv), .val (.int f2), .val (.int t2'), .val (.long (own_ref f1 t1' r0 r1 r2)), .second, .val (.long (own_ref f2 t2' r0 r1 r2)), .second, .val (.ref b70), .val (.double (FP.l2d (own_ref f1 t1' r0 r1 r2))), .second, .val (.double (FP.l2d (own_ref f2 t2' r0 r1 r2))), .second] [])) _
      refine XS.dload X74.here hx rfl (hb hby at_204) rfl ?_
      show Steps p.tables e below (T74.setTop (mkF m 206 #[.val (.long j0), .second, .val (.long j1), .second, .val (.long j2), .second, .val (.int p3), .val (.int p4), .val (.int p5), .val (.ref b1), .val (.int pp), .val (.int qq), .val (.int f1), .val (.int t1'), .val (.int uu), .val (.int vv), .val (.int f2), .val (.int t2'), .val (.long (own_ref f1 t1' r0 r1 r2)), .second, .val (.long (own_ref f2 t2' r0 r1 r2)), .second, .val (.ref b70), .val (.double (FP.l2d (own_ref f1 t1' r0 r1 r2))), .second, .val (.double (FP.l2d (own_ref f2 t2' r0 r1 r2))), .second] [(.double (FP.l2d (own_ref f2 t2' r0 r1 r2)))])) _
      refine XS.lload X74.here hx rfl (hb hby at_206) rfl ?_
      show Steps p.tables e below (T74.setTop (mkF m 208 #[.val (.long j0), .second, .val (.long j1), .second, .val (.long j2), .second, .val (.int p3), .val (.int p4), .val (.int p5), .val (.ref b1), .val (.int pp), .val (.int qq), .val (.int f1), .val (.int t1'), .val (.int uu), .val (.int vv), .val (.int f2), .val (.int t2'), .val (.long (own_ref f1 t1' r0 r1 r2)), .second, .val (.long (own_ref f2 t2' r0 r1 r2)), .second, .val (.ref b70), .val (.double (FP.l2d (own_ref f1 t1' r0 r1 r2))), .second, .val (.double (FP.l2d (own_ref f2 t2' r0 r1 r2))), .second] [(.long (own_ref f2 t2' r0 r1 r2)), (.double (FP.l2d (own_ref f2 t2' r0 r1 r2)))])) _
      refine XS.l2dS X74.here hx rfl (hb hby at_208) rfl rfl ?_
      show Steps p.tables e below (T74.setTop (mkF m 209 #[.val (.long j0), .second, .val (.long j1), .second, .val (.long j2), .second, .val (.int p3), .val (.int p4), .val (.int p5), .val (.ref b1), .val (.int pp), .val (.int qq), .val (.int f1), .val (.int t1'), .val (.int uu), .val (.int vv), .val (.int f2), .val (.int t2'), .val (.long (own_ref f1 t1' r0 r1 r2)), .second, .val (.long (own_ref f2 t2' r0 r1 r2)), .second, .val (.ref b70), .val (.double (FP.l2d (own_ref f1 t1' r0 r1 r2))), .second, .val (.double (FP.l2d (own_ref f2 t2' r0 r1 r2))), .second] [(.double (FP.l2d (own_ref f2 t2' r0 r1 r2))), (.double (FP.l2d (own_ref f2 t2' r0 r1 r2)))])) _
      refine XS.dcmpS X74.here hx rfl (hb hby at_209) rfl (dcmpV_self (nn_w rfl) _) ?_
      show Steps p.tables e below (T74.setTop (mkF m 210 #[.val (.long j0), .second, .val (.long j1), .second, .val (.long j2), .second, .val (.int p3), .val (.int p4), .val (.int p5), .val (.ref b1), .val (.int pp), .val (.int qq), .val (.int f1), .val (.int t1'), .val (.int uu), .val (.int vv), .val (.int f2), .val (.int t2'), .val (.long (own_ref f1 t1' r0 r1 r2)), .second, .val (.long (own_ref f2 t2' r0 r1 r2)), .second, .val (.ref b70), .val (.double (FP.l2d (own_ref f1 t1' r0 r1 r2))), .second, .val (.double (FP.l2d (own_ref f2 t2' r0 r1 r2))), .second] [(.int (0 : Int32))])) _
      refine XS.ifNo X74.here hx rfl (hb hby at_210) rfl ((if0 _ _).trans (teq (by decide : (0 : Int32) = (0 : Int32))).2) ?_
      show Steps p.tables e below (T74.setTop (mkF m 213 #[.val (.long j0), .second, .val (.long j1), .second, .val (.long j2), .second, .val (.int p3), .val (.int p4), .val (.int p5), .val (.ref b1), .val (.int pp), .val (.int qq), .val (.int f1), .val (.int t1'), .val (.int uu), .val (.int vv), .val (.int f2), .val (.int t2'), .val (.long (own_ref f1 t1' r0 r1 r2)), .second, .val (.long (own_ref f2 t2' r0 r1 r2)), .second, .val (.ref b70), .val (.double (FP.l2d (own_ref f1 t1' r0 r1 r2))), .second, .val (.double (FP.l2d (own_ref f2 t2' r0 r1 r2))), .second] [])) _
      refine XS.iconst X74.here hx rfl (hb hby at_213) ?_
      show Steps p.tables e below (T74.setTop (mkF m 214 #[.val (.long j0), .second, .val (.long j1), .second, .val (.long j2), .second, .val (.int p3), .val (.int p4), .val (.int p5), .val (.ref b1), .val (.int pp), .val (.int qq), .val (.int f1), .val (.int t1'), .val (.int uu), .val (.int vv), .val (.int f2), .val (.int t2'), .val (.long (own_ref f1 t1' r0 r1 r2)), .second, .val (.long (own_ref f2 t2' r0 r1 r2)), .second, .val (.ref b70), .val (.double (FP.l2d (own_ref f1 t1' r0 r1 r2))), .second, .val (.double (FP.l2d (own_ref f2 t2' r0 r1 r2))), .second] [(.int (1 : Int32))])) _
      refine XS.goto X74.here hx rfl (pc0 := 214) (pc' := 218) rfl (hb hby at_214) (by decide) (by decide) ?_
      show Steps p.tables e below (T74.setTop (mkF m 218 #[.val (.long j0), .second, .val (.long j1), .second, .val (.long j2), .second, .val (.int p3), .val (.int p4), .val (.int p5), .val (.ref b1), .val (.int pp), .val (.int qq), .val (.int f1), .val (.int t1'), .val (.int uu), .val (.int vv), .val (.int f2), .val (.int t2'), .val (.long (own_ref f1 t1' r0 r1 r2)), .second, .val (.long (own_ref f2 t2' r0 r1 r2)), .second, .val (.ref b70), .val (.double (FP.l2d (own_ref f1 t1' r0 r1 r2))), .second, .val (.double (FP.l2d (own_ref f2 t2' r0 r1 r2))), .second] [(.int (1 : Int32))])) _
      exact k
    obtain ⟨fs, hr, hrun, hended, hW, hsame⟩ := X74.leave (v := some (.int (1 : Int32))) (fun h => by rw [Bd.returns] at h; cases h)
    refine ⟨_, _, pre75 _ ?_, hrun, hended, _, _, rfl, ?_, ⟨_, rfl⟩, hW, hsame.mono (by decide) (by decide)⟩
    · exact retN X74 hx (t := .boolean) Bd.returns (by simp) (hb hby at_218) hr
    · show Q_rm0 Z j0 j1 j2 p3 p4 p5 h0 n0 _ T74.heap _
      rw [hq74]
      exact ⟨rfl, N74⟩
set_option maxRecDepth 65536 in
set_option maxHeartbeats 40000000 in
theorem comes_1 {Post : Tables → Env → Array Value → State → Outcome → State → Prop} (hpost : ∀ tb e args s v u, (limb_1_1.after args s (.returned v) u = true ∧ limb_1_2.after args s (.returned v) u = true ∧ True) → FrameEnd s (.returned v) u (Jvm.fieldLocs frame_1_writes args s ++ Jvm.arrayLocs frame_1_arrays args s ++ Jvm.staticLocs frame_1_statics s) 16 128 → Post tb e args s (.returned v) u) :
    ArmFor flags0 classFile x code maxLocals ret World_1 tables_1 room_1 Calls_1 rest_1 Pre_1 Post := by
  intro l hfl _ _ p e ha hc hk s m args below hf hA hF happ hP
  obtain ⟨hcalls, hrest, hpre⟩ := hP
  obtain ⟨-, -, -, hnamed, -, -, -, hat⟩ := (Spec.applies_iff hf).mp happ
  obtain ⟨hg, hn⟩ := and_e (Cond.before_iff.mp (show (Jvm.Cond.and given_1 narrow_1).before args s = true from hpre))
  obtain ⟨g1, g2⟩ := and_e hg
  obtain ⟨g3, g4⟩ := and_e g2
  obtain ⟨g5, g6⟩ := and_e g4
  obtain ⟨g7, g8⟩ := and_e g6
  obtain ⟨g9, g10⟩ := and_e g8
  obtain ⟨g11, g12⟩ := and_e g10
  obtain ⟨w0, w1, w2, w3, w4, w5, rfl⟩ : ∃ w0 w1 w2 w3 w4 w5 : Value, args = #[w0, w1, w2, w3, w4, w5] := by
    have hs : args.size = 6 := by simpa [Cond.value, given_1] using g1
    obtain ⟨L⟩ := args
    match L, hs with
    | [w0, w1, w2, w3, w4, w5], _ => exact ⟨w0, w1, w2, w3, w4, w5, rfl⟩
  have hw := fun d (hd : d ∈ tables_1) => atoms_spec (ws := Jvm.Cond.code x code maxLocals ret :: tables_1) hat d (List.mem_cons_of_mem _ hd)
  obtain ⟨i0, ei0⟩ := isL_v g3
  obtain rfl : w0 = (.long i0) := Option.some.inj ei0
  obtain ⟨i1, ei1⟩ := isL_v g5
  obtain rfl : w1 = (.long i1) := Option.some.inj ei1
  obtain ⟨i2, ei2⟩ := isL_v g7
  obtain rfl : w2 = (.long i2) := Option.some.inj ei2
  obtain ⟨i3, ei3⟩ := is_v g9
  obtain rfl : w3 = (.int i3) := Option.some.inj ei3
  obtain ⟨i4, ei4⟩ := is_v g11
  obtain rfl : w4 = (.int i4) := Option.some.inj ei4
  obtain ⟨i5, ei5⟩ := is_v g12
  obtain rfl : w5 = (.int i5) := Option.some.inj ei5
  obtain ⟨n, o, h1, h2, h3, _, L, rfl, ⟨rfl, N⟩, hq⟩ := rm0 l s _ hw tables_1 i0 i1 i2 i3 i4 i5 s.heap s.heap.size (Nat.le_refl _)  p e ha hc hk s m _ below hf ((Spec.applies_iff_loose hf).mp happ).1 ⟨rfl, State.Warmed39.refl s, rfl⟩ trivial
  refine ⟨n, _, h1, h2, h3, hpost _ _ _ _ _ _ ⟨Cond.after_iff.mpr rfl, Cond.after_iff.mpr (eq_i res_at (Term.int_eval (1)) rfl), trivial⟩ ⟨hq.1, hq.2.1, (hq.2.2.sift fun y hy => Or.inr (N y hy)).mono (by decide) (by decide)⟩⟩
theorem main_1_1 : Claimed_1_1 := comes_1 fun _ _ _ _ _ _ h hF => ⟨h.1, hF⟩
theorem main_1_2 : Claimed_1_2 := comes_1 fun _ _ _ _ _ _ h hF => ⟨h.2.1, hF⟩
end Jvm.Pilot.@@N@@
namespace Jvm.Pilot.@@N@@
open Jvm Jvm.ClassFile Sem Op Lib Jvm.Free Jvm.Stand Jvm.Pilot.@@N@@.Jvm.D
/-! MADE BY PROGRAM (witnessworld.py) out of the Statement's table words and the real class files: 12 classes; the members and pool entries that the words name. The judged class is class 1, her method 3. -/
namespace start1
open Jvm.ClassFile
def u (s : String) : CpInfo := .utf8 (stringToUtf16 s)
/-- a pool by its gaps: so many unusable entries, then the entry; so many at the end -/
def gap : Nat → List CpInfo → List CpInfo
  | 0, r => r
  | n + 1, r => .unusable :: gap n r
def poolList (es : List (Nat × CpInfo)) (last : Nat) : List CpInfo := es.foldr (fun e r => gap e.1 (e.2 :: r)) (gap last [])
def pool (es : List (Nat × CpInfo)) (last : Nat) : Array CpInfo := ⟨poolList es last⟩
def fileOf (pool : Array CpInfo) (this : Nat) (attrs : Array Attribute := #[]) (ms : Array MethodInfo := #[]) (fl : Nat := 33) (sup : Nat := 0) (ifs : Array Nat := #[]) (fds : Array FieldInfo := #[]) : ClassFile where
  minorVersion := 0
  majorVersion := 65
  constantPool := pool
  accessFlags := fl
  thisClass := this
  superClass := sup
  interfaces := ifs
  fields := fds
  methods := ms
  attributes := attrs
def plain (name : String) (sup : Option ClassId) : Class where
  name := name
  kind := .ordinary
  loader := none
  accessFlags := 33
  super := sup
  interfaces := #[]
  cf := none
  fields := #[]
  methods := #[]
  instanceTypes := #[]
  staticTypes := #[]
  resolved := #[]
  callSites := []
  init := .initialized
  statics := none
  mirror := none

def pool0 : Array CpInfo := pool [(5, u "<init>"), (0, u "()V"), (1, .class_ 10), (1, u "java/lang/Object")] 113

def k0c0 : Code := { maxStack := 0, maxLocals := 1, code := object_method_1_code, exceptionTable := #[], attributes := #[] }
def k0m0 : Method := { name := "<init>", desc := "()V", sig := { parameters := [], returnType := none }, accessFlags := 1, code := some k0c0 }
/-- java/lang/Object -/
def k0 : Class := { plain "java/lang/Object" none with
  accessFlags := 33
  interfaces := #[]
  cf := some (fileOf pool0 8 #[] #[{ accessFlags := 1, nameIndex := 5, descriptorIndex := 6, attributes := #[] }] 33 0 #[] #[])
  fields := #[]
  methods := #[k0m0]
  instanceTypes := #[]
  staticTypes := #[]
  resolved := Array.replicate 124 none
  statics := none }

def pool1 : Array CpInfo := pool [(2, .class_ 4), (1, u "java/lang/Object"), (0, u "<init>"), (0, u "()V"), (0, .long 3), (1, .long 2), (1, .methodref 12 13), (0, .class_ 14), (0, .nameAndType 15 16), (0, u "com/example/hummingbird/hummingbird/engine/RhythmWaitingPinLaw"), (0, u "step"), (0, u "([JIII)J"), (0, .long 17179869183), (1, .integer 2147483647), (0, .methodref 21 22), (0, .class_ 23), (0, .nameAndType 24 25), (0, u "java/lang/Math"), (0, u "min"), (0, u "(II)I"), (0, .methodref 21 27), (0, .nameAndType 28 25), (0, u "max"), (0, .methodref 12 30), (0, .nameAndType 31 32), (0, u "reference"), (0, u "([JII)J"), (0, .class_ 34), (0, u "com/example/hummingbird/hummingbird/engine/Rhythm"), (0, .methodref 33 36), (0, .nameAndType 5 37), (0, u "([J)V"), (0, .methodref 33 39), (0, .nameAndType 40 41), (0, u "waiting"), (0, u "(II)D"), (3, u "law"), (0, u "(JJJIII)Z")] 4

def k1m0 : Method := { name := "<init>", desc := "()V", sig := { parameters := [], returnType := none }, accessFlags := 1, code := none }
def k1c1 : Code := { maxStack := 8, maxLocals := 10, code := method_2_code, exceptionTable := #[], attributes := #[] }
def k1m1 : Method := { name := "step", desc := "([JIII)J", sig := { parameters := [(.array .long), .int, .int, .int], returnType := some .long }, accessFlags := 10, code := some k1c1 }
def k1c2 : Code := { maxStack := 6, maxLocals := 3, code := method_3_code, exceptionTable := #[], attributes := #[] }
def k1m2 : Method := { name := "reference", desc := "([JII)J", sig := { parameters := [(.array .long), .int, .int], returnType := some .long }, accessFlags := 10, code := some k1c2 }
def k1c3 : Code := { maxStack := 7, maxLocals := 27, code := code, exceptionTable := #[], attributes := #[] }
def k1m3 : Method := { name := "law", desc := "(JJJIII)Z", sig := { parameters := [.long, .long, .long, .int, .int, .int], returnType := some .boolean }, accessFlags := 9, code := some k1c3 }
/-- com/example/hummingbird/hummingbird/engine/RhythmWaitingPinLaw -/
def k1 : Class := { plain "com/example/hummingbird/hummingbird/engine/RhythmWaitingPinLaw" (some 0) with
  accessFlags := 49
  interfaces := #[]
  cf := some (fileOf pool1 12 #[] #[{ accessFlags := 1, nameIndex := 5, descriptorIndex := 6, attributes := #[] }, { accessFlags := 10, nameIndex := 15, descriptorIndex := 16, attributes := #[] }, { accessFlags := 10, nameIndex := 31, descriptorIndex := 32, attributes := #[] }, { accessFlags := 9, nameIndex := 45, descriptorIndex := 46, attributes := #[] }] 49 2 #[] #[])
  fields := #[]
  methods := #[k1m0, k1m1, k1m2, k1m3]
  instanceTypes := #[]
  staticTypes := #[]
  resolved := Array.replicate 51 none
  statics := none }

def pool2 : Array CpInfo := pool [(1, .class_ 2), (0, u "java/lang/Math"), (1, .class_ 6), (1, u "java/lang/Object"), (0, u "<init>"), (0, u "()V"), (89, .class_ 100), (1, u "java/lang/Math$RandomNumberGeneratorHolder"), (71, u "negativeZeroFloatBits"), (0, u "J"), (2, u "negativeZeroDoubleBits"), (21, u "max"), (2, u "min"), (43, u "$assertionsDisabled"), (0, u "Z"), (88, u "(II)I"), (2, u "twoToTheDoubleScaleDown"), (0, u "D"), (4, u "twoToTheDoubleScaleUp"), (9, u "E"), (3, u "PI"), (2, u "TAU"), (2, u "DEGREES_TO_RADIANS"), (0, u "RADIANS_TO_DEGREES")] 94

def k2m0 : Method := { name := "<init>", desc := "()V", sig := { parameters := [], returnType := none }, accessFlags := 2, code := none }
def k2c1 : Code := { maxStack := 2, maxLocals := 2, code := jdk_29_method_65_code, exceptionTable := #[], attributes := #[] }
def k2m1 : Method := { name := "max", desc := "(II)I", sig := { parameters := [.int, .int], returnType := some .int }, accessFlags := 9, code := some k2c1 }
def k2c2 : Code := { maxStack := 2, maxLocals := 2, code := jdk_29_method_69_code, exceptionTable := #[], attributes := #[] }
def k2m2 : Method := { name := "min", desc := "(II)I", sig := { parameters := [.int, .int], returnType := some .int }, accessFlags := 9, code := some k2c2 }
/-- java/lang/Math -/
def k2 : Class := { plain "java/lang/Math" (some 0) with
  accessFlags := 49
  interfaces := #[]
  cf := some (fileOf pool2 1 #[.nestMembers #[98]] #[{ accessFlags := 2, nameIndex := 7, descriptorIndex := 8, attributes := #[] }, { accessFlags := 9, nameIndex := 198, descriptorIndex := 335, attributes := #[] }, { accessFlags := 9, nameIndex := 201, descriptorIndex := 335, attributes := #[] }] 49 4 #[] #[{ accessFlags := 25, nameIndex := 354, descriptorIndex := 339, attributes := #[] }, { accessFlags := 25, nameIndex := 358, descriptorIndex := 339, attributes := #[] }, { accessFlags := 25, nameIndex := 361, descriptorIndex := 339, attributes := #[] }, { accessFlags := 26, nameIndex := 364, descriptorIndex := 339, attributes := #[] }, { accessFlags := 26, nameIndex := 365, descriptorIndex := 339, attributes := #[] }, { accessFlags := 26, nameIndex := 172, descriptorIndex := 173, attributes := #[] }, { accessFlags := 26, nameIndex := 176, descriptorIndex := 173, attributes := #[] }, { accessFlags := 8, nameIndex := 344, descriptorIndex := 339, attributes := #[] }, { accessFlags := 8, nameIndex := 338, descriptorIndex := 339, attributes := #[] }, { accessFlags := 4120, nameIndex := 245, descriptorIndex := 246, attributes := #[] }])
  fields := #[{ name := "E", type := .double, accessFlags := 25, slot := 0, constantValue := 0 }, { name := "PI", type := .double, accessFlags := 25, slot := 1, constantValue := 0 }, { name := "TAU", type := .double, accessFlags := 25, slot := 2, constantValue := 0 }, { name := "DEGREES_TO_RADIANS", type := .double, accessFlags := 26, slot := 3, constantValue := 0 }, { name := "RADIANS_TO_DEGREES", type := .double, accessFlags := 26, slot := 4, constantValue := 0 }, { name := "negativeZeroFloatBits", type := .long, accessFlags := 26, slot := 5, constantValue := 0 }, { name := "negativeZeroDoubleBits", type := .long, accessFlags := 26, slot := 6, constantValue := 0 }, { name := "twoToTheDoubleScaleUp", type := .double, accessFlags := 8, slot := 7, constantValue := 0 }, { name := "twoToTheDoubleScaleDown", type := .double, accessFlags := 8, slot := 8, constantValue := 0 }, { name := "$assertionsDisabled", type := .boolean, accessFlags := 4120, slot := 9, constantValue := 0 }]
  methods := #[k2m0, k2m1, k2m2]
  instanceTypes := #[]
  staticTypes := #[.double, .double, .double, .double, .double, .long, .long, .double, .double, .boolean]
  resolved := Array.replicate 460 none
  statics := none }

def pool3 : Array CpInfo := pool [(1, .class_ 2), (0, u "com/example/hummingbird/hummingbird/engine/Rhythm"), (0, .methodref 4 5), (0, .class_ 6), (0, .nameAndType 7 8), (0, u "java/lang/Object"), (0, u "<init>"), (0, u "()V"), (0, .fieldref 1 10), (0, .nameAndType 11 12), (0, u "points"), (0, u "I"), (0, .fieldref 1 14), (0, .nameAndType 15 16), (0, u "rates"), (0, u "[J"), (4, u "([J)V"), (4, .fieldref 1 27), (0, .nameAndType 28 29), (0, u "mass"), (0, u "[D"), (0, .methodref 1 31), (0, .nameAndType 32 8), (0, u "integrate"), (0, .double 4613937818241073152), (1, .fieldref 1 36), (0, .nameAndType 37 29), (0, u "moment"), (2, u "waiting"), (0, u "(II)D"), (30, .double 4611686018427387904), (1, u "HOURS_PER_DAY"), (2, u "MINUTES_PER_HOUR"), (1, u "MINUTES_PER_DAY"), (1, u "HALF_HOUR"), (1, u "DELAY_DECIMALS")] 16

def k3c0 : Code := { maxStack := 2, maxLocals := 2, code := prog_9_method_1_code, exceptionTable := #[], attributes := #[] }
def k3m0 : Method := { name := "<init>", desc := "([J)V", sig := { parameters := [(.array .long)], returnType := none }, accessFlags := 0, code := some k3c0 }
def k3c1 : Code := { maxStack := 6, maxLocals := 3, code := prog_9_method_5_code, exceptionTable := #[], attributes := #[] }
def k3m1 : Method := { name := "waiting", desc := "(II)D", sig := { parameters := [.int, .int], returnType := some .double }, accessFlags := 0, code := some k3c1 }
def k3c2 : Code := { maxStack := 10, maxLocals := 7, code := prog_9_method_11_code, exceptionTable := #[], attributes := #[] }
def k3m2 : Method := { name := "integrate", desc := "()V", sig := { parameters := [], returnType := none }, accessFlags := 2, code := some k3c2 }
/-- com/example/hummingbird/hummingbird/engine/Rhythm -/
def k3 : Class := { plain "com/example/hummingbird/hummingbird/engine/Rhythm" (some 0) with
  accessFlags := 32
  interfaces := #[]
  cf := some (fileOf pool3 1 #[] #[{ accessFlags := 0, nameIndex := 7, descriptorIndex := 21, attributes := #[] }, { accessFlags := 0, nameIndex := 40, descriptorIndex := 41, attributes := #[] }, { accessFlags := 2, nameIndex := 32, descriptorIndex := 8, attributes := #[] }] 32 4 #[] #[{ accessFlags := 26, nameIndex := 74, descriptorIndex := 12, attributes := #[] }, { accessFlags := 26, nameIndex := 77, descriptorIndex := 12, attributes := #[] }, { accessFlags := 26, nameIndex := 79, descriptorIndex := 12, attributes := #[] }, { accessFlags := 26, nameIndex := 81, descriptorIndex := 12, attributes := #[] }, { accessFlags := 26, nameIndex := 83, descriptorIndex := 12, attributes := #[] }, { accessFlags := 18, nameIndex := 11, descriptorIndex := 12, attributes := #[] }, { accessFlags := 18, nameIndex := 15, descriptorIndex := 16, attributes := #[] }, { accessFlags := 2, nameIndex := 28, descriptorIndex := 29, attributes := #[] }, { accessFlags := 2, nameIndex := 37, descriptorIndex := 29, attributes := #[] }])
  fields := #[{ name := "HOURS_PER_DAY", type := .int, accessFlags := 26, slot := 0, constantValue := 0 }, { name := "MINUTES_PER_HOUR", type := .int, accessFlags := 26, slot := 1, constantValue := 0 }, { name := "MINUTES_PER_DAY", type := .int, accessFlags := 26, slot := 2, constantValue := 0 }, { name := "HALF_HOUR", type := .int, accessFlags := 26, slot := 3, constantValue := 0 }, { name := "DELAY_DECIMALS", type := .int, accessFlags := 26, slot := 4, constantValue := 0 }, { name := "points", type := .int, accessFlags := 18, slot := 0, constantValue := 0 }, { name := "rates", type := (.array .long), accessFlags := 18, slot := 1, constantValue := 0 }, { name := "mass", type := (.array .double), accessFlags := 2, slot := 2, constantValue := 0 }, { name := "moment", type := (.array .double), accessFlags := 2, slot := 3, constantValue := 0 }]
  methods := #[k3m0, k3m1, k3m2]
  instanceTypes := #[.int, (.array .long), (.array .double), (.array .double)]
  staticTypes := #[.int, .int, .int, .int, .int]
  resolved := Array.replicate 100 none
  statics := none }

def pool4 : Array CpInfo := pool [(1, u "java/lang/Cloneable"), (0, .class_ 1), (0, u "java/lang/Object"), (0, .class_ 3)] 3

/-- java/lang/Cloneable -/
def k4 : Class := { plain "java/lang/Cloneable" (some 0) with
  accessFlags := 1537
  interfaces := #[]
  cf := some (fileOf pool4 2 #[] #[] 1537 4 #[] #[])
  fields := #[]
  methods := #[]
  instanceTypes := #[]
  staticTypes := #[]
  resolved := Array.replicate 8 none
  statics := none }

def pool5 : Array CpInfo := pool [(1, u "java/io/Serializable"), (0, .class_ 1), (0, u "java/lang/Object"), (0, .class_ 3)] 3

/-- java/io/Serializable -/
def k5 : Class := { plain "java/io/Serializable" (some 0) with
  accessFlags := 1537
  interfaces := #[]
  cf := some (fileOf pool5 2 #[] #[] 1537 4 #[] #[])
  fields := #[]
  methods := #[]
  instanceTypes := #[]
  staticTypes := #[]
  resolved := Array.replicate 8 none
  statics := none }

/-- the primitive byte -/
def k6 : Class := { plain "byte" none with kind := .primitive 'B', accessFlags := 0x411 }
/-- [B -/
def k7 : Class := { plain "[B" (some 0) with kind := .array 6 .byte, interfaces := #[4, 5], accessFlags := 1041 }

/-- the primitive int -/
def k8 : Class := { plain "int" none with kind := .primitive 'I', accessFlags := 0x411 }
/-- [I -/
def k9 : Class := { plain "[I" (some 0) with kind := .array 8 .int, interfaces := #[4, 5], accessFlags := 1041 }

/-- the primitive long -/
def k10 : Class := { plain "long" none with kind := .primitive 'J', accessFlags := 0x411 }
/-- [J -/
def k11 : Class := { plain "[J" (some 0) with kind := .array 10 .long, interfaces := #[4, 5], accessFlags := 1041 }
def k12 : Class := { plain "double" none with kind := .primitive 'D', accessFlags := 0x411 }
def k13 : Class := { plain "[D" (some 0) with kind := .array 12 .double, interfaces := #[4, 5], accessFlags := 1041 }

def heap : Heap := #[]
def classes : Array Class := #[k0, k1, k2, k3, k4, k5, k6, k7, k8, k9, k10, k11, k12, k13]
def interned : List (Array UInt16 × Addr) := []
def slotsUsed : Nat := 0
def theMethod : MethodId := ⟨1, 3⟩
def args0 : Array Value := #[.long 5, .long 7, .long 9, .int 3, .int 12, .int 123456]
def aboutOver (below : List Frame) : State where
  vm := { classes := classes, interned := interned.toArray }
  heap := heap
  slotsUsed := slotsUsed
  threads := #[{ frames := .invoking theMethod args0 :: below }]
def below0 : List Frame := [.native { method := ⟨0, 0⟩, args := #[] }]
def about1 : State := aboutOver below0
def p0 : Program := .bare "" "" ""
def e0 : Env := launch0.env 0 0 0
theorem w_frames : about1.frames = Frame.invoking theMethod args0 :: below0 := rfl
set_option maxRecDepth 65536 in
theorem w_args : argsFit about1.vm theMethod args0 = true := by decide +kernel
set_option maxRecDepth 65536 in
theorem w_heap : heapFits about1 = true := by decide +kernel
set_option maxRecDepth 65536 in
theorem w_runnable : about1.curStatus? = some .runnable := by decide +kernel
set_option maxRecDepth 65536 in
theorem w_alone : about1.alone = true := by decide +kernel
set_option maxRecDepth 65536 in
theorem w_named : about1.methodNamed? x = some theMethod := by decide +kernel
set_option maxRecDepth 65536 in
theorem w_hears : about1.hears theMethod below0 = true := by decide +kernel
set_option maxRecDepth 65536 in
theorem w_ripe : about1.ripe theMethod args0 below0 = true := by decide +kernel
theorem w_running : about1.status = .running := rfl
set_option maxRecDepth 65536 in
theorem w_room : about1.hasRoom e0.platform room_1 = true :=
  launch0.hasRoom_least _ room_1 (by decide +kernel) (by decide +kernel) (by decide +kernel) (by decide +kernel) (by decide +kernel) (by decide +kernel)
theorem allAtoms_all (ts : List Jvm.Cond) (a : Array Jvm.Value) (st : Jvm.State) : (allAtoms ts).before a st = ts.all (fun c => c.before a st) := by
  induction ts with
  | nil => rfl
  | cons c t ih =>
    show (Jvm.Cond.and c (allAtoms t)).before a st = _
    rw [Jvm.Cond.before_and, ih, List.all_cons]
def words1 : List Jvm.Cond := Jvm.Cond.code x code maxLocals ret :: tables_1
/-- a 'code' word, met by the world's own term for the bytes: nothing is compared byte by byte -/
theorem code_word {y : MethodName} {bytes : ByteArray} {mx : Nat} {rt : Option FieldType} {a : Array Value} {s : State} {m : MethodId} {meth : Method} {c : Code} (h1 : s.methodNamed? y = some m) (h2 : s.vm.method? m = some meth) (h3 : meth.code = some c) (h4 : c.code = bytes)
    (h5 : (c.maxLocals == mx && c.exceptionTable.isEmpty && decide (c.maxStack ≤ mostOperands) && decide (meth.sig.returnType = rt) && !meth.locks && decide (parseMethodDescriptor y.desc = some meth.sig)) = true) : (Jvm.Cond.code y bytes mx rt).before a s = true := by
  simp only [Bool.and_eq_true, beq_iff_eq, Bool.not_eq_true', decide_eq_true_eq] at h5
  obtain ⟨⟨⟨⟨⟨g1, g2⟩, g3⟩, g4⟩, g5⟩, g6⟩ := h5
  simp [Cond.before, Cond.holds, Cond.value, h1, h2, h3, h4, g1, g2, g3, g4, g5, g6]
def isCode : Jvm.Cond → Bool
  | .code _ _ _ _ => true
  | _ => false
theorem all_split {L : List Jvm.Cond} {P : Jvm.Cond → Bool} (h1 : L.all (fun c => isCode c || P c) = true) (h2 : ∀ c ∈ L.filter isCode, P c = true) : L.all P = true := by
  refine List.all_eq_true.mpr fun c hc => ?_
  have h := List.all_eq_true.mp h1 c hc
  rcases Bool.eq_false_or_eq_true (isCode c) with hi | hi
  · exact h2 c (List.mem_filter.mpr ⟨hc, hi⟩)
  · simpa [hi] using h
set_option maxRecDepth 65536 in
theorem w_c0 : (Jvm.Cond.code x code maxLocals ret).before args0 about1 = true := code_word (m := ⟨1, 3⟩) (meth := k1m3) (c := k1c3) (by decide +kernel) rfl rfl rfl (by decide +kernel)
set_option maxRecDepth 65536 in
theorem w_c1 : (Jvm.Cond.code ({ cls := "java/lang/Math", name := "min", desc := "(II)I" } : Jvm.MethodName) jdk_29_method_69_code (2 : Nat) (Option.some Jvm.ClassFile.FieldType.int)).before args0 about1 = true := code_word (m := ⟨2, 2⟩) (meth := k2m2) (c := k2c2) (by decide +kernel) rfl rfl rfl (by decide +kernel)
set_option maxRecDepth 65536 in
theorem w_c2 : (Jvm.Cond.code ({ cls := "java/lang/Math", name := "max", desc := "(II)I" } : Jvm.MethodName) jdk_29_method_65_code (2 : Nat) (Option.some Jvm.ClassFile.FieldType.int)).before args0 about1 = true := code_word (m := ⟨2, 1⟩) (meth := k2m1) (c := k2c1) (by decide +kernel) rfl rfl rfl (by decide +kernel)
set_option maxRecDepth 65536 in
theorem w_c3 : (Jvm.Cond.code ({ cls := "com/example/hummingbird/hummingbird/engine/RhythmWaitingPinLaw", name := "reference", desc := "([JII)J" } : Jvm.MethodName) method_3_code (3 : Nat) (Option.some Jvm.ClassFile.FieldType.long)).before args0 about1 = true := code_word (m := ⟨1, 2⟩) (meth := k1m2) (c := k1c2) (by decide +kernel) rfl rfl rfl (by decide +kernel)
set_option maxRecDepth 65536 in
theorem w_c4 : (Jvm.Cond.code ({ cls := "com/example/hummingbird/hummingbird/engine/RhythmWaitingPinLaw", name := "step", desc := "([JIII)J" } : Jvm.MethodName) method_2_code (10 : Nat) (Option.some Jvm.ClassFile.FieldType.long)).before args0 about1 = true := code_word (m := ⟨1, 1⟩) (meth := k1m1) (c := k1c1) (by decide +kernel) rfl rfl rfl (by decide +kernel)
set_option maxRecDepth 65536 in
theorem w_c5 : (Jvm.Cond.code ({ cls := "com/example/hummingbird/hummingbird/engine/Rhythm", name := "<init>", desc := "([J)V" } : Jvm.MethodName) prog_9_method_1_code (2 : Nat) (Option.none : Option Jvm.ClassFile.FieldType)).before args0 about1 = true := code_word (m := ⟨3, 0⟩) (meth := k3m0) (c := k3c0) (by decide +kernel) rfl rfl rfl (by decide +kernel)
set_option maxRecDepth 65536 in
theorem w_c6 : (Jvm.Cond.code ({ cls := "java/lang/Object", name := "<init>", desc := "()V" } : Jvm.MethodName) object_method_1_code (1 : Nat) (Option.none : Option Jvm.ClassFile.FieldType)).before args0 about1 = true := code_word (m := ⟨0, 0⟩) (meth := k0m0) (c := k0c0) (by decide +kernel) rfl rfl rfl (by decide +kernel)
set_option maxRecDepth 65536 in
theorem w_c7 : (Jvm.Cond.code ({ cls := "com/example/hummingbird/hummingbird/engine/Rhythm", name := "waiting", desc := "(II)D" } : Jvm.MethodName) prog_9_method_5_code (3 : Nat) (Option.some Jvm.ClassFile.FieldType.double)).before args0 about1 = true := code_word (m := ⟨3, 1⟩) (meth := k3m1) (c := k3c1) (by decide +kernel) rfl rfl rfl (by decide +kernel)
set_option maxRecDepth 65536 in
theorem w_c8 : (Jvm.Cond.code ({ cls := "com/example/hummingbird/hummingbird/engine/Rhythm", name := "integrate", desc := "()V" } : Jvm.MethodName) prog_9_method_11_code (7 : Nat) (Option.none : Option Jvm.ClassFile.FieldType)).before args0 about1 = true := code_word (m := ⟨3, 2⟩) (meth := k3m2) (c := k3c2) (by decide +kernel) rfl rfl rfl (by decide +kernel)
def codes1 : List Jvm.Cond := [Jvm.Cond.code x code maxLocals ret, Jvm.Cond.code ({ cls := "java/lang/Math", name := "min", desc := "(II)I" } : Jvm.MethodName) jdk_29_method_69_code (2 : Nat) (Option.some Jvm.ClassFile.FieldType.int), Jvm.Cond.code ({ cls := "java/lang/Math", name := "max", desc := "(II)I" } : Jvm.MethodName) jdk_29_method_65_code (2 : Nat) (Option.some Jvm.ClassFile.FieldType.int), Jvm.Cond.code ({ cls := "com/example/hummingbird/hummingbird/engine/RhythmWaitingPinLaw", name := "reference", desc := "([JII)J" } : Jvm.MethodName) method_3_code (3 : Nat) (Option.some Jvm.ClassFile.FieldType.long), Jvm.Cond.code ({ cls := "com/example/hummingbird/hummingbird/engine/RhythmWaitingPinLaw", name := "step", desc := "([JIII)J" } : Jvm.MethodName) method_2_code (10 : Nat) (Option.some Jvm.ClassFile.FieldType.long), Jvm.Cond.code ({ cls := "com/example/hummingbird/hummingbird/engine/Rhythm", name := "<init>", desc := "([J)V" } : Jvm.MethodName) prog_9_method_1_code (2 : Nat) (Option.none : Option Jvm.ClassFile.FieldType), Jvm.Cond.code ({ cls := "java/lang/Object", name := "<init>", desc := "()V" } : Jvm.MethodName) object_method_1_code (1 : Nat) (Option.none : Option Jvm.ClassFile.FieldType), Jvm.Cond.code ({ cls := "com/example/hummingbird/hummingbird/engine/Rhythm", name := "waiting", desc := "(II)D" } : Jvm.MethodName) prog_9_method_5_code (3 : Nat) (Option.some Jvm.ClassFile.FieldType.double), Jvm.Cond.code ({ cls := "com/example/hummingbird/hummingbird/engine/Rhythm", name := "integrate", desc := "()V" } : Jvm.MethodName) prog_9_method_11_code (7 : Nat) (Option.none : Option Jvm.ClassFile.FieldType)]
set_option maxRecDepth 65536 in
theorem codes_eq : words1.filter isCode = codes1 := rfl
theorem w_codes : ∀ c ∈ words1.filter isCode, c.before args0 about1 = true := by
  rw [codes_eq]
  intro c hc
  simp only [codes1, List.mem_cons, List.not_mem_nil, or_false] at hc
  rcases hc with rfl | rfl | rfl | rfl | rfl | rfl | rfl | rfl | rfl
  · exact w_c0
  · exact w_c1
  · exact w_c2
  · exact w_c3
  · exact w_c4
  · exact w_c5
  · exact w_c6
  · exact w_c7
  · exact w_c8
set_option maxRecDepth 65536 in
theorem w_t1 : (words1.take 24).all (fun c => isCode c || c.before args0 about1) = true := by decide +kernel
set_option maxRecDepth 65536 in
theorem w_t2 : ((words1.drop 24).take 24).all (fun c => isCode c || c.before args0 about1) = true := by decide +kernel
set_option maxRecDepth 65536 in
theorem w_t3 : ((words1.drop 24).drop 24).all (fun c => isCode c || c.before args0 about1) = true := by decide +kernel
theorem w_tables : (allAtoms (Jvm.Cond.code x code maxLocals ret :: tables_1)).before args0 about1 = true := by
  rw [allAtoms_all]
  show words1.all (fun c => c.before args0 about1) = true
  refine all_split ?_ w_codes
  rw [← List.take_append_drop 24 words1, List.all_append, w_t1, ← List.take_append_drop 24 (words1.drop 24), List.all_append, w_t2, w_t3]
  rfl
set_option maxRecDepth 65536 in
theorem w_case : (Jvm.Cond.and given_1 narrow_1).before args0 about1 = true := by decide +kernel
theorem w_applies : (headSpec (Jvm.Cond.code x code maxLocals ret :: tables_1) room_1).applies x e0.platform about1 = true :=
  (Spec.applies_iff w_frames).mpr ⟨w_running, w_runnable, w_alone, w_named, w_hears, w_ripe, w_room, w_tables⟩
theorem atStart : AtStart classFile x code maxLocals ret World_1 tables_1 room_1 Calls_1 rest_1 Pre_1 launch0 p0 e0 about1 theMethod args0 below0 :=
  ⟨lists_1, trivial, launch0.admits_env _ _ _, launch0.least_env, fairChoices_fair.cas, fairChoices_fair.clock, w_frames, w_args, w_heap, w_applies, trivial, trivial, w_case⟩
end start1
theorem witness_1 : WitnessClaimed_1 := ⟨start1.p0, start1.e0, start1.about1, start1.theMethod, start1.args0, start1.below0, start1.atStart⟩
end Jvm.Pilot.@@N@@
