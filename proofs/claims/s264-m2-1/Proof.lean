import JvmDerived
import JvmDerived.Pilot.@@N@@Statement
import JvmDerived.Pilot.@@N@@Code
set_option linter.unusedVariables false
set_option linter.unusedSimpArgs false
@@BLOCK:NumsL.lean.txt@@
namespace Jvm.Pilot.@@N@@
open Jvm Jvm.ClassFile Sem Op Lib Jvm.Free Jvm.Stand Jvm.LawKit Jvm.RoadKit Bundle Jvm.Pilot.@@N@@.Jvm.D

theorem own_r {x z : Int32} (e : z = (x &&& (2147483647 : Int32)) % (26 : Int32)) : 0 ≤ z.toInt ∧ z.toInt < 26 := by
  have e1 : (x &&& 2147483647).toInt = x.toInt % 2 ^ 31 := Jvm.Kit.i32_mask x 2147483647 (k := 31) (by decide) (by decide)
  have e2 : z.toInt = (x &&& 2147483647).toInt % (26 : Int32).toInt := by rw [e]; exact Jvm.Kit.i32_rem_nonneg (by omega)
  rw [show (26 : Int32).toInt = 26 from rfl] at e2
  omega
theorem own_last {z : Int32} (h0 : 0 ≤ z.toInt) (h1 : z.toInt < 26) (n0 : ¬ z = (0 : Int32)) (n1 : ¬ z = (1 : Int32)) (n2 : ¬ z = (2 : Int32)) (n3 : ¬ z = (3 : Int32)) (n4 : ¬ z = (4 : Int32)) (n5 : ¬ z = (5 : Int32)) (n6 : ¬ z = (6 : Int32)) (n7 : ¬ z = (7 : Int32)) (n8 : ¬ z = (8 : Int32)) (n9 : ¬ z = (9 : Int32)) (n10 : ¬ z = (10 : Int32)) (n11 : ¬ z = (11 : Int32)) (n12 : ¬ z = (12 : Int32)) (n13 : ¬ z = (13 : Int32)) (n14 : ¬ z = (14 : Int32)) (n15 : ¬ z = (15 : Int32)) (n16 : ¬ z = (16 : Int32)) (n17 : ¬ z = (17 : Int32)) (n18 : ¬ z = (18 : Int32)) (n19 : ¬ z = (19 : Int32)) (n20 : ¬ z = (20 : Int32)) (n21 : ¬ z = (21 : Int32)) (n22 : ¬ z = (22 : Int32)) (n23 : ¬ z = (23 : Int32)) (n24 : ¬ z = (24 : Int32)) : z = 25 := by
  have m : ∀ j : Int32, ¬ z = j → z.toInt ≠ j.toInt := fun j q r => q (Int32.toInt_inj.mp r)
  have m0 := m _ n0
  rw [show (0 : Int32).toInt = 0 from rfl] at m0
  have m1 := m _ n1
  rw [show (1 : Int32).toInt = 1 from rfl] at m1
  have m2 := m _ n2
  rw [show (2 : Int32).toInt = 2 from rfl] at m2
  have m3 := m _ n3
  rw [show (3 : Int32).toInt = 3 from rfl] at m3
  have m4 := m _ n4
  rw [show (4 : Int32).toInt = 4 from rfl] at m4
  have m5 := m _ n5
  rw [show (5 : Int32).toInt = 5 from rfl] at m5
  have m6 := m _ n6
  rw [show (6 : Int32).toInt = 6 from rfl] at m6
  have m7 := m _ n7
  rw [show (7 : Int32).toInt = 7 from rfl] at m7
  have m8 := m _ n8
  rw [show (8 : Int32).toInt = 8 from rfl] at m8
  have m9 := m _ n9
  rw [show (9 : Int32).toInt = 9 from rfl] at m9
  have m10 := m _ n10
  rw [show (10 : Int32).toInt = 10 from rfl] at m10
  have m11 := m _ n11
  rw [show (11 : Int32).toInt = 11 from rfl] at m11
  have m12 := m _ n12
  rw [show (12 : Int32).toInt = 12 from rfl] at m12
  have m13 := m _ n13
  rw [show (13 : Int32).toInt = 13 from rfl] at m13
  have m14 := m _ n14
  rw [show (14 : Int32).toInt = 14 from rfl] at m14
  have m15 := m _ n15
  rw [show (15 : Int32).toInt = 15 from rfl] at m15
  have m16 := m _ n16
  rw [show (16 : Int32).toInt = 16 from rfl] at m16
  have m17 := m _ n17
  rw [show (17 : Int32).toInt = 17 from rfl] at m17
  have m18 := m _ n18
  rw [show (18 : Int32).toInt = 18 from rfl] at m18
  have m19 := m _ n19
  rw [show (19 : Int32).toInt = 19 from rfl] at m19
  have m20 := m _ n20
  rw [show (20 : Int32).toInt = 20 from rfl] at m20
  have m21 := m _ n21
  rw [show (21 : Int32).toInt = 21 from rfl] at m21
  have m22 := m _ n22
  rw [show (22 : Int32).toInt = 22 from rfl] at m22
  have m23 := m _ n23
  rw [show (23 : Int32).toInt = 23 from rfl] at m23
  have m24 := m _ n24
  rw [show (24 : Int32).toInt = 24 from rfl] at m24
  refine Int32.toInt_inj.mp ?_
  rw [show (25 : Int32).toInt = 25 from rfl]; omega
theorem own_nat {z : Int32} (h0 : 0 ≤ z.toInt) (h1 : z.toInt < 26) : z.toNatClampNeg < 26 := by simp only [Int32.toNatClampNeg]; omega
theorem own_ne {z w : Int32} (h0 : 0 ≤ z.toInt) (h1 : 0 ≤ w.toInt) (h : ¬ z = w) : z.toNatClampNeg ≠ w.toNatClampNeg := fun q => h (Int32.toInt_inj.mp (by simp only [Int32.toNatClampNeg] at q; omega))
theorem ef_rmP (m : MethodId) (x0 : Int32) : entryFrame m #[(.int x0)] 1 = mkF m 0 #[.val (.int x0)] [] := by first | (simp [entryFrame, mkF, argsToLocals, Value.category]; done) | rfl
theorem pn_1 : plainName "com/example/names_to_queries/namestoqueries/query/KeywordTakesCollectionPinLaw" = true := by first | (simp [plainName, overriddenIn]; done) | decide +kernel
theorem d1_0 : decode method_2_code 0 = .ok (.iload_n 0, 1) := by decide +kernel
theorem d1_1 : decode method_2_code 1 = .ok (.ifCond .ne 7, 3) := by decide +kernel
theorem d1_4 : decode method_2_code 4 = .ok (.getstatic 7, 3) := by decide +kernel
theorem d1_7 : decode method_2_code 7 = .ok (.areturn, 1) := by decide +kernel
theorem d1_8 : decode method_2_code 8 = .ok (.iload_n 0, 1) := by decide +kernel
theorem d1_9 : decode method_2_code 9 = .ok (.iconst 1, 1) := by decide +kernel
theorem d1_10 : decode method_2_code 10 = .ok (.if_icmp .ne 7, 3) := by decide +kernel
theorem d1_13 : decode method_2_code 13 = .ok (.getstatic 13, 3) := by decide +kernel
theorem d1_16 : decode method_2_code 16 = .ok (.areturn, 1) := by decide +kernel
theorem d1_17 : decode method_2_code 17 = .ok (.iload_n 0, 1) := by decide +kernel
theorem d1_18 : decode method_2_code 18 = .ok (.iconst 2, 1) := by decide +kernel
theorem d1_19 : decode method_2_code 19 = .ok (.if_icmp .ne 7, 3) := by decide +kernel
theorem d1_22 : decode method_2_code 22 = .ok (.getstatic 16, 3) := by decide +kernel
theorem d1_25 : decode method_2_code 25 = .ok (.areturn, 1) := by decide +kernel
theorem d1_26 : decode method_2_code 26 = .ok (.iload_n 0, 1) := by decide +kernel
theorem d1_27 : decode method_2_code 27 = .ok (.iconst 3, 1) := by decide +kernel
theorem d1_28 : decode method_2_code 28 = .ok (.if_icmp .ne 7, 3) := by decide +kernel
theorem d1_31 : decode method_2_code 31 = .ok (.getstatic 19, 3) := by decide +kernel
theorem d1_34 : decode method_2_code 34 = .ok (.areturn, 1) := by decide +kernel
theorem d1_35 : decode method_2_code 35 = .ok (.iload_n 0, 1) := by decide +kernel
theorem d1_36 : decode method_2_code 36 = .ok (.iconst 4, 1) := by decide +kernel
theorem d1_37 : decode method_2_code 37 = .ok (.if_icmp .ne 7, 3) := by decide +kernel
theorem d1_40 : decode method_2_code 40 = .ok (.getstatic 22, 3) := by decide +kernel
theorem d1_43 : decode method_2_code 43 = .ok (.areturn, 1) := by decide +kernel
theorem d1_44 : decode method_2_code 44 = .ok (.iload_n 0, 1) := by decide +kernel
theorem d1_45 : decode method_2_code 45 = .ok (.iconst 5, 1) := by decide +kernel
theorem d1_46 : decode method_2_code 46 = .ok (.if_icmp .ne 7, 3) := by decide +kernel
theorem d1_49 : decode method_2_code 49 = .ok (.getstatic 25, 3) := by decide +kernel
theorem d1_52 : decode method_2_code 52 = .ok (.areturn, 1) := by decide +kernel
theorem d1_53 : decode method_2_code 53 = .ok (.iload_n 0, 1) := by decide +kernel
theorem d1_54 : decode method_2_code 54 = .ok (.bipush 6, 2) := by decide +kernel
theorem d1_56 : decode method_2_code 56 = .ok (.if_icmp .ne 7, 3) := by decide +kernel
theorem d1_59 : decode method_2_code 59 = .ok (.getstatic 28, 3) := by decide +kernel
theorem d1_62 : decode method_2_code 62 = .ok (.areturn, 1) := by decide +kernel
theorem d1_63 : decode method_2_code 63 = .ok (.iload_n 0, 1) := by decide +kernel
theorem d1_64 : decode method_2_code 64 = .ok (.bipush 7, 2) := by decide +kernel
theorem d1_66 : decode method_2_code 66 = .ok (.if_icmp .ne 7, 3) := by decide +kernel
theorem d1_69 : decode method_2_code 69 = .ok (.getstatic 31, 3) := by decide +kernel
theorem d1_72 : decode method_2_code 72 = .ok (.areturn, 1) := by decide +kernel
theorem d1_73 : decode method_2_code 73 = .ok (.iload_n 0, 1) := by decide +kernel
theorem d1_74 : decode method_2_code 74 = .ok (.bipush 8, 2) := by decide +kernel
theorem d1_76 : decode method_2_code 76 = .ok (.if_icmp .ne 7, 3) := by decide +kernel
theorem d1_79 : decode method_2_code 79 = .ok (.getstatic 34, 3) := by decide +kernel
theorem d1_82 : decode method_2_code 82 = .ok (.areturn, 1) := by decide +kernel
theorem d1_83 : decode method_2_code 83 = .ok (.iload_n 0, 1) := by decide +kernel
theorem d1_84 : decode method_2_code 84 = .ok (.bipush 9, 2) := by decide +kernel
theorem d1_86 : decode method_2_code 86 = .ok (.if_icmp .ne 7, 3) := by decide +kernel
theorem d1_89 : decode method_2_code 89 = .ok (.getstatic 37, 3) := by decide +kernel
theorem d1_92 : decode method_2_code 92 = .ok (.areturn, 1) := by decide +kernel
theorem d1_93 : decode method_2_code 93 = .ok (.iload_n 0, 1) := by decide +kernel
theorem d1_94 : decode method_2_code 94 = .ok (.bipush 10, 2) := by decide +kernel
theorem d1_96 : decode method_2_code 96 = .ok (.if_icmp .ne 7, 3) := by decide +kernel
theorem d1_99 : decode method_2_code 99 = .ok (.getstatic 40, 3) := by decide +kernel
theorem d1_102 : decode method_2_code 102 = .ok (.areturn, 1) := by decide +kernel
theorem d1_103 : decode method_2_code 103 = .ok (.iload_n 0, 1) := by decide +kernel
theorem d1_104 : decode method_2_code 104 = .ok (.bipush 11, 2) := by decide +kernel
theorem d1_106 : decode method_2_code 106 = .ok (.if_icmp .ne 7, 3) := by decide +kernel
theorem d1_109 : decode method_2_code 109 = .ok (.getstatic 43, 3) := by decide +kernel
theorem d1_112 : decode method_2_code 112 = .ok (.areturn, 1) := by decide +kernel
theorem d1_113 : decode method_2_code 113 = .ok (.iload_n 0, 1) := by decide +kernel
theorem d1_114 : decode method_2_code 114 = .ok (.bipush 12, 2) := by decide +kernel
theorem d1_116 : decode method_2_code 116 = .ok (.if_icmp .ne 7, 3) := by decide +kernel
theorem d1_119 : decode method_2_code 119 = .ok (.getstatic 46, 3) := by decide +kernel
theorem d1_122 : decode method_2_code 122 = .ok (.areturn, 1) := by decide +kernel
theorem d1_123 : decode method_2_code 123 = .ok (.iload_n 0, 1) := by decide +kernel
theorem d1_124 : decode method_2_code 124 = .ok (.bipush 13, 2) := by decide +kernel
theorem d1_126 : decode method_2_code 126 = .ok (.if_icmp .ne 7, 3) := by decide +kernel
theorem d1_129 : decode method_2_code 129 = .ok (.getstatic 49, 3) := by decide +kernel
theorem d1_132 : decode method_2_code 132 = .ok (.areturn, 1) := by decide +kernel
theorem d1_133 : decode method_2_code 133 = .ok (.iload_n 0, 1) := by decide +kernel
theorem d1_134 : decode method_2_code 134 = .ok (.bipush 14, 2) := by decide +kernel
theorem d1_136 : decode method_2_code 136 = .ok (.if_icmp .ne 7, 3) := by decide +kernel
theorem d1_139 : decode method_2_code 139 = .ok (.getstatic 52, 3) := by decide +kernel
theorem d1_142 : decode method_2_code 142 = .ok (.areturn, 1) := by decide +kernel
theorem d1_143 : decode method_2_code 143 = .ok (.iload_n 0, 1) := by decide +kernel
theorem d1_144 : decode method_2_code 144 = .ok (.bipush 15, 2) := by decide +kernel
theorem d1_146 : decode method_2_code 146 = .ok (.if_icmp .ne 7, 3) := by decide +kernel
theorem d1_149 : decode method_2_code 149 = .ok (.getstatic 55, 3) := by decide +kernel
theorem d1_152 : decode method_2_code 152 = .ok (.areturn, 1) := by decide +kernel
theorem d1_153 : decode method_2_code 153 = .ok (.iload_n 0, 1) := by decide +kernel
theorem d1_154 : decode method_2_code 154 = .ok (.bipush 16, 2) := by decide +kernel
theorem d1_156 : decode method_2_code 156 = .ok (.if_icmp .ne 7, 3) := by decide +kernel
theorem d1_159 : decode method_2_code 159 = .ok (.getstatic 58, 3) := by decide +kernel
theorem d1_162 : decode method_2_code 162 = .ok (.areturn, 1) := by decide +kernel
theorem d1_163 : decode method_2_code 163 = .ok (.iload_n 0, 1) := by decide +kernel
theorem d1_164 : decode method_2_code 164 = .ok (.bipush 17, 2) := by decide +kernel
theorem d1_166 : decode method_2_code 166 = .ok (.if_icmp .ne 7, 3) := by decide +kernel
theorem d1_169 : decode method_2_code 169 = .ok (.getstatic 61, 3) := by decide +kernel
theorem d1_172 : decode method_2_code 172 = .ok (.areturn, 1) := by decide +kernel
theorem d1_173 : decode method_2_code 173 = .ok (.iload_n 0, 1) := by decide +kernel
theorem d1_174 : decode method_2_code 174 = .ok (.bipush 18, 2) := by decide +kernel
theorem d1_176 : decode method_2_code 176 = .ok (.if_icmp .ne 7, 3) := by decide +kernel
theorem d1_179 : decode method_2_code 179 = .ok (.getstatic 64, 3) := by decide +kernel
theorem d1_182 : decode method_2_code 182 = .ok (.areturn, 1) := by decide +kernel
theorem d1_183 : decode method_2_code 183 = .ok (.iload_n 0, 1) := by decide +kernel
theorem d1_184 : decode method_2_code 184 = .ok (.bipush 19, 2) := by decide +kernel
theorem d1_186 : decode method_2_code 186 = .ok (.if_icmp .ne 7, 3) := by decide +kernel
theorem d1_189 : decode method_2_code 189 = .ok (.getstatic 67, 3) := by decide +kernel
theorem d1_192 : decode method_2_code 192 = .ok (.areturn, 1) := by decide +kernel
theorem d1_193 : decode method_2_code 193 = .ok (.iload_n 0, 1) := by decide +kernel
theorem d1_194 : decode method_2_code 194 = .ok (.bipush 20, 2) := by decide +kernel
theorem d1_196 : decode method_2_code 196 = .ok (.if_icmp .ne 7, 3) := by decide +kernel
theorem d1_199 : decode method_2_code 199 = .ok (.getstatic 70, 3) := by decide +kernel
theorem d1_202 : decode method_2_code 202 = .ok (.areturn, 1) := by decide +kernel
theorem d1_203 : decode method_2_code 203 = .ok (.iload_n 0, 1) := by decide +kernel
theorem d1_204 : decode method_2_code 204 = .ok (.bipush 21, 2) := by decide +kernel
theorem d1_206 : decode method_2_code 206 = .ok (.if_icmp .ne 7, 3) := by decide +kernel
theorem d1_209 : decode method_2_code 209 = .ok (.getstatic 73, 3) := by decide +kernel
theorem d1_212 : decode method_2_code 212 = .ok (.areturn, 1) := by decide +kernel
theorem d1_213 : decode method_2_code 213 = .ok (.iload_n 0, 1) := by decide +kernel
theorem d1_214 : decode method_2_code 214 = .ok (.bipush 22, 2) := by decide +kernel
theorem d1_216 : decode method_2_code 216 = .ok (.if_icmp .ne 7, 3) := by decide +kernel
theorem d1_219 : decode method_2_code 219 = .ok (.getstatic 76, 3) := by decide +kernel
theorem d1_222 : decode method_2_code 222 = .ok (.areturn, 1) := by decide +kernel
theorem d1_223 : decode method_2_code 223 = .ok (.iload_n 0, 1) := by decide +kernel
theorem d1_224 : decode method_2_code 224 = .ok (.bipush 23, 2) := by decide +kernel
theorem d1_226 : decode method_2_code 226 = .ok (.if_icmp .ne 7, 3) := by decide +kernel
theorem d1_229 : decode method_2_code 229 = .ok (.getstatic 79, 3) := by decide +kernel
theorem d1_232 : decode method_2_code 232 = .ok (.areturn, 1) := by decide +kernel
theorem d1_233 : decode method_2_code 233 = .ok (.iload_n 0, 1) := by decide +kernel
theorem d1_234 : decode method_2_code 234 = .ok (.bipush 24, 2) := by decide +kernel
theorem d1_236 : decode method_2_code 236 = .ok (.if_icmp .ne 7, 3) := by decide +kernel
theorem d1_239 : decode method_2_code 239 = .ok (.getstatic 82, 3) := by decide +kernel
theorem d1_242 : decode method_2_code 242 = .ok (.areturn, 1) := by decide +kernel
theorem d1_243 : decode method_2_code 243 = .ok (.getstatic 85, 3) := by decide +kernel
theorem d1_246 : decode method_2_code 246 = .ok (.areturn, 1) := by decide +kernel
def Q_rmP (Z : State) (p1 : Int32) (A : Nat → Addr) (h0 : Heap) (n0 : Nat) (v : Option Value) (h : Heap) (L : List Loc) : Prop := v = some (.ref (A p1.toNatClampNeg)) ∧ Fr n0 L ∧ h = h0
set_option maxRecDepth 65536 in
set_option maxHeartbeats 40000000 in
theorem rmP (l : Launch) (Z : State) (a0 : Array Value) (hw : ∀ d ∈ tables_1, d.before a0 Z = true) (ws : List Jvm.Cond) (p1 : Int32) (A : Nat → Addr) (h0 : Heap) (n0 : Nat) (Z0 : n0 ≤ h0.size) (S_0 : Sta Z h0 "com/example/names_to_queries/namestoqueries/query/Keyword" "EQUALS" "Lcom/example/names_to_queries/namestoqueries/query/Keyword;" (.ref (A 0))) (S_1 : Sta Z h0 "com/example/names_to_queries/namestoqueries/query/Keyword" "NOT" "Lcom/example/names_to_queries/namestoqueries/query/Keyword;" (.ref (A 1))) (S_2 : Sta Z h0 "com/example/names_to_queries/namestoqueries/query/Keyword" "IS_NULL" "Lcom/example/names_to_queries/namestoqueries/query/Keyword;" (.ref (A 2))) (S_3 : Sta Z h0 "com/example/names_to_queries/namestoqueries/query/Keyword" "IS_NOT_NULL" "Lcom/example/names_to_queries/namestoqueries/query/Keyword;" (.ref (A 3))) (S_4 : Sta Z h0 "com/example/names_to_queries/namestoqueries/query/Keyword" "LIKE" "Lcom/example/names_to_queries/namestoqueries/query/Keyword;" (.ref (A 4))) (S_5 : Sta Z h0 "com/example/names_to_queries/namestoqueries/query/Keyword" "NOT_LIKE" "Lcom/example/names_to_queries/namestoqueries/query/Keyword;" (.ref (A 5))) (S_6 : Sta Z h0 "com/example/names_to_queries/namestoqueries/query/Keyword" "STARTING_WITH" "Lcom/example/names_to_queries/namestoqueries/query/Keyword;" (.ref (A 6))) (S_7 : Sta Z h0 "com/example/names_to_queries/namestoqueries/query/Keyword" "ENDING_WITH" "Lcom/example/names_to_queries/namestoqueries/query/Keyword;" (.ref (A 7))) (S_8 : Sta Z h0 "com/example/names_to_queries/namestoqueries/query/Keyword" "CONTAINING" "Lcom/example/names_to_queries/namestoqueries/query/Keyword;" (.ref (A 8))) (S_9 : Sta Z h0 "com/example/names_to_queries/namestoqueries/query/Keyword" "LESS_THAN" "Lcom/example/names_to_queries/namestoqueries/query/Keyword;" (.ref (A 9))) (S_10 : Sta Z h0 "com/example/names_to_queries/namestoqueries/query/Keyword" "LESS_THAN_EQUAL" "Lcom/example/names_to_queries/namestoqueries/query/Keyword;" (.ref (A 10))) (S_11 : Sta Z h0 "com/example/names_to_queries/namestoqueries/query/Keyword" "GREATER_THAN" "Lcom/example/names_to_queries/namestoqueries/query/Keyword;" (.ref (A 11))) (S_12 : Sta Z h0 "com/example/names_to_queries/namestoqueries/query/Keyword" "GREATER_THAN_EQUAL" "Lcom/example/names_to_queries/namestoqueries/query/Keyword;" (.ref (A 12))) (S_13 : Sta Z h0 "com/example/names_to_queries/namestoqueries/query/Keyword" "BETWEEN" "Lcom/example/names_to_queries/namestoqueries/query/Keyword;" (.ref (A 13))) (S_14 : Sta Z h0 "com/example/names_to_queries/namestoqueries/query/Keyword" "BEFORE" "Lcom/example/names_to_queries/namestoqueries/query/Keyword;" (.ref (A 14))) (S_15 : Sta Z h0 "com/example/names_to_queries/namestoqueries/query/Keyword" "AFTER" "Lcom/example/names_to_queries/namestoqueries/query/Keyword;" (.ref (A 15))) (S_16 : Sta Z h0 "com/example/names_to_queries/namestoqueries/query/Keyword" "IN" "Lcom/example/names_to_queries/namestoqueries/query/Keyword;" (.ref (A 16))) (S_17 : Sta Z h0 "com/example/names_to_queries/namestoqueries/query/Keyword" "NOT_IN" "Lcom/example/names_to_queries/namestoqueries/query/Keyword;" (.ref (A 17))) (S_18 : Sta Z h0 "com/example/names_to_queries/namestoqueries/query/Keyword" "TRUE" "Lcom/example/names_to_queries/namestoqueries/query/Keyword;" (.ref (A 18))) (S_19 : Sta Z h0 "com/example/names_to_queries/namestoqueries/query/Keyword" "FALSE" "Lcom/example/names_to_queries/namestoqueries/query/Keyword;" (.ref (A 19))) (S_20 : Sta Z h0 "com/example/names_to_queries/namestoqueries/query/Keyword" "EXISTS" "Lcom/example/names_to_queries/namestoqueries/query/Keyword;" (.ref (A 20))) (S_21 : Sta Z h0 "com/example/names_to_queries/namestoqueries/query/Keyword" "IS_EMPTY" "Lcom/example/names_to_queries/namestoqueries/query/Keyword;" (.ref (A 21))) (S_22 : Sta Z h0 "com/example/names_to_queries/namestoqueries/query/Keyword" "IS_NOT_EMPTY" "Lcom/example/names_to_queries/namestoqueries/query/Keyword;" (.ref (A 22))) (S_23 : Sta Z h0 "com/example/names_to_queries/namestoqueries/query/Keyword" "NEAR" "Lcom/example/names_to_queries/namestoqueries/query/Keyword;" (.ref (A 23))) (S_24 : Sta Z h0 "com/example/names_to_queries/namestoqueries/query/Keyword" "WITHIN" "Lcom/example/names_to_queries/namestoqueries/query/Keyword;" (.ref (A 24))) (S_25 : Sta Z h0 "com/example/names_to_queries/namestoqueries/query/Keyword" "REGEX" "Lcom/example/names_to_queries/namestoqueries/query/Keyword;" (.ref (A 25))) (r0 : 0 ≤ p1.toInt) (r1 : p1.toInt < 26) :
    MetFree l (⟨"com/example/names_to_queries/namestoqueries/query/KeywordTakesCollectionPinLaw", "pick", "(I)Lcom/example/names_to_queries/namestoqueries/query/Keyword;"⟩ : MethodName) (head1 (Jvm.Cond.code (⟨"com/example/names_to_queries/namestoqueries/query/KeywordTakesCollectionPinLaw", "pick", "(I)Lcom/example/names_to_queries/namestoqueries/query/Keyword;"⟩ : MethodName) method_2_code 1 (some (.object "com/example/names_to_queries/namestoqueries/query/Keyword")) :: ws) ({ frames := 0, cells := 0, slots := 0, locals := 0 } : Room)) (fun a U => a = #[(.int p1)] ∧ Z.Warmed39 U.vm ∧ U.heap = h0) (fun _ _ _ _ _ => True) (fun _ U o U' => ∃ v L, o = .returned v ∧ Q_rmP Z p1 A h0 n0 v U'.heap L ∧ FrameEnd U o U' L ({ frames := 0, cells := 0, slots := 0, locals := 0 } : Room).cells ({ frames := 0, cells := 0, slots := 0, locals := 0 } : Room).slots) := by
  refine MetFree.of_bodySF (plainFor_of_name pn_1) hisR ?_
  intro p e s m args below meth c s₁ Bd hml0 hP hK
  obtain ⟨rfl, hZ, hh⟩ := hP
  have hx := Bd.exec
  have hby := Bd.bytes
  have hml : c.maxLocals = 1 := hml0
  have hown : s.vm.findClass "com/example/names_to_queries/namestoqueries/query/KeywordTakesCollectionPinLaw" = some m.cls := findClass_of_methodNamed Bd.named
  have hnm := (name_of_methodNamed Bd.named Bd.method).1
  have X0 : Stand p l e ({ frames := 0, cells := 0, slots := 0, locals := 0 } : Room) s m #[(.int p1)] below meth c s₁ [] 0 0 := Stand.of_body Bd
  have e0 : s₁.heap = h0 := by rw [← hh, Bd.state]; rfl
  have N0 := Fr.nil n0
  have pre0 : ∀ t, Steps p.tables e below (s₁.setTop (mkF m 0 #[.val (.int p1)] [])) t → Steps p.tables e below (s₁.setTop (entryFrame m #[(.int p1)] 1)) t := fun t k => castTop (ef_rmP m p1) k
  have pre1 : ∀ t, Steps p.tables e below (s₁.setTop (mkF m 1 #[.val (.int p1)] [(.int p1)])) t → Steps p.tables e below (s₁.setTop (entryFrame m #[(.int p1)] 1)) t := by
    intro t k
    refine pre0 t ?_
    show Steps p.tables e below (s₁.setTop (mkF m 0 #[.val (.int p1)] [])) _
    refine XS.iloadN X0.here hx rfl (hb hby d1_0) rfl ?_
    show Steps p.tables e below (s₁.setTop (mkF m 1 #[.val (.int p1)] [(.int p1)])) _
    exact k
  by_cases j0 : p1 = (0 : Int32)
  · skip
    obtain ⟨T2, X2, e2, st2⟩ := getS2 X0 hx hZ hown (host := "") (Or.inl (hw _ (List.mem_of_getElem? (i := 5) rfl))) Via.refl e0 S_0 (g := (mkF m 4 #[.val (.int p1)] [])) rfl (hb hby d1_4)
    have pre3 : ∀ t, Steps p.tables e below (T2.setTop (mkF m 7 #[.val (.int p1)] [(.ref (A 0))])) t → Steps p.tables e below (s₁.setTop (entryFrame m #[(.int p1)] 1)) t := by
      intro t k
      refine pre1 t ?_
      refine XS.ifNo X0.here hx rfl (hb hby d1_1) rfl ((if0 _ _).trans (teq j0).2) ?_
      show Steps p.tables e below (s₁.setTop (mkF m 4 #[.val (.int p1)] [])) _
      refine st2 _ ?_
      show Steps p.tables e below (T2.setTop (mkF m 7 #[.val (.int p1)] [(.ref (A 0))])) _
      exact k
    obtain ⟨fs, hr, hrun, hended, hW, hsame⟩ := X2.leave (v := some (.ref (A 0))) (fun h => by rw [Bd.returns] at h; cases h)
    refine ⟨_, _, pre3 _ ?_, hrun, hended, _, _, rfl, ?_, ⟨_, rfl⟩, hW, hsame.mono (by decide) (by decide)⟩
    · exact retOut X2 hx Bd.returns (by first | rfl | simp [narrow]) (Or.inr (Or.inr (Or.inr (Or.inr ⟨rfl, rfl, rfl⟩)))) (hb hby d1_7) hr
    · show Q_rmP Z p1 A h0 n0 _ T2.heap _
      rw [e2]
      exact ⟨by rw [j0]; rfl, N0, rfl⟩
  · skip
    have pre4 : ∀ t, Steps p.tables e below (s₁.setTop (mkF m 10 #[.val (.int p1)] [(.int (1 : Int32)), (.int p1)])) t → Steps p.tables e below (s₁.setTop (entryFrame m #[(.int p1)] 1)) t := by
      intro t k
      refine pre1 t ?_
      refine XS.ifYes X0.here hx rfl (pc0 := 1) (pc' := 8) rfl (hb hby d1_1) rfl ((if0 _ _).trans (feq j0).2) (by decide) (by decide) ?_
      show Steps p.tables e below (s₁.setTop (mkF m 8 #[.val (.int p1)] [])) _
      refine XS.iloadN X0.here hx rfl (hb hby d1_8) rfl ?_
      show Steps p.tables e below (s₁.setTop (mkF m 9 #[.val (.int p1)] [(.int p1)])) _
      refine XS.iconst X0.here hx rfl (hb hby d1_9) ?_
      show Steps p.tables e below (s₁.setTop (mkF m 10 #[.val (.int p1)] [(.int (1 : Int32)), (.int p1)])) _
      exact k
    by_cases j1 : p1 = (1 : Int32)
    · skip
      obtain ⟨T5, X5, e5, st5⟩ := getS2 X0 hx hZ hown (host := "") (Or.inl (hw _ (List.mem_of_getElem? (i := 35) rfl))) Via.refl e0 S_1 (g := (mkF m 13 #[.val (.int p1)] [])) rfl (hb hby d1_13)
      have pre6 : ∀ t, Steps p.tables e below (T5.setTop (mkF m 16 #[.val (.int p1)] [(.ref (A 1))])) t → Steps p.tables e below (s₁.setTop (entryFrame m #[(.int p1)] 1)) t := by
        intro t k
        refine pre4 t ?_
        refine XS.icmpNo X0.here hx rfl (hb hby d1_10) rfl (teq j1).2 ?_
        show Steps p.tables e below (s₁.setTop (mkF m 13 #[.val (.int p1)] [])) _
        refine st5 _ ?_
        show Steps p.tables e below (T5.setTop (mkF m 16 #[.val (.int p1)] [(.ref (A 1))])) _
        exact k
      obtain ⟨fs, hr, hrun, hended, hW, hsame⟩ := X5.leave (v := some (.ref (A 1))) (fun h => by rw [Bd.returns] at h; cases h)
      refine ⟨_, _, pre6 _ ?_, hrun, hended, _, _, rfl, ?_, ⟨_, rfl⟩, hW, hsame.mono (by decide) (by decide)⟩
      · exact retOut X5 hx Bd.returns (by first | rfl | simp [narrow]) (Or.inr (Or.inr (Or.inr (Or.inr ⟨rfl, rfl, rfl⟩)))) (hb hby d1_16) hr
      · show Q_rmP Z p1 A h0 n0 _ T5.heap _
        rw [e5]
        exact ⟨by rw [j1]; rfl, N0, rfl⟩
    · skip
      have pre7 : ∀ t, Steps p.tables e below (s₁.setTop (mkF m 19 #[.val (.int p1)] [(.int (2 : Int32)), (.int p1)])) t → Steps p.tables e below (s₁.setTop (entryFrame m #[(.int p1)] 1)) t := by
        intro t k
        refine pre4 t ?_
        refine XS.icmpYes X0.here hx rfl (pc0 := 10) (pc' := 17) rfl (hb hby d1_10) rfl (feq j1).2 (by decide) (by decide) ?_
        show Steps p.tables e below (s₁.setTop (mkF m 17 #[.val (.int p1)] [])) _
        refine XS.iloadN X0.here hx rfl (hb hby d1_17) rfl ?_
        show Steps p.tables e below (s₁.setTop (mkF m 18 #[.val (.int p1)] [(.int p1)])) _
        refine XS.iconst X0.here hx rfl (hb hby d1_18) ?_
        show Steps p.tables e below (s₁.setTop (mkF m 19 #[.val (.int p1)] [(.int (2 : Int32)), (.int p1)])) _
        exact k
      by_cases j2 : p1 = (2 : Int32)
      · skip
        obtain ⟨T8, X8, e8, st8⟩ := getS2 X0 hx hZ hown (host := "") (Or.inl (hw _ (List.mem_of_getElem? (i := 27) rfl))) Via.refl e0 S_2 (g := (mkF m 22 #[.val (.int p1)] [])) rfl (hb hby d1_22)
        have pre9 : ∀ t, Steps p.tables e below (T8.setTop (mkF m 25 #[.val (.int p1)] [(.ref (A 2))])) t → Steps p.tables e below (s₁.setTop (entryFrame m #[(.int p1)] 1)) t := by
          intro t k
          refine pre7 t ?_
          refine XS.icmpNo X0.here hx rfl (hb hby d1_19) rfl (teq j2).2 ?_
          show Steps p.tables e below (s₁.setTop (mkF m 22 #[.val (.int p1)] [])) _
          refine st8 _ ?_
          show Steps p.tables e below (T8.setTop (mkF m 25 #[.val (.int p1)] [(.ref (A 2))])) _
          exact k
        obtain ⟨fs, hr, hrun, hended, hW, hsame⟩ := X8.leave (v := some (.ref (A 2))) (fun h => by rw [Bd.returns] at h; cases h)
        refine ⟨_, _, pre9 _ ?_, hrun, hended, _, _, rfl, ?_, ⟨_, rfl⟩, hW, hsame.mono (by decide) (by decide)⟩
        · exact retOut X8 hx Bd.returns (by first | rfl | simp [narrow]) (Or.inr (Or.inr (Or.inr (Or.inr ⟨rfl, rfl, rfl⟩)))) (hb hby d1_25) hr
        · show Q_rmP Z p1 A h0 n0 _ T8.heap _
          rw [e8]
          exact ⟨by rw [j2]; rfl, N0, rfl⟩
      · skip
        have pre10 : ∀ t, Steps p.tables e below (s₁.setTop (mkF m 28 #[.val (.int p1)] [(.int (3 : Int32)), (.int p1)])) t → Steps p.tables e below (s₁.setTop (entryFrame m #[(.int p1)] 1)) t := by
          intro t k
          refine pre7 t ?_
          refine XS.icmpYes X0.here hx rfl (pc0 := 19) (pc' := 26) rfl (hb hby d1_19) rfl (feq j2).2 (by decide) (by decide) ?_
          show Steps p.tables e below (s₁.setTop (mkF m 26 #[.val (.int p1)] [])) _
          refine XS.iloadN X0.here hx rfl (hb hby d1_26) rfl ?_
          show Steps p.tables e below (s₁.setTop (mkF m 27 #[.val (.int p1)] [(.int p1)])) _
          refine XS.iconst X0.here hx rfl (hb hby d1_27) ?_
          show Steps p.tables e below (s₁.setTop (mkF m 28 #[.val (.int p1)] [(.int (3 : Int32)), (.int p1)])) _
          exact k
        by_cases j3 : p1 = (3 : Int32)
        · skip
          obtain ⟨T11, X11, e11, st11⟩ := getS2 X0 hx hZ hown (host := "") (Or.inl (hw _ (List.mem_of_getElem? (i := 17) rfl))) Via.refl e0 S_3 (g := (mkF m 31 #[.val (.int p1)] [])) rfl (hb hby d1_31)
          have pre12 : ∀ t, Steps p.tables e below (T11.setTop (mkF m 34 #[.val (.int p1)] [(.ref (A 3))])) t → Steps p.tables e below (s₁.setTop (entryFrame m #[(.int p1)] 1)) t := by
            intro t k
            refine pre10 t ?_
            refine XS.icmpNo X0.here hx rfl (hb hby d1_28) rfl (teq j3).2 ?_
            show Steps p.tables e below (s₁.setTop (mkF m 31 #[.val (.int p1)] [])) _
            refine st11 _ ?_
            show Steps p.tables e below (T11.setTop (mkF m 34 #[.val (.int p1)] [(.ref (A 3))])) _
            exact k
          obtain ⟨fs, hr, hrun, hended, hW, hsame⟩ := X11.leave (v := some (.ref (A 3))) (fun h => by rw [Bd.returns] at h; cases h)
          refine ⟨_, _, pre12 _ ?_, hrun, hended, _, _, rfl, ?_, ⟨_, rfl⟩, hW, hsame.mono (by decide) (by decide)⟩
          · exact retOut X11 hx Bd.returns (by first | rfl | simp [narrow]) (Or.inr (Or.inr (Or.inr (Or.inr ⟨rfl, rfl, rfl⟩)))) (hb hby d1_34) hr
          · show Q_rmP Z p1 A h0 n0 _ T11.heap _
            rw [e11]
            exact ⟨by rw [j3]; rfl, N0, rfl⟩
        · skip
          have pre13 : ∀ t, Steps p.tables e below (s₁.setTop (mkF m 37 #[.val (.int p1)] [(.int (4 : Int32)), (.int p1)])) t → Steps p.tables e below (s₁.setTop (entryFrame m #[(.int p1)] 1)) t := by
            intro t k
            refine pre10 t ?_
            refine XS.icmpYes X0.here hx rfl (pc0 := 28) (pc' := 35) rfl (hb hby d1_28) rfl (feq j3).2 (by decide) (by decide) ?_
            show Steps p.tables e below (s₁.setTop (mkF m 35 #[.val (.int p1)] [])) _
            refine XS.iloadN X0.here hx rfl (hb hby d1_35) rfl ?_
            show Steps p.tables e below (s₁.setTop (mkF m 36 #[.val (.int p1)] [(.int p1)])) _
            refine XS.iconst X0.here hx rfl (hb hby d1_36) ?_
            show Steps p.tables e below (s₁.setTop (mkF m 37 #[.val (.int p1)] [(.int (4 : Int32)), (.int p1)])) _
            exact k
          by_cases j4 : p1 = (4 : Int32)
          · skip
            obtain ⟨T14, X14, e14, st14⟩ := getS2 X0 hx hZ hown (host := "") (Or.inl (hw _ (List.mem_of_getElem? (i := 59) rfl))) Via.refl e0 S_4 (g := (mkF m 40 #[.val (.int p1)] [])) rfl (hb hby d1_40)
            have pre15 : ∀ t, Steps p.tables e below (T14.setTop (mkF m 43 #[.val (.int p1)] [(.ref (A 4))])) t → Steps p.tables e below (s₁.setTop (entryFrame m #[(.int p1)] 1)) t := by
              intro t k
              refine pre13 t ?_
              refine XS.icmpNo X0.here hx rfl (hb hby d1_37) rfl (teq j4).2 ?_
              show Steps p.tables e below (s₁.setTop (mkF m 40 #[.val (.int p1)] [])) _
              refine st14 _ ?_
              show Steps p.tables e below (T14.setTop (mkF m 43 #[.val (.int p1)] [(.ref (A 4))])) _
              exact k
            obtain ⟨fs, hr, hrun, hended, hW, hsame⟩ := X14.leave (v := some (.ref (A 4))) (fun h => by rw [Bd.returns] at h; cases h)
            refine ⟨_, _, pre15 _ ?_, hrun, hended, _, _, rfl, ?_, ⟨_, rfl⟩, hW, hsame.mono (by decide) (by decide)⟩
            · exact retOut X14 hx Bd.returns (by first | rfl | simp [narrow]) (Or.inr (Or.inr (Or.inr (Or.inr ⟨rfl, rfl, rfl⟩)))) (hb hby d1_43) hr
            · show Q_rmP Z p1 A h0 n0 _ T14.heap _
              rw [e14]
              exact ⟨by rw [j4]; rfl, N0, rfl⟩
          · skip
            have pre16 : ∀ t, Steps p.tables e below (s₁.setTop (mkF m 46 #[.val (.int p1)] [(.int (5 : Int32)), (.int p1)])) t → Steps p.tables e below (s₁.setTop (entryFrame m #[(.int p1)] 1)) t := by
              intro t k
              refine pre13 t ?_
              refine XS.icmpYes X0.here hx rfl (pc0 := 37) (pc' := 44) rfl (hb hby d1_37) rfl (feq j4).2 (by decide) (by decide) ?_
              show Steps p.tables e below (s₁.setTop (mkF m 44 #[.val (.int p1)] [])) _
              refine XS.iloadN X0.here hx rfl (hb hby d1_44) rfl ?_
              show Steps p.tables e below (s₁.setTop (mkF m 45 #[.val (.int p1)] [(.int p1)])) _
              refine XS.iconst X0.here hx rfl (hb hby d1_45) ?_
              show Steps p.tables e below (s₁.setTop (mkF m 46 #[.val (.int p1)] [(.int (5 : Int32)), (.int p1)])) _
              exact k
            by_cases j5 : p1 = (5 : Int32)
            · skip
              obtain ⟨T17, X17, e17, st17⟩ := getS2 X0 hx hZ hown (host := "") (Or.inl (hw _ (List.mem_of_getElem? (i := 21) rfl))) Via.refl e0 S_5 (g := (mkF m 49 #[.val (.int p1)] [])) rfl (hb hby d1_49)
              have pre18 : ∀ t, Steps p.tables e below (T17.setTop (mkF m 52 #[.val (.int p1)] [(.ref (A 5))])) t → Steps p.tables e below (s₁.setTop (entryFrame m #[(.int p1)] 1)) t := by
                intro t k
                refine pre16 t ?_
                refine XS.icmpNo X0.here hx rfl (hb hby d1_46) rfl (teq j5).2 ?_
                show Steps p.tables e below (s₁.setTop (mkF m 49 #[.val (.int p1)] [])) _
                refine st17 _ ?_
                show Steps p.tables e below (T17.setTop (mkF m 52 #[.val (.int p1)] [(.ref (A 5))])) _
                exact k
              obtain ⟨fs, hr, hrun, hended, hW, hsame⟩ := X17.leave (v := some (.ref (A 5))) (fun h => by rw [Bd.returns] at h; cases h)
              refine ⟨_, _, pre18 _ ?_, hrun, hended, _, _, rfl, ?_, ⟨_, rfl⟩, hW, hsame.mono (by decide) (by decide)⟩
              · exact retOut X17 hx Bd.returns (by first | rfl | simp [narrow]) (Or.inr (Or.inr (Or.inr (Or.inr ⟨rfl, rfl, rfl⟩)))) (hb hby d1_52) hr
              · show Q_rmP Z p1 A h0 n0 _ T17.heap _
                rw [e17]
                exact ⟨by rw [j5]; rfl, N0, rfl⟩
            · skip
              have pre19 : ∀ t, Steps p.tables e below (s₁.setTop (mkF m 56 #[.val (.int p1)] [(.int (6 : Int32)), (.int p1)])) t → Steps p.tables e below (s₁.setTop (entryFrame m #[(.int p1)] 1)) t := by
                intro t k
                refine pre16 t ?_
                refine XS.icmpYes X0.here hx rfl (pc0 := 46) (pc' := 53) rfl (hb hby d1_46) rfl (feq j5).2 (by decide) (by decide) ?_
                show Steps p.tables e below (s₁.setTop (mkF m 53 #[.val (.int p1)] [])) _
                refine XS.iloadN X0.here hx rfl (hb hby d1_53) rfl ?_
                show Steps p.tables e below (s₁.setTop (mkF m 54 #[.val (.int p1)] [(.int p1)])) _
                refine XS.bipush X0.here hx rfl (hb hby d1_54) ?_
                show Steps p.tables e below (s₁.setTop (mkF m 56 #[.val (.int p1)] [(.int (6 : Int32)), (.int p1)])) _
                exact k
              by_cases j6 : p1 = (6 : Int32)
              · skip
                obtain ⟨T20, X20, e20, st20⟩ := getS2 X0 hx hZ hown (host := "") (Or.inl (hw _ (List.mem_of_getElem? (i := 19) rfl))) Via.refl e0 S_6 (g := (mkF m 59 #[.val (.int p1)] [])) rfl (hb hby d1_59)
                have pre21 : ∀ t, Steps p.tables e below (T20.setTop (mkF m 62 #[.val (.int p1)] [(.ref (A 6))])) t → Steps p.tables e below (s₁.setTop (entryFrame m #[(.int p1)] 1)) t := by
                  intro t k
                  refine pre19 t ?_
                  refine XS.icmpNo X0.here hx rfl (hb hby d1_56) rfl (teq j6).2 ?_
                  show Steps p.tables e below (s₁.setTop (mkF m 59 #[.val (.int p1)] [])) _
                  refine st20 _ ?_
                  show Steps p.tables e below (T20.setTop (mkF m 62 #[.val (.int p1)] [(.ref (A 6))])) _
                  exact k
                obtain ⟨fs, hr, hrun, hended, hW, hsame⟩ := X20.leave (v := some (.ref (A 6))) (fun h => by rw [Bd.returns] at h; cases h)
                refine ⟨_, _, pre21 _ ?_, hrun, hended, _, _, rfl, ?_, ⟨_, rfl⟩, hW, hsame.mono (by decide) (by decide)⟩
                · exact retOut X20 hx Bd.returns (by first | rfl | simp [narrow]) (Or.inr (Or.inr (Or.inr (Or.inr ⟨rfl, rfl, rfl⟩)))) (hb hby d1_62) hr
                · show Q_rmP Z p1 A h0 n0 _ T20.heap _
                  rw [e20]
                  exact ⟨by rw [j6]; rfl, N0, rfl⟩
              · skip
                have pre22 : ∀ t, Steps p.tables e below (s₁.setTop (mkF m 66 #[.val (.int p1)] [(.int (7 : Int32)), (.int p1)])) t → Steps p.tables e below (s₁.setTop (entryFrame m #[(.int p1)] 1)) t := by
                  intro t k
                  refine pre19 t ?_
                  refine XS.icmpYes X0.here hx rfl (pc0 := 56) (pc' := 63) rfl (hb hby d1_56) rfl (feq j6).2 (by decide) (by decide) ?_
                  show Steps p.tables e below (s₁.setTop (mkF m 63 #[.val (.int p1)] [])) _
                  refine XS.iloadN X0.here hx rfl (hb hby d1_63) rfl ?_
                  show Steps p.tables e below (s₁.setTop (mkF m 64 #[.val (.int p1)] [(.int p1)])) _
                  refine XS.bipush X0.here hx rfl (hb hby d1_64) ?_
                  show Steps p.tables e below (s₁.setTop (mkF m 66 #[.val (.int p1)] [(.int (7 : Int32)), (.int p1)])) _
                  exact k
                by_cases j7 : p1 = (7 : Int32)
                · skip
                  obtain ⟨T23, X23, e23, st23⟩ := getS2 X0 hx hZ hown (host := "") (Or.inl (hw _ (List.mem_of_getElem? (i := 23) rfl))) Via.refl e0 S_7 (g := (mkF m 69 #[.val (.int p1)] [])) rfl (hb hby d1_69)
                  have pre24 : ∀ t, Steps p.tables e below (T23.setTop (mkF m 72 #[.val (.int p1)] [(.ref (A 7))])) t → Steps p.tables e below (s₁.setTop (entryFrame m #[(.int p1)] 1)) t := by
                    intro t k
                    refine pre22 t ?_
                    refine XS.icmpNo X0.here hx rfl (hb hby d1_66) rfl (teq j7).2 ?_
                    show Steps p.tables e below (s₁.setTop (mkF m 69 #[.val (.int p1)] [])) _
                    refine st23 _ ?_
                    show Steps p.tables e below (T23.setTop (mkF m 72 #[.val (.int p1)] [(.ref (A 7))])) _
                    exact k
                  obtain ⟨fs, hr, hrun, hended, hW, hsame⟩ := X23.leave (v := some (.ref (A 7))) (fun h => by rw [Bd.returns] at h; cases h)
                  refine ⟨_, _, pre24 _ ?_, hrun, hended, _, _, rfl, ?_, ⟨_, rfl⟩, hW, hsame.mono (by decide) (by decide)⟩
                  · exact retOut X23 hx Bd.returns (by first | rfl | simp [narrow]) (Or.inr (Or.inr (Or.inr (Or.inr ⟨rfl, rfl, rfl⟩)))) (hb hby d1_72) hr
                  · show Q_rmP Z p1 A h0 n0 _ T23.heap _
                    rw [e23]
                    exact ⟨by rw [j7]; rfl, N0, rfl⟩
                · skip
                  have pre25 : ∀ t, Steps p.tables e below (s₁.setTop (mkF m 76 #[.val (.int p1)] [(.int (8 : Int32)), (.int p1)])) t → Steps p.tables e below (s₁.setTop (entryFrame m #[(.int p1)] 1)) t := by
                    intro t k
                    refine pre22 t ?_
                    refine XS.icmpYes X0.here hx rfl (pc0 := 66) (pc' := 73) rfl (hb hby d1_66) rfl (feq j7).2 (by decide) (by decide) ?_
                    show Steps p.tables e below (s₁.setTop (mkF m 73 #[.val (.int p1)] [])) _
                    refine XS.iloadN X0.here hx rfl (hb hby d1_73) rfl ?_
                    show Steps p.tables e below (s₁.setTop (mkF m 74 #[.val (.int p1)] [(.int p1)])) _
                    refine XS.bipush X0.here hx rfl (hb hby d1_74) ?_
                    show Steps p.tables e below (s₁.setTop (mkF m 76 #[.val (.int p1)] [(.int (8 : Int32)), (.int p1)])) _
                    exact k
                  by_cases j8 : p1 = (8 : Int32)
                  · skip
                    obtain ⟨T26, X26, e26, st26⟩ := getS2 X0 hx hZ hown (host := "") (Or.inl (hw _ (List.mem_of_getElem? (i := 33) rfl))) Via.refl e0 S_8 (g := (mkF m 79 #[.val (.int p1)] [])) rfl (hb hby d1_79)
                    have pre27 : ∀ t, Steps p.tables e below (T26.setTop (mkF m 82 #[.val (.int p1)] [(.ref (A 8))])) t → Steps p.tables e below (s₁.setTop (entryFrame m #[(.int p1)] 1)) t := by
                      intro t k
                      refine pre25 t ?_
                      refine XS.icmpNo X0.here hx rfl (hb hby d1_76) rfl (teq j8).2 ?_
                      show Steps p.tables e below (s₁.setTop (mkF m 79 #[.val (.int p1)] [])) _
                      refine st26 _ ?_
                      show Steps p.tables e below (T26.setTop (mkF m 82 #[.val (.int p1)] [(.ref (A 8))])) _
                      exact k
                    obtain ⟨fs, hr, hrun, hended, hW, hsame⟩ := X26.leave (v := some (.ref (A 8))) (fun h => by rw [Bd.returns] at h; cases h)
                    refine ⟨_, _, pre27 _ ?_, hrun, hended, _, _, rfl, ?_, ⟨_, rfl⟩, hW, hsame.mono (by decide) (by decide)⟩
                    · exact retOut X26 hx Bd.returns (by first | rfl | simp [narrow]) (Or.inr (Or.inr (Or.inr (Or.inr ⟨rfl, rfl, rfl⟩)))) (hb hby d1_82) hr
                    · show Q_rmP Z p1 A h0 n0 _ T26.heap _
                      rw [e26]
                      exact ⟨by rw [j8]; rfl, N0, rfl⟩
                  · skip
                    have pre28 : ∀ t, Steps p.tables e below (s₁.setTop (mkF m 86 #[.val (.int p1)] [(.int (9 : Int32)), (.int p1)])) t → Steps p.tables e below (s₁.setTop (entryFrame m #[(.int p1)] 1)) t := by
                      intro t k
                      refine pre25 t ?_
                      refine XS.icmpYes X0.here hx rfl (pc0 := 76) (pc' := 83) rfl (hb hby d1_76) rfl (feq j8).2 (by decide) (by decide) ?_
                      show Steps p.tables e below (s₁.setTop (mkF m 83 #[.val (.int p1)] [])) _
                      refine XS.iloadN X0.here hx rfl (hb hby d1_83) rfl ?_
                      show Steps p.tables e below (s₁.setTop (mkF m 84 #[.val (.int p1)] [(.int p1)])) _
                      refine XS.bipush X0.here hx rfl (hb hby d1_84) ?_
                      show Steps p.tables e below (s₁.setTop (mkF m 86 #[.val (.int p1)] [(.int (9 : Int32)), (.int p1)])) _
                      exact k
                    by_cases j9 : p1 = (9 : Int32)
                    · skip
                      obtain ⟨T29, X29, e29, st29⟩ := getS2 X0 hx hZ hown (host := "") (Or.inl (hw _ (List.mem_of_getElem? (i := 61) rfl))) Via.refl e0 S_9 (g := (mkF m 89 #[.val (.int p1)] [])) rfl (hb hby d1_89)
                      have pre30 : ∀ t, Steps p.tables e below (T29.setTop (mkF m 92 #[.val (.int p1)] [(.ref (A 9))])) t → Steps p.tables e below (s₁.setTop (entryFrame m #[(.int p1)] 1)) t := by
                        intro t k
                        refine pre28 t ?_
                        refine XS.icmpNo X0.here hx rfl (hb hby d1_86) rfl (teq j9).2 ?_
                        show Steps p.tables e below (s₁.setTop (mkF m 89 #[.val (.int p1)] [])) _
                        refine st29 _ ?_
                        show Steps p.tables e below (T29.setTop (mkF m 92 #[.val (.int p1)] [(.ref (A 9))])) _
                        exact k
                      obtain ⟨fs, hr, hrun, hended, hW, hsame⟩ := X29.leave (v := some (.ref (A 9))) (fun h => by rw [Bd.returns] at h; cases h)
                      refine ⟨_, _, pre30 _ ?_, hrun, hended, _, _, rfl, ?_, ⟨_, rfl⟩, hW, hsame.mono (by decide) (by decide)⟩
                      · exact retOut X29 hx Bd.returns (by first | rfl | simp [narrow]) (Or.inr (Or.inr (Or.inr (Or.inr ⟨rfl, rfl, rfl⟩)))) (hb hby d1_92) hr
                      · show Q_rmP Z p1 A h0 n0 _ T29.heap _
                        rw [e29]
                        exact ⟨by rw [j9]; rfl, N0, rfl⟩
                    · skip
                      have pre31 : ∀ t, Steps p.tables e below (s₁.setTop (mkF m 96 #[.val (.int p1)] [(.int (10 : Int32)), (.int p1)])) t → Steps p.tables e below (s₁.setTop (entryFrame m #[(.int p1)] 1)) t := by
                        intro t k
                        refine pre28 t ?_
                        refine XS.icmpYes X0.here hx rfl (pc0 := 86) (pc' := 93) rfl (hb hby d1_86) rfl (feq j9).2 (by decide) (by decide) ?_
                        show Steps p.tables e below (s₁.setTop (mkF m 93 #[.val (.int p1)] [])) _
                        refine XS.iloadN X0.here hx rfl (hb hby d1_93) rfl ?_
                        show Steps p.tables e below (s₁.setTop (mkF m 94 #[.val (.int p1)] [(.int p1)])) _
                        refine XS.bipush X0.here hx rfl (hb hby d1_94) ?_
                        show Steps p.tables e below (s₁.setTop (mkF m 96 #[.val (.int p1)] [(.int (10 : Int32)), (.int p1)])) _
                        exact k
                      by_cases j10 : p1 = (10 : Int32)
                      · skip
                        obtain ⟨T32, X32, e32, st32⟩ := getS2 X0 hx hZ hown (host := "") (Or.inl (hw _ (List.mem_of_getElem? (i := 47) rfl))) Via.refl e0 S_10 (g := (mkF m 99 #[.val (.int p1)] [])) rfl (hb hby d1_99)
                        have pre33 : ∀ t, Steps p.tables e below (T32.setTop (mkF m 102 #[.val (.int p1)] [(.ref (A 10))])) t → Steps p.tables e below (s₁.setTop (entryFrame m #[(.int p1)] 1)) t := by
                          intro t k
                          refine pre31 t ?_
                          refine XS.icmpNo X0.here hx rfl (hb hby d1_96) rfl (teq j10).2 ?_
                          show Steps p.tables e below (s₁.setTop (mkF m 99 #[.val (.int p1)] [])) _
                          refine st32 _ ?_
                          show Steps p.tables e below (T32.setTop (mkF m 102 #[.val (.int p1)] [(.ref (A 10))])) _
                          exact k
                        obtain ⟨fs, hr, hrun, hended, hW, hsame⟩ := X32.leave (v := some (.ref (A 10))) (fun h => by rw [Bd.returns] at h; cases h)
                        refine ⟨_, _, pre33 _ ?_, hrun, hended, _, _, rfl, ?_, ⟨_, rfl⟩, hW, hsame.mono (by decide) (by decide)⟩
                        · exact retOut X32 hx Bd.returns (by first | rfl | simp [narrow]) (Or.inr (Or.inr (Or.inr (Or.inr ⟨rfl, rfl, rfl⟩)))) (hb hby d1_102) hr
                        · show Q_rmP Z p1 A h0 n0 _ T32.heap _
                          rw [e32]
                          exact ⟨by rw [j10]; rfl, N0, rfl⟩
                      · skip
                        have pre34 : ∀ t, Steps p.tables e below (s₁.setTop (mkF m 106 #[.val (.int p1)] [(.int (11 : Int32)), (.int p1)])) t → Steps p.tables e below (s₁.setTop (entryFrame m #[(.int p1)] 1)) t := by
                          intro t k
                          refine pre31 t ?_
                          refine XS.icmpYes X0.here hx rfl (pc0 := 96) (pc' := 103) rfl (hb hby d1_96) rfl (feq j10).2 (by decide) (by decide) ?_
                          show Steps p.tables e below (s₁.setTop (mkF m 103 #[.val (.int p1)] [])) _
                          refine XS.iloadN X0.here hx rfl (hb hby d1_103) rfl ?_
                          show Steps p.tables e below (s₁.setTop (mkF m 104 #[.val (.int p1)] [(.int p1)])) _
                          refine XS.bipush X0.here hx rfl (hb hby d1_104) ?_
                          show Steps p.tables e below (s₁.setTop (mkF m 106 #[.val (.int p1)] [(.int (11 : Int32)), (.int p1)])) _
                          exact k
                        by_cases j11 : p1 = (11 : Int32)
                        · skip
                          obtain ⟨T35, X35, e35, st35⟩ := getS2 X0 hx hZ hown (host := "") (Or.inl (hw _ (List.mem_of_getElem? (i := 29) rfl))) Via.refl e0 S_11 (g := (mkF m 109 #[.val (.int p1)] [])) rfl (hb hby d1_109)
                          have pre36 : ∀ t, Steps p.tables e below (T35.setTop (mkF m 112 #[.val (.int p1)] [(.ref (A 11))])) t → Steps p.tables e below (s₁.setTop (entryFrame m #[(.int p1)] 1)) t := by
                            intro t k
                            refine pre34 t ?_
                            refine XS.icmpNo X0.here hx rfl (hb hby d1_106) rfl (teq j11).2 ?_
                            show Steps p.tables e below (s₁.setTop (mkF m 109 #[.val (.int p1)] [])) _
                            refine st35 _ ?_
                            show Steps p.tables e below (T35.setTop (mkF m 112 #[.val (.int p1)] [(.ref (A 11))])) _
                            exact k
                          obtain ⟨fs, hr, hrun, hended, hW, hsame⟩ := X35.leave (v := some (.ref (A 11))) (fun h => by rw [Bd.returns] at h; cases h)
                          refine ⟨_, _, pre36 _ ?_, hrun, hended, _, _, rfl, ?_, ⟨_, rfl⟩, hW, hsame.mono (by decide) (by decide)⟩
                          · exact retOut X35 hx Bd.returns (by first | rfl | simp [narrow]) (Or.inr (Or.inr (Or.inr (Or.inr ⟨rfl, rfl, rfl⟩)))) (hb hby d1_112) hr
                          · show Q_rmP Z p1 A h0 n0 _ T35.heap _
                            rw [e35]
                            exact ⟨by rw [j11]; rfl, N0, rfl⟩
                        · skip
                          have pre37 : ∀ t, Steps p.tables e below (s₁.setTop (mkF m 116 #[.val (.int p1)] [(.int (12 : Int32)), (.int p1)])) t → Steps p.tables e below (s₁.setTop (entryFrame m #[(.int p1)] 1)) t := by
                            intro t k
                            refine pre34 t ?_
                            refine XS.icmpYes X0.here hx rfl (pc0 := 106) (pc' := 113) rfl (hb hby d1_106) rfl (feq j11).2 (by decide) (by decide) ?_
                            show Steps p.tables e below (s₁.setTop (mkF m 113 #[.val (.int p1)] [])) _
                            refine XS.iloadN X0.here hx rfl (hb hby d1_113) rfl ?_
                            show Steps p.tables e below (s₁.setTop (mkF m 114 #[.val (.int p1)] [(.int p1)])) _
                            refine XS.bipush X0.here hx rfl (hb hby d1_114) ?_
                            show Steps p.tables e below (s₁.setTop (mkF m 116 #[.val (.int p1)] [(.int (12 : Int32)), (.int p1)])) _
                            exact k
                          by_cases j12 : p1 = (12 : Int32)
                          · skip
                            obtain ⟨T38, X38, e38, st38⟩ := getS2 X0 hx hZ hown (host := "") (Or.inl (hw _ (List.mem_of_getElem? (i := 53) rfl))) Via.refl e0 S_12 (g := (mkF m 119 #[.val (.int p1)] [])) rfl (hb hby d1_119)
                            have pre39 : ∀ t, Steps p.tables e below (T38.setTop (mkF m 122 #[.val (.int p1)] [(.ref (A 12))])) t → Steps p.tables e below (s₁.setTop (entryFrame m #[(.int p1)] 1)) t := by
                              intro t k
                              refine pre37 t ?_
                              refine XS.icmpNo X0.here hx rfl (hb hby d1_116) rfl (teq j12).2 ?_
                              show Steps p.tables e below (s₁.setTop (mkF m 119 #[.val (.int p1)] [])) _
                              refine st38 _ ?_
                              show Steps p.tables e below (T38.setTop (mkF m 122 #[.val (.int p1)] [(.ref (A 12))])) _
                              exact k
                            obtain ⟨fs, hr, hrun, hended, hW, hsame⟩ := X38.leave (v := some (.ref (A 12))) (fun h => by rw [Bd.returns] at h; cases h)
                            refine ⟨_, _, pre39 _ ?_, hrun, hended, _, _, rfl, ?_, ⟨_, rfl⟩, hW, hsame.mono (by decide) (by decide)⟩
                            · exact retOut X38 hx Bd.returns (by first | rfl | simp [narrow]) (Or.inr (Or.inr (Or.inr (Or.inr ⟨rfl, rfl, rfl⟩)))) (hb hby d1_122) hr
                            · show Q_rmP Z p1 A h0 n0 _ T38.heap _
                              rw [e38]
                              exact ⟨by rw [j12]; rfl, N0, rfl⟩
                          · skip
                            have pre40 : ∀ t, Steps p.tables e below (s₁.setTop (mkF m 126 #[.val (.int p1)] [(.int (13 : Int32)), (.int p1)])) t → Steps p.tables e below (s₁.setTop (entryFrame m #[(.int p1)] 1)) t := by
                              intro t k
                              refine pre37 t ?_
                              refine XS.icmpYes X0.here hx rfl (pc0 := 116) (pc' := 123) rfl (hb hby d1_116) rfl (feq j12).2 (by decide) (by decide) ?_
                              show Steps p.tables e below (s₁.setTop (mkF m 123 #[.val (.int p1)] [])) _
                              refine XS.iloadN X0.here hx rfl (hb hby d1_123) rfl ?_
                              show Steps p.tables e below (s₁.setTop (mkF m 124 #[.val (.int p1)] [(.int p1)])) _
                              refine XS.bipush X0.here hx rfl (hb hby d1_124) ?_
                              show Steps p.tables e below (s₁.setTop (mkF m 126 #[.val (.int p1)] [(.int (13 : Int32)), (.int p1)])) _
                              exact k
                            by_cases j13 : p1 = (13 : Int32)
                            · skip
                              obtain ⟨T41, X41, e41, st41⟩ := getS2 X0 hx hZ hown (host := "") (Or.inl (hw _ (List.mem_of_getElem? (i := 51) rfl))) Via.refl e0 S_13 (g := (mkF m 129 #[.val (.int p1)] [])) rfl (hb hby d1_129)
                              have pre42 : ∀ t, Steps p.tables e below (T41.setTop (mkF m 132 #[.val (.int p1)] [(.ref (A 13))])) t → Steps p.tables e below (s₁.setTop (entryFrame m #[(.int p1)] 1)) t := by
                                intro t k
                                refine pre40 t ?_
                                refine XS.icmpNo X0.here hx rfl (hb hby d1_126) rfl (teq j13).2 ?_
                                show Steps p.tables e below (s₁.setTop (mkF m 129 #[.val (.int p1)] [])) _
                                refine st41 _ ?_
                                show Steps p.tables e below (T41.setTop (mkF m 132 #[.val (.int p1)] [(.ref (A 13))])) _
                                exact k
                              obtain ⟨fs, hr, hrun, hended, hW, hsame⟩ := X41.leave (v := some (.ref (A 13))) (fun h => by rw [Bd.returns] at h; cases h)
                              refine ⟨_, _, pre42 _ ?_, hrun, hended, _, _, rfl, ?_, ⟨_, rfl⟩, hW, hsame.mono (by decide) (by decide)⟩
                              · exact retOut X41 hx Bd.returns (by first | rfl | simp [narrow]) (Or.inr (Or.inr (Or.inr (Or.inr ⟨rfl, rfl, rfl⟩)))) (hb hby d1_132) hr
                              · show Q_rmP Z p1 A h0 n0 _ T41.heap _
                                rw [e41]
                                exact ⟨by rw [j13]; rfl, N0, rfl⟩
                            · skip
                              have pre43 : ∀ t, Steps p.tables e below (s₁.setTop (mkF m 136 #[.val (.int p1)] [(.int (14 : Int32)), (.int p1)])) t → Steps p.tables e below (s₁.setTop (entryFrame m #[(.int p1)] 1)) t := by
                                intro t k
                                refine pre40 t ?_
                                refine XS.icmpYes X0.here hx rfl (pc0 := 126) (pc' := 133) rfl (hb hby d1_126) rfl (feq j13).2 (by decide) (by decide) ?_
                                show Steps p.tables e below (s₁.setTop (mkF m 133 #[.val (.int p1)] [])) _
                                refine XS.iloadN X0.here hx rfl (hb hby d1_133) rfl ?_
                                show Steps p.tables e below (s₁.setTop (mkF m 134 #[.val (.int p1)] [(.int p1)])) _
                                refine XS.bipush X0.here hx rfl (hb hby d1_134) ?_
                                show Steps p.tables e below (s₁.setTop (mkF m 136 #[.val (.int p1)] [(.int (14 : Int32)), (.int p1)])) _
                                exact k
                              by_cases j14 : p1 = (14 : Int32)
                              · skip
                                obtain ⟨T44, X44, e44, st44⟩ := getS2 X0 hx hZ hown (host := "") (Or.inl (hw _ (List.mem_of_getElem? (i := 31) rfl))) Via.refl e0 S_14 (g := (mkF m 139 #[.val (.int p1)] [])) rfl (hb hby d1_139)
                                have pre45 : ∀ t, Steps p.tables e below (T44.setTop (mkF m 142 #[.val (.int p1)] [(.ref (A 14))])) t → Steps p.tables e below (s₁.setTop (entryFrame m #[(.int p1)] 1)) t := by
                                  intro t k
                                  refine pre43 t ?_
                                  refine XS.icmpNo X0.here hx rfl (hb hby d1_136) rfl (teq j14).2 ?_
                                  show Steps p.tables e below (s₁.setTop (mkF m 139 #[.val (.int p1)] [])) _
                                  refine st44 _ ?_
                                  show Steps p.tables e below (T44.setTop (mkF m 142 #[.val (.int p1)] [(.ref (A 14))])) _
                                  exact k
                                obtain ⟨fs, hr, hrun, hended, hW, hsame⟩ := X44.leave (v := some (.ref (A 14))) (fun h => by rw [Bd.returns] at h; cases h)
                                refine ⟨_, _, pre45 _ ?_, hrun, hended, _, _, rfl, ?_, ⟨_, rfl⟩, hW, hsame.mono (by decide) (by decide)⟩
                                · exact retOut X44 hx Bd.returns (by first | rfl | simp [narrow]) (Or.inr (Or.inr (Or.inr (Or.inr ⟨rfl, rfl, rfl⟩)))) (hb hby d1_142) hr
                                · show Q_rmP Z p1 A h0 n0 _ T44.heap _
                                  rw [e44]
                                  exact ⟨by rw [j14]; rfl, N0, rfl⟩
                              · skip
                                have pre46 : ∀ t, Steps p.tables e below (s₁.setTop (mkF m 146 #[.val (.int p1)] [(.int (15 : Int32)), (.int p1)])) t → Steps p.tables e below (s₁.setTop (entryFrame m #[(.int p1)] 1)) t := by
                                  intro t k
                                  refine pre43 t ?_
                                  refine XS.icmpYes X0.here hx rfl (pc0 := 136) (pc' := 143) rfl (hb hby d1_136) rfl (feq j14).2 (by decide) (by decide) ?_
                                  show Steps p.tables e below (s₁.setTop (mkF m 143 #[.val (.int p1)] [])) _
                                  refine XS.iloadN X0.here hx rfl (hb hby d1_143) rfl ?_
                                  show Steps p.tables e below (s₁.setTop (mkF m 144 #[.val (.int p1)] [(.int p1)])) _
                                  refine XS.bipush X0.here hx rfl (hb hby d1_144) ?_
                                  show Steps p.tables e below (s₁.setTop (mkF m 146 #[.val (.int p1)] [(.int (15 : Int32)), (.int p1)])) _
                                  exact k
                                by_cases j15 : p1 = (15 : Int32)
                                · skip
                                  obtain ⟨T47, X47, e47, st47⟩ := getS2 X0 hx hZ hown (host := "") (Or.inl (hw _ (List.mem_of_getElem? (i := 37) rfl))) Via.refl e0 S_15 (g := (mkF m 149 #[.val (.int p1)] [])) rfl (hb hby d1_149)
                                  have pre48 : ∀ t, Steps p.tables e below (T47.setTop (mkF m 152 #[.val (.int p1)] [(.ref (A 15))])) t → Steps p.tables e below (s₁.setTop (entryFrame m #[(.int p1)] 1)) t := by
                                    intro t k
                                    refine pre46 t ?_
                                    refine XS.icmpNo X0.here hx rfl (hb hby d1_146) rfl (teq j15).2 ?_
                                    show Steps p.tables e below (s₁.setTop (mkF m 149 #[.val (.int p1)] [])) _
                                    refine st47 _ ?_
                                    show Steps p.tables e below (T47.setTop (mkF m 152 #[.val (.int p1)] [(.ref (A 15))])) _
                                    exact k
                                  obtain ⟨fs, hr, hrun, hended, hW, hsame⟩ := X47.leave (v := some (.ref (A 15))) (fun h => by rw [Bd.returns] at h; cases h)
                                  refine ⟨_, _, pre48 _ ?_, hrun, hended, _, _, rfl, ?_, ⟨_, rfl⟩, hW, hsame.mono (by decide) (by decide)⟩
                                  · exact retOut X47 hx Bd.returns (by first | rfl | simp [narrow]) (Or.inr (Or.inr (Or.inr (Or.inr ⟨rfl, rfl, rfl⟩)))) (hb hby d1_152) hr
                                  · show Q_rmP Z p1 A h0 n0 _ T47.heap _
                                    rw [e47]
                                    exact ⟨by rw [j15]; rfl, N0, rfl⟩
                                · skip
                                  have pre49 : ∀ t, Steps p.tables e below (s₁.setTop (mkF m 156 #[.val (.int p1)] [(.int (16 : Int32)), (.int p1)])) t → Steps p.tables e below (s₁.setTop (entryFrame m #[(.int p1)] 1)) t := by
                                    intro t k
                                    refine pre46 t ?_
                                    refine XS.icmpYes X0.here hx rfl (pc0 := 146) (pc' := 153) rfl (hb hby d1_146) rfl (feq j15).2 (by decide) (by decide) ?_
                                    show Steps p.tables e below (s₁.setTop (mkF m 153 #[.val (.int p1)] [])) _
                                    refine XS.iloadN X0.here hx rfl (hb hby d1_153) rfl ?_
                                    show Steps p.tables e below (s₁.setTop (mkF m 154 #[.val (.int p1)] [(.int p1)])) _
                                    refine XS.bipush X0.here hx rfl (hb hby d1_154) ?_
                                    show Steps p.tables e below (s₁.setTop (mkF m 156 #[.val (.int p1)] [(.int (16 : Int32)), (.int p1)])) _
                                    exact k
                                  by_cases j16 : p1 = (16 : Int32)
                                  · skip
                                    obtain ⟨T50, X50, e50, st50⟩ := getS2 X0 hx hZ hown (host := "") (Or.inl (hw _ (List.mem_of_getElem? (i := 39) rfl))) Via.refl e0 S_16 (g := (mkF m 159 #[.val (.int p1)] [])) rfl (hb hby d1_159)
                                    have pre51 : ∀ t, Steps p.tables e below (T50.setTop (mkF m 162 #[.val (.int p1)] [(.ref (A 16))])) t → Steps p.tables e below (s₁.setTop (entryFrame m #[(.int p1)] 1)) t := by
                                      intro t k
                                      refine pre49 t ?_
                                      refine XS.icmpNo X0.here hx rfl (hb hby d1_156) rfl (teq j16).2 ?_
                                      show Steps p.tables e below (s₁.setTop (mkF m 159 #[.val (.int p1)] [])) _
                                      refine st50 _ ?_
                                      show Steps p.tables e below (T50.setTop (mkF m 162 #[.val (.int p1)] [(.ref (A 16))])) _
                                      exact k
                                    obtain ⟨fs, hr, hrun, hended, hW, hsame⟩ := X50.leave (v := some (.ref (A 16))) (fun h => by rw [Bd.returns] at h; cases h)
                                    refine ⟨_, _, pre51 _ ?_, hrun, hended, _, _, rfl, ?_, ⟨_, rfl⟩, hW, hsame.mono (by decide) (by decide)⟩
                                    · exact retOut X50 hx Bd.returns (by first | rfl | simp [narrow]) (Or.inr (Or.inr (Or.inr (Or.inr ⟨rfl, rfl, rfl⟩)))) (hb hby d1_162) hr
                                    · show Q_rmP Z p1 A h0 n0 _ T50.heap _
                                      rw [e50]
                                      exact ⟨by rw [j16]; rfl, N0, rfl⟩
                                  · skip
                                    have pre52 : ∀ t, Steps p.tables e below (s₁.setTop (mkF m 166 #[.val (.int p1)] [(.int (17 : Int32)), (.int p1)])) t → Steps p.tables e below (s₁.setTop (entryFrame m #[(.int p1)] 1)) t := by
                                      intro t k
                                      refine pre49 t ?_
                                      refine XS.icmpYes X0.here hx rfl (pc0 := 156) (pc' := 163) rfl (hb hby d1_156) rfl (feq j16).2 (by decide) (by decide) ?_
                                      show Steps p.tables e below (s₁.setTop (mkF m 163 #[.val (.int p1)] [])) _
                                      refine XS.iloadN X0.here hx rfl (hb hby d1_163) rfl ?_
                                      show Steps p.tables e below (s₁.setTop (mkF m 164 #[.val (.int p1)] [(.int p1)])) _
                                      refine XS.bipush X0.here hx rfl (hb hby d1_164) ?_
                                      show Steps p.tables e below (s₁.setTop (mkF m 166 #[.val (.int p1)] [(.int (17 : Int32)), (.int p1)])) _
                                      exact k
                                    by_cases j17 : p1 = (17 : Int32)
                                    · skip
                                      obtain ⟨T53, X53, e53, st53⟩ := getS2 X0 hx hZ hown (host := "") (Or.inl (hw _ (List.mem_of_getElem? (i := 65) rfl))) Via.refl e0 S_17 (g := (mkF m 169 #[.val (.int p1)] [])) rfl (hb hby d1_169)
                                      have pre54 : ∀ t, Steps p.tables e below (T53.setTop (mkF m 172 #[.val (.int p1)] [(.ref (A 17))])) t → Steps p.tables e below (s₁.setTop (entryFrame m #[(.int p1)] 1)) t := by
                                        intro t k
                                        refine pre52 t ?_
                                        refine XS.icmpNo X0.here hx rfl (hb hby d1_166) rfl (teq j17).2 ?_
                                        show Steps p.tables e below (s₁.setTop (mkF m 169 #[.val (.int p1)] [])) _
                                        refine st53 _ ?_
                                        show Steps p.tables e below (T53.setTop (mkF m 172 #[.val (.int p1)] [(.ref (A 17))])) _
                                        exact k
                                      obtain ⟨fs, hr, hrun, hended, hW, hsame⟩ := X53.leave (v := some (.ref (A 17))) (fun h => by rw [Bd.returns] at h; cases h)
                                      refine ⟨_, _, pre54 _ ?_, hrun, hended, _, _, rfl, ?_, ⟨_, rfl⟩, hW, hsame.mono (by decide) (by decide)⟩
                                      · exact retOut X53 hx Bd.returns (by first | rfl | simp [narrow]) (Or.inr (Or.inr (Or.inr (Or.inr ⟨rfl, rfl, rfl⟩)))) (hb hby d1_172) hr
                                      · show Q_rmP Z p1 A h0 n0 _ T53.heap _
                                        rw [e53]
                                        exact ⟨by rw [j17]; rfl, N0, rfl⟩
                                    · skip
                                      have pre55 : ∀ t, Steps p.tables e below (s₁.setTop (mkF m 176 #[.val (.int p1)] [(.int (18 : Int32)), (.int p1)])) t → Steps p.tables e below (s₁.setTop (entryFrame m #[(.int p1)] 1)) t := by
                                        intro t k
                                        refine pre52 t ?_
                                        refine XS.icmpYes X0.here hx rfl (pc0 := 166) (pc' := 173) rfl (hb hby d1_166) rfl (feq j17).2 (by decide) (by decide) ?_
                                        show Steps p.tables e below (s₁.setTop (mkF m 173 #[.val (.int p1)] [])) _
                                        refine XS.iloadN X0.here hx rfl (hb hby d1_173) rfl ?_
                                        show Steps p.tables e below (s₁.setTop (mkF m 174 #[.val (.int p1)] [(.int p1)])) _
                                        refine XS.bipush X0.here hx rfl (hb hby d1_174) ?_
                                        show Steps p.tables e below (s₁.setTop (mkF m 176 #[.val (.int p1)] [(.int (18 : Int32)), (.int p1)])) _
                                        exact k
                                      by_cases j18 : p1 = (18 : Int32)
                                      · skip
                                        obtain ⟨T56, X56, e56, st56⟩ := getS2 X0 hx hZ hown (host := "") (Or.inl (hw _ (List.mem_of_getElem? (i := 57) rfl))) Via.refl e0 S_18 (g := (mkF m 179 #[.val (.int p1)] [])) rfl (hb hby d1_179)
                                        have pre57 : ∀ t, Steps p.tables e below (T56.setTop (mkF m 182 #[.val (.int p1)] [(.ref (A 18))])) t → Steps p.tables e below (s₁.setTop (entryFrame m #[(.int p1)] 1)) t := by
                                          intro t k
                                          refine pre55 t ?_
                                          refine XS.icmpNo X0.here hx rfl (hb hby d1_176) rfl (teq j18).2 ?_
                                          show Steps p.tables e below (s₁.setTop (mkF m 179 #[.val (.int p1)] [])) _
                                          refine st56 _ ?_
                                          show Steps p.tables e below (T56.setTop (mkF m 182 #[.val (.int p1)] [(.ref (A 18))])) _
                                          exact k
                                        obtain ⟨fs, hr, hrun, hended, hW, hsame⟩ := X56.leave (v := some (.ref (A 18))) (fun h => by rw [Bd.returns] at h; cases h)
                                        refine ⟨_, _, pre57 _ ?_, hrun, hended, _, _, rfl, ?_, ⟨_, rfl⟩, hW, hsame.mono (by decide) (by decide)⟩
                                        · exact retOut X56 hx Bd.returns (by first | rfl | simp [narrow]) (Or.inr (Or.inr (Or.inr (Or.inr ⟨rfl, rfl, rfl⟩)))) (hb hby d1_182) hr
                                        · show Q_rmP Z p1 A h0 n0 _ T56.heap _
                                          rw [e56]
                                          exact ⟨by rw [j18]; rfl, N0, rfl⟩
                                      · skip
                                        have pre58 : ∀ t, Steps p.tables e below (s₁.setTop (mkF m 186 #[.val (.int p1)] [(.int (19 : Int32)), (.int p1)])) t → Steps p.tables e below (s₁.setTop (entryFrame m #[(.int p1)] 1)) t := by
                                          intro t k
                                          refine pre55 t ?_
                                          refine XS.icmpYes X0.here hx rfl (pc0 := 176) (pc' := 183) rfl (hb hby d1_176) rfl (feq j18).2 (by decide) (by decide) ?_
                                          show Steps p.tables e below (s₁.setTop (mkF m 183 #[.val (.int p1)] [])) _
                                          refine XS.iloadN X0.here hx rfl (hb hby d1_183) rfl ?_
                                          show Steps p.tables e below (s₁.setTop (mkF m 184 #[.val (.int p1)] [(.int p1)])) _
                                          refine XS.bipush X0.here hx rfl (hb hby d1_184) ?_
                                          show Steps p.tables e below (s₁.setTop (mkF m 186 #[.val (.int p1)] [(.int (19 : Int32)), (.int p1)])) _
                                          exact k
                                        by_cases j19 : p1 = (19 : Int32)
                                        · skip
                                          obtain ⟨T59, X59, e59, st59⟩ := getS2 X0 hx hZ hown (host := "") (Or.inl (hw _ (List.mem_of_getElem? (i := 55) rfl))) Via.refl e0 S_19 (g := (mkF m 189 #[.val (.int p1)] [])) rfl (hb hby d1_189)
                                          have pre60 : ∀ t, Steps p.tables e below (T59.setTop (mkF m 192 #[.val (.int p1)] [(.ref (A 19))])) t → Steps p.tables e below (s₁.setTop (entryFrame m #[(.int p1)] 1)) t := by
                                            intro t k
                                            refine pre58 t ?_
                                            refine XS.icmpNo X0.here hx rfl (hb hby d1_186) rfl (teq j19).2 ?_
                                            show Steps p.tables e below (s₁.setTop (mkF m 189 #[.val (.int p1)] [])) _
                                            refine st59 _ ?_
                                            show Steps p.tables e below (T59.setTop (mkF m 192 #[.val (.int p1)] [(.ref (A 19))])) _
                                            exact k
                                          obtain ⟨fs, hr, hrun, hended, hW, hsame⟩ := X59.leave (v := some (.ref (A 19))) (fun h => by rw [Bd.returns] at h; cases h)
                                          refine ⟨_, _, pre60 _ ?_, hrun, hended, _, _, rfl, ?_, ⟨_, rfl⟩, hW, hsame.mono (by decide) (by decide)⟩
                                          · exact retOut X59 hx Bd.returns (by first | rfl | simp [narrow]) (Or.inr (Or.inr (Or.inr (Or.inr ⟨rfl, rfl, rfl⟩)))) (hb hby d1_192) hr
                                          · show Q_rmP Z p1 A h0 n0 _ T59.heap _
                                            rw [e59]
                                            exact ⟨by rw [j19]; rfl, N0, rfl⟩
                                        · skip
                                          have pre61 : ∀ t, Steps p.tables e below (s₁.setTop (mkF m 196 #[.val (.int p1)] [(.int (20 : Int32)), (.int p1)])) t → Steps p.tables e below (s₁.setTop (entryFrame m #[(.int p1)] 1)) t := by
                                            intro t k
                                            refine pre58 t ?_
                                            refine XS.icmpYes X0.here hx rfl (pc0 := 186) (pc' := 193) rfl (hb hby d1_186) rfl (feq j19).2 (by decide) (by decide) ?_
                                            show Steps p.tables e below (s₁.setTop (mkF m 193 #[.val (.int p1)] [])) _
                                            refine XS.iloadN X0.here hx rfl (hb hby d1_193) rfl ?_
                                            show Steps p.tables e below (s₁.setTop (mkF m 194 #[.val (.int p1)] [(.int p1)])) _
                                            refine XS.bipush X0.here hx rfl (hb hby d1_194) ?_
                                            show Steps p.tables e below (s₁.setTop (mkF m 196 #[.val (.int p1)] [(.int (20 : Int32)), (.int p1)])) _
                                            exact k
                                          by_cases j20 : p1 = (20 : Int32)
                                          · skip
                                            obtain ⟨T62, X62, e62, st62⟩ := getS2 X0 hx hZ hown (host := "") (Or.inl (hw _ (List.mem_of_getElem? (i := 66) rfl))) Via.refl e0 S_20 (g := (mkF m 199 #[.val (.int p1)] [])) rfl (hb hby d1_199)
                                            have pre63 : ∀ t, Steps p.tables e below (T62.setTop (mkF m 202 #[.val (.int p1)] [(.ref (A 20))])) t → Steps p.tables e below (s₁.setTop (entryFrame m #[(.int p1)] 1)) t := by
                                              intro t k
                                              refine pre61 t ?_
                                              refine XS.icmpNo X0.here hx rfl (hb hby d1_196) rfl (teq j20).2 ?_
                                              show Steps p.tables e below (s₁.setTop (mkF m 199 #[.val (.int p1)] [])) _
                                              refine st62 _ ?_
                                              show Steps p.tables e below (T62.setTop (mkF m 202 #[.val (.int p1)] [(.ref (A 20))])) _
                                              exact k
                                            obtain ⟨fs, hr, hrun, hended, hW, hsame⟩ := X62.leave (v := some (.ref (A 20))) (fun h => by rw [Bd.returns] at h; cases h)
                                            refine ⟨_, _, pre63 _ ?_, hrun, hended, _, _, rfl, ?_, ⟨_, rfl⟩, hW, hsame.mono (by decide) (by decide)⟩
                                            · exact retOut X62 hx Bd.returns (by first | rfl | simp [narrow]) (Or.inr (Or.inr (Or.inr (Or.inr ⟨rfl, rfl, rfl⟩)))) (hb hby d1_202) hr
                                            · show Q_rmP Z p1 A h0 n0 _ T62.heap _
                                              rw [e62]
                                              exact ⟨by rw [j20]; rfl, N0, rfl⟩
                                          · skip
                                            have pre64 : ∀ t, Steps p.tables e below (s₁.setTop (mkF m 206 #[.val (.int p1)] [(.int (21 : Int32)), (.int p1)])) t → Steps p.tables e below (s₁.setTop (entryFrame m #[(.int p1)] 1)) t := by
                                              intro t k
                                              refine pre61 t ?_
                                              refine XS.icmpYes X0.here hx rfl (pc0 := 196) (pc' := 203) rfl (hb hby d1_196) rfl (feq j20).2 (by decide) (by decide) ?_
                                              show Steps p.tables e below (s₁.setTop (mkF m 203 #[.val (.int p1)] [])) _
                                              refine XS.iloadN X0.here hx rfl (hb hby d1_203) rfl ?_
                                              show Steps p.tables e below (s₁.setTop (mkF m 204 #[.val (.int p1)] [(.int p1)])) _
                                              refine XS.bipush X0.here hx rfl (hb hby d1_204) ?_
                                              show Steps p.tables e below (s₁.setTop (mkF m 206 #[.val (.int p1)] [(.int (21 : Int32)), (.int p1)])) _
                                              exact k
                                            by_cases j21 : p1 = (21 : Int32)
                                            · skip
                                              obtain ⟨T65, X65, e65, st65⟩ := getS2 X0 hx hZ hown (host := "") (Or.inl (hw _ (List.mem_of_getElem? (i := 49) rfl))) Via.refl e0 S_21 (g := (mkF m 209 #[.val (.int p1)] [])) rfl (hb hby d1_209)
                                              have pre66 : ∀ t, Steps p.tables e below (T65.setTop (mkF m 212 #[.val (.int p1)] [(.ref (A 21))])) t → Steps p.tables e below (s₁.setTop (entryFrame m #[(.int p1)] 1)) t := by
                                                intro t k
                                                refine pre64 t ?_
                                                refine XS.icmpNo X0.here hx rfl (hb hby d1_206) rfl (teq j21).2 ?_
                                                show Steps p.tables e below (s₁.setTop (mkF m 209 #[.val (.int p1)] [])) _
                                                refine st65 _ ?_
                                                show Steps p.tables e below (T65.setTop (mkF m 212 #[.val (.int p1)] [(.ref (A 21))])) _
                                                exact k
                                              obtain ⟨fs, hr, hrun, hended, hW, hsame⟩ := X65.leave (v := some (.ref (A 21))) (fun h => by rw [Bd.returns] at h; cases h)
                                              refine ⟨_, _, pre66 _ ?_, hrun, hended, _, _, rfl, ?_, ⟨_, rfl⟩, hW, hsame.mono (by decide) (by decide)⟩
                                              · exact retOut X65 hx Bd.returns (by first | rfl | simp [narrow]) (Or.inr (Or.inr (Or.inr (Or.inr ⟨rfl, rfl, rfl⟩)))) (hb hby d1_212) hr
                                              · show Q_rmP Z p1 A h0 n0 _ T65.heap _
                                                rw [e65]
                                                exact ⟨by rw [j21]; rfl, N0, rfl⟩
                                            · skip
                                              have pre67 : ∀ t, Steps p.tables e below (s₁.setTop (mkF m 216 #[.val (.int p1)] [(.int (22 : Int32)), (.int p1)])) t → Steps p.tables e below (s₁.setTop (entryFrame m #[(.int p1)] 1)) t := by
                                                intro t k
                                                refine pre64 t ?_
                                                refine XS.icmpYes X0.here hx rfl (pc0 := 206) (pc' := 213) rfl (hb hby d1_206) rfl (feq j21).2 (by decide) (by decide) ?_
                                                show Steps p.tables e below (s₁.setTop (mkF m 213 #[.val (.int p1)] [])) _
                                                refine XS.iloadN X0.here hx rfl (hb hby d1_213) rfl ?_
                                                show Steps p.tables e below (s₁.setTop (mkF m 214 #[.val (.int p1)] [(.int p1)])) _
                                                refine XS.bipush X0.here hx rfl (hb hby d1_214) ?_
                                                show Steps p.tables e below (s₁.setTop (mkF m 216 #[.val (.int p1)] [(.int (22 : Int32)), (.int p1)])) _
                                                exact k
                                              by_cases j22 : p1 = (22 : Int32)
                                              · skip
                                                obtain ⟨T68, X68, e68, st68⟩ := getS2 X0 hx hZ hown (host := "") (Or.inl (hw _ (List.mem_of_getElem? (i := 25) rfl))) Via.refl e0 S_22 (g := (mkF m 219 #[.val (.int p1)] [])) rfl (hb hby d1_219)
                                                have pre69 : ∀ t, Steps p.tables e below (T68.setTop (mkF m 222 #[.val (.int p1)] [(.ref (A 22))])) t → Steps p.tables e below (s₁.setTop (entryFrame m #[(.int p1)] 1)) t := by
                                                  intro t k
                                                  refine pre67 t ?_
                                                  refine XS.icmpNo X0.here hx rfl (hb hby d1_216) rfl (teq j22).2 ?_
                                                  show Steps p.tables e below (s₁.setTop (mkF m 219 #[.val (.int p1)] [])) _
                                                  refine st68 _ ?_
                                                  show Steps p.tables e below (T68.setTop (mkF m 222 #[.val (.int p1)] [(.ref (A 22))])) _
                                                  exact k
                                                obtain ⟨fs, hr, hrun, hended, hW, hsame⟩ := X68.leave (v := some (.ref (A 22))) (fun h => by rw [Bd.returns] at h; cases h)
                                                refine ⟨_, _, pre69 _ ?_, hrun, hended, _, _, rfl, ?_, ⟨_, rfl⟩, hW, hsame.mono (by decide) (by decide)⟩
                                                · exact retOut X68 hx Bd.returns (by first | rfl | simp [narrow]) (Or.inr (Or.inr (Or.inr (Or.inr ⟨rfl, rfl, rfl⟩)))) (hb hby d1_222) hr
                                                · show Q_rmP Z p1 A h0 n0 _ T68.heap _
                                                  rw [e68]
                                                  exact ⟨by rw [j22]; rfl, N0, rfl⟩
                                              · skip
                                                have pre70 : ∀ t, Steps p.tables e below (s₁.setTop (mkF m 226 #[.val (.int p1)] [(.int (23 : Int32)), (.int p1)])) t → Steps p.tables e below (s₁.setTop (entryFrame m #[(.int p1)] 1)) t := by
                                                  intro t k
                                                  refine pre67 t ?_
                                                  refine XS.icmpYes X0.here hx rfl (pc0 := 216) (pc' := 223) rfl (hb hby d1_216) rfl (feq j22).2 (by decide) (by decide) ?_
                                                  show Steps p.tables e below (s₁.setTop (mkF m 223 #[.val (.int p1)] [])) _
                                                  refine XS.iloadN X0.here hx rfl (hb hby d1_223) rfl ?_
                                                  show Steps p.tables e below (s₁.setTop (mkF m 224 #[.val (.int p1)] [(.int p1)])) _
                                                  refine XS.bipush X0.here hx rfl (hb hby d1_224) ?_
                                                  show Steps p.tables e below (s₁.setTop (mkF m 226 #[.val (.int p1)] [(.int (23 : Int32)), (.int p1)])) _
                                                  exact k
                                                by_cases j23 : p1 = (23 : Int32)
                                                · skip
                                                  obtain ⟨T71, X71, e71, st71⟩ := getS2 X0 hx hZ hown (host := "") (Or.inl (hw _ (List.mem_of_getElem? (i := 68) rfl))) Via.refl e0 S_23 (g := (mkF m 229 #[.val (.int p1)] [])) rfl (hb hby d1_229)
                                                  have pre72 : ∀ t, Steps p.tables e below (T71.setTop (mkF m 232 #[.val (.int p1)] [(.ref (A 23))])) t → Steps p.tables e below (s₁.setTop (entryFrame m #[(.int p1)] 1)) t := by
                                                    intro t k
                                                    refine pre70 t ?_
                                                    refine XS.icmpNo X0.here hx rfl (hb hby d1_226) rfl (teq j23).2 ?_
                                                    show Steps p.tables e below (s₁.setTop (mkF m 229 #[.val (.int p1)] [])) _
                                                    refine st71 _ ?_
                                                    show Steps p.tables e below (T71.setTop (mkF m 232 #[.val (.int p1)] [(.ref (A 23))])) _
                                                    exact k
                                                  obtain ⟨fs, hr, hrun, hended, hW, hsame⟩ := X71.leave (v := some (.ref (A 23))) (fun h => by rw [Bd.returns] at h; cases h)
                                                  refine ⟨_, _, pre72 _ ?_, hrun, hended, _, _, rfl, ?_, ⟨_, rfl⟩, hW, hsame.mono (by decide) (by decide)⟩
                                                  · exact retOut X71 hx Bd.returns (by first | rfl | simp [narrow]) (Or.inr (Or.inr (Or.inr (Or.inr ⟨rfl, rfl, rfl⟩)))) (hb hby d1_232) hr
                                                  · show Q_rmP Z p1 A h0 n0 _ T71.heap _
                                                    rw [e71]
                                                    exact ⟨by rw [j23]; rfl, N0, rfl⟩
                                                · skip
                                                  have pre73 : ∀ t, Steps p.tables e below (s₁.setTop (mkF m 236 #[.val (.int p1)] [(.int (24 : Int32)), (.int p1)])) t → Steps p.tables e below (s₁.setTop (entryFrame m #[(.int p1)] 1)) t := by
                                                    intro t k
                                                    refine pre70 t ?_
                                                    refine XS.icmpYes X0.here hx rfl (pc0 := 226) (pc' := 233) rfl (hb hby d1_226) rfl (feq j23).2 (by decide) (by decide) ?_
                                                    show Steps p.tables e below (s₁.setTop (mkF m 233 #[.val (.int p1)] [])) _
                                                    refine XS.iloadN X0.here hx rfl (hb hby d1_233) rfl ?_
                                                    show Steps p.tables e below (s₁.setTop (mkF m 234 #[.val (.int p1)] [(.int p1)])) _
                                                    refine XS.bipush X0.here hx rfl (hb hby d1_234) ?_
                                                    show Steps p.tables e below (s₁.setTop (mkF m 236 #[.val (.int p1)] [(.int (24 : Int32)), (.int p1)])) _
                                                    exact k
                                                  by_cases j24 : p1 = (24 : Int32)
                                                  · skip
                                                    obtain ⟨T74, X74, e74, st74⟩ := getS2 X0 hx hZ hown (host := "") (Or.inl (hw _ (List.mem_of_getElem? (i := 70) rfl))) Via.refl e0 S_24 (g := (mkF m 239 #[.val (.int p1)] [])) rfl (hb hby d1_239)
                                                    have pre75 : ∀ t, Steps p.tables e below (T74.setTop (mkF m 242 #[.val (.int p1)] [(.ref (A 24))])) t → Steps p.tables e below (s₁.setTop (entryFrame m #[(.int p1)] 1)) t := by
                                                      intro t k
                                                      refine pre73 t ?_
                                                      refine XS.icmpNo X0.here hx rfl (hb hby d1_236) rfl (teq j24).2 ?_
                                                      show Steps p.tables e below (s₁.setTop (mkF m 239 #[.val (.int p1)] [])) _
                                                      refine st74 _ ?_
                                                      show Steps p.tables e below (T74.setTop (mkF m 242 #[.val (.int p1)] [(.ref (A 24))])) _
                                                      exact k
                                                    obtain ⟨fs, hr, hrun, hended, hW, hsame⟩ := X74.leave (v := some (.ref (A 24))) (fun h => by rw [Bd.returns] at h; cases h)
                                                    refine ⟨_, _, pre75 _ ?_, hrun, hended, _, _, rfl, ?_, ⟨_, rfl⟩, hW, hsame.mono (by decide) (by decide)⟩
                                                    · exact retOut X74 hx Bd.returns (by first | rfl | simp [narrow]) (Or.inr (Or.inr (Or.inr (Or.inr ⟨rfl, rfl, rfl⟩)))) (hb hby d1_242) hr
                                                    · show Q_rmP Z p1 A h0 n0 _ T74.heap _
                                                      rw [e74]
                                                      exact ⟨by rw [j24]; rfl, N0, rfl⟩
                                                  · skip
                                                    obtain ⟨T76, X76, e76, st76⟩ := getS2 X0 hx hZ hown (host := "") (Or.inl (hw _ (List.mem_of_getElem? (i := 63) rfl))) Via.refl e0 S_25 (g := (mkF m 243 #[.val (.int p1)] [])) rfl (hb hby d1_243)
                                                    have pre77 : ∀ t, Steps p.tables e below (T76.setTop (mkF m 246 #[.val (.int p1)] [(.ref (A 25))])) t → Steps p.tables e below (s₁.setTop (entryFrame m #[(.int p1)] 1)) t := by
                                                      intro t k
                                                      refine pre73 t ?_
                                                      refine XS.icmpYes X0.here hx rfl (pc0 := 236) (pc' := 243) rfl (hb hby d1_236) rfl (feq j24).2 (by decide) (by decide) ?_
                                                      show Steps p.tables e below (s₁.setTop (mkF m 243 #[.val (.int p1)] [])) _
                                                      refine st76 _ ?_
                                                      show Steps p.tables e below (T76.setTop (mkF m 246 #[.val (.int p1)] [(.ref (A 25))])) _
                                                      exact k
                                                    obtain ⟨fs, hr, hrun, hended, hW, hsame⟩ := X76.leave (v := some (.ref (A 25))) (fun h => by rw [Bd.returns] at h; cases h)
                                                    refine ⟨_, _, pre77 _ ?_, hrun, hended, _, _, rfl, ?_, ⟨_, rfl⟩, hW, hsame.mono (by decide) (by decide)⟩
                                                    · exact retOut X76 hx Bd.returns (by first | rfl | simp [narrow]) (Or.inr (Or.inr (Or.inr (Or.inr ⟨rfl, rfl, rfl⟩)))) (hb hby d1_246) hr
                                                    · show Q_rmP Z p1 A h0 n0 _ T76.heap _
                                                      rw [e76]
                                                      exact ⟨by rw [own_last r0 r1 j0 j1 j2 j3 j4 j5 j6 j7 j8 j9 j10 j11 j12 j13 j14 j15 j16 j17 j18 j19 j20 j21 j22 j23 j24]; rfl, N0, rfl⟩
theorem ef_rmT (m : MethodId) (x0 : Addr) : entryFrame m #[(.ref x0)] 1 = mkF m 0 #[.val (.ref x0)] [] := by first | (simp [entryFrame, mkF, argsToLocals, Value.category]; done) | rfl
theorem pn_0 : plainName "com/example/names_to_queries/namestoqueries/query/Keyword" = true := by first | (simp [plainName, overriddenIn]; done) | decide +kernel
theorem d2_0 : decode prog_76_method_5_code 0 = .ok (.aload_n 0, 1) := by decide +kernel
theorem d2_1 : decode prog_76_method_5_code 1 = .ok (.getstatic 52, 3) := by decide +kernel
theorem d2_4 : decode prog_76_method_5_code 4 = .ok (.if_acmp .eq 10, 3) := by decide +kernel
theorem d2_14 : decode prog_76_method_5_code 14 = .ok (.iconst 1, 1) := by decide +kernel
theorem d2_15 : decode prog_76_method_5_code 15 = .ok (.goto 4, 3) := by decide +kernel
theorem d2_19 : decode prog_76_method_5_code 19 = .ok (.ireturn, 1) := by decide +kernel
theorem d2_7 : decode prog_76_method_5_code 7 = .ok (.aload_n 0, 1) := by decide +kernel
theorem d2_8 : decode prog_76_method_5_code 8 = .ok (.getstatic 55, 3) := by decide +kernel
theorem d2_11 : decode prog_76_method_5_code 11 = .ok (.if_acmp .ne 7, 3) := by decide +kernel
theorem d2_18 : decode prog_76_method_5_code 18 = .ok (.iconst 0, 1) := by decide +kernel
def Q_rmT (Z : State) (a1 : Addr) (a2 : Addr) (a3 : Addr) (h0 : Heap) (n0 : Nat) (v : Option Value) (h : Heap) (L : List Loc) : Prop := v = some (.int (if a1 = a2 then 1 else if a1 = a3 then 1 else 0)) ∧ Fr n0 L ∧ h = h0
set_option maxRecDepth 65536 in
set_option maxHeartbeats 40000000 in
theorem rmT (l : Launch) (Z : State) (a0 : Array Value) (hw : ∀ d ∈ tables_1, d.before a0 Z = true) (ws : List Jvm.Cond) (a1 : Addr) (a2 : Addr) (a3 : Addr) (h0 : Heap) (n0 : Nat) (Z0 : n0 ≤ h0.size) (S2 : Sta Z h0 "com/example/names_to_queries/namestoqueries/query/Keyword" "IN" "Lcom/example/names_to_queries/namestoqueries/query/Keyword;" (.ref a2)) (S3 : Sta Z h0 "com/example/names_to_queries/namestoqueries/query/Keyword" "NOT_IN" "Lcom/example/names_to_queries/namestoqueries/query/Keyword;" (.ref a3)) :
    MetFree l (⟨"com/example/names_to_queries/namestoqueries/query/Keyword", "takesCollection", "()Z"⟩ : MethodName) (head1 (Jvm.Cond.code (⟨"com/example/names_to_queries/namestoqueries/query/Keyword", "takesCollection", "()Z"⟩ : MethodName) prog_76_method_5_code 1 (some .boolean) :: ws) ({ frames := 0, cells := 0, slots := 0, locals := 0 } : Room)) (fun a U => a = #[(.ref a1)] ∧ Z.Warmed39 U.vm ∧ U.heap = h0) (fun _ _ _ _ _ => True) (fun _ U o U' => ∃ v L, o = .returned v ∧ Q_rmT Z a1 a2 a3 h0 n0 v U'.heap L ∧ FrameEnd U o U' L ({ frames := 0, cells := 0, slots := 0, locals := 0 } : Room).cells ({ frames := 0, cells := 0, slots := 0, locals := 0 } : Room).slots) := by
  refine MetFree.of_bodySF (plainFor_of_name pn_0) hisR ?_
  intro p e s m args below meth c s₁ Bd hml0 hP hK
  obtain ⟨rfl, hZ, hh⟩ := hP
  have hx := Bd.exec
  have hby := Bd.bytes
  have hml : c.maxLocals = 1 := hml0
  have hown : s.vm.findClass "com/example/names_to_queries/namestoqueries/query/Keyword" = some m.cls := findClass_of_methodNamed Bd.named
  have hnm := (name_of_methodNamed Bd.named Bd.method).1
  have X0 : Stand p l e ({ frames := 0, cells := 0, slots := 0, locals := 0 } : Room) s m #[(.ref a1)] below meth c s₁ [] 0 0 := Stand.of_body Bd
  have e0 : s₁.heap = h0 := by rw [← hh, Bd.state]; rfl
  have N0 := Fr.nil n0
  have pre0 : ∀ t, Steps p.tables e below (s₁.setTop (mkF m 0 #[.val (.ref a1)] [])) t → Steps p.tables e below (s₁.setTop (entryFrame m #[(.ref a1)] 1)) t := fun t k => castTop (ef_rmT m a1) k
  obtain ⟨T1, X1, e1, st1⟩ := getS2 X0 hx hZ hown (host := "") (Or.inl (hw _ (List.mem_of_getElem? (i := 13) rfl))) Via.refl e0 S2 (g := (mkF m 1 #[.val (.ref a1)] [(.ref a1)])) rfl (hb hby d2_1)
  have pre2 : ∀ t, Steps p.tables e below (T1.setTop (mkF m 4 #[.val (.ref a1)] [(.ref a2), (.ref a1)])) t → Steps p.tables e below (s₁.setTop (entryFrame m #[(.ref a1)] 1)) t := by
    intro t k
    refine pre0 t ?_
    show Steps p.tables e below (s₁.setTop (mkF m 0 #[.val (.ref a1)] [])) _
    refine XS.aloadN X0.here hx rfl (hb hby d2_0) rfl (rfl) ?_
    show Steps p.tables e below (s₁.setTop (mkF m 1 #[.val (.ref a1)] [(.ref a1)])) _
    refine st1 _ ?_
    show Steps p.tables e below (T1.setTop (mkF m 4 #[.val (.ref a1)] [(.ref a2), (.ref a1)])) _
    exact k
  by_cases h4 : a1 = a2
  · skip
    have pre3 : ∀ t, Steps p.tables e below (T1.setTop (mkF m 19 #[.val (.ref a1)] [(.int (1 : Int32))])) t → Steps p.tables e below (s₁.setTop (entryFrame m #[(.ref a1)] 1)) t := by
      intro t k
      refine pre2 t ?_
      refine Jvm.RoadKit.acmp (g := (mkF m 4 #[.val (.ref a1)] [(.ref a2), (.ref a1)])) X1 hx rfl rfl rfl (pc0 := 4) (pc' := 14) (same := true) rfl (hb hby d2_4) rfl (decide_eq_true (congrArg Value.ref h4)) (by decide) (by decide) ?_
      show Steps p.tables e below (T1.setTop (mkF m 14 #[.val (.ref a1)] [])) _
      refine XS.iconst X1.here hx rfl (hb hby d2_14) ?_
      show Steps p.tables e below (T1.setTop (mkF m 15 #[.val (.ref a1)] [(.int (1 : Int32))])) _
      refine XS.goto X1.here hx rfl (pc0 := 15) (pc' := 19) rfl (hb hby d2_15) (by decide) (by decide) ?_
      show Steps p.tables e below (T1.setTop (mkF m 19 #[.val (.ref a1)] [(.int (1 : Int32))])) _
      exact k
    obtain ⟨fs, hr, hrun, hended, hW, hsame⟩ := X1.leave (v := some (.int (1 : Int32))) (fun h => by rw [Bd.returns] at h; cases h)
    refine ⟨_, _, pre3 _ ?_, hrun, hended, _, _, rfl, ?_, ⟨_, rfl⟩, hW, hsame.mono (by decide) (by decide)⟩
    · exact retN X1 hx (t := .boolean) Bd.returns (by simp) (hb hby d2_19) hr
    · show Q_rmT Z a1 a2 a3 h0 n0 _ T1.heap _
      rw [e1]
      exact ⟨by simp [h4], N0, rfl⟩
  · skip
    obtain ⟨T4, X4, e4, st4⟩ := getS2 X1 hx hZ hown (host := "") (Or.inl (hw _ (List.mem_of_getElem? (i := 15) rfl))) Via.refl e1 S3 (g := (mkF m 8 #[.val (.ref a1)] [(.ref a1)])) rfl (hb hby d2_8)
    have pre5 : ∀ t, Steps p.tables e below (T4.setTop (mkF m 11 #[.val (.ref a1)] [(.ref a3), (.ref a1)])) t → Steps p.tables e below (s₁.setTop (entryFrame m #[(.ref a1)] 1)) t := by
      intro t k
      refine pre2 t ?_
      refine Jvm.RoadKit.acmp (g := (mkF m 4 #[.val (.ref a1)] [(.ref a2), (.ref a1)])) X1 hx rfl rfl rfl (pc0 := 4) (pc' := 7) (same := false) rfl (hb hby d2_4) rfl (decide_eq_false fun q => h4 (Value.ref.inj q)) (by decide) (by decide) ?_
      show Steps p.tables e below (T1.setTop (mkF m 7 #[.val (.ref a1)] [])) _
      refine XS.aloadN X1.here hx rfl (hb hby d2_7) rfl (rfl) ?_
      show Steps p.tables e below (T1.setTop (mkF m 8 #[.val (.ref a1)] [(.ref a1)])) _
      refine st4 _ ?_
      show Steps p.tables e below (T4.setTop (mkF m 11 #[.val (.ref a1)] [(.ref a3), (.ref a1)])) _
      exact k
    by_cases h11 : a1 = a3
    · skip
      have pre6 : ∀ t, Steps p.tables e below (T4.setTop (mkF m 19 #[.val (.ref a1)] [(.int (1 : Int32))])) t → Steps p.tables e below (s₁.setTop (entryFrame m #[(.ref a1)] 1)) t := by
        intro t k
        refine pre5 t ?_
        refine Jvm.RoadKit.acmp (g := (mkF m 11 #[.val (.ref a1)] [(.ref a3), (.ref a1)])) X4 hx rfl rfl rfl (pc0 := 11) (pc' := 14) (same := true) rfl (hb hby d2_11) rfl (decide_eq_true (congrArg Value.ref h11)) (by decide) (by decide) ?_
        show Steps p.tables e below (T4.setTop (mkF m 14 #[.val (.ref a1)] [])) _
        refine XS.iconst X4.here hx rfl (hb hby d2_14) ?_
        show Steps p.tables e below (T4.setTop (mkF m 15 #[.val (.ref a1)] [(.int (1 : Int32))])) _
        refine XS.goto X4.here hx rfl (pc0 := 15) (pc' := 19) rfl (hb hby d2_15) (by decide) (by decide) ?_
        show Steps p.tables e below (T4.setTop (mkF m 19 #[.val (.ref a1)] [(.int (1 : Int32))])) _
        exact k
      obtain ⟨fs, hr, hrun, hended, hW, hsame⟩ := X4.leave (v := some (.int (1 : Int32))) (fun h => by rw [Bd.returns] at h; cases h)
      refine ⟨_, _, pre6 _ ?_, hrun, hended, _, _, rfl, ?_, ⟨_, rfl⟩, hW, hsame.mono (by decide) (by decide)⟩
      · exact retN X4 hx (t := .boolean) Bd.returns (by simp) (hb hby d2_19) hr
      · show Q_rmT Z a1 a2 a3 h0 n0 _ T4.heap _
        rw [e4]
        exact ⟨by simp [h4, h11], N0, rfl⟩
    · skip
      have pre7 : ∀ t, Steps p.tables e below (T4.setTop (mkF m 19 #[.val (.ref a1)] [(.int (0 : Int32))])) t → Steps p.tables e below (s₁.setTop (entryFrame m #[(.ref a1)] 1)) t := by
        intro t k
        refine pre5 t ?_
        refine Jvm.RoadKit.acmp (g := (mkF m 11 #[.val (.ref a1)] [(.ref a3), (.ref a1)])) X4 hx rfl rfl rfl (pc0 := 11) (pc' := 18) (same := false) rfl (hb hby d2_11) rfl (decide_eq_false fun q => h11 (Value.ref.inj q)) (by decide) (by decide) ?_
        show Steps p.tables e below (T4.setTop (mkF m 18 #[.val (.ref a1)] [])) _
        refine XS.iconst X4.here hx rfl (hb hby d2_18) ?_
        show Steps p.tables e below (T4.setTop (mkF m 19 #[.val (.ref a1)] [(.int (0 : Int32))])) _
        exact k
      obtain ⟨fs, hr, hrun, hended, hW, hsame⟩ := X4.leave (v := some (.int (0 : Int32))) (fun h => by rw [Bd.returns] at h; cases h)
      refine ⟨_, _, pre7 _ ?_, hrun, hended, _, _, rfl, ?_, ⟨_, rfl⟩, hW, hsame.mono (by decide) (by decide)⟩
      · exact retN X4 hx (t := .boolean) Bd.returns (by simp) (hb hby d2_19) hr
      · show Q_rmT Z a1 a2 a3 h0 n0 _ T4.heap _
        rw [e4]
        exact ⟨by simp [h4, h11], N0, rfl⟩
theorem ef_rmA (m : MethodId) (x0 : Addr) : entryFrame m #[(.ref x0)] 1 = mkF m 0 #[.val (.ref x0)] [] := by first | (simp [entryFrame, mkF, argsToLocals, Value.category]; done) | rfl
theorem d3_0 : decode prog_76_method_4_code 0 = .ok (.aload_n 0, 1) := by decide +kernel
theorem d3_1 : decode prog_76_method_4_code 1 = .ok (.getfield 101, 3) := by decide +kernel
theorem d3_4 : decode prog_76_method_4_code 4 = .ok (.ireturn, 1) := by decide +kernel
def Q_rmA (Z : State) (a1 : Addr) (h0 : Heap) (n0 : Nat) (v : Option Value) (h : Heap) (L : List Loc) : Prop := v = some (.int (1 : Int32)) ∧ Fr n0 L ∧ h = h0
set_option maxRecDepth 65536 in
set_option maxHeartbeats 40000000 in
theorem rmA (l : Launch) (Z : State) (a0 : Array Value) (hw : ∀ d ∈ tables_1, d.before a0 Z = true) (ws : List Jvm.Cond) (a1 : Addr) (h0 : Heap) (n0 : Nat) (Z0 : n0 ≤ h0.size) (F1 : Fld Z h0 a1 "com/example/names_to_queries/namestoqueries/query/Keyword" "arguments" "I" (.int (1 : Int32))) :
    MetFree l (⟨"com/example/names_to_queries/namestoqueries/query/Keyword", "arguments", "()I"⟩ : MethodName) (head1 (Jvm.Cond.code (⟨"com/example/names_to_queries/namestoqueries/query/Keyword", "arguments", "()I"⟩ : MethodName) prog_76_method_4_code 1 (some .int) :: ws) ({ frames := 0, cells := 0, slots := 0, locals := 0 } : Room)) (fun a U => a = #[(.ref a1)] ∧ Z.Warmed39 U.vm ∧ U.heap = h0) (fun _ _ _ _ _ => True) (fun _ U o U' => ∃ v L, o = .returned v ∧ Q_rmA Z a1 h0 n0 v U'.heap L ∧ FrameEnd U o U' L ({ frames := 0, cells := 0, slots := 0, locals := 0 } : Room).cells ({ frames := 0, cells := 0, slots := 0, locals := 0 } : Room).slots) := by
  refine MetFree.of_bodySF (plainFor_of_name pn_0) hisR ?_
  intro p e s m args below meth c s₁ Bd hml0 hP hK
  obtain ⟨rfl, hZ, hh⟩ := hP
  have hx := Bd.exec
  have hby := Bd.bytes
  have hml : c.maxLocals = 1 := hml0
  have hown : s.vm.findClass "com/example/names_to_queries/namestoqueries/query/Keyword" = some m.cls := findClass_of_methodNamed Bd.named
  have hnm := (name_of_methodNamed Bd.named Bd.method).1
  have X0 : Stand p l e ({ frames := 0, cells := 0, slots := 0, locals := 0 } : Room) s m #[(.ref a1)] below meth c s₁ [] 0 0 := Stand.of_body Bd
  have e0 : s₁.heap = h0 := by rw [← hh, Bd.state]; rfl
  have N0 := Fr.nil n0
  have pre0 : ∀ t, Steps p.tables e below (s₁.setTop (mkF m 0 #[.val (.ref a1)] [])) t → Steps p.tables e below (s₁.setTop (entryFrame m #[(.ref a1)] 1)) t := fun t k => castTop (ef_rmA m a1) k
  obtain ⟨T1, X1, e1, st1⟩ := getF X0 hx hZ hown (host := "") (Or.inl (hw _ (List.mem_of_getElem? (i := 45) rfl))) Via.refl e0 F1 (g := (mkF m 1 #[.val (.ref a1)] [(.ref a1)])) rfl rfl (hb hby d3_1)
  have pre2 : ∀ t, Steps p.tables e below (T1.setTop (mkF m 4 #[.val (.ref a1)] [(.int (1 : Int32))])) t → Steps p.tables e below (s₁.setTop (entryFrame m #[(.ref a1)] 1)) t := by
    intro t k
    refine pre0 t ?_
    show Steps p.tables e below (s₁.setTop (mkF m 0 #[.val (.ref a1)] [])) _
    refine XS.aloadN X0.here hx rfl (hb hby d3_0) rfl (rfl) ?_
    show Steps p.tables e below (s₁.setTop (mkF m 1 #[.val (.ref a1)] [(.ref a1)])) _
    refine st1 _ ?_
    show Steps p.tables e below (T1.setTop (mkF m 4 #[.val (.ref a1)] [(.int (1 : Int32))])) _
    exact k
  obtain ⟨fs, hr, hrun, hended, hW, hsame⟩ := X1.leave (v := some (.int (1 : Int32))) (fun h => by rw [Bd.returns] at h; cases h)
  refine ⟨_, _, pre2 _ ?_, hrun, hended, _, _, rfl, ?_, ⟨_, rfl⟩, hW, hsame.mono (by decide) (by decide)⟩
  · exact retOut X1 hx Bd.returns rfl (Or.inl ⟨rfl, Or.inl rfl, _, rfl⟩) (hb hby d3_4) hr
  · show Q_rmA Z a1 h0 n0 _ T1.heap _
    rw [e1]
    exact ⟨rfl, N0, rfl⟩
theorem ef_rm0 (m : MethodId) (x0 : Int32) : entryFrame m #[(.int x0)] maxLocals = mkF m 0 #[.val (.int x0), .unset, .unset, .unset, .unset] [] := by first | (simp [entryFrame, mkF, argsToLocals, Value.category, maxLocals]; done) | rfl
theorem pd_0 : parseMethodDescriptor "(I)Lcom/example/names_to_queries/namestoqueries/query/Keyword;" = some ⟨[.int], some (.object "com/example/names_to_queries/namestoqueries/query/Keyword")⟩ := by decide +kernel
theorem pd_1 : parseMethodDescriptor "()Z" = some ⟨[], some .boolean⟩ := by decide +kernel
theorem pd_2 : parseMethodDescriptor "()I" = some ⟨[], some .int⟩ := by decide +kernel
def Q_rm0 (Z : State) (p1 : Int32) (A : Nat → Addr) (h0 : Heap) (n0 : Nat) (v : Option Value) (h : Heap) (L : List Loc) : Prop := v = some (.int 1) ∧ Fr n0 L
set_option maxRecDepth 65536 in
set_option maxHeartbeats 40000000 in
theorem rm0 (l : Launch) (Z : State) (a0 : Array Value) (hw : ∀ d ∈ tables_1, d.before a0 Z = true) (ws : List Jvm.Cond) (p1 : Int32) (A : Nat → Addr) (h0 : Heap) (n0 : Nat) (Z0 : n0 ≤ h0.size) (S_0 : Sta Z h0 "com/example/names_to_queries/namestoqueries/query/Keyword" "EQUALS" "Lcom/example/names_to_queries/namestoqueries/query/Keyword;" (.ref (A 0))) (S_1 : Sta Z h0 "com/example/names_to_queries/namestoqueries/query/Keyword" "NOT" "Lcom/example/names_to_queries/namestoqueries/query/Keyword;" (.ref (A 1))) (S_2 : Sta Z h0 "com/example/names_to_queries/namestoqueries/query/Keyword" "IS_NULL" "Lcom/example/names_to_queries/namestoqueries/query/Keyword;" (.ref (A 2))) (S_3 : Sta Z h0 "com/example/names_to_queries/namestoqueries/query/Keyword" "IS_NOT_NULL" "Lcom/example/names_to_queries/namestoqueries/query/Keyword;" (.ref (A 3))) (S_4 : Sta Z h0 "com/example/names_to_queries/namestoqueries/query/Keyword" "LIKE" "Lcom/example/names_to_queries/namestoqueries/query/Keyword;" (.ref (A 4))) (S_5 : Sta Z h0 "com/example/names_to_queries/namestoqueries/query/Keyword" "NOT_LIKE" "Lcom/example/names_to_queries/namestoqueries/query/Keyword;" (.ref (A 5))) (S_6 : Sta Z h0 "com/example/names_to_queries/namestoqueries/query/Keyword" "STARTING_WITH" "Lcom/example/names_to_queries/namestoqueries/query/Keyword;" (.ref (A 6))) (S_7 : Sta Z h0 "com/example/names_to_queries/namestoqueries/query/Keyword" "ENDING_WITH" "Lcom/example/names_to_queries/namestoqueries/query/Keyword;" (.ref (A 7))) (S_8 : Sta Z h0 "com/example/names_to_queries/namestoqueries/query/Keyword" "CONTAINING" "Lcom/example/names_to_queries/namestoqueries/query/Keyword;" (.ref (A 8))) (S_9 : Sta Z h0 "com/example/names_to_queries/namestoqueries/query/Keyword" "LESS_THAN" "Lcom/example/names_to_queries/namestoqueries/query/Keyword;" (.ref (A 9))) (S_10 : Sta Z h0 "com/example/names_to_queries/namestoqueries/query/Keyword" "LESS_THAN_EQUAL" "Lcom/example/names_to_queries/namestoqueries/query/Keyword;" (.ref (A 10))) (S_11 : Sta Z h0 "com/example/names_to_queries/namestoqueries/query/Keyword" "GREATER_THAN" "Lcom/example/names_to_queries/namestoqueries/query/Keyword;" (.ref (A 11))) (S_12 : Sta Z h0 "com/example/names_to_queries/namestoqueries/query/Keyword" "GREATER_THAN_EQUAL" "Lcom/example/names_to_queries/namestoqueries/query/Keyword;" (.ref (A 12))) (S_13 : Sta Z h0 "com/example/names_to_queries/namestoqueries/query/Keyword" "BETWEEN" "Lcom/example/names_to_queries/namestoqueries/query/Keyword;" (.ref (A 13))) (S_14 : Sta Z h0 "com/example/names_to_queries/namestoqueries/query/Keyword" "BEFORE" "Lcom/example/names_to_queries/namestoqueries/query/Keyword;" (.ref (A 14))) (S_15 : Sta Z h0 "com/example/names_to_queries/namestoqueries/query/Keyword" "AFTER" "Lcom/example/names_to_queries/namestoqueries/query/Keyword;" (.ref (A 15))) (S_16 : Sta Z h0 "com/example/names_to_queries/namestoqueries/query/Keyword" "IN" "Lcom/example/names_to_queries/namestoqueries/query/Keyword;" (.ref (A 16))) (S_17 : Sta Z h0 "com/example/names_to_queries/namestoqueries/query/Keyword" "NOT_IN" "Lcom/example/names_to_queries/namestoqueries/query/Keyword;" (.ref (A 17))) (S_18 : Sta Z h0 "com/example/names_to_queries/namestoqueries/query/Keyword" "TRUE" "Lcom/example/names_to_queries/namestoqueries/query/Keyword;" (.ref (A 18))) (S_19 : Sta Z h0 "com/example/names_to_queries/namestoqueries/query/Keyword" "FALSE" "Lcom/example/names_to_queries/namestoqueries/query/Keyword;" (.ref (A 19))) (S_20 : Sta Z h0 "com/example/names_to_queries/namestoqueries/query/Keyword" "EXISTS" "Lcom/example/names_to_queries/namestoqueries/query/Keyword;" (.ref (A 20))) (S_21 : Sta Z h0 "com/example/names_to_queries/namestoqueries/query/Keyword" "IS_EMPTY" "Lcom/example/names_to_queries/namestoqueries/query/Keyword;" (.ref (A 21))) (S_22 : Sta Z h0 "com/example/names_to_queries/namestoqueries/query/Keyword" "IS_NOT_EMPTY" "Lcom/example/names_to_queries/namestoqueries/query/Keyword;" (.ref (A 22))) (S_23 : Sta Z h0 "com/example/names_to_queries/namestoqueries/query/Keyword" "NEAR" "Lcom/example/names_to_queries/namestoqueries/query/Keyword;" (.ref (A 23))) (S_24 : Sta Z h0 "com/example/names_to_queries/namestoqueries/query/Keyword" "WITHIN" "Lcom/example/names_to_queries/namestoqueries/query/Keyword;" (.ref (A 24))) (S_25 : Sta Z h0 "com/example/names_to_queries/namestoqueries/query/Keyword" "REGEX" "Lcom/example/names_to_queries/namestoqueries/query/Keyword;" (.ref (A 25))) (hE : ∀ j, j < 26 → Exa Z h0 (A j) "com/example/names_to_queries/namestoqueries/query/Keyword") (F16 : Fld Z h0 (A 16) "com/example/names_to_queries/namestoqueries/query/Keyword" "arguments" "I" (.int (1 : Int32))) (F17 : Fld Z h0 (A 17) "com/example/names_to_queries/namestoqueries/query/Keyword" "arguments" "I" (.int (1 : Int32))) (n16 : ∀ j, j < 26 → j ≠ 16 → A j ≠ A 16) (n17 : ∀ j, j < 26 → j ≠ 17 → A j ≠ A 17) :
    MetFree l x (head1 (Jvm.Cond.code x code maxLocals ret :: ws) room_1) (fun a U => a = #[(.int p1)] ∧ Z.Warmed39 U.vm ∧ U.heap = h0) (fun _ _ _ _ _ => True) (fun _ U o U' => ∃ v L, o = .returned v ∧ Q_rm0 Z p1 A h0 n0 v U'.heap L ∧ FrameEnd U o U' L room_1.cells room_1.slots) := by
  refine MetFree.of_bodySF (plainFor_of_name pn_1) hisR ?_
  intro p e s m args below meth c s₁ Bd hml0 hP hK
  obtain ⟨rfl, hZ, hh⟩ := hP
  have hx := Bd.exec
  have hby := Bd.bytes
  have hml : c.maxLocals = 5 := hml0
  have hown : s.vm.findClass "com/example/names_to_queries/namestoqueries/query/KeywordTakesCollectionPinLaw" = some m.cls := findClass_of_methodNamed Bd.named
  have hnm := (name_of_methodNamed Bd.named Bd.method).1
  have X0 : Stand p l e room_1 s m #[(.int p1)] below meth c s₁ [] 0 0 := Stand.of_body Bd
  have e0 : s₁.heap = h0 := by rw [← hh, Bd.state]; rfl
  have N0 := Fr.nil n0
  have pre0 : ∀ t, Steps p.tables e below (s₁.setTop (mkF m 0 #[.val (.int p1), .unset, .unset, .unset, .unset] [])) t → Steps p.tables e below (s₁.setTop (entryFrame m #[(.int p1)] maxLocals)) t := fun t k => castTop (ef_rm0 m p1) k
  have pre1 : ∀ t, Steps p.tables e below (s₁.setTop (mkF m 7 #[.val (.int p1), .unset, .unset, .unset, .unset] [(.int ((p1 &&& (2147483647 : Int32)) % (26 : Int32)))])) t → Steps p.tables e below (s₁.setTop (entryFrame m #[(.int p1)] maxLocals)) t := by
    intro t k
    refine pre0 t ?_
    show Steps p.tables e below (s₁.setTop (mkF m 0 #[.val (.int p1), .unset, .unset, .unset, .unset] [])) _
    refine XS.iloadN X0.here hx rfl (hb hby at_0) rfl ?_
    show Steps p.tables e below (s₁.setTop (mkF m 1 #[.val (.int p1), .unset, .unset, .unset, .unset] [(.int p1)])) _
    refine X0.ldcInt hx hown (mvT hZ (hw _ (List.mem_of_getElem? (i := 0) rfl))) (g := (mkF m 1 #[.val (.int p1), .unset, .unset, .unset, .unset] [(.int p1)])) rfl (hb hby at_1) _ ?_
    show Steps p.tables e below (s₁.setTop (mkF m 3 #[.val (.int p1), .unset, .unset, .unset, .unset] [(.int (2147483647 : Int32)), (.int p1)])) _
    refine XS.iand X0.here hx rfl (hb hby at_3) rfl ?_
    show Steps p.tables e below (s₁.setTop (mkF m 4 #[.val (.int p1), .unset, .unset, .unset, .unset] [(.int (p1 &&& (2147483647 : Int32)))])) _
    refine XS.bipush X0.here hx rfl (hb hby at_4) ?_
    show Steps p.tables e below (s₁.setTop (mkF m 6 #[.val (.int p1), .unset, .unset, .unset, .unset] [(.int (26 : Int32)), (.int (p1 &&& (2147483647 : Int32)))])) _
    refine iremM X0 hx rfl (hb hby at_6) rfl (by decide) ?_
    show Steps p.tables e below (s₁.setTop (mkF m 7 #[.val (.int p1), .unset, .unset, .unset, .unset] [(.int ((p1 &&& (2147483647 : Int32)) % (26 : Int32)))])) _
    exact k
  obtain ⟨ii, hii⟩ : ∃ z : Int32, z = ((p1 &&& (2147483647 : Int32)) % (26 : Int32)) := ⟨_, rfl⟩
  rw [← hii] at pre1
  obtain ⟨r0, r1⟩ := own_r hii
  have r2 := own_nat r0 r1
  obtain ⟨_, _, ⟨T2, L2, k2, n2⟩, -, X2, ⟨Lc2, hQ2, l2, y2, z2⟩, st2⟩ := Jvm.LawKit.callS X0 hx (y := (⟨"com/example/names_to_queries/namestoqueries/query/KeywordTakesCollectionPinLaw", "pick", "(I)Lcom/example/names_to_queries/namestoqueries/query/Keyword;"⟩ : MethodName)) hown (mvT hZ (hw _ (List.mem_of_getElem? (i := 1) rfl))) (mvT hZ (hw _ (List.mem_of_getElem? (i := 2) rfl))) (mvT hZ (hw _ (List.mem_of_getElem? (i := 3) rfl))) (mvT hZ (hw _ (List.mem_of_getElem? (i := 4) rfl))) (by decide) (backOf (W := 0) (rmP l Z a0 hw [] ii A h0 n0 Z0 S_0 S_1 S_2 S_3 S_4 S_5 S_6 S_7 S_8 S_9 S_10 S_11 S_12 S_13 S_14 S_15 S_16 S_17 S_18 S_19 S_20 S_21 S_22 S_23 S_24 S_25 r0 r1) hZ (hw _ (List.mem_of_getElem? (i := 4) rfl)) (hw _ (List.mem_of_getElem? (i := 3) rfl)) (by decide) (by decide)) (g := (mkF m 9 #[.val (.int p1), .val (.int ii), .unset, .unset, .unset] [(.int ii)])) rfl (by rw [hml]; rfl) (argsL := [(.int ii)]) (rest := []) (lenOf pd_0 rfl) rfl (by show 2 * 0 + _ ≤ _; exact Nat.le_of_eq rfl) (hb hby at_9) (fun _ _ => ⟨rfl, e0, (by decide : 0 + 0 ≤ _), (by decide : 0 + 0 ≤ _)⟩)
  dsimp only [Pt.U, Pt.locs, Pt.cells, Pt.slots] at X2 l2 y2 z2 st2 hQ2
  subst l2 y2 z2
  obtain ⟨rfl, N2q, hq2⟩ := hQ2
  have N2 := Fr.app N0 N2q
  have hEi := hE _ r2
  have pre3 : ∀ t, Steps p.tables e below (T2.setTop (mkF m 16 #[.val (.int p1), .val (.int ii), .val (.ref (A ii.toNatClampNeg)), .unset, .unset] [(.int (16 : Int32)), (.int ii)])) t → Steps p.tables e below (s₁.setTop (entryFrame m #[(.int p1)] maxLocals)) t := by
    intro t k
    refine pre1 t ?_
    show Steps p.tables e below (s₁.setTop (mkF m 7 #[.val (.int p1), .unset, .unset, .unset, .unset] [(.int ii)])) _
    refine XS.istoreN X0.here hx rfl (hb hby at_7) rfl (l' := #[.val (.int p1), .val (.int ii), .unset, .unset, .unset]) rfl ?_
    show Steps p.tables e below (s₁.setTop (mkF m 8 #[.val (.int p1), .val (.int ii), .unset, .unset, .unset] [])) _
    refine XS.iloadN X0.here hx rfl (hb hby at_8) rfl ?_
    show Steps p.tables e below (s₁.setTop (mkF m 9 #[.val (.int p1), .val (.int ii), .unset, .unset, .unset] [(.int ii)])) _
    refine st2 _ ?_
    show Steps p.tables e below (T2.setTop (mkF m 12 #[.val (.int p1), .val (.int ii), .unset, .unset, .unset] [(.ref (A ii.toNatClampNeg))])) _
    refine XS.astoreN X2.here hx rfl (hb hby at_12) rfl (rfl) (l' := #[.val (.int p1), .val (.int ii), .val (.ref (A ii.toNatClampNeg)), .unset, .unset]) rfl ?_
    show Steps p.tables e below (T2.setTop (mkF m 13 #[.val (.int p1), .val (.int ii), .val (.ref (A ii.toNatClampNeg)), .unset, .unset] [])) _
    refine XS.iloadN X2.here hx rfl (hb hby at_13) rfl ?_
    show Steps p.tables e below (T2.setTop (mkF m 14 #[.val (.int p1), .val (.int ii), .val (.ref (A ii.toNatClampNeg)), .unset, .unset] [(.int ii)])) _
    refine XS.bipush X2.here hx rfl (hb hby at_14) ?_
    show Steps p.tables e below (T2.setTop (mkF m 16 #[.val (.int p1), .val (.int ii), .val (.ref (A ii.toNatClampNeg)), .unset, .unset] [(.int (16 : Int32)), (.int ii)])) _
    exact k
  by_cases h16 : ii = (16 : Int32)
  · skip
    have hK : (A ii.toNatClampNeg) = A 16 := by rw [h16]; rfl
    have hT : (if (A ii.toNatClampNeg) = (A 16) then 1 else if (A ii.toNatClampNeg) = (A 17) then 1 else 0) = (1 : Int32) := by simp [hK]
    have FA : Fld Z h0 (A ii.toNatClampNeg) "com/example/names_to_queries/namestoqueries/query/Keyword" "arguments" "I" (.int (1 : Int32)) := by rw [hK]; exact F16
    obtain ⟨cq4, kq4, q4a, q4b, q4c⟩ := isOf hZ hq2 hEi
    obtain ⟨_, _, ⟨T4, L4, k4, n4⟩, -, X4, ⟨Lc4, hQ4, l4, y4, z4⟩, st4⟩ := X2.virtualBack hx (y := (⟨"com/example/names_to_queries/namestoqueries/query/Keyword", "takesCollection", "()Z"⟩ : MethodName)) (z := (⟨"com/example/names_to_queries/namestoqueries/query/Keyword", "takesCollection", "()Z"⟩ : MethodName)) hown (mvT hZ (hw _ (List.mem_of_getElem? (i := 8) rfl))) (mvT hZ (hw _ (List.mem_of_getElem? (i := 9) rfl))) (notFace_of_selects (args := #[]) (mvT hZ (hw _ (List.mem_of_getElem? (i := 11) rfl)))) (mvT hZ (hw _ (List.mem_of_getElem? (i := 11) rfl))) (mvT hZ (hw _ (List.mem_of_getElem? (i := 10) rfl))) (by decide) (backOf (W := 0) (rmT l Z a0 hw [] (A ii.toNatClampNeg) (A 16) (A 17) h0 n0 Z0 S_16 S_17) hZ (hw _ (List.mem_of_getElem? (i := 12) rfl)) (hw _ (List.mem_of_getElem? (i := 6) rfl)) (by decide) (by decide)) q4a q4c (g := (mkF m 32 #[.val (.int p1), .val (.int ii), .val (.ref (A ii.toNatClampNeg)), .val (.int (1 : Int32)), .unset] [(.ref (A ii.toNatClampNeg))])) rfl (by rw [hml]; rfl) (Steps.refl _) (argsL := []) (rest := []) (lenOf pd_1 rfl) rfl (by show 2 * 0 + _ ≤ _; exact Nat.le_of_eq rfl) (hb hby at_32) (fun _ _ => ⟨rfl, hq2, (by decide : 0 + 0 ≤ _), (by decide : 0 + 0 ≤ _)⟩)
    dsimp only [Pt.U, Pt.locs, Pt.cells, Pt.slots] at X4 l4 y4 z4 st4 hQ4
    subst l4 y4 z4
    obtain ⟨rfl, N4q, hq4⟩ := hQ4
    have N4 := Fr.app N2 N4q
    have hT0 : ¬ ((if (A ii.toNatClampNeg) = (A 16) then 1 else if (A ii.toNatClampNeg) = (A 17) then 1 else 0) = (0 : Int32)) := by rw [hT]; decide
    obtain ⟨cq5, kq5, q5a, q5b, q5c⟩ := isOf hZ hq4 hEi
    obtain ⟨_, _, ⟨T5, L5, k5, n5⟩, -, X5, ⟨Lc5, hQ5, l5, y5, z5⟩, st5⟩ := X4.virtualBack hx (y := (⟨"com/example/names_to_queries/namestoqueries/query/Keyword", "arguments", "()I"⟩ : MethodName)) (z := (⟨"com/example/names_to_queries/namestoqueries/query/Keyword", "arguments", "()I"⟩ : MethodName)) hown (mvT hZ (hw _ (List.mem_of_getElem? (i := 40) rfl))) (mvT hZ (hw _ (List.mem_of_getElem? (i := 41) rfl))) (notFace_of_selects (args := #[]) (mvT hZ (hw _ (List.mem_of_getElem? (i := 43) rfl)))) (mvT hZ (hw _ (List.mem_of_getElem? (i := 43) rfl))) (mvT hZ (hw _ (List.mem_of_getElem? (i := 42) rfl))) (by decide) (backOf (W := 0) (rmA l Z a0 hw [] (A ii.toNatClampNeg)  h0 n0 Z0 FA) hZ (hw _ (List.mem_of_getElem? (i := 44) rfl)) (hw _ (List.mem_of_getElem? (i := 6) rfl)) (by decide) (by decide)) q5a q5c (g := (mkF m 51 #[.val (.int p1), .val (.int ii), .val (.ref (A ii.toNatClampNeg)), .val (.int (1 : Int32)), .val (.int (if (A ii.toNatClampNeg) = (A 16) then 1 else if (A ii.toNatClampNeg) = (A 17) then 1 else 0))] [(.ref (A ii.toNatClampNeg))])) rfl (by rw [hml]; rfl) (Steps.refl _) (argsL := []) (rest := []) (lenOf pd_2 rfl) rfl (by show 2 * 0 + _ ≤ _; exact Nat.le_of_eq rfl) (hb hby at_51) (fun _ _ => ⟨rfl, hq4, (by decide : 0 + 0 ≤ _), (by decide : 0 + 0 ≤ _)⟩)
    dsimp only [Pt.U, Pt.locs, Pt.cells, Pt.slots] at X5 l5 y5 z5 st5 hQ5
    subst l5 y5 z5
    obtain ⟨rfl, N5q, hq5⟩ := hQ5
    have N5 := Fr.app N4 N5q
    have pre6 : ∀ t, Steps p.tables e below (T5.setTop (mkF m 61 #[.val (.int p1), .val (.int ii), .val (.ref (A ii.toNatClampNeg)), .val (.int (1 : Int32)), .val (.int (if (A ii.toNatClampNeg) = (A 16) then 1 else if (A ii.toNatClampNeg) = (A 17) then 1 else 0))] [(.int (1 : Int32))])) t → Steps p.tables e below (s₁.setTop (entryFrame m #[(.int p1)] maxLocals)) t := by
      intro t k
      refine pre3 t ?_
      refine XS.icmpYes X2.here hx rfl (pc0 := 16) (pc' := 25) rfl (hb hby at_16) rfl (teq h16).1 (by decide) (by decide) ?_
      show Steps p.tables e below (T2.setTop (mkF m 25 #[.val (.int p1), .val (.int ii), .val (.ref (A ii.toNatClampNeg)), .unset, .unset] [])) _
      refine XS.iconst X2.here hx rfl (hb hby at_25) ?_
      show Steps p.tables e below (T2.setTop (mkF m 26 #[.val (.int p1), .val (.int ii), .val (.ref (A ii.toNatClampNeg)), .unset, .unset] [(.int (1 : Int32))])) _
      refine XS.goto X2.here hx rfl (pc0 := 26) (pc' := 30) rfl (hb hby at_26) (by decide) (by decide) ?_
      show Steps p.tables e below (T2.setTop (mkF m 30 #[.val (.int p1), .val (.int ii), .val (.ref (A ii.toNatClampNeg)), .unset, .unset] [(.int (1 : Int32))])) _
      refine XS.istoreN X2.here hx rfl (hb hby at_30) rfl (l' := #[.val (.int p1), .val (.int ii), .val (.ref (A ii.toNatClampNeg)), .val (.int (1 : Int32)), .unset]) rfl ?_
      show Steps p.tables e below (T2.setTop (mkF m 31 #[.val (.int p1), .val (.int ii), .val (.ref (A ii.toNatClampNeg)), .val (.int (1 : Int32)), .unset] [])) _
      refine XS.aloadN X2.here hx rfl (hb hby at_31) rfl (rfl) ?_
      show Steps p.tables e below (T2.setTop (mkF m 32 #[.val (.int p1), .val (.int ii), .val (.ref (A ii.toNatClampNeg)), .val (.int (1 : Int32)), .unset] [(.ref (A ii.toNatClampNeg))])) _
      refine st4.trans ?_
      show Steps p.tables e below (T4.setTop (mkF m 35 #[.val (.int p1), .val (.int ii), .val (.ref (A ii.toNatClampNeg)), .val (.int (1 : Int32)), .unset] [(.int (if (A ii.toNatClampNeg) = (A 16) then 1 else if (A ii.toNatClampNeg) = (A 17) then 1 else 0))])) _
      refine XS.istore X4.here hx rfl (hb hby at_35) rfl (l' := #[.val (.int p1), .val (.int ii), .val (.ref (A ii.toNatClampNeg)), .val (.int (1 : Int32)), .val (.int (if (A ii.toNatClampNeg) = (A 16) then 1 else if (A ii.toNatClampNeg) = (A 17) then 1 else 0))]) rfl ?_
      show Steps p.tables e below (T4.setTop (mkF m 37 #[.val (.int p1), .val (.int ii), .val (.ref (A ii.toNatClampNeg)), .val (.int (1 : Int32)), .val (.int (if (A ii.toNatClampNeg) = (A 16) then 1 else if (A ii.toNatClampNeg) = (A 17) then 1 else 0))] [])) _
      refine XS.iload X4.here hx rfl (hb hby at_37) rfl ?_
      show Steps p.tables e below (T4.setTop (mkF m 39 #[.val (.int p1), .val (.int ii), .val (.ref (A ii.toNatClampNeg)), .val (.int (1 : Int32)), .val (.int (if (A ii.toNatClampNeg) = (A 16) then 1 else if (A ii.toNatClampNeg) = (A 17) then 1 else 0))] [(.int (if (A ii.toNatClampNeg) = (A 16) then 1 else if (A ii.toNatClampNeg) = (A 17) then 1 else 0))])) _
      refine XS.iloadN X4.here hx rfl (hb hby at_39) rfl ?_
      show Steps p.tables e below (T4.setTop (mkF m 40 #[.val (.int p1), .val (.int ii), .val (.ref (A ii.toNatClampNeg)), .val (.int (1 : Int32)), .val (.int (if (A ii.toNatClampNeg) = (A 16) then 1 else if (A ii.toNatClampNeg) = (A 17) then 1 else 0))] [(.int (1 : Int32)), (.int (if (A ii.toNatClampNeg) = (A 16) then 1 else if (A ii.toNatClampNeg) = (A 17) then 1 else 0))])) _
      refine XS.icmpYes X4.here hx rfl (pc0 := 40) (pc' := 45) rfl (hb hby at_40) rfl (teq hT).1 (by decide) (by decide) ?_
      show Steps p.tables e below (T4.setTop (mkF m 45 #[.val (.int p1), .val (.int ii), .val (.ref (A ii.toNatClampNeg)), .val (.int (1 : Int32)), .val (.int (if (A ii.toNatClampNeg) = (A 16) then 1 else if (A ii.toNatClampNeg) = (A 17) then 1 else 0))] [])) _
      refine XS.iload X4.here hx rfl (hb hby at_45) rfl ?_
      show Steps p.tables e below (T4.setTop (mkF m 47 #[.val (.int p1), .val (.int ii), .val (.ref (A ii.toNatClampNeg)), .val (.int (1 : Int32)), .val (.int (if (A ii.toNatClampNeg) = (A 16) then 1 else if (A ii.toNatClampNeg) = (A 17) then 1 else 0))] [(.int (if (A ii.toNatClampNeg) = (A 16) then 1 else if (A ii.toNatClampNeg) = (A 17) then 1 else 0))])) _
      refine XS.ifNo X4.here hx rfl (hb hby at_47) rfl ((if0 _ _).trans (feq hT0).1) ?_
      show Steps p.tables e below (T4.setTop (mkF m 50 #[.val (.int p1), .val (.int ii), .val (.ref (A ii.toNatClampNeg)), .val (.int (1 : Int32)), .val (.int (if (A ii.toNatClampNeg) = (A 16) then 1 else if (A ii.toNatClampNeg) = (A 17) then 1 else 0))] [])) _
      refine XS.aloadN X4.here hx rfl (hb hby at_50) rfl (rfl) ?_
      show Steps p.tables e below (T4.setTop (mkF m 51 #[.val (.int p1), .val (.int ii), .val (.ref (A ii.toNatClampNeg)), .val (.int (1 : Int32)), .val (.int (if (A ii.toNatClampNeg) = (A 16) then 1 else if (A ii.toNatClampNeg) = (A 17) then 1 else 0))] [(.ref (A ii.toNatClampNeg))])) _
      refine st5.trans ?_
      show Steps p.tables e below (T5.setTop (mkF m 54 #[.val (.int p1), .val (.int ii), .val (.ref (A ii.toNatClampNeg)), .val (.int (1 : Int32)), .val (.int (if (A ii.toNatClampNeg) = (A 16) then 1 else if (A ii.toNatClampNeg) = (A 17) then 1 else 0))] [(.int (1 : Int32))])) _
      refine XS.iconst X5.here hx rfl (hb hby at_54) ?_
      show Steps p.tables e below (T5.setTop (mkF m 55 #[.val (.int p1), .val (.int ii), .val (.ref (A ii.toNatClampNeg)), .val (.int (1 : Int32)), .val (.int (if (A ii.toNatClampNeg) = (A 16) then 1 else if (A ii.toNatClampNeg) = (A 17) then 1 else 0))] [(.int (1 : Int32)), (.int (1 : Int32))])) _
      refine XS.icmpYes X5.here hx rfl (pc0 := 55) (pc' := 60) rfl (hb hby at_55) rfl (teq (rfl : (1 : Int32) = 1)).1 (by decide) (by decide) ?_
      show Steps p.tables e below (T5.setTop (mkF m 60 #[.val (.int p1), .val (.int ii), .val (.ref (A ii.toNatClampNeg)), .val (.int (1 : Int32)), .val (.int (if (A ii.toNatClampNeg) = (A 16) then 1 else if (A ii.toNatClampNeg) = (A 17) then 1 else 0))] [])) _
      refine XS.iconst X5.here hx rfl (hb hby at_60) ?_
      show Steps p.tables e below (T5.setTop (mkF m 61 #[.val (.int p1), .val (.int ii), .val (.ref (A ii.toNatClampNeg)), .val (.int (1 : Int32)), .val (.int (if (A ii.toNatClampNeg) = (A 16) then 1 else if (A ii.toNatClampNeg) = (A 17) then 1 else 0))] [(.int (1 : Int32))])) _
      exact k
    obtain ⟨fs, hr, hrun, hended, hW, hsame⟩ := X5.leave (v := some (.int (1 : Int32))) (fun h => by rw [Bd.returns] at h; cases h)
    refine ⟨_, _, pre6 _ ?_, hrun, hended, _, _, rfl, ?_, ⟨_, rfl⟩, hW, hsame.mono (by decide) (by decide)⟩
    · exact retN X5 hx (t := .boolean) Bd.returns (by simp) (hb hby at_61) hr
    · show Q_rm0 Z p1 A h0 n0 _ T5.heap _
      rw [hq5]
      exact ⟨rfl, N5⟩
  · skip
    have pre7 : ∀ t, Steps p.tables e below (T2.setTop (mkF m 22 #[.val (.int p1), .val (.int ii), .val (.ref (A ii.toNatClampNeg)), .unset, .unset] [(.int (17 : Int32)), (.int ii)])) t → Steps p.tables e below (s₁.setTop (entryFrame m #[(.int p1)] maxLocals)) t := by
      intro t k
      refine pre3 t ?_
      refine XS.icmpNo X2.here hx rfl (hb hby at_16) rfl (feq h16).1 ?_
      show Steps p.tables e below (T2.setTop (mkF m 19 #[.val (.int p1), .val (.int ii), .val (.ref (A ii.toNatClampNeg)), .unset, .unset] [])) _
      refine XS.iloadN X2.here hx rfl (hb hby at_19) rfl ?_
      show Steps p.tables e below (T2.setTop (mkF m 20 #[.val (.int p1), .val (.int ii), .val (.ref (A ii.toNatClampNeg)), .unset, .unset] [(.int ii)])) _
      refine XS.bipush X2.here hx rfl (hb hby at_20) ?_
      show Steps p.tables e below (T2.setTop (mkF m 22 #[.val (.int p1), .val (.int ii), .val (.ref (A ii.toNatClampNeg)), .unset, .unset] [(.int (17 : Int32)), (.int ii)])) _
      exact k
    by_cases h17 : ii = (17 : Int32)
    · skip
      have hK : (A ii.toNatClampNeg) = A 17 := by rw [h17]; rfl
      have hT : (if (A ii.toNatClampNeg) = (A 16) then 1 else if (A ii.toNatClampNeg) = (A 17) then 1 else 0) = (1 : Int32) := by simp [hK]
      have FA : Fld Z h0 (A ii.toNatClampNeg) "com/example/names_to_queries/namestoqueries/query/Keyword" "arguments" "I" (.int (1 : Int32)) := by rw [hK]; exact F17
      obtain ⟨cq8, kq8, q8a, q8b, q8c⟩ := isOf hZ hq2 hEi
      obtain ⟨_, _, ⟨T8, L8, k8, n8⟩, -, X8, ⟨Lc8, hQ8, l8, y8, z8⟩, st8⟩ := X2.virtualBack hx (y := (⟨"com/example/names_to_queries/namestoqueries/query/Keyword", "takesCollection", "()Z"⟩ : MethodName)) (z := (⟨"com/example/names_to_queries/namestoqueries/query/Keyword", "takesCollection", "()Z"⟩ : MethodName)) hown (mvT hZ (hw _ (List.mem_of_getElem? (i := 8) rfl))) (mvT hZ (hw _ (List.mem_of_getElem? (i := 9) rfl))) (notFace_of_selects (args := #[]) (mvT hZ (hw _ (List.mem_of_getElem? (i := 11) rfl)))) (mvT hZ (hw _ (List.mem_of_getElem? (i := 11) rfl))) (mvT hZ (hw _ (List.mem_of_getElem? (i := 10) rfl))) (by decide) (backOf (W := 0) (rmT l Z a0 hw [] (A ii.toNatClampNeg) (A 16) (A 17) h0 n0 Z0 S_16 S_17) hZ (hw _ (List.mem_of_getElem? (i := 12) rfl)) (hw _ (List.mem_of_getElem? (i := 6) rfl)) (by decide) (by decide)) q8a q8c (g := (mkF m 32 #[.val (.int p1), .val (.int ii), .val (.ref (A ii.toNatClampNeg)), .val (.int (1 : Int32)), .unset] [(.ref (A ii.toNatClampNeg))])) rfl (by rw [hml]; rfl) (Steps.refl _) (argsL := []) (rest := []) (lenOf pd_1 rfl) rfl (by show 2 * 0 + _ ≤ _; exact Nat.le_of_eq rfl) (hb hby at_32) (fun _ _ => ⟨rfl, hq2, (by decide : 0 + 0 ≤ _), (by decide : 0 + 0 ≤ _)⟩)
      dsimp only [Pt.U, Pt.locs, Pt.cells, Pt.slots] at X8 l8 y8 z8 st8 hQ8
      subst l8 y8 z8
      obtain ⟨rfl, N8q, hq8⟩ := hQ8
      have N8 := Fr.app N2 N8q
      have hT0 : ¬ ((if (A ii.toNatClampNeg) = (A 16) then 1 else if (A ii.toNatClampNeg) = (A 17) then 1 else 0) = (0 : Int32)) := by rw [hT]; decide
      obtain ⟨cq9, kq9, q9a, q9b, q9c⟩ := isOf hZ hq8 hEi
      obtain ⟨_, _, ⟨T9, L9, k9, n9⟩, -, X9, ⟨Lc9, hQ9, l9, y9, z9⟩, st9⟩ := X8.virtualBack hx (y := (⟨"com/example/names_to_queries/namestoqueries/query/Keyword", "arguments", "()I"⟩ : MethodName)) (z := (⟨"com/example/names_to_queries/namestoqueries/query/Keyword", "arguments", "()I"⟩ : MethodName)) hown (mvT hZ (hw _ (List.mem_of_getElem? (i := 40) rfl))) (mvT hZ (hw _ (List.mem_of_getElem? (i := 41) rfl))) (notFace_of_selects (args := #[]) (mvT hZ (hw _ (List.mem_of_getElem? (i := 43) rfl)))) (mvT hZ (hw _ (List.mem_of_getElem? (i := 43) rfl))) (mvT hZ (hw _ (List.mem_of_getElem? (i := 42) rfl))) (by decide) (backOf (W := 0) (rmA l Z a0 hw [] (A ii.toNatClampNeg)  h0 n0 Z0 FA) hZ (hw _ (List.mem_of_getElem? (i := 44) rfl)) (hw _ (List.mem_of_getElem? (i := 6) rfl)) (by decide) (by decide)) q9a q9c (g := (mkF m 51 #[.val (.int p1), .val (.int ii), .val (.ref (A ii.toNatClampNeg)), .val (.int (1 : Int32)), .val (.int (if (A ii.toNatClampNeg) = (A 16) then 1 else if (A ii.toNatClampNeg) = (A 17) then 1 else 0))] [(.ref (A ii.toNatClampNeg))])) rfl (by rw [hml]; rfl) (Steps.refl _) (argsL := []) (rest := []) (lenOf pd_2 rfl) rfl (by show 2 * 0 + _ ≤ _; exact Nat.le_of_eq rfl) (hb hby at_51) (fun _ _ => ⟨rfl, hq8, (by decide : 0 + 0 ≤ _), (by decide : 0 + 0 ≤ _)⟩)
      dsimp only [Pt.U, Pt.locs, Pt.cells, Pt.slots] at X9 l9 y9 z9 st9 hQ9
      subst l9 y9 z9
      obtain ⟨rfl, N9q, hq9⟩ := hQ9
      have N9 := Fr.app N8 N9q
      have pre10 : ∀ t, Steps p.tables e below (T9.setTop (mkF m 61 #[.val (.int p1), .val (.int ii), .val (.ref (A ii.toNatClampNeg)), .val (.int (1 : Int32)), .val (.int (if (A ii.toNatClampNeg) = (A 16) then 1 else if (A ii.toNatClampNeg) = (A 17) then 1 else 0))] [(.int (1 : Int32))])) t → Steps p.tables e below (s₁.setTop (entryFrame m #[(.int p1)] maxLocals)) t := by
        intro t k
        refine pre7 t ?_
        refine XS.icmpNo X2.here hx rfl (hb hby at_22) rfl (teq h17).2 ?_
        show Steps p.tables e below (T2.setTop (mkF m 25 #[.val (.int p1), .val (.int ii), .val (.ref (A ii.toNatClampNeg)), .unset, .unset] [])) _
        refine XS.iconst X2.here hx rfl (hb hby at_25) ?_
        show Steps p.tables e below (T2.setTop (mkF m 26 #[.val (.int p1), .val (.int ii), .val (.ref (A ii.toNatClampNeg)), .unset, .unset] [(.int (1 : Int32))])) _
        refine XS.goto X2.here hx rfl (pc0 := 26) (pc' := 30) rfl (hb hby at_26) (by decide) (by decide) ?_
        show Steps p.tables e below (T2.setTop (mkF m 30 #[.val (.int p1), .val (.int ii), .val (.ref (A ii.toNatClampNeg)), .unset, .unset] [(.int (1 : Int32))])) _
        refine XS.istoreN X2.here hx rfl (hb hby at_30) rfl (l' := #[.val (.int p1), .val (.int ii), .val (.ref (A ii.toNatClampNeg)), .val (.int (1 : Int32)), .unset]) rfl ?_
        show Steps p.tables e below (T2.setTop (mkF m 31 #[.val (.int p1), .val (.int ii), .val (.ref (A ii.toNatClampNeg)), .val (.int (1 : Int32)), .unset] [])) _
        refine XS.aloadN X2.here hx rfl (hb hby at_31) rfl (rfl) ?_
        show Steps p.tables e below (T2.setTop (mkF m 32 #[.val (.int p1), .val (.int ii), .val (.ref (A ii.toNatClampNeg)), .val (.int (1 : Int32)), .unset] [(.ref (A ii.toNatClampNeg))])) _
        refine st8.trans ?_
        show Steps p.tables e below (T8.setTop (mkF m 35 #[.val (.int p1), .val (.int ii), .val (.ref (A ii.toNatClampNeg)), .val (.int (1 : Int32)), .unset] [(.int (if (A ii.toNatClampNeg) = (A 16) then 1 else if (A ii.toNatClampNeg) = (A 17) then 1 else 0))])) _
        refine XS.istore X8.here hx rfl (hb hby at_35) rfl (l' := #[.val (.int p1), .val (.int ii), .val (.ref (A ii.toNatClampNeg)), .val (.int (1 : Int32)), .val (.int (if (A ii.toNatClampNeg) = (A 16) then 1 else if (A ii.toNatClampNeg) = (A 17) then 1 else 0))]) rfl ?_
        show Steps p.tables e below (T8.setTop (mkF m 37 #[.val (.int p1), .val (.int ii), .val (.ref (A ii.toNatClampNeg)), .val (.int (1 : Int32)), .val (.int (if (A ii.toNatClampNeg) = (A 16) then 1 else if (A ii.toNatClampNeg) = (A 17) then 1 else 0))] [])) _
        refine XS.iload X8.here hx rfl (hb hby at_37) rfl ?_
        show Steps p.tables e below (T8.setTop (mkF m 39 #[.val (.int p1), .val (.int ii), .val (.ref (A ii.toNatClampNeg)), .val (.int (1 : Int32)), .val (.int (if (A ii.toNatClampNeg) = (A 16) then 1 else if (A ii.toNatClampNeg) = (A 17) then 1 else 0))] [(.int (if (A ii.toNatClampNeg) = (A 16) then 1 else if (A ii.toNatClampNeg) = (A 17) then 1 else 0))])) _
        refine XS.iloadN X8.here hx rfl (hb hby at_39) rfl ?_
        show Steps p.tables e below (T8.setTop (mkF m 40 #[.val (.int p1), .val (.int ii), .val (.ref (A ii.toNatClampNeg)), .val (.int (1 : Int32)), .val (.int (if (A ii.toNatClampNeg) = (A 16) then 1 else if (A ii.toNatClampNeg) = (A 17) then 1 else 0))] [(.int (1 : Int32)), (.int (if (A ii.toNatClampNeg) = (A 16) then 1 else if (A ii.toNatClampNeg) = (A 17) then 1 else 0))])) _
        refine XS.icmpYes X8.here hx rfl (pc0 := 40) (pc' := 45) rfl (hb hby at_40) rfl (teq hT).1 (by decide) (by decide) ?_
        show Steps p.tables e below (T8.setTop (mkF m 45 #[.val (.int p1), .val (.int ii), .val (.ref (A ii.toNatClampNeg)), .val (.int (1 : Int32)), .val (.int (if (A ii.toNatClampNeg) = (A 16) then 1 else if (A ii.toNatClampNeg) = (A 17) then 1 else 0))] [])) _
        refine XS.iload X8.here hx rfl (hb hby at_45) rfl ?_
        show Steps p.tables e below (T8.setTop (mkF m 47 #[.val (.int p1), .val (.int ii), .val (.ref (A ii.toNatClampNeg)), .val (.int (1 : Int32)), .val (.int (if (A ii.toNatClampNeg) = (A 16) then 1 else if (A ii.toNatClampNeg) = (A 17) then 1 else 0))] [(.int (if (A ii.toNatClampNeg) = (A 16) then 1 else if (A ii.toNatClampNeg) = (A 17) then 1 else 0))])) _
        refine XS.ifNo X8.here hx rfl (hb hby at_47) rfl ((if0 _ _).trans (feq hT0).1) ?_
        show Steps p.tables e below (T8.setTop (mkF m 50 #[.val (.int p1), .val (.int ii), .val (.ref (A ii.toNatClampNeg)), .val (.int (1 : Int32)), .val (.int (if (A ii.toNatClampNeg) = (A 16) then 1 else if (A ii.toNatClampNeg) = (A 17) then 1 else 0))] [])) _
        refine XS.aloadN X8.here hx rfl (hb hby at_50) rfl (rfl) ?_
        show Steps p.tables e below (T8.setTop (mkF m 51 #[.val (.int p1), .val (.int ii), .val (.ref (A ii.toNatClampNeg)), .val (.int (1 : Int32)), .val (.int (if (A ii.toNatClampNeg) = (A 16) then 1 else if (A ii.toNatClampNeg) = (A 17) then 1 else 0))] [(.ref (A ii.toNatClampNeg))])) _
        refine st9.trans ?_
        show Steps p.tables e below (T9.setTop (mkF m 54 #[.val (.int p1), .val (.int ii), .val (.ref (A ii.toNatClampNeg)), .val (.int (1 : Int32)), .val (.int (if (A ii.toNatClampNeg) = (A 16) then 1 else if (A ii.toNatClampNeg) = (A 17) then 1 else 0))] [(.int (1 : Int32))])) _
        refine XS.iconst X9.here hx rfl (hb hby at_54) ?_
        show Steps p.tables e below (T9.setTop (mkF m 55 #[.val (.int p1), .val (.int ii), .val (.ref (A ii.toNatClampNeg)), .val (.int (1 : Int32)), .val (.int (if (A ii.toNatClampNeg) = (A 16) then 1 else if (A ii.toNatClampNeg) = (A 17) then 1 else 0))] [(.int (1 : Int32)), (.int (1 : Int32))])) _
        refine XS.icmpYes X9.here hx rfl (pc0 := 55) (pc' := 60) rfl (hb hby at_55) rfl (teq (rfl : (1 : Int32) = 1)).1 (by decide) (by decide) ?_
        show Steps p.tables e below (T9.setTop (mkF m 60 #[.val (.int p1), .val (.int ii), .val (.ref (A ii.toNatClampNeg)), .val (.int (1 : Int32)), .val (.int (if (A ii.toNatClampNeg) = (A 16) then 1 else if (A ii.toNatClampNeg) = (A 17) then 1 else 0))] [])) _
        refine XS.iconst X9.here hx rfl (hb hby at_60) ?_
        show Steps p.tables e below (T9.setTop (mkF m 61 #[.val (.int p1), .val (.int ii), .val (.ref (A ii.toNatClampNeg)), .val (.int (1 : Int32)), .val (.int (if (A ii.toNatClampNeg) = (A 16) then 1 else if (A ii.toNatClampNeg) = (A 17) then 1 else 0))] [(.int (1 : Int32))])) _
        exact k
      obtain ⟨fs, hr, hrun, hended, hW, hsame⟩ := X9.leave (v := some (.int (1 : Int32))) (fun h => by rw [Bd.returns] at h; cases h)
      refine ⟨_, _, pre10 _ ?_, hrun, hended, _, _, rfl, ?_, ⟨_, rfl⟩, hW, hsame.mono (by decide) (by decide)⟩
      · exact retN X9 hx (t := .boolean) Bd.returns (by simp) (hb hby at_61) hr
      · show Q_rm0 Z p1 A h0 n0 _ T9.heap _
        rw [hq9]
        exact ⟨rfl, N9⟩
    · skip
      have hK6 : (A ii.toNatClampNeg) ≠ A 16 := n16 _ r2 (own_ne (w := 16) r0 (by decide) h16)
      have hK7 : (A ii.toNatClampNeg) ≠ A 17 := n17 _ r2 (own_ne (w := 17) r0 (by decide) h17)
      have hT : (if (A ii.toNatClampNeg) = (A 16) then 1 else if (A ii.toNatClampNeg) = (A 17) then 1 else 0) = (0 : Int32) := by simp [hK6, hK7]
      obtain ⟨cq11, kq11, q11a, q11b, q11c⟩ := isOf hZ hq2 hEi
      obtain ⟨_, _, ⟨T11, L11, k11, n11⟩, -, X11, ⟨Lc11, hQ11, l11, y11, z11⟩, st11⟩ := X2.virtualBack hx (y := (⟨"com/example/names_to_queries/namestoqueries/query/Keyword", "takesCollection", "()Z"⟩ : MethodName)) (z := (⟨"com/example/names_to_queries/namestoqueries/query/Keyword", "takesCollection", "()Z"⟩ : MethodName)) hown (mvT hZ (hw _ (List.mem_of_getElem? (i := 8) rfl))) (mvT hZ (hw _ (List.mem_of_getElem? (i := 9) rfl))) (notFace_of_selects (args := #[]) (mvT hZ (hw _ (List.mem_of_getElem? (i := 11) rfl)))) (mvT hZ (hw _ (List.mem_of_getElem? (i := 11) rfl))) (mvT hZ (hw _ (List.mem_of_getElem? (i := 10) rfl))) (by decide) (backOf (W := 0) (rmT l Z a0 hw [] (A ii.toNatClampNeg) (A 16) (A 17) h0 n0 Z0 S_16 S_17) hZ (hw _ (List.mem_of_getElem? (i := 12) rfl)) (hw _ (List.mem_of_getElem? (i := 6) rfl)) (by decide) (by decide)) q11a q11c (g := (mkF m 32 #[.val (.int p1), .val (.int ii), .val (.ref (A ii.toNatClampNeg)), .val (.int (0 : Int32)), .unset] [(.ref (A ii.toNatClampNeg))])) rfl (by rw [hml]; rfl) (Steps.refl _) (argsL := []) (rest := []) (lenOf pd_1 rfl) rfl (by show 2 * 0 + _ ≤ _; exact Nat.le_of_eq rfl) (hb hby at_32) (fun _ _ => ⟨rfl, hq2, (by decide : 0 + 0 ≤ _), (by decide : 0 + 0 ≤ _)⟩)
      dsimp only [Pt.U, Pt.locs, Pt.cells, Pt.slots] at X11 l11 y11 z11 st11 hQ11
      subst l11 y11 z11
      obtain ⟨rfl, N11q, hq11⟩ := hQ11
      have N11 := Fr.app N2 N11q
      have pre12 : ∀ t, Steps p.tables e below (T11.setTop (mkF m 61 #[.val (.int p1), .val (.int ii), .val (.ref (A ii.toNatClampNeg)), .val (.int (0 : Int32)), .val (.int (if (A ii.toNatClampNeg) = (A 16) then 1 else if (A ii.toNatClampNeg) = (A 17) then 1 else 0))] [(.int (1 : Int32))])) t → Steps p.tables e below (s₁.setTop (entryFrame m #[(.int p1)] maxLocals)) t := by
        intro t k
        refine pre7 t ?_
        refine XS.icmpYes X2.here hx rfl (pc0 := 22) (pc' := 29) rfl (hb hby at_22) rfl (feq h17).2 (by decide) (by decide) ?_
        show Steps p.tables e below (T2.setTop (mkF m 29 #[.val (.int p1), .val (.int ii), .val (.ref (A ii.toNatClampNeg)), .unset, .unset] [])) _
        refine XS.iconst X2.here hx rfl (hb hby at_29) ?_
        show Steps p.tables e below (T2.setTop (mkF m 30 #[.val (.int p1), .val (.int ii), .val (.ref (A ii.toNatClampNeg)), .unset, .unset] [(.int (0 : Int32))])) _
        refine XS.istoreN X2.here hx rfl (hb hby at_30) rfl (l' := #[.val (.int p1), .val (.int ii), .val (.ref (A ii.toNatClampNeg)), .val (.int (0 : Int32)), .unset]) rfl ?_
        show Steps p.tables e below (T2.setTop (mkF m 31 #[.val (.int p1), .val (.int ii), .val (.ref (A ii.toNatClampNeg)), .val (.int (0 : Int32)), .unset] [])) _
        refine XS.aloadN X2.here hx rfl (hb hby at_31) rfl (rfl) ?_
        show Steps p.tables e below (T2.setTop (mkF m 32 #[.val (.int p1), .val (.int ii), .val (.ref (A ii.toNatClampNeg)), .val (.int (0 : Int32)), .unset] [(.ref (A ii.toNatClampNeg))])) _
        refine st11.trans ?_
        show Steps p.tables e below (T11.setTop (mkF m 35 #[.val (.int p1), .val (.int ii), .val (.ref (A ii.toNatClampNeg)), .val (.int (0 : Int32)), .unset] [(.int (if (A ii.toNatClampNeg) = (A 16) then 1 else if (A ii.toNatClampNeg) = (A 17) then 1 else 0))])) _
        refine XS.istore X11.here hx rfl (hb hby at_35) rfl (l' := #[.val (.int p1), .val (.int ii), .val (.ref (A ii.toNatClampNeg)), .val (.int (0 : Int32)), .val (.int (if (A ii.toNatClampNeg) = (A 16) then 1 else if (A ii.toNatClampNeg) = (A 17) then 1 else 0))]) rfl ?_
        show Steps p.tables e below (T11.setTop (mkF m 37 #[.val (.int p1), .val (.int ii), .val (.ref (A ii.toNatClampNeg)), .val (.int (0 : Int32)), .val (.int (if (A ii.toNatClampNeg) = (A 16) then 1 else if (A ii.toNatClampNeg) = (A 17) then 1 else 0))] [])) _
        refine XS.iload X11.here hx rfl (hb hby at_37) rfl ?_
        show Steps p.tables e below (T11.setTop (mkF m 39 #[.val (.int p1), .val (.int ii), .val (.ref (A ii.toNatClampNeg)), .val (.int (0 : Int32)), .val (.int (if (A ii.toNatClampNeg) = (A 16) then 1 else if (A ii.toNatClampNeg) = (A 17) then 1 else 0))] [(.int (if (A ii.toNatClampNeg) = (A 16) then 1 else if (A ii.toNatClampNeg) = (A 17) then 1 else 0))])) _
        refine XS.iloadN X11.here hx rfl (hb hby at_39) rfl ?_
        show Steps p.tables e below (T11.setTop (mkF m 40 #[.val (.int p1), .val (.int ii), .val (.ref (A ii.toNatClampNeg)), .val (.int (0 : Int32)), .val (.int (if (A ii.toNatClampNeg) = (A 16) then 1 else if (A ii.toNatClampNeg) = (A 17) then 1 else 0))] [(.int (0 : Int32)), (.int (if (A ii.toNatClampNeg) = (A 16) then 1 else if (A ii.toNatClampNeg) = (A 17) then 1 else 0))])) _
        refine XS.icmpYes X11.here hx rfl (pc0 := 40) (pc' := 45) rfl (hb hby at_40) rfl (teq hT).1 (by decide) (by decide) ?_
        show Steps p.tables e below (T11.setTop (mkF m 45 #[.val (.int p1), .val (.int ii), .val (.ref (A ii.toNatClampNeg)), .val (.int (0 : Int32)), .val (.int (if (A ii.toNatClampNeg) = (A 16) then 1 else if (A ii.toNatClampNeg) = (A 17) then 1 else 0))] [])) _
        refine XS.iload X11.here hx rfl (hb hby at_45) rfl ?_
        show Steps p.tables e below (T11.setTop (mkF m 47 #[.val (.int p1), .val (.int ii), .val (.ref (A ii.toNatClampNeg)), .val (.int (0 : Int32)), .val (.int (if (A ii.toNatClampNeg) = (A 16) then 1 else if (A ii.toNatClampNeg) = (A 17) then 1 else 0))] [(.int (if (A ii.toNatClampNeg) = (A 16) then 1 else if (A ii.toNatClampNeg) = (A 17) then 1 else 0))])) _
        refine XS.ifYes X11.here hx rfl (pc0 := 47) (pc' := 60) rfl (hb hby at_47) rfl ((if0 _ _).trans (teq hT).1) (by decide) (by decide) ?_
        show Steps p.tables e below (T11.setTop (mkF m 60 #[.val (.int p1), .val (.int ii), .val (.ref (A ii.toNatClampNeg)), .val (.int (0 : Int32)), .val (.int (if (A ii.toNatClampNeg) = (A 16) then 1 else if (A ii.toNatClampNeg) = (A 17) then 1 else 0))] [])) _
        refine XS.iconst X11.here hx rfl (hb hby at_60) ?_
        show Steps p.tables e below (T11.setTop (mkF m 61 #[.val (.int p1), .val (.int ii), .val (.ref (A ii.toNatClampNeg)), .val (.int (0 : Int32)), .val (.int (if (A ii.toNatClampNeg) = (A 16) then 1 else if (A ii.toNatClampNeg) = (A 17) then 1 else 0))] [(.int (1 : Int32))])) _
        exact k
      obtain ⟨fs, hr, hrun, hended, hW, hsame⟩ := X11.leave (v := some (.int (1 : Int32))) (fun h => by rw [Bd.returns] at h; cases h)
      refine ⟨_, _, pre12 _ ?_, hrun, hended, _, _, rfl, ?_, ⟨_, rfl⟩, hW, hsame.mono (by decide) (by decide)⟩
      · exact retN X11 hx (t := .boolean) Bd.returns (by simp) (hb hby at_61) hr
      · show Q_rm0 Z p1 A h0 n0 _ T11.heap _
        rw [hq11]
        exact ⟨rfl, N11⟩
theorem own_eqI {t : Term} {k : Int32} {args : Array Value} {s : State} (h : (Jvm.Cond.eq t (.int k)).value args s none s [] = some true) : t.eval args s none [] s = some (.int k) := by
  simp only [Cond.value, Term.eval] at h
  cases ht : t.eval args s none [] s with
  | none => simp [ht] at h
  | some x => cases x <;> simp [ht] at h ⊢; exact h
theorem own_eqJ {t : Term} {k : Int64} {args : Array Value} {s : State} (h : (Jvm.Cond.eq t (.long k)).value args s none s [] = some true) : t.eval args s none [] s = some (.long k) := by
  simp only [Cond.value, Term.eval] at h
  cases ht : t.eval args s none [] s with
  | none => simp [ht] at h
  | some x => cases x <;> simp [ht] at h ⊢; exact h
set_option maxRecDepth 65536 in
set_option maxHeartbeats 40000000 in
theorem comes_1 {Post : Tables → Env → Array Value → State → Outcome → State → Prop} (hpost : ∀ tb e args s v u, (limb_1_1.after args s (.returned v) u = true ∧ limb_1_2.after args s (.returned v) u = true ∧ True) → FrameEnd s (.returned v) u (Jvm.fieldLocs frame_1_writes args s ++ Jvm.arrayLocs frame_1_arrays args s ++ Jvm.staticLocs frame_1_statics s) 0 0 → Post tb e args s (.returned v) u) :
    ArmFor flags0 classFile x code maxLocals ret World_1 tables_1 room_1 Calls_1 rest_1 Pre_1 Post := by
  intro l hfl _ _ p e ha hc hk s m args below hf hA hF happ hP
  obtain ⟨hcalls, hrest, hpre⟩ := hP
  obtain ⟨-, -, -, hnamed, -, -, -, hat⟩ := (Spec.applies_iff hf).mp happ
  obtain ⟨hg, hn⟩ := and_e (Cond.before_iff.mp (show (Jvm.Cond.and given_1 narrow_1).before args s = true from hpre))
  obtain ⟨g1, g2⟩ := and_e hg
  obtain ⟨g3, g4⟩ := and_e hn
  obtain ⟨g5, g6⟩ := and_e g4
  obtain ⟨g7, g8⟩ := and_e g6
  obtain ⟨g9, g10⟩ := and_e g8
  obtain ⟨g11, g12⟩ := and_e g10
  obtain ⟨g13, g14⟩ := and_e g12
  obtain ⟨g15, g16⟩ := and_e g14
  obtain ⟨g17, g18⟩ := and_e g16
  obtain ⟨g19, g20⟩ := and_e g18
  obtain ⟨g21, g22⟩ := and_e g20
  obtain ⟨g23, g24⟩ := and_e g22
  obtain ⟨g25, g26⟩ := and_e g24
  obtain ⟨g27, g28⟩ := and_e g26
  obtain ⟨g29, g30⟩ := and_e g28
  obtain ⟨g31, g32⟩ := and_e g30
  obtain ⟨g33, g34⟩ := and_e g32
  obtain ⟨g35, g36⟩ := and_e g34
  obtain ⟨g37, g38⟩ := and_e g36
  obtain ⟨g39, g40⟩ := and_e g38
  obtain ⟨g41, g42⟩ := and_e g40
  obtain ⟨g43, g44⟩ := and_e g42
  obtain ⟨g45, g46⟩ := and_e g44
  obtain ⟨g47, g48⟩ := and_e g46
  obtain ⟨g49, g50⟩ := and_e g48
  obtain ⟨g51, g52⟩ := and_e g50
  obtain ⟨g53, g54⟩ := and_e g52
  obtain ⟨g55, g56⟩ := and_e g54
  obtain ⟨g57, g58⟩ := and_e g56
  obtain ⟨g59, g60⟩ := and_e g58
  obtain ⟨g61, g62⟩ := and_e g60
  obtain ⟨g63, g64⟩ := and_e g62
  obtain ⟨g65, g66⟩ := and_e g64
  obtain ⟨g67, g68⟩ := and_e g66
  obtain ⟨g69, g70⟩ := and_e g68
  obtain ⟨g71, g72⟩ := and_e g70
  obtain ⟨g73, g74⟩ := and_e g72
  obtain ⟨g75, g76⟩ := and_e g74
  obtain ⟨g77, g78⟩ := and_e g76
  obtain ⟨g79, g80⟩ := and_e g78
  obtain ⟨g81, g82⟩ := and_e g80
  obtain ⟨g83, g84⟩ := and_e g82
  obtain ⟨g85, g86⟩ := and_e g84
  obtain ⟨g87, g88⟩ := and_e g86
  obtain ⟨g89, g90⟩ := and_e g88
  obtain ⟨g91, g92⟩ := and_e g90
  obtain ⟨g93, g94⟩ := and_e g92
  obtain ⟨g95, g96⟩ := and_e g94
  obtain ⟨g97, g98⟩ := and_e g96
  obtain ⟨g99, g100⟩ := and_e g98
  obtain ⟨g101, g102⟩ := and_e g100
  obtain ⟨g103, g104⟩ := and_e g102
  obtain ⟨g105, g106⟩ := and_e g104
  obtain ⟨g107, g108⟩ := and_e g106
  obtain ⟨g109, g110⟩ := and_e g108
  obtain ⟨g111, g112⟩ := and_e g110
  obtain ⟨g113, g114⟩ := and_e g112
  obtain ⟨g115, g116⟩ := and_e g114
  obtain ⟨g117, g118⟩ := and_e g116
  obtain ⟨g119, g120⟩ := and_e g118
  obtain ⟨g121, g122⟩ := and_e g120
  obtain ⟨g123, g124⟩ := and_e g122
  obtain ⟨g125, g126⟩ := and_e g124
  obtain ⟨g127, g128⟩ := and_e g126
  obtain ⟨g129, g130⟩ := and_e g128
  obtain ⟨g131, g132⟩ := and_e g130
  obtain ⟨g133, g134⟩ := and_e g132
  obtain ⟨g135, g136⟩ := and_e g134
  obtain ⟨g137, g138⟩ := and_e g136
  obtain ⟨g139, g140⟩ := and_e g138
  obtain ⟨g141, g142⟩ := and_e g140
  obtain ⟨g143, g144⟩ := and_e g142
  obtain ⟨g145, g146⟩ := and_e g144
  obtain ⟨g147, g148⟩ := and_e g146
  obtain ⟨g149, g150⟩ := and_e g148
  obtain ⟨g151, g152⟩ := and_e g150
  obtain ⟨g153, g154⟩ := and_e g152
  obtain ⟨g155, g156⟩ := and_e g154
  obtain ⟨w0, rfl⟩ : ∃ w0 : Value, args = #[w0] := by
    have hs : args.size = 1 := by simpa [Cond.value, given_1] using g1
    obtain ⟨L⟩ := args
    match L, hs with
    | [w0], _ => exact ⟨w0, rfl⟩
  have hw := fun d (hd : d ∈ tables_1) => atoms_spec (ws := Jvm.Cond.code x code maxLocals ret :: tables_1) hat d (List.mem_cons_of_mem _ hd)
  obtain ⟨i0, ei0⟩ := is_v g2
  obtain rfl : w0 = (.int i0) := Option.some.inj ei0
  obtain ⟨a_EQUALS, ev_EQUALS⟩ := exa_v g3
  have Ex_EQUALS := Exa.start ev_EQUALS g3
  have St_EQUALS := Sta.start ev_EQUALS (Or.inr ⟨(hw _ (List.mem_of_getElem? (i := 6) rfl)), (hw _ (List.mem_of_getElem? (i := 7) rfl))⟩)
  obtain ⟨a_IN, ev_IN⟩ := exa_v g5
  have Ex_IN := Exa.start ev_IN g5
  have St_IN := Sta.start ev_IN (Or.inr ⟨(hw _ (List.mem_of_getElem? (i := 6) rfl)), (hw _ (List.mem_of_getElem? (i := 14) rfl))⟩)
  obtain ⟨a_NOT_IN, ev_NOT_IN⟩ := exa_v g11
  have Ex_NOT_IN := Exa.start ev_NOT_IN g11
  have St_NOT_IN := Sta.start ev_NOT_IN (Or.inr ⟨(hw _ (List.mem_of_getElem? (i := 6) rfl)), (hw _ (List.mem_of_getElem? (i := 16) rfl))⟩)
  obtain ⟨a_IS_NOT_NULL, ev_IS_NOT_NULL⟩ := exa_v g15
  have Ex_IS_NOT_NULL := Exa.start ev_IS_NOT_NULL g15
  have St_IS_NOT_NULL := Sta.start ev_IS_NOT_NULL (Or.inr ⟨(hw _ (List.mem_of_getElem? (i := 6) rfl)), (hw _ (List.mem_of_getElem? (i := 18) rfl))⟩)
  obtain ⟨a_STARTING_WITH, ev_STARTING_WITH⟩ := exa_v g19
  have Ex_STARTING_WITH := Exa.start ev_STARTING_WITH g19
  have St_STARTING_WITH := Sta.start ev_STARTING_WITH (Or.inr ⟨(hw _ (List.mem_of_getElem? (i := 6) rfl)), (hw _ (List.mem_of_getElem? (i := 20) rfl))⟩)
  obtain ⟨a_NOT_LIKE, ev_NOT_LIKE⟩ := exa_v g23
  have Ex_NOT_LIKE := Exa.start ev_NOT_LIKE g23
  have St_NOT_LIKE := Sta.start ev_NOT_LIKE (Or.inr ⟨(hw _ (List.mem_of_getElem? (i := 6) rfl)), (hw _ (List.mem_of_getElem? (i := 22) rfl))⟩)
  obtain ⟨a_ENDING_WITH, ev_ENDING_WITH⟩ := exa_v g27
  have Ex_ENDING_WITH := Exa.start ev_ENDING_WITH g27
  have St_ENDING_WITH := Sta.start ev_ENDING_WITH (Or.inr ⟨(hw _ (List.mem_of_getElem? (i := 6) rfl)), (hw _ (List.mem_of_getElem? (i := 24) rfl))⟩)
  obtain ⟨a_IS_NOT_EMPTY, ev_IS_NOT_EMPTY⟩ := exa_v g31
  have Ex_IS_NOT_EMPTY := Exa.start ev_IS_NOT_EMPTY g31
  have St_IS_NOT_EMPTY := Sta.start ev_IS_NOT_EMPTY (Or.inr ⟨(hw _ (List.mem_of_getElem? (i := 6) rfl)), (hw _ (List.mem_of_getElem? (i := 26) rfl))⟩)
  obtain ⟨a_IS_NULL, ev_IS_NULL⟩ := exa_v g35
  have Ex_IS_NULL := Exa.start ev_IS_NULL g35
  have St_IS_NULL := Sta.start ev_IS_NULL (Or.inr ⟨(hw _ (List.mem_of_getElem? (i := 6) rfl)), (hw _ (List.mem_of_getElem? (i := 28) rfl))⟩)
  obtain ⟨a_GREATER_THAN, ev_GREATER_THAN⟩ := exa_v g39
  have Ex_GREATER_THAN := Exa.start ev_GREATER_THAN g39
  have St_GREATER_THAN := Sta.start ev_GREATER_THAN (Or.inr ⟨(hw _ (List.mem_of_getElem? (i := 6) rfl)), (hw _ (List.mem_of_getElem? (i := 30) rfl))⟩)
  obtain ⟨a_BEFORE, ev_BEFORE⟩ := exa_v g43
  have Ex_BEFORE := Exa.start ev_BEFORE g43
  have St_BEFORE := Sta.start ev_BEFORE (Or.inr ⟨(hw _ (List.mem_of_getElem? (i := 6) rfl)), (hw _ (List.mem_of_getElem? (i := 32) rfl))⟩)
  obtain ⟨a_CONTAINING, ev_CONTAINING⟩ := exa_v g47
  have Ex_CONTAINING := Exa.start ev_CONTAINING g47
  have St_CONTAINING := Sta.start ev_CONTAINING (Or.inr ⟨(hw _ (List.mem_of_getElem? (i := 6) rfl)), (hw _ (List.mem_of_getElem? (i := 34) rfl))⟩)
  obtain ⟨a_NOT, ev_NOT⟩ := exa_v g51
  have Ex_NOT := Exa.start ev_NOT g51
  have St_NOT := Sta.start ev_NOT (Or.inr ⟨(hw _ (List.mem_of_getElem? (i := 6) rfl)), (hw _ (List.mem_of_getElem? (i := 36) rfl))⟩)
  obtain ⟨a_AFTER, ev_AFTER⟩ := exa_v g55
  have Ex_AFTER := Exa.start ev_AFTER g55
  have St_AFTER := Sta.start ev_AFTER (Or.inr ⟨(hw _ (List.mem_of_getElem? (i := 6) rfl)), (hw _ (List.mem_of_getElem? (i := 38) rfl))⟩)
  obtain ⟨a_LESS_THAN_EQUAL, ev_LESS_THAN_EQUAL⟩ := exa_v g61
  have Ex_LESS_THAN_EQUAL := Exa.start ev_LESS_THAN_EQUAL g61
  have St_LESS_THAN_EQUAL := Sta.start ev_LESS_THAN_EQUAL (Or.inr ⟨(hw _ (List.mem_of_getElem? (i := 6) rfl)), (hw _ (List.mem_of_getElem? (i := 48) rfl))⟩)
  obtain ⟨a_IS_EMPTY, ev_IS_EMPTY⟩ := exa_v g65
  have Ex_IS_EMPTY := Exa.start ev_IS_EMPTY g65
  have St_IS_EMPTY := Sta.start ev_IS_EMPTY (Or.inr ⟨(hw _ (List.mem_of_getElem? (i := 6) rfl)), (hw _ (List.mem_of_getElem? (i := 50) rfl))⟩)
  obtain ⟨a_BETWEEN, ev_BETWEEN⟩ := exa_v g69
  have Ex_BETWEEN := Exa.start ev_BETWEEN g69
  have St_BETWEEN := Sta.start ev_BETWEEN (Or.inr ⟨(hw _ (List.mem_of_getElem? (i := 6) rfl)), (hw _ (List.mem_of_getElem? (i := 52) rfl))⟩)
  obtain ⟨a_GREATER_THAN_EQUAL, ev_GREATER_THAN_EQUAL⟩ := exa_v g73
  have Ex_GREATER_THAN_EQUAL := Exa.start ev_GREATER_THAN_EQUAL g73
  have St_GREATER_THAN_EQUAL := Sta.start ev_GREATER_THAN_EQUAL (Or.inr ⟨(hw _ (List.mem_of_getElem? (i := 6) rfl)), (hw _ (List.mem_of_getElem? (i := 54) rfl))⟩)
  obtain ⟨a_FALSE, ev_FALSE⟩ := exa_v g77
  have Ex_FALSE := Exa.start ev_FALSE g77
  have St_FALSE := Sta.start ev_FALSE (Or.inr ⟨(hw _ (List.mem_of_getElem? (i := 6) rfl)), (hw _ (List.mem_of_getElem? (i := 56) rfl))⟩)
  obtain ⟨a_TRUE, ev_TRUE⟩ := exa_v g81
  have Ex_TRUE := Exa.start ev_TRUE g81
  have St_TRUE := Sta.start ev_TRUE (Or.inr ⟨(hw _ (List.mem_of_getElem? (i := 6) rfl)), (hw _ (List.mem_of_getElem? (i := 58) rfl))⟩)
  obtain ⟨a_LIKE, ev_LIKE⟩ := exa_v g85
  have Ex_LIKE := Exa.start ev_LIKE g85
  have St_LIKE := Sta.start ev_LIKE (Or.inr ⟨(hw _ (List.mem_of_getElem? (i := 6) rfl)), (hw _ (List.mem_of_getElem? (i := 60) rfl))⟩)
  obtain ⟨a_LESS_THAN, ev_LESS_THAN⟩ := exa_v g89
  have Ex_LESS_THAN := Exa.start ev_LESS_THAN g89
  have St_LESS_THAN := Sta.start ev_LESS_THAN (Or.inr ⟨(hw _ (List.mem_of_getElem? (i := 6) rfl)), (hw _ (List.mem_of_getElem? (i := 62) rfl))⟩)
  obtain ⟨a_REGEX, ev_REGEX⟩ := exa_v g93
  have Ex_REGEX := Exa.start ev_REGEX g93
  have St_REGEX := Sta.start ev_REGEX (Or.inr ⟨(hw _ (List.mem_of_getElem? (i := 6) rfl)), (hw _ (List.mem_of_getElem? (i := 64) rfl))⟩)
  obtain ⟨a_EXISTS, ev_EXISTS⟩ := exa_v g99
  have Ex_EXISTS := Exa.start ev_EXISTS g99
  have St_EXISTS := Sta.start ev_EXISTS (Or.inr ⟨(hw _ (List.mem_of_getElem? (i := 6) rfl)), (hw _ (List.mem_of_getElem? (i := 67) rfl))⟩)
  obtain ⟨a_NEAR, ev_NEAR⟩ := exa_v g103
  have Ex_NEAR := Exa.start ev_NEAR g103
  have St_NEAR := Sta.start ev_NEAR (Or.inr ⟨(hw _ (List.mem_of_getElem? (i := 6) rfl)), (hw _ (List.mem_of_getElem? (i := 69) rfl))⟩)
  obtain ⟨a_WITHIN, ev_WITHIN⟩ := exa_v g107
  have Ex_WITHIN := Exa.start ev_WITHIN g107
  have St_WITHIN := Sta.start ev_WITHIN (Or.inr ⟨(hw _ (List.mem_of_getElem? (i := 6) rfl)), (hw _ (List.mem_of_getElem? (i := 71) rfl))⟩)
  have F_EQUALS_ordinal := Fld.start ((fld_at ev_EQUALS).symm.trans (own_eqI g7))
  have F_IN_ordinal := Fld.start ((fld_at ev_IN).symm.trans (own_eqI g9))
  have F_NOT_IN_ordinal := Fld.start ((fld_at ev_NOT_IN).symm.trans (own_eqI g13))
  have F_IS_NOT_NULL_ordinal := Fld.start ((fld_at ev_IS_NOT_NULL).symm.trans (own_eqI g17))
  have F_STARTING_WITH_ordinal := Fld.start ((fld_at ev_STARTING_WITH).symm.trans (own_eqI g21))
  have F_NOT_LIKE_ordinal := Fld.start ((fld_at ev_NOT_LIKE).symm.trans (own_eqI g25))
  have F_ENDING_WITH_ordinal := Fld.start ((fld_at ev_ENDING_WITH).symm.trans (own_eqI g29))
  have F_IS_NOT_EMPTY_ordinal := Fld.start ((fld_at ev_IS_NOT_EMPTY).symm.trans (own_eqI g33))
  have F_IS_NULL_ordinal := Fld.start ((fld_at ev_IS_NULL).symm.trans (own_eqI g37))
  have F_GREATER_THAN_ordinal := Fld.start ((fld_at ev_GREATER_THAN).symm.trans (own_eqI g41))
  have F_BEFORE_ordinal := Fld.start ((fld_at ev_BEFORE).symm.trans (own_eqI g45))
  have F_CONTAINING_ordinal := Fld.start ((fld_at ev_CONTAINING).symm.trans (own_eqI g49))
  have F_NOT_ordinal := Fld.start ((fld_at ev_NOT).symm.trans (own_eqI g53))
  have F_AFTER_ordinal := Fld.start ((fld_at ev_AFTER).symm.trans (own_eqI g57))
  have F_IN_arguments := Fld.start ((fld_at ev_IN).symm.trans (own_eqI g59))
  have F_LESS_THAN_EQUAL_ordinal := Fld.start ((fld_at ev_LESS_THAN_EQUAL).symm.trans (own_eqI g63))
  have F_IS_EMPTY_ordinal := Fld.start ((fld_at ev_IS_EMPTY).symm.trans (own_eqI g67))
  have F_BETWEEN_ordinal := Fld.start ((fld_at ev_BETWEEN).symm.trans (own_eqI g71))
  have F_GREATER_THAN_EQUAL_ordinal := Fld.start ((fld_at ev_GREATER_THAN_EQUAL).symm.trans (own_eqI g75))
  have F_FALSE_ordinal := Fld.start ((fld_at ev_FALSE).symm.trans (own_eqI g79))
  have F_TRUE_ordinal := Fld.start ((fld_at ev_TRUE).symm.trans (own_eqI g83))
  have F_LIKE_ordinal := Fld.start ((fld_at ev_LIKE).symm.trans (own_eqI g87))
  have F_LESS_THAN_ordinal := Fld.start ((fld_at ev_LESS_THAN).symm.trans (own_eqI g91))
  have F_REGEX_ordinal := Fld.start ((fld_at ev_REGEX).symm.trans (own_eqI g95))
  have F_NOT_IN_arguments := Fld.start ((fld_at ev_NOT_IN).symm.trans (own_eqI g97))
  have F_EXISTS_ordinal := Fld.start ((fld_at ev_EXISTS).symm.trans (own_eqI g101))
  have F_NEAR_ordinal := Fld.start ((fld_at ev_NEAR).symm.trans (own_eqI g105))
  have F_WITHIN_ordinal := Fld.start ((fld_at ev_WITHIN).symm.trans (own_eqI g109))
  have F_EQUALS_arguments := Fld.start ((fld_at ev_EQUALS).symm.trans (own_eqI g111))
  have F_IS_NOT_NULL_arguments := Fld.start ((fld_at ev_IS_NOT_NULL).symm.trans (own_eqI g113))
  have F_STARTING_WITH_arguments := Fld.start ((fld_at ev_STARTING_WITH).symm.trans (own_eqI g115))
  have F_NOT_LIKE_arguments := Fld.start ((fld_at ev_NOT_LIKE).symm.trans (own_eqI g117))
  have F_ENDING_WITH_arguments := Fld.start ((fld_at ev_ENDING_WITH).symm.trans (own_eqI g119))
  have F_IS_NOT_EMPTY_arguments := Fld.start ((fld_at ev_IS_NOT_EMPTY).symm.trans (own_eqI g121))
  have F_IS_NULL_arguments := Fld.start ((fld_at ev_IS_NULL).symm.trans (own_eqI g123))
  have F_GREATER_THAN_arguments := Fld.start ((fld_at ev_GREATER_THAN).symm.trans (own_eqI g125))
  have F_BEFORE_arguments := Fld.start ((fld_at ev_BEFORE).symm.trans (own_eqI g127))
  have F_CONTAINING_arguments := Fld.start ((fld_at ev_CONTAINING).symm.trans (own_eqI g129))
  have F_NOT_arguments := Fld.start ((fld_at ev_NOT).symm.trans (own_eqI g131))
  have F_AFTER_arguments := Fld.start ((fld_at ev_AFTER).symm.trans (own_eqI g133))
  have F_LESS_THAN_EQUAL_arguments := Fld.start ((fld_at ev_LESS_THAN_EQUAL).symm.trans (own_eqI g135))
  have F_IS_EMPTY_arguments := Fld.start ((fld_at ev_IS_EMPTY).symm.trans (own_eqI g137))
  have F_BETWEEN_arguments := Fld.start ((fld_at ev_BETWEEN).symm.trans (own_eqI g139))
  have F_GREATER_THAN_EQUAL_arguments := Fld.start ((fld_at ev_GREATER_THAN_EQUAL).symm.trans (own_eqI g141))
  have F_FALSE_arguments := Fld.start ((fld_at ev_FALSE).symm.trans (own_eqI g143))
  have F_TRUE_arguments := Fld.start ((fld_at ev_TRUE).symm.trans (own_eqI g145))
  have F_LIKE_arguments := Fld.start ((fld_at ev_LIKE).symm.trans (own_eqI g147))
  have F_LESS_THAN_arguments := Fld.start ((fld_at ev_LESS_THAN).symm.trans (own_eqI g149))
  have F_REGEX_arguments := Fld.start ((fld_at ev_REGEX).symm.trans (own_eqI g151))
  have F_EXISTS_arguments := Fld.start ((fld_at ev_EXISTS).symm.trans (own_eqI g153))
  have F_NEAR_arguments := Fld.start ((fld_at ev_NEAR).symm.trans (own_eqI g155))
  have F_WITHIN_arguments := Fld.start ((fld_at ev_WITHIN).symm.trans (own_eqI g156))
  let A : Nat → Addr := fun j => match j with
    | 0 => a_EQUALS
    | 1 => a_NOT
    | 2 => a_IS_NULL
    | 3 => a_IS_NOT_NULL
    | 4 => a_LIKE
    | 5 => a_NOT_LIKE
    | 6 => a_STARTING_WITH
    | 7 => a_ENDING_WITH
    | 8 => a_CONTAINING
    | 9 => a_LESS_THAN
    | 10 => a_LESS_THAN_EQUAL
    | 11 => a_GREATER_THAN
    | 12 => a_GREATER_THAN_EQUAL
    | 13 => a_BETWEEN
    | 14 => a_BEFORE
    | 15 => a_AFTER
    | 16 => a_IN
    | 17 => a_NOT_IN
    | 18 => a_TRUE
    | 19 => a_FALSE
    | 20 => a_EXISTS
    | 21 => a_IS_EMPTY
    | 22 => a_IS_NOT_EMPTY
    | 23 => a_NEAR
    | 24 => a_WITHIN
    | _ => a_REGEX
  have hE : ∀ j, j < 26 → Exa s s.heap (A j) "com/example/names_to_queries/namestoqueries/query/Keyword" := (fun j hj => by
    match j, hj with
    | 0, _ => exact Ex_EQUALS
    | 1, _ => exact Ex_NOT
    | 2, _ => exact Ex_IS_NULL
    | 3, _ => exact Ex_IS_NOT_NULL
    | 4, _ => exact Ex_LIKE
    | 5, _ => exact Ex_NOT_LIKE
    | 6, _ => exact Ex_STARTING_WITH
    | 7, _ => exact Ex_ENDING_WITH
    | 8, _ => exact Ex_CONTAINING
    | 9, _ => exact Ex_LESS_THAN
    | 10, _ => exact Ex_LESS_THAN_EQUAL
    | 11, _ => exact Ex_GREATER_THAN
    | 12, _ => exact Ex_GREATER_THAN_EQUAL
    | 13, _ => exact Ex_BETWEEN
    | 14, _ => exact Ex_BEFORE
    | 15, _ => exact Ex_AFTER
    | 16, _ => exact Ex_IN
    | 17, _ => exact Ex_NOT_IN
    | 18, _ => exact Ex_TRUE
    | 19, _ => exact Ex_FALSE
    | 20, _ => exact Ex_EXISTS
    | 21, _ => exact Ex_IS_EMPTY
    | 22, _ => exact Ex_IS_NOT_EMPTY
    | 23, _ => exact Ex_NEAR
    | 24, _ => exact Ex_WITHIN
    | 25, _ => exact Ex_REGEX
    | j + 26, hj => exact absurd hj (by omega))
  have hn16 : ∀ j, j < 26 → j ≠ 16 → A j ≠ A 16 := (fun j hj hn => by
    match j, hj, hn with
    | 0, _, hn => exact Fld.ne F_EQUALS_ordinal F_IN_ordinal (by decide)
    | 1, _, hn => exact Fld.ne F_NOT_ordinal F_IN_ordinal (by decide)
    | 2, _, hn => exact Fld.ne F_IS_NULL_ordinal F_IN_ordinal (by decide)
    | 3, _, hn => exact Fld.ne F_IS_NOT_NULL_ordinal F_IN_ordinal (by decide)
    | 4, _, hn => exact Fld.ne F_LIKE_ordinal F_IN_ordinal (by decide)
    | 5, _, hn => exact Fld.ne F_NOT_LIKE_ordinal F_IN_ordinal (by decide)
    | 6, _, hn => exact Fld.ne F_STARTING_WITH_ordinal F_IN_ordinal (by decide)
    | 7, _, hn => exact Fld.ne F_ENDING_WITH_ordinal F_IN_ordinal (by decide)
    | 8, _, hn => exact Fld.ne F_CONTAINING_ordinal F_IN_ordinal (by decide)
    | 9, _, hn => exact Fld.ne F_LESS_THAN_ordinal F_IN_ordinal (by decide)
    | 10, _, hn => exact Fld.ne F_LESS_THAN_EQUAL_ordinal F_IN_ordinal (by decide)
    | 11, _, hn => exact Fld.ne F_GREATER_THAN_ordinal F_IN_ordinal (by decide)
    | 12, _, hn => exact Fld.ne F_GREATER_THAN_EQUAL_ordinal F_IN_ordinal (by decide)
    | 13, _, hn => exact Fld.ne F_BETWEEN_ordinal F_IN_ordinal (by decide)
    | 14, _, hn => exact Fld.ne F_BEFORE_ordinal F_IN_ordinal (by decide)
    | 15, _, hn => exact Fld.ne F_AFTER_ordinal F_IN_ordinal (by decide)
    | 16, _, hn => exact absurd rfl hn
    | 17, _, hn => exact Fld.ne F_NOT_IN_ordinal F_IN_ordinal (by decide)
    | 18, _, hn => exact Fld.ne F_TRUE_ordinal F_IN_ordinal (by decide)
    | 19, _, hn => exact Fld.ne F_FALSE_ordinal F_IN_ordinal (by decide)
    | 20, _, hn => exact Fld.ne F_EXISTS_ordinal F_IN_ordinal (by decide)
    | 21, _, hn => exact Fld.ne F_IS_EMPTY_ordinal F_IN_ordinal (by decide)
    | 22, _, hn => exact Fld.ne F_IS_NOT_EMPTY_ordinal F_IN_ordinal (by decide)
    | 23, _, hn => exact Fld.ne F_NEAR_ordinal F_IN_ordinal (by decide)
    | 24, _, hn => exact Fld.ne F_WITHIN_ordinal F_IN_ordinal (by decide)
    | 25, _, hn => exact Fld.ne F_REGEX_ordinal F_IN_ordinal (by decide)
    | j + 26, hj, _ => exact absurd hj (by omega))
  have hn17 : ∀ j, j < 26 → j ≠ 17 → A j ≠ A 17 := (fun j hj hn => by
    match j, hj, hn with
    | 0, _, hn => exact Fld.ne F_EQUALS_ordinal F_NOT_IN_ordinal (by decide)
    | 1, _, hn => exact Fld.ne F_NOT_ordinal F_NOT_IN_ordinal (by decide)
    | 2, _, hn => exact Fld.ne F_IS_NULL_ordinal F_NOT_IN_ordinal (by decide)
    | 3, _, hn => exact Fld.ne F_IS_NOT_NULL_ordinal F_NOT_IN_ordinal (by decide)
    | 4, _, hn => exact Fld.ne F_LIKE_ordinal F_NOT_IN_ordinal (by decide)
    | 5, _, hn => exact Fld.ne F_NOT_LIKE_ordinal F_NOT_IN_ordinal (by decide)
    | 6, _, hn => exact Fld.ne F_STARTING_WITH_ordinal F_NOT_IN_ordinal (by decide)
    | 7, _, hn => exact Fld.ne F_ENDING_WITH_ordinal F_NOT_IN_ordinal (by decide)
    | 8, _, hn => exact Fld.ne F_CONTAINING_ordinal F_NOT_IN_ordinal (by decide)
    | 9, _, hn => exact Fld.ne F_LESS_THAN_ordinal F_NOT_IN_ordinal (by decide)
    | 10, _, hn => exact Fld.ne F_LESS_THAN_EQUAL_ordinal F_NOT_IN_ordinal (by decide)
    | 11, _, hn => exact Fld.ne F_GREATER_THAN_ordinal F_NOT_IN_ordinal (by decide)
    | 12, _, hn => exact Fld.ne F_GREATER_THAN_EQUAL_ordinal F_NOT_IN_ordinal (by decide)
    | 13, _, hn => exact Fld.ne F_BETWEEN_ordinal F_NOT_IN_ordinal (by decide)
    | 14, _, hn => exact Fld.ne F_BEFORE_ordinal F_NOT_IN_ordinal (by decide)
    | 15, _, hn => exact Fld.ne F_AFTER_ordinal F_NOT_IN_ordinal (by decide)
    | 16, _, hn => exact Fld.ne F_IN_ordinal F_NOT_IN_ordinal (by decide)
    | 17, _, hn => exact absurd rfl hn
    | 18, _, hn => exact Fld.ne F_TRUE_ordinal F_NOT_IN_ordinal (by decide)
    | 19, _, hn => exact Fld.ne F_FALSE_ordinal F_NOT_IN_ordinal (by decide)
    | 20, _, hn => exact Fld.ne F_EXISTS_ordinal F_NOT_IN_ordinal (by decide)
    | 21, _, hn => exact Fld.ne F_IS_EMPTY_ordinal F_NOT_IN_ordinal (by decide)
    | 22, _, hn => exact Fld.ne F_IS_NOT_EMPTY_ordinal F_NOT_IN_ordinal (by decide)
    | 23, _, hn => exact Fld.ne F_NEAR_ordinal F_NOT_IN_ordinal (by decide)
    | 24, _, hn => exact Fld.ne F_WITHIN_ordinal F_NOT_IN_ordinal (by decide)
    | 25, _, hn => exact Fld.ne F_REGEX_ordinal F_NOT_IN_ordinal (by decide)
    | j + 26, hj, _ => exact absurd hj (by omega))
  obtain ⟨n, o, h1, h2, h3, _, L, rfl, ⟨rfl, N⟩, hq⟩ := rm0 l s _ hw tables_1 i0 A s.heap s.heap.size (Nat.le_refl _) St_EQUALS St_NOT St_IS_NULL St_IS_NOT_NULL St_LIKE St_NOT_LIKE St_STARTING_WITH St_ENDING_WITH St_CONTAINING St_LESS_THAN St_LESS_THAN_EQUAL St_GREATER_THAN St_GREATER_THAN_EQUAL St_BETWEEN St_BEFORE St_AFTER St_IN St_NOT_IN St_TRUE St_FALSE St_EXISTS St_IS_EMPTY St_IS_NOT_EMPTY St_NEAR St_WITHIN St_REGEX hE F_IN_arguments F_NOT_IN_arguments hn16 hn17 p e ha hc hk s m _ below hf ((Spec.applies_iff_loose hf).mp happ).1 ⟨rfl, State.Warmed39.refl s, rfl⟩ trivial
  refine ⟨n, _, h1, h2, h3, hpost _ _ _ _ _ _ ⟨Cond.after_iff.mpr rfl, Cond.after_iff.mpr (eq_i res_at (Term.int_eval (1)) rfl), trivial⟩ ⟨hq.1, hq.2.1, (hq.2.2.sift fun y hy => Or.inr (N y hy)).mono (by decide) (by decide)⟩⟩
theorem main_1_1 : Claimed_1_1 := comes_1 fun _ _ _ _ _ _ h hF => ⟨h.1, hF⟩
theorem main_1_2 : Claimed_1_2 := comes_1 fun _ _ _ _ _ _ h hF => ⟨h.2.1, hF⟩
end Jvm.Pilot.@@N@@
namespace Jvm.Pilot.@@N@@
open Jvm Jvm.ClassFile Sem Op Lib Jvm.Free Jvm.Stand Jvm.Pilot.@@N@@.Jvm.D
/-! MADE BY PROGRAM (witnessworld.py) out of the Statement's table words and the real class files: 12 classes; the members and pool entries that the words name. The judged class is class 1, her method 2. -/
namespace start1
open Jvm.ClassFile
def u (s : String) : CpInfo := .utf8 (stringToUtf16 s)
/-- a pool by its gaps: so many unusable entries, then the entry; so many at the end -/
def gap : Nat → List CpInfo → List CpInfo
  | 0, r => r
  | n + 1, r => .unusable :: gap n r
def poolList (es : List (Nat × CpInfo)) (last : Nat) : List CpInfo := es.foldr (fun e r => gap e.1 (e.2 :: r)) (gap last [])
def pool (es : List (Nat × CpInfo)) (last : Nat) : Array CpInfo := ⟨poolList es last⟩
def fileOf (pool : Array CpInfo) (this : Nat) (attrs : Array Attribute := #[]) (ms : Array MethodInfo := #[]) (fl : Nat := 33) (sup : Nat := 0) (ifs : Array Nat := #[]) (fds : Array FieldInfo := #[]) : ClassFile where
  minorVersion := 0
  majorVersion := 65
  constantPool := pool
  accessFlags := fl
  thisClass := this
  superClass := sup
  interfaces := ifs
  fields := fds
  methods := ms
  attributes := attrs
def plain (name : String) (sup : Option ClassId) : Class where
  name := name
  kind := .ordinary
  loader := none
  accessFlags := 33
  super := sup
  interfaces := #[]
  cf := none
  fields := #[]
  methods := #[]
  instanceTypes := #[]
  staticTypes := #[]
  resolved := #[]
  callSites := []
  init := .initialized
  statics := none
  mirror := none

def pool0 : Array CpInfo := pool [(5, u "<init>"), (0, u "()V"), (1, .class_ 10), (1, u "java/lang/Object")] 113

def k0m0 : Method := { name := "<init>", desc := "()V", sig := { parameters := [], returnType := none }, accessFlags := 1, code := none }
/-- java/lang/Object -/
def k0 : Class := { plain "java/lang/Object" none with
  accessFlags := 33
  interfaces := #[]
  cf := some (fileOf pool0 8 #[] #[{ accessFlags := 1, nameIndex := 5, descriptorIndex := 6, attributes := #[] }] 33 0 #[] #[])
  fields := #[]
  methods := #[k0m0]
  instanceTypes := #[]
  staticTypes := #[]
  resolved := Array.replicate 124 none
  statics := none }

def pool1 : Array CpInfo := pool [(2, .class_ 4), (1, u "java/lang/Object"), (0, u "<init>"), (0, u "()V"), (0, .fieldref 8 9), (0, .class_ 10), (0, .nameAndType 11 12), (0, u "com/example/names_to_queries/namestoqueries/query/Keyword"), (0, u "EQUALS"), (0, u "Lcom/example/names_to_queries/namestoqueries/query/Keyword;"), (0, .fieldref 8 14), (0, .nameAndType 15 12), (0, u "NOT"), (0, .fieldref 8 17), (0, .nameAndType 18 12), (0, u "IS_NULL"), (0, .fieldref 8 20), (0, .nameAndType 21 12), (0, u "IS_NOT_NULL"), (0, .fieldref 8 23), (0, .nameAndType 24 12), (0, u "LIKE"), (0, .fieldref 8 26), (0, .nameAndType 27 12), (0, u "NOT_LIKE"), (0, .fieldref 8 29), (0, .nameAndType 30 12), (0, u "STARTING_WITH"), (0, .fieldref 8 32), (0, .nameAndType 33 12), (0, u "ENDING_WITH"), (0, .fieldref 8 35), (0, .nameAndType 36 12), (0, u "CONTAINING"), (0, .fieldref 8 38), (0, .nameAndType 39 12), (0, u "LESS_THAN"), (0, .fieldref 8 41), (0, .nameAndType 42 12), (0, u "LESS_THAN_EQUAL"), (0, .fieldref 8 44), (0, .nameAndType 45 12), (0, u "GREATER_THAN"), (0, .fieldref 8 47), (0, .nameAndType 48 12), (0, u "GREATER_THAN_EQUAL"), (0, .fieldref 8 50), (0, .nameAndType 51 12), (0, u "BETWEEN"), (0, .fieldref 8 53), (0, .nameAndType 54 12), (0, u "BEFORE"), (0, .fieldref 8 56), (0, .nameAndType 57 12), (0, u "AFTER"), (0, .fieldref 8 59), (0, .nameAndType 60 12), (0, u "IN"), (0, .fieldref 8 62), (0, .nameAndType 63 12), (0, u "NOT_IN"), (0, .fieldref 8 65), (0, .nameAndType 66 12), (0, u "TRUE"), (0, .fieldref 8 68), (0, .nameAndType 69 12), (0, u "FALSE"), (0, .fieldref 8 71), (0, .nameAndType 72 12), (0, u "EXISTS"), (0, .fieldref 8 74), (0, .nameAndType 75 12), (0, u "IS_EMPTY"), (0, .fieldref 8 77), (0, .nameAndType 78 12), (0, u "IS_NOT_EMPTY"), (0, .fieldref 8 80), (0, .nameAndType 81 12), (0, u "NEAR"), (0, .fieldref 8 83), (0, .nameAndType 84 12), (0, u "WITHIN"), (0, .fieldref 8 86), (0, .nameAndType 87 12), (0, u "REGEX"), (0, .integer 2147483647), (0, .methodref 90 91), (0, .class_ 92), (0, .nameAndType 93 94), (0, u "com/example/names_to_queries/namestoqueries/query/KeywordTakesCollectionPinLaw"), (0, u "pick"), (0, u "(I)Lcom/example/names_to_queries/namestoqueries/query/Keyword;"), (0, .methodref 8 96), (0, .nameAndType 97 98), (0, u "takesCollection"), (0, u "()Z"), (0, .methodref 8 100), (0, .nameAndType 101 102), (0, u "arguments"), (0, u "()I"), (3, u "law"), (0, u "(I)Z")] 2

def k1m0 : Method := { name := "<init>", desc := "()V", sig := { parameters := [], returnType := none }, accessFlags := 2, code := none }
def k1c1 : Code := { maxStack := 2, maxLocals := 1, code := method_2_code, exceptionTable := #[], attributes := #[] }
def k1m1 : Method := { name := "pick", desc := "(I)Lcom/example/names_to_queries/namestoqueries/query/Keyword;", sig := { parameters := [.int], returnType := some (.object "com/example/names_to_queries/namestoqueries/query/Keyword") }, accessFlags := 10, code := some k1c1 }
def k1c2 : Code := { maxStack := 2, maxLocals := 5, code := code, exceptionTable := #[], attributes := #[] }
def k1m2 : Method := { name := "law", desc := "(I)Z", sig := { parameters := [.int], returnType := some .boolean }, accessFlags := 9, code := some k1c2 }
/-- com/example/names_to_queries/namestoqueries/query/KeywordTakesCollectionPinLaw -/
def k1 : Class := { plain "com/example/names_to_queries/namestoqueries/query/KeywordTakesCollectionPinLaw" (some 0) with
  accessFlags := 49
  interfaces := #[]
  cf := some (fileOf pool1 90 #[] #[{ accessFlags := 2, nameIndex := 5, descriptorIndex := 6, attributes := #[] }, { accessFlags := 10, nameIndex := 93, descriptorIndex := 94, attributes := #[] }, { accessFlags := 9, nameIndex := 106, descriptorIndex := 107, attributes := #[] }] 49 2 #[] #[])
  fields := #[]
  methods := #[k1m0, k1m1, k1m2]
  instanceTypes := #[]
  staticTypes := #[]
  resolved := Array.replicate 110 none
  statics := none }

def pool2 : Array CpInfo := pool [(1, .class_ 2), (0, u "java/lang/constant/Constable"), (0, .class_ 4), (0, u "java/lang/Object")] 6

/-- java/lang/constant/Constable -/
def k2 : Class := { plain "java/lang/constant/Constable" (some 0) with
  accessFlags := 1537
  interfaces := #[]
  cf := some (fileOf pool2 1 #[] #[] 1537 3 #[] #[])
  fields := #[]
  methods := #[]
  instanceTypes := #[]
  staticTypes := #[]
  resolved := Array.replicate 11 none
  statics := none }

def pool3 : Array CpInfo := pool [(1, .class_ 2), (0, u "java/lang/Comparable"), (0, .class_ 4), (0, u "java/lang/Object")] 7

/-- java/lang/Comparable -/
def k3 : Class := { plain "java/lang/Comparable" (some 0) with
  accessFlags := 1537
  interfaces := #[]
  cf := some (fileOf pool3 1 #[] #[] 1537 3 #[] #[])
  fields := #[]
  methods := #[]
  instanceTypes := #[]
  staticTypes := #[]
  resolved := Array.replicate 12 none
  statics := none }

def pool4 : Array CpInfo := pool [(1, .class_ 2), (0, u "java/io/Serializable"), (0, .class_ 4), (0, u "java/lang/Object")] 2

/-- java/io/Serializable -/
def k4 : Class := { plain "java/io/Serializable" (some 0) with
  accessFlags := 1537
  interfaces := #[]
  cf := some (fileOf pool4 1 #[] #[] 1537 3 #[] #[])
  fields := #[]
  methods := #[]
  instanceTypes := #[]
  staticTypes := #[]
  resolved := Array.replicate 7 none
  statics := none }

def pool5 : Array CpInfo := pool [(2, .class_ 4), (1, u "java/lang/Enum"), (0, u "name"), (0, u "Ljava/lang/String;"), (2, u "ordinal"), (0, u "I"), (1, .class_ 14), (1, u "java/lang/Object"), (4, u "hash"), (86, .class_ 108), (1, u "java/lang/Enum$EnumDesc"), (2, .class_ 112), (0, u "java/lang/constant/Constable"), (0, .class_ 114), (0, u "java/lang/Comparable"), (0, .class_ 116), (0, u "java/io/Serializable")] 87

/-- java/lang/Enum -/
def k5 : Class := { plain "java/lang/Enum" (some 0) with
  accessFlags := 1057
  interfaces := #[2, 3, 4]
  cf := some (fileOf pool5 2 #[.nestMembers #[106]] #[] 1057 12 #[111, 113, 115] #[{ accessFlags := 18, nameIndex := 5, descriptorIndex := 6, attributes := #[] }, { accessFlags := 18, nameIndex := 9, descriptorIndex := 10, attributes := #[] }, { accessFlags := 2, nameIndex := 19, descriptorIndex := 10, attributes := #[] }])
  fields := #[{ name := "name", type := (.object "java/lang/String"), accessFlags := 18, slot := 0, constantValue := 0 }, { name := "ordinal", type := .int, accessFlags := 18, slot := 1, constantValue := 0 }, { name := "hash", type := .int, accessFlags := 2, slot := 2, constantValue := 0 }]
  methods := #[]
  instanceTypes := #[(.object "java/lang/String"), .int, .int]
  staticTypes := #[]
  resolved := Array.replicate 204 none
  statics := none }

def pool6 : Array CpInfo := pool [(1, .class_ 2), (0, u "com/example/names_to_queries/namestoqueries/query/Keyword"), (2, u "EQUALS"), (0, u "Lcom/example/names_to_queries/namestoqueries/query/Keyword;"), (2, u "NOT"), (2, u "IS_NULL"), (2, u "IS_NOT_NULL"), (2, u "LIKE"), (2, u "NOT_LIKE"), (2, u "STARTING_WITH"), (2, u "ENDING_WITH"), (2, u "CONTAINING"), (2, u "LESS_THAN"), (2, u "LESS_THAN_EQUAL"), (2, u "GREATER_THAN"), (2, u "GREATER_THAN_EQUAL"), (2, u "BETWEEN"), (2, u "BEFORE"), (2, u "AFTER"), (0, .fieldref 1 53), (0, .nameAndType 54 6), (0, u "IN"), (0, .fieldref 1 56), (0, .nameAndType 57 6), (0, u "NOT_IN"), (2, u "TRUE"), (2, u "FALSE"), (2, u "EXISTS"), (2, u "IS_EMPTY"), (2, u "IS_NOT_EMPTY"), (2, u "NEAR"), (2, u "WITHIN"), (2, u "REGEX"), (2, u "$VALUES"), (0, u "[Lcom/example/names_to_queries/namestoqueries/query/Keyword;"), (6, .class_ 94), (1, u "java/lang/Enum"), (6, .fieldref 1 102), (0, .nameAndType 103 104), (0, u "arguments"), (0, u "I"), (2, u "operand"), (0, u "Lcom/example/names_to_queries/namestoqueries/query/Keyword$Operand;"), (8, u "spellings"), (0, u "Ljava/util/List;"), (2, .class_ 123), (1, u "com/example/names_to_queries/namestoqueries/query/Keyword$Operand"), (167, u "()I"), (0, u "takesCollection"), (0, u "()Z")] 12

def k6c0 : Code := { maxStack := 1, maxLocals := 1, code := prog_76_method_4_code, exceptionTable := #[], attributes := #[] }
def k6m0 : Method := { name := "arguments", desc := "()I", sig := { parameters := [], returnType := some .int }, accessFlags := 1, code := some k6c0 }
def k6c1 : Code := { maxStack := 2, maxLocals := 1, code := prog_76_method_5_code, exceptionTable := #[], attributes := #[] }
def k6m1 : Method := { name := "takesCollection", desc := "()Z", sig := { parameters := [], returnType := some .boolean }, accessFlags := 1, code := some k6c1 }
/-- com/example/names_to_queries/namestoqueries/query/Keyword -/
def k6 : Class := { plain "com/example/names_to_queries/namestoqueries/query/Keyword" (some 5) with
  accessFlags := 16433
  interfaces := #[]
  cf := some (fileOf pool6 1 #[.nestMembers #[121]] #[{ accessFlags := 1, nameIndex := 103, descriptorIndex := 291, attributes := #[] }, { accessFlags := 1, nameIndex := 292, descriptorIndex := 293, attributes := #[] }] 16433 92 #[] #[{ accessFlags := 16409, nameIndex := 5, descriptorIndex := 6, attributes := #[] }, { accessFlags := 16409, nameIndex := 9, descriptorIndex := 6, attributes := #[] }, { accessFlags := 16409, nameIndex := 12, descriptorIndex := 6, attributes := #[] }, { accessFlags := 16409, nameIndex := 15, descriptorIndex := 6, attributes := #[] }, { accessFlags := 16409, nameIndex := 18, descriptorIndex := 6, attributes := #[] }, { accessFlags := 16409, nameIndex := 21, descriptorIndex := 6, attributes := #[] }, { accessFlags := 16409, nameIndex := 24, descriptorIndex := 6, attributes := #[] }, { accessFlags := 16409, nameIndex := 27, descriptorIndex := 6, attributes := #[] }, { accessFlags := 16409, nameIndex := 30, descriptorIndex := 6, attributes := #[] }, { accessFlags := 16409, nameIndex := 33, descriptorIndex := 6, attributes := #[] }, { accessFlags := 16409, nameIndex := 36, descriptorIndex := 6, attributes := #[] }, { accessFlags := 16409, nameIndex := 39, descriptorIndex := 6, attributes := #[] }, { accessFlags := 16409, nameIndex := 42, descriptorIndex := 6, attributes := #[] }, { accessFlags := 16409, nameIndex := 45, descriptorIndex := 6, attributes := #[] }, { accessFlags := 16409, nameIndex := 48, descriptorIndex := 6, attributes := #[] }, { accessFlags := 16409, nameIndex := 51, descriptorIndex := 6, attributes := #[] }, { accessFlags := 16409, nameIndex := 54, descriptorIndex := 6, attributes := #[] }, { accessFlags := 16409, nameIndex := 57, descriptorIndex := 6, attributes := #[] }, { accessFlags := 16409, nameIndex := 60, descriptorIndex := 6, attributes := #[] }, { accessFlags := 16409, nameIndex := 63, descriptorIndex := 6, attributes := #[] }, { accessFlags := 16409, nameIndex := 66, descriptorIndex := 6, attributes := #[] }, { accessFlags := 16409, nameIndex := 69, descriptorIndex := 6, attributes := #[] }, { accessFlags := 16409, nameIndex := 72, descriptorIndex := 6, attributes := #[] }, { accessFlags := 16409, nameIndex := 75, descriptorIndex := 6, attributes := #[] }, { accessFlags := 16409, nameIndex := 78, descriptorIndex := 6, attributes := #[] }, { accessFlags := 16409, nameIndex := 81, descriptorIndex := 6, attributes := #[] }, { accessFlags := 18, nameIndex := 103, descriptorIndex := 104, attributes := #[] }, { accessFlags := 18, nameIndex := 107, descriptorIndex := 108, attributes := #[] }, { accessFlags := 18, nameIndex := 117, descriptorIndex := 118, attributes := #[] }, { accessFlags := 4122, nameIndex := 84, descriptorIndex := 85, attributes := #[] }])
  fields := #[{ name := "EQUALS", type := (.object "com/example/names_to_queries/namestoqueries/query/Keyword"), accessFlags := 16409, slot := 0, constantValue := 0 }, { name := "NOT", type := (.object "com/example/names_to_queries/namestoqueries/query/Keyword"), accessFlags := 16409, slot := 1, constantValue := 0 }, { name := "IS_NULL", type := (.object "com/example/names_to_queries/namestoqueries/query/Keyword"), accessFlags := 16409, slot := 2, constantValue := 0 }, { name := "IS_NOT_NULL", type := (.object "com/example/names_to_queries/namestoqueries/query/Keyword"), accessFlags := 16409, slot := 3, constantValue := 0 }, { name := "LIKE", type := (.object "com/example/names_to_queries/namestoqueries/query/Keyword"), accessFlags := 16409, slot := 4, constantValue := 0 }, { name := "NOT_LIKE", type := (.object "com/example/names_to_queries/namestoqueries/query/Keyword"), accessFlags := 16409, slot := 5, constantValue := 0 }, { name := "STARTING_WITH", type := (.object "com/example/names_to_queries/namestoqueries/query/Keyword"), accessFlags := 16409, slot := 6, constantValue := 0 }, { name := "ENDING_WITH", type := (.object "com/example/names_to_queries/namestoqueries/query/Keyword"), accessFlags := 16409, slot := 7, constantValue := 0 }, { name := "CONTAINING", type := (.object "com/example/names_to_queries/namestoqueries/query/Keyword"), accessFlags := 16409, slot := 8, constantValue := 0 }, { name := "LESS_THAN", type := (.object "com/example/names_to_queries/namestoqueries/query/Keyword"), accessFlags := 16409, slot := 9, constantValue := 0 }, { name := "LESS_THAN_EQUAL", type := (.object "com/example/names_to_queries/namestoqueries/query/Keyword"), accessFlags := 16409, slot := 10, constantValue := 0 }, { name := "GREATER_THAN", type := (.object "com/example/names_to_queries/namestoqueries/query/Keyword"), accessFlags := 16409, slot := 11, constantValue := 0 }, { name := "GREATER_THAN_EQUAL", type := (.object "com/example/names_to_queries/namestoqueries/query/Keyword"), accessFlags := 16409, slot := 12, constantValue := 0 }, { name := "BETWEEN", type := (.object "com/example/names_to_queries/namestoqueries/query/Keyword"), accessFlags := 16409, slot := 13, constantValue := 0 }, { name := "BEFORE", type := (.object "com/example/names_to_queries/namestoqueries/query/Keyword"), accessFlags := 16409, slot := 14, constantValue := 0 }, { name := "AFTER", type := (.object "com/example/names_to_queries/namestoqueries/query/Keyword"), accessFlags := 16409, slot := 15, constantValue := 0 }, { name := "IN", type := (.object "com/example/names_to_queries/namestoqueries/query/Keyword"), accessFlags := 16409, slot := 16, constantValue := 0 }, { name := "NOT_IN", type := (.object "com/example/names_to_queries/namestoqueries/query/Keyword"), accessFlags := 16409, slot := 17, constantValue := 0 }, { name := "TRUE", type := (.object "com/example/names_to_queries/namestoqueries/query/Keyword"), accessFlags := 16409, slot := 18, constantValue := 0 }, { name := "FALSE", type := (.object "com/example/names_to_queries/namestoqueries/query/Keyword"), accessFlags := 16409, slot := 19, constantValue := 0 }, { name := "EXISTS", type := (.object "com/example/names_to_queries/namestoqueries/query/Keyword"), accessFlags := 16409, slot := 20, constantValue := 0 }, { name := "IS_EMPTY", type := (.object "com/example/names_to_queries/namestoqueries/query/Keyword"), accessFlags := 16409, slot := 21, constantValue := 0 }, { name := "IS_NOT_EMPTY", type := (.object "com/example/names_to_queries/namestoqueries/query/Keyword"), accessFlags := 16409, slot := 22, constantValue := 0 }, { name := "NEAR", type := (.object "com/example/names_to_queries/namestoqueries/query/Keyword"), accessFlags := 16409, slot := 23, constantValue := 0 }, { name := "WITHIN", type := (.object "com/example/names_to_queries/namestoqueries/query/Keyword"), accessFlags := 16409, slot := 24, constantValue := 0 }, { name := "REGEX", type := (.object "com/example/names_to_queries/namestoqueries/query/Keyword"), accessFlags := 16409, slot := 25, constantValue := 0 }, { name := "arguments", type := .int, accessFlags := 18, slot := 3, constantValue := 0 }, { name := "operand", type := (.object "com/example/names_to_queries/namestoqueries/query/Keyword$Operand"), accessFlags := 18, slot := 4, constantValue := 0 }, { name := "spellings", type := (.object "java/util/List"), accessFlags := 18, slot := 5, constantValue := 0 }, { name := "$VALUES", type := (.array (.object "com/example/names_to_queries/namestoqueries/query/Keyword")), accessFlags := 4122, slot := 26, constantValue := 0 }]
  methods := #[k6m0, k6m1]
  instanceTypes := #[(.object "java/lang/String"), .int, .int, .int, (.object "com/example/names_to_queries/namestoqueries/query/Keyword$Operand"), (.object "java/util/List")]
  staticTypes := #[(.object "com/example/names_to_queries/namestoqueries/query/Keyword"), (.object "com/example/names_to_queries/namestoqueries/query/Keyword"), (.object "com/example/names_to_queries/namestoqueries/query/Keyword"), (.object "com/example/names_to_queries/namestoqueries/query/Keyword"), (.object "com/example/names_to_queries/namestoqueries/query/Keyword"), (.object "com/example/names_to_queries/namestoqueries/query/Keyword"), (.object "com/example/names_to_queries/namestoqueries/query/Keyword"), (.object "com/example/names_to_queries/namestoqueries/query/Keyword"), (.object "com/example/names_to_queries/namestoqueries/query/Keyword"), (.object "com/example/names_to_queries/namestoqueries/query/Keyword"), (.object "com/example/names_to_queries/namestoqueries/query/Keyword"), (.object "com/example/names_to_queries/namestoqueries/query/Keyword"), (.object "com/example/names_to_queries/namestoqueries/query/Keyword"), (.object "com/example/names_to_queries/namestoqueries/query/Keyword"), (.object "com/example/names_to_queries/namestoqueries/query/Keyword"), (.object "com/example/names_to_queries/namestoqueries/query/Keyword"), (.object "com/example/names_to_queries/namestoqueries/query/Keyword"), (.object "com/example/names_to_queries/namestoqueries/query/Keyword"), (.object "com/example/names_to_queries/namestoqueries/query/Keyword"), (.object "com/example/names_to_queries/namestoqueries/query/Keyword"), (.object "com/example/names_to_queries/namestoqueries/query/Keyword"), (.object "com/example/names_to_queries/namestoqueries/query/Keyword"), (.object "com/example/names_to_queries/namestoqueries/query/Keyword"), (.object "com/example/names_to_queries/namestoqueries/query/Keyword"), (.object "com/example/names_to_queries/namestoqueries/query/Keyword"), (.object "com/example/names_to_queries/namestoqueries/query/Keyword"), (.array (.object "com/example/names_to_queries/namestoqueries/query/Keyword"))]
  resolved := Array.replicate 306 none
  statics := some 0 }

def pool7 : Array CpInfo := pool [(1, u "java/lang/Cloneable"), (0, .class_ 1), (0, u "java/lang/Object"), (0, .class_ 3)] 3

/-- java/lang/Cloneable -/
def k7 : Class := { plain "java/lang/Cloneable" (some 0) with
  accessFlags := 1537
  interfaces := #[]
  cf := some (fileOf pool7 2 #[] #[] 1537 4 #[] #[])
  fields := #[]
  methods := #[]
  instanceTypes := #[]
  staticTypes := #[]
  resolved := Array.replicate 8 none
  statics := none }

/-- the primitive byte -/
def k8 : Class := { plain "byte" none with kind := .primitive 'B', accessFlags := 0x411 }
/-- [B -/
def k9 : Class := { plain "[B" (some 0) with kind := .array 8 .byte, interfaces := #[7, 4], accessFlags := 1041 }

/-- the primitive int -/
def k10 : Class := { plain "int" none with kind := .primitive 'I', accessFlags := 0x411 }
/-- [I -/
def k11 : Class := { plain "[I" (some 0) with kind := .array 10 .int, interfaces := #[7, 4], accessFlags := 1041 }

def heap : Heap := #[{ cls := 6, slots := #[.ref 1, .ref 2, .ref 3, .ref 4, .ref 5, .ref 6, .ref 7, .ref 8, .ref 9, .ref 10, .ref 11, .ref 12, .ref 13, .ref 14, .ref 15, .ref 16, .ref 17, .ref 18, .ref 19, .ref 20, .ref 21, .ref 22, .ref 23, .ref 24, .ref 25, .ref 26, .null], vm := .statics 6 },
  { cls := 6, slots := #[.null, .int 0, .int 0, .int 1, .null, .null], vm := .none },
  { cls := 6, slots := #[.null, .int 1, .int 0, .int 1, .null, .null], vm := .none },
  { cls := 6, slots := #[.null, .int 2, .int 0, .int 0, .null, .null], vm := .none },
  { cls := 6, slots := #[.null, .int 3, .int 0, .int 0, .null, .null], vm := .none },
  { cls := 6, slots := #[.null, .int 4, .int 0, .int 1, .null, .null], vm := .none },
  { cls := 6, slots := #[.null, .int 5, .int 0, .int 1, .null, .null], vm := .none },
  { cls := 6, slots := #[.null, .int 6, .int 0, .int 1, .null, .null], vm := .none },
  { cls := 6, slots := #[.null, .int 7, .int 0, .int 1, .null, .null], vm := .none },
  { cls := 6, slots := #[.null, .int 8, .int 0, .int 1, .null, .null], vm := .none },
  { cls := 6, slots := #[.null, .int 9, .int 0, .int 1, .null, .null], vm := .none },
  { cls := 6, slots := #[.null, .int 10, .int 0, .int 1, .null, .null], vm := .none },
  { cls := 6, slots := #[.null, .int 11, .int 0, .int 1, .null, .null], vm := .none },
  { cls := 6, slots := #[.null, .int 12, .int 0, .int 1, .null, .null], vm := .none },
  { cls := 6, slots := #[.null, .int 13, .int 0, .int 2, .null, .null], vm := .none },
  { cls := 6, slots := #[.null, .int 14, .int 0, .int 1, .null, .null], vm := .none },
  { cls := 6, slots := #[.null, .int 15, .int 0, .int 1, .null, .null], vm := .none },
  { cls := 6, slots := #[.null, .int 16, .int 0, .int 1, .null, .null], vm := .none },
  { cls := 6, slots := #[.null, .int 17, .int 0, .int 1, .null, .null], vm := .none },
  { cls := 6, slots := #[.null, .int 18, .int 0, .int 0, .null, .null], vm := .none },
  { cls := 6, slots := #[.null, .int 19, .int 0, .int 0, .null, .null], vm := .none },
  { cls := 6, slots := #[.null, .int 20, .int 0, .int 0, .null, .null], vm := .none },
  { cls := 6, slots := #[.null, .int 21, .int 0, .int 0, .null, .null], vm := .none },
  { cls := 6, slots := #[.null, .int 22, .int 0, .int 0, .null, .null], vm := .none },
  { cls := 6, slots := #[.null, .int 23, .int 0, .int 1, .null, .null], vm := .none },
  { cls := 6, slots := #[.null, .int 24, .int 0, .int 1, .null, .null], vm := .none },
  { cls := 6, slots := #[.null, .int 25, .int 0, .int 1, .null, .null], vm := .none }]
def classes : Array Class := #[k0, k1, k2, k3, k4, k5, k6, k7, k8, k9, k10, k11]
def interned : List (Array UInt16 × Addr) := []
def slotsUsed : Nat := 183
def theMethod : MethodId := ⟨1, 2⟩
def args0 : Array Value := #[.int 16]
def aboutOver (below : List Frame) : State where
  vm := { classes := classes, interned := interned.toArray }
  heap := heap
  slotsUsed := slotsUsed
  threads := #[{ frames := .invoking theMethod args0 :: below }]
def below0 : List Frame := [.native { method := ⟨0, 0⟩, args := #[] }]
def about1 : State := aboutOver below0
def p0 : Program := .bare "" "" ""
def e0 : Env := launch0.env 0 0 0
theorem w_frames : about1.frames = Frame.invoking theMethod args0 :: below0 := rfl
set_option maxRecDepth 65536 in
theorem w_args : argsFit about1.vm theMethod args0 = true := by decide +kernel
set_option maxRecDepth 65536 in
theorem w_heap : heapFits about1 = true := by decide +kernel
set_option maxRecDepth 65536 in
theorem w_runnable : about1.curStatus? = some .runnable := by decide +kernel
set_option maxRecDepth 65536 in
theorem w_alone : about1.alone = true := by decide +kernel
set_option maxRecDepth 65536 in
theorem w_named : about1.methodNamed? x = some theMethod := by decide +kernel
set_option maxRecDepth 65536 in
theorem w_hears : about1.hears theMethod below0 = true := by decide +kernel
set_option maxRecDepth 65536 in
theorem w_ripe : about1.ripe theMethod args0 below0 = true := by decide +kernel
theorem w_running : about1.status = .running := rfl
set_option maxRecDepth 65536 in
theorem w_room : about1.hasRoom e0.platform room_1 = true :=
  launch0.hasRoom_least _ room_1 (by decide +kernel) (by decide +kernel) (by decide +kernel) (by decide +kernel) (by decide +kernel) (by decide +kernel)
theorem allAtoms_all (ts : List Jvm.Cond) (a : Array Jvm.Value) (st : Jvm.State) : (allAtoms ts).before a st = ts.all (fun c => c.before a st) := by
  induction ts with
  | nil => rfl
  | cons c t ih =>
    show (Jvm.Cond.and c (allAtoms t)).before a st = _
    rw [Jvm.Cond.before_and, ih, List.all_cons]
def words1 : List Jvm.Cond := Jvm.Cond.code x code maxLocals ret :: tables_1
/-- a 'code' word, met by the world's own term for the bytes: nothing is compared byte by byte -/
theorem code_word {y : MethodName} {bytes : ByteArray} {mx : Nat} {rt : Option FieldType} {a : Array Value} {s : State} {m : MethodId} {meth : Method} {c : Code} (h1 : s.methodNamed? y = some m) (h2 : s.vm.method? m = some meth) (h3 : meth.code = some c) (h4 : c.code = bytes)
    (h5 : (c.maxLocals == mx && c.exceptionTable.isEmpty && decide (c.maxStack ≤ mostOperands) && decide (meth.sig.returnType = rt) && !meth.locks && decide (parseMethodDescriptor y.desc = some meth.sig)) = true) : (Jvm.Cond.code y bytes mx rt).before a s = true := by
  simp only [Bool.and_eq_true, beq_iff_eq, Bool.not_eq_true', decide_eq_true_eq] at h5
  obtain ⟨⟨⟨⟨⟨g1, g2⟩, g3⟩, g4⟩, g5⟩, g6⟩ := h5
  simp [Cond.before, Cond.holds, Cond.value, h1, h2, h3, h4, g1, g2, g3, g4, g5, g6]
def isCode : Jvm.Cond → Bool
  | .code _ _ _ _ => true
  | _ => false
theorem all_split {L : List Jvm.Cond} {P : Jvm.Cond → Bool} (h1 : L.all (fun c => isCode c || P c) = true) (h2 : ∀ c ∈ L.filter isCode, P c = true) : L.all P = true := by
  refine List.all_eq_true.mpr fun c hc => ?_
  have h := List.all_eq_true.mp h1 c hc
  rcases Bool.eq_false_or_eq_true (isCode c) with hi | hi
  · exact h2 c (List.mem_filter.mpr ⟨hc, hi⟩)
  · simpa [hi] using h
set_option maxRecDepth 65536 in
theorem w_c0 : (Jvm.Cond.code x code maxLocals ret).before args0 about1 = true := code_word (m := ⟨1, 2⟩) (meth := k1m2) (c := k1c2) (by decide +kernel) rfl rfl rfl (by decide +kernel)
set_option maxRecDepth 65536 in
theorem w_c1 : (Jvm.Cond.code ({ cls := "com/example/names_to_queries/namestoqueries/query/KeywordTakesCollectionPinLaw", name := "pick", desc := "(I)Lcom/example/names_to_queries/namestoqueries/query/Keyword;" } : Jvm.MethodName) method_2_code (1 : Nat) (Option.some (Jvm.ClassFile.FieldType.object "com/example/names_to_queries/namestoqueries/query/Keyword"))).before args0 about1 = true := code_word (m := ⟨1, 1⟩) (meth := k1m1) (c := k1c1) (by decide +kernel) rfl rfl rfl (by decide +kernel)
set_option maxRecDepth 65536 in
theorem w_c2 : (Jvm.Cond.code ({ cls := "com/example/names_to_queries/namestoqueries/query/Keyword", name := "takesCollection", desc := "()Z" } : Jvm.MethodName) prog_76_method_5_code (1 : Nat) (Option.some Jvm.ClassFile.FieldType.boolean)).before args0 about1 = true := code_word (m := ⟨6, 1⟩) (meth := k6m1) (c := k6c1) (by decide +kernel) rfl rfl rfl (by decide +kernel)
set_option maxRecDepth 65536 in
theorem w_c3 : (Jvm.Cond.code ({ cls := "com/example/names_to_queries/namestoqueries/query/Keyword", name := "arguments", desc := "()I" } : Jvm.MethodName) prog_76_method_4_code (1 : Nat) (Option.some Jvm.ClassFile.FieldType.int)).before args0 about1 = true := code_word (m := ⟨6, 0⟩) (meth := k6m0) (c := k6c0) (by decide +kernel) rfl rfl rfl (by decide +kernel)
def codes1 : List Jvm.Cond := [Jvm.Cond.code x code maxLocals ret, Jvm.Cond.code ({ cls := "com/example/names_to_queries/namestoqueries/query/KeywordTakesCollectionPinLaw", name := "pick", desc := "(I)Lcom/example/names_to_queries/namestoqueries/query/Keyword;" } : Jvm.MethodName) method_2_code (1 : Nat) (Option.some (Jvm.ClassFile.FieldType.object "com/example/names_to_queries/namestoqueries/query/Keyword")), Jvm.Cond.code ({ cls := "com/example/names_to_queries/namestoqueries/query/Keyword", name := "takesCollection", desc := "()Z" } : Jvm.MethodName) prog_76_method_5_code (1 : Nat) (Option.some Jvm.ClassFile.FieldType.boolean), Jvm.Cond.code ({ cls := "com/example/names_to_queries/namestoqueries/query/Keyword", name := "arguments", desc := "()I" } : Jvm.MethodName) prog_76_method_4_code (1 : Nat) (Option.some Jvm.ClassFile.FieldType.int)]
set_option maxRecDepth 65536 in
theorem codes_eq : words1.filter isCode = codes1 := rfl
theorem w_codes : ∀ c ∈ words1.filter isCode, c.before args0 about1 = true := by
  rw [codes_eq]
  intro c hc
  simp only [codes1, List.mem_cons, List.not_mem_nil, or_false] at hc
  rcases hc with rfl | rfl | rfl | rfl
  · exact w_c0
  · exact w_c1
  · exact w_c2
  · exact w_c3
set_option maxRecDepth 65536 in
theorem w_t1 : (words1.take 24).all (fun c => isCode c || c.before args0 about1) = true := by decide +kernel
set_option maxRecDepth 65536 in
theorem w_t2 : ((words1.drop 24).take 24).all (fun c => isCode c || c.before args0 about1) = true := by decide +kernel
set_option maxRecDepth 65536 in
theorem w_t3 : (((words1.drop 24).drop 24).take 24).all (fun c => isCode c || c.before args0 about1) = true := by decide +kernel
set_option maxRecDepth 65536 in
theorem w_t4 : (((words1.drop 24).drop 24).drop 24).all (fun c => isCode c || c.before args0 about1) = true := by decide +kernel
theorem w_tables : (allAtoms (Jvm.Cond.code x code maxLocals ret :: tables_1)).before args0 about1 = true := by
  rw [allAtoms_all]
  show words1.all (fun c => c.before args0 about1) = true
  refine all_split ?_ w_codes
  rw [← List.take_append_drop 24 words1, List.all_append, w_t1, ← List.take_append_drop 24 (words1.drop 24), List.all_append, w_t2, ← List.take_append_drop 24 ((words1.drop 24).drop 24), List.all_append, w_t3, w_t4]
  rfl
set_option maxRecDepth 65536 in
theorem w_case : (Jvm.Cond.and given_1 narrow_1).before args0 about1 = true := by decide +kernel
theorem w_applies : (headSpec (Jvm.Cond.code x code maxLocals ret :: tables_1) room_1).applies x e0.platform about1 = true :=
  (Spec.applies_iff w_frames).mpr ⟨w_running, w_runnable, w_alone, w_named, w_hears, w_ripe, w_room, w_tables⟩
theorem atStart : AtStart classFile x code maxLocals ret World_1 tables_1 room_1 Calls_1 rest_1 Pre_1 launch0 p0 e0 about1 theMethod args0 below0 :=
  ⟨lists_1, trivial, launch0.admits_env _ _ _, launch0.least_env, fairChoices_fair.cas, fairChoices_fair.clock, w_frames, w_args, w_heap, w_applies, trivial, trivial, w_case⟩
end start1
theorem witness_1 : WitnessClaimed_1 := ⟨start1.p0, start1.e0, start1.about1, start1.theMethod, start1.args0, start1.below0, start1.atStart⟩
end Jvm.Pilot.@@N@@
