import JvmDerived
import JvmDerived.Pilot.@@N@@Statement
import JvmDerived.Pilot.@@N@@Code
set_option linter.unusedVariables false
set_option linter.unusedSimpArgs false
@@BLOCK:NumsL.lean.txt@@
namespace Jvm.Pilot.@@N@@
open Jvm Jvm.ClassFile Sem Op Lib Jvm.Free Jvm.Stand Jvm.LawKit Jvm.RoadKit Bundle Jvm.Pilot.@@N@@.Jvm.D

def own_N (x : Int64) : Nat := x.toBitVec.toNat
theorem own_inj {x y : Int64} (h : own_N x = own_N y) : x = y := Int64.toBitVec_inj.mp (BitVec.eq_of_toNat_eq h)
theorem own_or (x y : Int64) : own_N (x ||| y) = own_N x ||| own_N y := by unfold own_N; rw [Int64.toBitVec_or, BitVec.toNat_or]
theorem own_mask (x m : Int64) (k : Nat) (hm : own_N m = 2 ^ k - 1) : own_N (x &&& m) = own_N x % 2 ^ k := by
  have e : own_N (x &&& m) = own_N x &&& own_N m := by unfold own_N; rw [Int64.toBitVec_and, BitVec.toNat_and]
  rw [e, hm, Nat.and_two_pow_sub_one_eq_mod]
theorem own_shr (x : Int64) (j : Int32) (k : Nat) (hj : (j &&& 0x3f).toInt64.toUInt64.toNat % 64 = k) : own_N ((x.toUInt64 >>> (j &&& 0x3f).toInt64.toUInt64).toInt64) = own_N x / 2 ^ k := by
  have e : own_N ((x.toUInt64 >>> (j &&& 0x3f).toInt64.toUInt64).toInt64) = (x.toBitVec >>> k).toNat := by
    show (x.toUInt64 >>> (j &&& 0x3f).toInt64.toUInt64).toBitVec.toNat = _
    rw [UInt64.toBitVec_shiftRight]
    rw [← hj]; rfl
  rw [e, BitVec.toNat_ushiftRight, Nat.shiftRight_eq_div_pow]; rfl
theorem own_shl16 (x : Int64) : own_N (x <<< ((16 : Int32) &&& 0x3f).toInt64) = own_N x * 2 ^ 16 % 2 ^ 64 := by
  have e : own_N (x <<< ((16 : Int32) &&& 0x3f).toInt64) = (x.toBitVec <<< 16).toNat := rfl
  rw [e, BitVec.toNat_shiftLeft, Nat.shiftLeft_eq]; rfl
theorem own_nn {x : Int64} (h : own_N x < 2 ^ 63) : x.toInt = own_N x := by
  have e : x.toInt = x.toBitVec.toInt := rfl
  rw [e, BitVec.toInt_eq_toNat_cond, if_pos (by unfold own_N at h; omega)]; rfl
theorem own_i (p : Int32) : own_N ((p &&& (4095 : Int32)).toInt64) = p.toInt % 4096 ∧ own_N ((p &&& (4095 : Int32)).toInt64) < 4096 := by
  have e1 : (p &&& 4095).toInt = p.toInt % 2 ^ 12 := Jvm.Kit.i32_mask p 4095 (k := 12) (by decide) (by decide)
  have e2 := Jvm.Kit.i64_of_i32 (p &&& (4095 : Int32))
  generalize (p &&& (4095 : Int32)).toInt64 = y at *
  have e3 : y.toInt = y.toBitVec.toInt := rfl
  rw [BitVec.toInt_eq_toNat_cond] at e3
  have e4 := y.toBitVec.isLt
  unfold own_N
  split at e3 <;> omega
def own_hi (q1 : Int64) (p1 : Int32) : Int64 := ((q1 <<< ((16 : Int32) &&& 0x3f).toInt64) ||| (28672 : Int64)) ||| p1.toInt64
def own_lo (q2 : Int64) : Int64 := (-9223372036854775808 : Int64) ||| q2
theorem own_hiN {m : Int64} {a : Int32} (hm : own_N m < 2 ^ 48) (ha : own_N a.toInt64 < 4096) : own_N (own_hi m a) = own_N m * 65536 + 28672 + own_N a.toInt64 := by
  unfold own_hi
  have c : own_N (28672 : Int64) = 28672 := rfl
  rw [own_or, own_or, own_shl16, c]
  have e1 : own_N m * 2 ^ 16 % 2 ^ 64 = 2 ^ 16 * own_N m := by omega
  have e2 : 2 ^ 16 * own_N m ||| 28672 = 2 ^ 16 * own_N m + 28672 := (Nat.two_pow_add_eq_or_of_lt (by decide) _).symm
  have e3 : 2 ^ 16 * own_N m + 28672 = 2 ^ 12 * (16 * own_N m + 7) := by omega
  have e4 : 2 ^ 12 * (16 * own_N m + 7) ||| own_N a.toInt64 = 2 ^ 12 * (16 * own_N m + 7) + own_N a.toInt64 := (Nat.two_pow_add_eq_or_of_lt (by omega) _).symm
  rw [e1, e2, e3, e4]; omega
theorem own_loN {b : Int64} (hb : own_N b < 2 ^ 62) : own_N (own_lo b) = 2 ^ 63 + own_N b := by
  unfold own_lo
  have c : own_N (-9223372036854775808 : Int64) = 2 ^ 63 * 1 := by decide
  rw [own_or, c, ← Nat.two_pow_add_eq_or_of_lt (by omega)]
theorem own_t {x z : Int64} (e : z = x &&& (281474976710655 : Int64)) : own_N z < 2 ^ 48 ∧ ¬ (z < (0 : Int64)) ∧ ¬ ((281474976710655 : Int64) < z) := by
  have h : own_N z = own_N x % 2 ^ 48 := by rw [e]; exact own_mask x _ 48 (by decide)
  have h1 : own_N z < 2 ^ 48 := by omega
  have h2 := own_nn (x := z) (by omega)
  have o0 : (0 : Int64).toInt = 0 := rfl
  have o1 : (281474976710655 : Int64).toInt = 281474976710655 := rfl
  refine ⟨h1, ?_, ?_⟩ <;> rw [Int64.lt_iff_toInt_lt] <;> omega
theorem own_b {x z : Int64} (e : z = x &&& (4611686018427387903 : Int64)) : own_N z < 2 ^ 62 ∧ ¬ (z < (0 : Int64)) ∧ ¬ ((4611686018427387903 : Int64) < z) := by
  have h : own_N z = own_N x % 2 ^ 62 := by rw [e]; exact own_mask x _ 62 (by decide)
  have h1 : own_N z < 2 ^ 62 := by omega
  have h2 := own_nn (x := z) (by omega)
  have o0 : (0 : Int64).toInt = 0 := rfl
  have o1 : (4611686018427387903 : Int64).toInt = 4611686018427387903 := rfl
  refine ⟨h1, ?_, ?_⟩ <;> rw [Int64.lt_iff_toInt_lt] <;> omega
theorem own_a {x z : Int32} (e : z = x &&& (4095 : Int32)) : own_N z.toInt64 < 4096 ∧ ¬ (z.toInt64 < (0 : Int64)) ∧ ¬ ((4095 : Int64) < z.toInt64) := by
  have h1 : own_N z.toInt64 < 4096 := by rw [e]; exact (own_i x).2
  have h2 := own_nn (x := z.toInt64) (by omega)
  have o0 : (0 : Int64).toInt = 0 := rfl
  have o1 : (4095 : Int64).toInt = 4095 := rfl
  refine ⟨h1, ?_, ?_⟩ <;> rw [Int64.lt_iff_toInt_lt] <;> omega
theorem own_law {m b : Int64} {a : Int32} (hm : own_N m < 2 ^ 48) (ha : own_N a.toInt64 < 4096) (hb : own_N b < 2 ^ 62) :
    ((own_hi m a).toUInt64 >>> ((16 : Int32) &&& 0x3f).toInt64.toUInt64).toInt64 = m ∧ (((own_hi m a).toUInt64 >>> ((12 : Int32) &&& 0x3f).toInt64.toUInt64).toInt64) &&& (15 : Int64) = (7 : Int64) ∧ (own_hi m a) &&& (4095 : Int64) = a.toInt64 ∧
    ((own_lo b).toUInt64 >>> ((62 : Int32) &&& 0x3f).toInt64.toUInt64).toInt64 = (2 : Int64) ∧ (own_lo b) &&& (4611686018427387903 : Int64) = b := by
  have h1 := own_hiN hm ha
  have h2 := own_loN hb
  refine ⟨own_inj ?_, own_inj ?_, own_inj ?_, own_inj ?_, own_inj ?_⟩
  · rw [own_shr _ _ 16 (by decide), h1]; omega
  · rw [own_mask _ _ 4 (by decide), own_shr _ _ 12 (by decide), h1]
    show _ = 7
    omega
  · rw [own_mask _ _ 12 (by decide), h1]; omega
  · rw [own_shr _ _ 62 (by decide), h2]
    show _ = 2
    omega
  · rw [own_mask _ _ 62 (by decide), h2]; omega

theorem ef_rmR (m : MethodId) (x0 : Addr) (x1 : Int64) (x2 : Int64) : entryFrame m #[(.ref x0), (.long x1), (.long x2)] 5 = mkF m 0 #[.val (.ref x0), .val (.long x1), .second, .val (.long x2), .second] [] := by first | (simp [entryFrame, mkF, argsToLocals, Value.category]; done) | rfl
theorem pn_0 : plainName "com/example/nonce/nonce/id/UuidV7" = true := by first | (simp [plainName, overriddenIn]; done) | decide +kernel
theorem d2_0 : decode prog_13_method_5_code 0 = .ok (.lload_n 1, 1) := by decide +kernel
theorem d2_1 : decode prog_13_method_5_code 1 = .ok (.lconst 0, 1) := by decide +kernel
theorem d2_2 : decode prog_13_method_5_code 2 = .ok (.lcmp, 1) := by decide +kernel
theorem d2_3 : decode prog_13_method_5_code 3 = .ok (.ifCond .lt 9, 3) := by decide +kernel
theorem d2_6 : decode prog_13_method_5_code 6 = .ok (.lload_n 1, 1) := by decide +kernel
theorem d2_7 : decode prog_13_method_5_code 7 = .ok (.lload_n 3, 1) := by decide +kernel
theorem d2_8 : decode prog_13_method_5_code 8 = .ok (.lcmp, 1) := by decide +kernel
theorem d2_9 : decode prog_13_method_5_code 9 = .ok (.ifCond .le 19, 3) := by decide +kernel
theorem d2_28 : decode prog_13_method_5_code 28 = .ok (.return_, 1) := by decide +kernel
def Q_rmR (Z : State) (a1 : Addr) (q1 : Int64) (q2 : Int64) (h0 : Heap) (n0 : Nat) (v : Option Value) (h : Heap) (L : List Loc) : Prop := v = none ∧ Fr n0 L ∧ h = h0
set_option maxRecDepth 65536 in
set_option maxHeartbeats 40000000 in
theorem rmR (l : Launch) (Z : State) (a0 : Array Value) (hw : ∀ d ∈ tables_1, d.before a0 Z = true) (ws : List Jvm.Cond) (a1 : Addr) (q1 : Int64) (q2 : Int64) (h0 : Heap) (n0 : Nat) (Z0 : n0 ≤ h0.size) (c1 : ¬ (q1 < (0 : Int64))) (c2 : ¬ (q2 < q1)) :
    MetFree l (⟨"com/example/nonce/nonce/id/UuidV7", "requireWithin", "(Ljava/lang/String;JJ)V"⟩ : MethodName) (head1 (Jvm.Cond.code (⟨"com/example/nonce/nonce/id/UuidV7", "requireWithin", "(Ljava/lang/String;JJ)V"⟩ : MethodName) prog_13_method_5_code 5 none :: ws) ({ frames := 0, cells := 0, slots := 0, locals := 0 } : Room)) (fun a U => a = #[(.ref a1), (.long q1), (.long q2)] ∧ Z.Warmed39 U.vm ∧ U.heap = h0) (fun _ _ _ _ _ => True) (fun _ U o U' => ∃ v L, o = .returned v ∧ Q_rmR Z a1 q1 q2 h0 n0 v U'.heap L ∧ FrameEnd U o U' L ({ frames := 0, cells := 0, slots := 0, locals := 0 } : Room).cells ({ frames := 0, cells := 0, slots := 0, locals := 0 } : Room).slots) := by
  refine MetFree.of_bodySF (plainFor_of_name pn_0) hisR ?_
  intro p e s m args below meth c s₁ Bd hml0 hP hK
  obtain ⟨rfl, hZ, hh⟩ := hP
  have hx := Bd.exec
  have hby := Bd.bytes
  have hml : c.maxLocals = 5 := hml0
  have hown : s.vm.findClass "com/example/nonce/nonce/id/UuidV7" = some m.cls := (findClass_of_methodNamed Bd.named :)
  have hnm := (name_of_methodNamed Bd.named Bd.method).1
  have X0 : Stand p l e ({ frames := 0, cells := 0, slots := 0, locals := 0 } : Room) s m #[(.ref a1), (.long q1), (.long q2)] below meth c s₁ [] 0 0 := Stand.of_body Bd
  have e0 : s₁.heap = h0 := by rw [← hh, Bd.state]; rfl
  have N0 := Fr.nil n0
  have pre0 : ∀ t, Steps p.tables e below (s₁.setTop (mkF m 0 #[.val (.ref a1), .val (.long q1), .second, .val (.long q2), .second] [])) t → Steps p.tables e below (s₁.setTop (entryFrame m #[(.ref a1), (.long q1), (.long q2)] 5)) t := fun t k => castTop (ef_rmR m a1 q1 q2) k
  have pre1 : ∀ t, Steps p.tables e below (s₁.setTop (mkF m 28 #[.val (.ref a1), .val (.long q1), .second, .val (.long q2), .second] [])) t → Steps p.tables e below (s₁.setTop (entryFrame m #[(.ref a1), (.long q1), (.long q2)] 5)) t := by
    intro t k
    refine pre0 t ?_
    show Steps p.tables e below (s₁.setTop (mkF m 0 #[.val (.ref a1), .val (.long q1), .second, .val (.long q2), .second] [])) _
    refine XS.lloadN X0.here hx rfl (hb hby d2_0) rfl ?_
    show Steps p.tables e below (s₁.setTop (mkF m 1 #[.val (.ref a1), .val (.long q1), .second, .val (.long q2), .second] [(.long q1)])) _
    refine XS.lconst X0.here hx rfl (hb hby d2_1) ?_
    show Steps p.tables e below (s₁.setTop (mkF m 2 #[.val (.ref a1), .val (.long q1), .second, .val (.long q2), .second] [(.long (0 : Int64)), (.long q1)])) _
    refine XS.lcmp X0.here hx rfl (hb hby d2_2) rfl ?_
    show Steps p.tables e below (s₁.setTop (mkF m 3 #[.val (.ref a1), .val (.long q1), .second, .val (.long q2), .second] [(.int (lcmpW q1 (0 : Int64)))])) _
    refine XS.ifNo X0.here hx rfl (hb hby d2_3) rfl ((if0 _ _).trans (flt (mt (lw_lt q1 (0 : Int64)).mp c1)).1) ?_
    show Steps p.tables e below (s₁.setTop (mkF m 6 #[.val (.ref a1), .val (.long q1), .second, .val (.long q2), .second] [])) _
    refine XS.lloadN X0.here hx rfl (hb hby d2_6) rfl ?_
    show Steps p.tables e below (s₁.setTop (mkF m 7 #[.val (.ref a1), .val (.long q1), .second, .val (.long q2), .second] [(.long q1)])) _
    refine XS.lloadN X0.here hx rfl (hb hby d2_7) rfl ?_
    show Steps p.tables e below (s₁.setTop (mkF m 8 #[.val (.ref a1), .val (.long q1), .second, .val (.long q2), .second] [(.long q2), (.long q1)])) _
    refine XS.lcmp X0.here hx rfl (hb hby d2_8) rfl ?_
    show Steps p.tables e below (s₁.setTop (mkF m 9 #[.val (.ref a1), .val (.long q1), .second, .val (.long q2), .second] [(.int (lcmpW q1 q2))])) _
    refine XS.ifYes X0.here hx rfl (pc0 := 9) (pc' := 28) rfl (hb hby d2_9) rfl ((if0 _ _).trans (flt (mt (lw_gt q1 q2).mp c2)).2.2.2) (by decide) (by decide) ?_
    show Steps p.tables e below (s₁.setTop (mkF m 28 #[.val (.ref a1), .val (.long q1), .second, .val (.long q2), .second] [])) _
    exact k
  obtain ⟨fs, hr, hrun, hended, hW, hsame⟩ := X0.leave (v := none) (fun _ => rfl)
  refine ⟨_, _, pre1 _ ?_, hrun, hended, _, _, rfl, ?_, ⟨_, rfl⟩, hW, hsame.mono (by decide) (by decide)⟩
  · exact X0.returnOut hx Bd.returns (hb hby d2_28) hr
  · show Q_rmR Z a1 q1 q2 h0 n0 _ s₁.heap _
    rw [e0]
    exact ⟨rfl, N0, rfl⟩
theorem ef_rmU (m : MethodId) (x0 : Addr) (x1 : Int64) (x2 : Int64) : entryFrame m #[(.ref x0), (.long x1), (.long x2)] 5 = mkF m 0 #[.val (.ref x0), .val (.long x1), .second, .val (.long x2), .second] [] := by first | (simp [entryFrame, mkF, argsToLocals, Value.category]; done) | rfl
theorem pn_3 : plainName "java/util/UUID" = true := by first | (simp [plainName, overriddenIn]; done) | decide +kernel
theorem d3_0 : decode jdk_2758_method_2_code 0 = .ok (.aload_n 0, 1) := by decide +kernel
theorem d3_1 : decode jdk_2758_method_2_code 1 = .ok (.invokespecial 1, 3) := by decide +kernel
theorem d3_4 : decode jdk_2758_method_2_code 4 = .ok (.aload_n 0, 1) := by decide +kernel
theorem d3_5 : decode jdk_2758_method_2_code 5 = .ok (.lload_n 1, 1) := by decide +kernel
theorem d3_6 : decode jdk_2758_method_2_code 6 = .ok (.putfield 20, 3) := by decide +kernel
theorem d3_9 : decode jdk_2758_method_2_code 9 = .ok (.aload_n 0, 1) := by decide +kernel
theorem d3_10 : decode jdk_2758_method_2_code 10 = .ok (.lload_n 3, 1) := by decide +kernel
theorem d3_11 : decode jdk_2758_method_2_code 11 = .ok (.putfield 24, 3) := by decide +kernel
theorem d3_14 : decode jdk_2758_method_2_code 14 = .ok (.return_, 1) := by decide +kernel
def Q_rmU (Z : State) (a1 : Addr) (q1 : Int64) (q2 : Int64) (h0 : Heap) (n0 : Nat) (v : Option Value) (h : Heap) (L : List Loc) : Prop := v = none ∧ Fr n0 L ∧ Keep h0 h [a1] ∧ Exa Z h a1 "java/util/UUID" ∧ Fld Z h a1 "java/util/UUID" "mostSigBits" "J" (.long q1) ∧ Fld Z h a1 "java/util/UUID" "leastSigBits" "J" (.long q2)
set_option maxRecDepth 65536 in
set_option maxHeartbeats 40000000 in
theorem rmU (l : Launch) (Z : State) (a0 : Array Value) (hw : ∀ d ∈ tables_1, d.before a0 Z = true) (ws : List Jvm.Cond) (a1 : Addr) (q1 : Int64) (q2 : Int64) (h0 : Heap) (n0 : Nat) (Z0 : n0 ≤ h0.size) (F1 : Fld Z h0 a1 "java/util/UUID" "mostSigBits" "J" (.long (0 : Int64))) (F2 : Fld Z h0 a1 "java/util/UUID" "leastSigBits" "J" (.long (0 : Int64))) (E1 : Exa Z h0 a1 "java/util/UUID") (g_a1 : n0 ≤ a1) :
    MetFree l (⟨"java/util/UUID", "<init>", "(JJ)V"⟩ : MethodName) (head1 (Jvm.Cond.code (⟨"java/util/UUID", "<init>", "(JJ)V"⟩ : MethodName) jdk_2758_method_2_code 5 none :: ws) ({ frames := 1, cells := 0, slots := 0, locals := 12 } : Room)) (fun a U => a = #[(.ref a1), (.long q1), (.long q2)] ∧ Z.Warmed39 U.vm ∧ U.heap = h0) (fun _ _ _ _ _ => True) (fun _ U o U' => ∃ v L, o = .returned v ∧ Q_rmU Z a1 q1 q2 h0 n0 v U'.heap L ∧ FrameEnd U o U' L ({ frames := 1, cells := 0, slots := 0, locals := 12 } : Room).cells ({ frames := 1, cells := 0, slots := 0, locals := 12 } : Room).slots) := by
  refine MetFree.of_bodySF (plainFor_of_name pn_3) hisR ?_
  intro p e s m args below meth c s₁ Bd hml0 hP hK
  obtain ⟨rfl, hZ, hh⟩ := hP
  have hx := Bd.exec
  have hby := Bd.bytes
  have hml : c.maxLocals = 5 := hml0
  have hown : s.vm.findClass "java/util/UUID" = some m.cls := (findClass_of_methodNamed Bd.named :)
  have hnm := (name_of_methodNamed Bd.named Bd.method).1
  have X0 : Stand p l e ({ frames := 1, cells := 0, slots := 0, locals := 12 } : Room) s m #[(.ref a1), (.long q1), (.long q2)] below meth c s₁ [] 0 0 := Stand.of_body Bd
  have e0 : s₁.heap = h0 := by rw [← hh, Bd.state]; rfl
  have N0 := Fr.nil n0
  have pre0 : ∀ t, Steps p.tables e below (s₁.setTop (mkF m 0 #[.val (.ref a1), .val (.long q1), .second, .val (.long q2), .second] [])) t → Steps p.tables e below (s₁.setTop (entryFrame m #[(.ref a1), (.long q1), (.long q2)] 5)) t := fun t k => castTop (ef_rmU m a1 q1 q2) k
  obtain ⟨T1, X1, e1, st1⟩ := initO X0 hx hZ hown (hw _ (List.mem_of_getElem? (i := 30) rfl)) (hw _ (List.mem_of_getElem? (i := 31) rfl)) (hw _ (List.mem_of_getElem? (i := 32) rfl)) e0 (g := (mkF m 1 #[.val (.ref a1), .val (.long q1), .second, .val (.long q2), .second] [(.ref a1)])) rfl (by rw [hml]; rfl) rfl (hb hby d3_1) (by decide) (W := 0) (by show 2 * 0 + _ ≤ _; exact Nat.le_of_eq rfl) (by decide)
  obtain ⟨T2, h2, X2, e2, W2, st2⟩ := putF X1 hx hZ hown (host := "") (Or.inl (hw _ (List.mem_of_getElem? (i := 33) rfl))) Via.refl e1 F1 E1 (Or.inr ⟨(hw _ (List.mem_of_getElem? (i := 34) rfl)), rfl, hnm⟩) (hw _ (List.mem_of_getElem? (i := 25) rfl)) (ty := .long) (by decide) rfl rfl (g := (mkF m 6 #[.val (.ref a1), .val (.long q1), .second, .val (.long q2), .second] [(.long q1), (.ref a1)])) rfl rfl (hb hby d3_6)
  have Fw2 := F1.same W2
  have K2 : Keep h0 h2 [a1] := (Keep.refl h0 [a1]).wr W2 (Or.inl (List.mem_of_getElem? (i := 0) rfl))
  have N2 := Fr.snoc X2 N0 g_a1
  obtain ⟨T3, h3, X3, e3, W3, st3⟩ := putF X2 hx hZ hown (host := "") (Or.inl (hw _ (List.mem_of_getElem? (i := 35) rfl))) Via.refl e2 (F2.other W2 (Or.inr (slot_ne (Or.inr (hw _ (List.mem_of_getElem? (i := 36) rfl))) (Or.inr (hw _ (List.mem_of_getElem? (i := 34) rfl))) (by decide) (t := .long) (t' := .long) (by decide) (by decide)))) (E1.wr W2) (Or.inr ⟨(hw _ (List.mem_of_getElem? (i := 36) rfl)), rfl, hnm⟩) (hw _ (List.mem_of_getElem? (i := 25) rfl)) (ty := .long) (by decide) rfl rfl (g := (mkF m 11 #[.val (.ref a1), .val (.long q1), .second, .val (.long q2), .second] [(.long q2), (.ref a1)])) rfl rfl (hb hby d3_11)
  have Fw3 := (F2.other W2 (Or.inr (slot_ne (Or.inr (hw _ (List.mem_of_getElem? (i := 36) rfl))) (Or.inr (hw _ (List.mem_of_getElem? (i := 34) rfl))) (by decide) (t := .long) (t' := .long) (by decide) (by decide)))).same W3
  have K3 : Keep h0 h3 [a1] := K2.wr W3 (Or.inl (List.mem_of_getElem? (i := 0) rfl))
  have N3 := Fr.snoc X3 N2 g_a1
  have pre4 : ∀ t, Steps p.tables e below (T3.setTop (mkF m 14 #[.val (.ref a1), .val (.long q1), .second, .val (.long q2), .second] [])) t → Steps p.tables e below (s₁.setTop (entryFrame m #[(.ref a1), (.long q1), (.long q2)] 5)) t := by
    intro t k
    refine pre0 t ?_
    show Steps p.tables e below (s₁.setTop (mkF m 0 #[.val (.ref a1), .val (.long q1), .second, .val (.long q2), .second] [])) _
    refine XS.aloadN X0.here hx rfl (hb hby d3_0) rfl (rfl) ?_
    show Steps p.tables e below (s₁.setTop (mkF m 1 #[.val (.ref a1), .val (.long q1), .second, .val (.long q2), .second] [(.ref a1)])) _
    refine st1 _ ?_
    show Steps p.tables e below (T1.setTop (mkF m 4 #[.val (.ref a1), .val (.long q1), .second, .val (.long q2), .second] [])) _
    refine XS.aloadN X1.here hx rfl (hb hby d3_4) rfl (rfl) ?_
    show Steps p.tables e below (T1.setTop (mkF m 5 #[.val (.ref a1), .val (.long q1), .second, .val (.long q2), .second] [(.ref a1)])) _
    refine XS.lloadN X1.here hx rfl (hb hby d3_5) rfl ?_
    show Steps p.tables e below (T1.setTop (mkF m 6 #[.val (.ref a1), .val (.long q1), .second, .val (.long q2), .second] [(.long q1), (.ref a1)])) _
    refine st2 _ ?_
    show Steps p.tables e below (T2.setTop (mkF m 9 #[.val (.ref a1), .val (.long q1), .second, .val (.long q2), .second] [])) _
    refine XS.aloadN X2.here hx rfl (hb hby d3_9) rfl (rfl) ?_
    show Steps p.tables e below (T2.setTop (mkF m 10 #[.val (.ref a1), .val (.long q1), .second, .val (.long q2), .second] [(.ref a1)])) _
    refine XS.lloadN X2.here hx rfl (hb hby d3_10) rfl ?_
    show Steps p.tables e below (T2.setTop (mkF m 11 #[.val (.ref a1), .val (.long q1), .second, .val (.long q2), .second] [(.long q2), (.ref a1)])) _
    refine st3 _ ?_
    show Steps p.tables e below (T3.setTop (mkF m 14 #[.val (.ref a1), .val (.long q1), .second, .val (.long q2), .second] [])) _
    exact k
  obtain ⟨fs, hr, hrun, hended, hW, hsame⟩ := X3.leave (v := none) (fun _ => rfl)
  refine ⟨_, _, pre4 _ ?_, hrun, hended, _, _, rfl, ?_, ⟨_, rfl⟩, hW, hsame.mono (by decide) (by decide)⟩
  · exact X3.returnOut hx Bd.returns (hb hby d3_14) hr
  · show Q_rmU Z a1 q1 q2 h0 n0 _ T3.heap _
    rw [e3]
    exact ⟨rfl, N3, K3, ((E1.wr W2).wr W3), (Fw2.other W3 (Or.inr (slot_ne (Or.inr (hw _ (List.mem_of_getElem? (i := 34) rfl))) (Or.inr (hw _ (List.mem_of_getElem? (i := 36) rfl))) (by decide) (t := .long) (t' := .long) (by decide) (by decide)))), Fw3⟩
theorem ef_rmM (m : MethodId) (x0 : Addr) : entryFrame m #[(.ref x0)] 1 = mkF m 0 #[.val (.ref x0)] [] := by first | (simp [entryFrame, mkF, argsToLocals, Value.category]; done) | rfl
theorem d5_0 : decode jdk_2758_method_9_code 0 = .ok (.aload_n 0, 1) := by decide +kernel
theorem d5_1 : decode jdk_2758_method_9_code 1 = .ok (.getfield 20, 3) := by decide +kernel
theorem d5_4 : decode jdk_2758_method_9_code 4 = .ok (.lreturn, 1) := by decide +kernel
def Q_rmM (Z : State) (a1 : Addr) (q1 : Int64) (h0 : Heap) (n0 : Nat) (v : Option Value) (h : Heap) (L : List Loc) : Prop := v = some (.long q1) ∧ Fr n0 L ∧ h = h0
set_option maxRecDepth 65536 in
set_option maxHeartbeats 40000000 in
theorem rmM (l : Launch) (Z : State) (a0 : Array Value) (hw : ∀ d ∈ tables_1, d.before a0 Z = true) (ws : List Jvm.Cond) (a1 : Addr) (q1 : Int64) (h0 : Heap) (n0 : Nat) (Z0 : n0 ≤ h0.size) (F1 : Fld Z h0 a1 "java/util/UUID" "mostSigBits" "J" (.long q1)) :
    MetFree l (⟨"java/util/UUID", "getMostSignificantBits", "()J"⟩ : MethodName) (head1 (Jvm.Cond.code (⟨"java/util/UUID", "getMostSignificantBits", "()J"⟩ : MethodName) jdk_2758_method_9_code 1 (some .long) :: ws) ({ frames := 0, cells := 0, slots := 0, locals := 0 } : Room)) (fun a U => a = #[(.ref a1)] ∧ Z.Warmed39 U.vm ∧ U.heap = h0) (fun _ _ _ _ _ => True) (fun _ U o U' => ∃ v L, o = .returned v ∧ Q_rmM Z a1 q1 h0 n0 v U'.heap L ∧ FrameEnd U o U' L ({ frames := 0, cells := 0, slots := 0, locals := 0 } : Room).cells ({ frames := 0, cells := 0, slots := 0, locals := 0 } : Room).slots) := by
  refine MetFree.of_bodySF (plainFor_of_name pn_3) hisR ?_
  intro p e s m args below meth c s₁ Bd hml0 hP hK
  obtain ⟨rfl, hZ, hh⟩ := hP
  have hx := Bd.exec
  have hby := Bd.bytes
  have hml : c.maxLocals = 1 := hml0
  have hown : s.vm.findClass "java/util/UUID" = some m.cls := (findClass_of_methodNamed Bd.named :)
  have hnm := (name_of_methodNamed Bd.named Bd.method).1
  have X0 : Stand p l e ({ frames := 0, cells := 0, slots := 0, locals := 0 } : Room) s m #[(.ref a1)] below meth c s₁ [] 0 0 := Stand.of_body Bd
  have e0 : s₁.heap = h0 := by rw [← hh, Bd.state]; rfl
  have N0 := Fr.nil n0
  have pre0 : ∀ t, Steps p.tables e below (s₁.setTop (mkF m 0 #[.val (.ref a1)] [])) t → Steps p.tables e below (s₁.setTop (entryFrame m #[(.ref a1)] 1)) t := fun t k => castTop (ef_rmM m a1) k
  obtain ⟨T1, X1, e1, st1⟩ := getF X0 hx hZ hown (host := "") (Or.inl (hw _ (List.mem_of_getElem? (i := 33) rfl))) Via.refl e0 F1 (g := (mkF m 1 #[.val (.ref a1)] [(.ref a1)])) rfl rfl (hb hby d5_1)
  have pre2 : ∀ t, Steps p.tables e below (T1.setTop (mkF m 4 #[.val (.ref a1)] [(.long q1)])) t → Steps p.tables e below (s₁.setTop (entryFrame m #[(.ref a1)] 1)) t := by
    intro t k
    refine pre0 t ?_
    show Steps p.tables e below (s₁.setTop (mkF m 0 #[.val (.ref a1)] [])) _
    refine XS.aloadN X0.here hx rfl (hb hby d5_0) rfl (rfl) ?_
    show Steps p.tables e below (s₁.setTop (mkF m 1 #[.val (.ref a1)] [(.ref a1)])) _
    refine st1 _ ?_
    show Steps p.tables e below (T1.setTop (mkF m 4 #[.val (.ref a1)] [(.long q1)])) _
    exact k
  obtain ⟨fs, hr, hrun, hended, hW, hsame⟩ := X1.leave (v := some (.long q1)) (fun h => by rw [Bd.returns] at h; cases h)
  refine ⟨_, _, pre2 _ ?_, hrun, hended, _, _, rfl, ?_, ⟨_, rfl⟩, hW, hsame.mono (by decide) (by decide)⟩
  · exact retOut X1 hx Bd.returns rfl (Or.inr (Or.inl ⟨rfl, rfl, _, rfl⟩)) (hb hby d5_4) hr
  · show Q_rmM Z a1 q1 h0 n0 _ T1.heap _
    rw [e1]
    exact ⟨rfl, N0, rfl⟩
theorem ef_rmL (m : MethodId) (x0 : Addr) : entryFrame m #[(.ref x0)] 1 = mkF m 0 #[.val (.ref x0)] [] := by first | (simp [entryFrame, mkF, argsToLocals, Value.category]; done) | rfl
theorem d6_0 : decode jdk_2758_method_8_code 0 = .ok (.aload_n 0, 1) := by decide +kernel
theorem d6_1 : decode jdk_2758_method_8_code 1 = .ok (.getfield 24, 3) := by decide +kernel
theorem d6_4 : decode jdk_2758_method_8_code 4 = .ok (.lreturn, 1) := by decide +kernel
def Q_rmL (Z : State) (a1 : Addr) (q1 : Int64) (h0 : Heap) (n0 : Nat) (v : Option Value) (h : Heap) (L : List Loc) : Prop := v = some (.long q1) ∧ Fr n0 L ∧ h = h0
set_option maxRecDepth 65536 in
set_option maxHeartbeats 40000000 in
theorem rmL (l : Launch) (Z : State) (a0 : Array Value) (hw : ∀ d ∈ tables_1, d.before a0 Z = true) (ws : List Jvm.Cond) (a1 : Addr) (q1 : Int64) (h0 : Heap) (n0 : Nat) (Z0 : n0 ≤ h0.size) (F1 : Fld Z h0 a1 "java/util/UUID" "leastSigBits" "J" (.long q1)) :
    MetFree l (⟨"java/util/UUID", "getLeastSignificantBits", "()J"⟩ : MethodName) (head1 (Jvm.Cond.code (⟨"java/util/UUID", "getLeastSignificantBits", "()J"⟩ : MethodName) jdk_2758_method_8_code 1 (some .long) :: ws) ({ frames := 0, cells := 0, slots := 0, locals := 0 } : Room)) (fun a U => a = #[(.ref a1)] ∧ Z.Warmed39 U.vm ∧ U.heap = h0) (fun _ _ _ _ _ => True) (fun _ U o U' => ∃ v L, o = .returned v ∧ Q_rmL Z a1 q1 h0 n0 v U'.heap L ∧ FrameEnd U o U' L ({ frames := 0, cells := 0, slots := 0, locals := 0 } : Room).cells ({ frames := 0, cells := 0, slots := 0, locals := 0 } : Room).slots) := by
  refine MetFree.of_bodySF (plainFor_of_name pn_3) hisR ?_
  intro p e s m args below meth c s₁ Bd hml0 hP hK
  obtain ⟨rfl, hZ, hh⟩ := hP
  have hx := Bd.exec
  have hby := Bd.bytes
  have hml : c.maxLocals = 1 := hml0
  have hown : s.vm.findClass "java/util/UUID" = some m.cls := (findClass_of_methodNamed Bd.named :)
  have hnm := (name_of_methodNamed Bd.named Bd.method).1
  have X0 : Stand p l e ({ frames := 0, cells := 0, slots := 0, locals := 0 } : Room) s m #[(.ref a1)] below meth c s₁ [] 0 0 := Stand.of_body Bd
  have e0 : s₁.heap = h0 := by rw [← hh, Bd.state]; rfl
  have N0 := Fr.nil n0
  have pre0 : ∀ t, Steps p.tables e below (s₁.setTop (mkF m 0 #[.val (.ref a1)] [])) t → Steps p.tables e below (s₁.setTop (entryFrame m #[(.ref a1)] 1)) t := fun t k => castTop (ef_rmL m a1) k
  obtain ⟨T1, X1, e1, st1⟩ := getF X0 hx hZ hown (host := "") (Or.inl (hw _ (List.mem_of_getElem? (i := 35) rfl))) Via.refl e0 F1 (g := (mkF m 1 #[.val (.ref a1)] [(.ref a1)])) rfl rfl (hb hby d6_1)
  have pre2 : ∀ t, Steps p.tables e below (T1.setTop (mkF m 4 #[.val (.ref a1)] [(.long q1)])) t → Steps p.tables e below (s₁.setTop (entryFrame m #[(.ref a1)] 1)) t := by
    intro t k
    refine pre0 t ?_
    show Steps p.tables e below (s₁.setTop (mkF m 0 #[.val (.ref a1)] [])) _
    refine XS.aloadN X0.here hx rfl (hb hby d6_0) rfl (rfl) ?_
    show Steps p.tables e below (s₁.setTop (mkF m 1 #[.val (.ref a1)] [(.ref a1)])) _
    refine st1 _ ?_
    show Steps p.tables e below (T1.setTop (mkF m 4 #[.val (.ref a1)] [(.long q1)])) _
    exact k
  obtain ⟨fs, hr, hrun, hended, hW, hsame⟩ := X1.leave (v := some (.long q1)) (fun h => by rw [Bd.returns] at h; cases h)
  refine ⟨_, _, pre2 _ ?_, hrun, hended, _, _, rfl, ?_, ⟨_, rfl⟩, hW, hsame.mono (by decide) (by decide)⟩
  · exact retOut X1 hx Bd.returns rfl (Or.inr (Or.inl ⟨rfl, rfl, _, rfl⟩)) (hb hby d6_4) hr
  · show Q_rmL Z a1 q1 h0 n0 _ T1.heap _
    rw [e1]
    exact ⟨rfl, N0, rfl⟩
theorem ef_rmF (m : MethodId) (x0 : Int64) (x1 : Int32) (x2 : Int64) : entryFrame m #[(.long x0), (.int x1), (.long x2)] 9 = mkF m 0 #[.val (.long x0), .second, .val (.int x1), .val (.long x2), .second, .unset, .unset, .unset, .unset] [] := by first | (simp [entryFrame, mkF, argsToLocals, Value.category]; done) | rfl
theorem own_wS {a0 : Array Value} {Z : State} (hw : ∀ d ∈ tables_1, d.before a0 Z = true) : ∀ a ∈ Bundle.stringAtoms, a.before a0 Z = true := by
  intro d hd
  simp only [Bundle.stringAtoms, List.mem_cons, List.not_mem_nil, or_false] at hd
  rcases hd with rfl | rfl | rfl | rfl | rfl | rfl | rfl
  · exact hw _ (List.mem_of_getElem? (i := 7) rfl)
  · exact hw _ (List.mem_of_getElem? (i := 8) rfl)
  · exact hw _ (List.mem_of_getElem? (i := 9) rfl)
  · exact hw _ (List.mem_of_getElem? (i := 10) rfl)
  · exact hw _ (List.mem_of_getElem? (i := 11) rfl)
  · exact hw _ (List.mem_of_getElem? (i := 12) rfl)
  · exact hw _ (List.mem_of_getElem? (i := 13) rfl)
theorem d1_0 : decode prog_13_method_2_code 0 = .ok (.ldc 7, 2) := by decide +kernel
theorem d1_2 : decode prog_13_method_2_code 2 = .ok (.lload_n 0, 1) := by decide +kernel
theorem d1_3 : decode prog_13_method_2_code 3 = .ok (.ldc2_w 11, 3) := by decide +kernel
theorem d1_6 : decode prog_13_method_2_code 6 = .ok (.invokestatic 13, 3) := by decide +kernel
theorem pd_0 : parseMethodDescriptor "(Ljava/lang/String;JJ)V" = some ⟨[(.object "java/lang/String"), .long, .long], none⟩ := by decide +kernel
theorem d1_9 : decode prog_13_method_2_code 9 = .ok (.ldc 17, 2) := by decide +kernel
theorem d1_11 : decode prog_13_method_2_code 11 = .ok (.iload_n 2, 1) := by decide +kernel
theorem d1_12 : decode prog_13_method_2_code 12 = .ok (.i2l, 1) := by decide +kernel
theorem d1_13 : decode prog_13_method_2_code 13 = .ok (.ldc2_w 19, 3) := by decide +kernel
theorem d1_16 : decode prog_13_method_2_code 16 = .ok (.invokestatic 13, 3) := by decide +kernel
theorem d1_19 : decode prog_13_method_2_code 19 = .ok (.ldc 21, 2) := by decide +kernel
theorem d1_21 : decode prog_13_method_2_code 21 = .ok (.lload_n 3, 1) := by decide +kernel
theorem d1_22 : decode prog_13_method_2_code 22 = .ok (.ldc2_w 23, 3) := by decide +kernel
theorem d1_25 : decode prog_13_method_2_code 25 = .ok (.invokestatic 13, 3) := by decide +kernel
theorem d1_28 : decode prog_13_method_2_code 28 = .ok (.lload_n 0, 1) := by decide +kernel
theorem d1_29 : decode prog_13_method_2_code 29 = .ok (.bipush 16, 2) := by decide +kernel
theorem d1_31 : decode prog_13_method_2_code 31 = .ok (.lshl, 1) := by decide +kernel
theorem d1_32 : decode prog_13_method_2_code 32 = .ok (.ldc2_w 25, 3) := by decide +kernel
theorem d1_35 : decode prog_13_method_2_code 35 = .ok (.lor, 1) := by decide +kernel
theorem d1_36 : decode prog_13_method_2_code 36 = .ok (.iload_n 2, 1) := by decide +kernel
theorem d1_37 : decode prog_13_method_2_code 37 = .ok (.i2l, 1) := by decide +kernel
theorem d1_38 : decode prog_13_method_2_code 38 = .ok (.lor, 1) := by decide +kernel
theorem d1_39 : decode prog_13_method_2_code 39 = .ok (.lstore 5, 2) := by decide +kernel
theorem d1_41 : decode prog_13_method_2_code 41 = .ok (.ldc2_w 27, 3) := by decide +kernel
theorem d1_44 : decode prog_13_method_2_code 44 = .ok (.lload_n 3, 1) := by decide +kernel
theorem d1_45 : decode prog_13_method_2_code 45 = .ok (.lor, 1) := by decide +kernel
theorem d1_46 : decode prog_13_method_2_code 46 = .ok (.lstore 7, 2) := by decide +kernel
theorem d1_48 : decode prog_13_method_2_code 48 = .ok (.new 29, 3) := by decide +kernel
theorem d1_51 : decode prog_13_method_2_code 51 = .ok (.dup, 1) := by decide +kernel
theorem d1_52 : decode prog_13_method_2_code 52 = .ok (.lload 5, 2) := by decide +kernel
theorem d1_54 : decode prog_13_method_2_code 54 = .ok (.lload 7, 2) := by decide +kernel
theorem d1_56 : decode prog_13_method_2_code 56 = .ok (.invokespecial 31, 3) := by decide +kernel
theorem pd_1 : parseMethodDescriptor "(JJ)V" = some ⟨[.long, .long], none⟩ := by decide +kernel
theorem d1_59 : decode prog_13_method_2_code 59 = .ok (.areturn, 1) := by decide +kernel
def Q_rmF (Z : State) (q1 : Int64) (p1 : Int32) (q2 : Int64) (h0 : Heap) (n0 : Nat) (v : Option Value) (h : Heap) (L : List Loc) : Prop := ∃ a : Addr, v = some (.ref a) ∧ Fr n0 L ∧ Keep h0 h [] ∧ Exa Z h a "java/util/UUID" ∧ Fld Z h a "java/util/UUID" "mostSigBits" "J" (.long (own_hi q1 p1)) ∧ Fld Z h a "java/util/UUID" "leastSigBits" "J" (.long (own_lo q2))
set_option maxRecDepth 65536 in
set_option maxHeartbeats 40000000 in
theorem rmF (l : Launch) (Z : State) (a0 : Array Value) (hw : ∀ d ∈ tables_1, d.before a0 Z = true) (ws : List Jvm.Cond) (q1 : Int64) (p1 : Int32) (q2 : Int64) (h0 : Heap) (n0 : Nat) (Z0 : n0 ≤ h0.size) (c1 : ¬ (q1 < (0 : Int64))) (c2 : ¬ ((281474976710655 : Int64) < q1)) (c3 : ¬ (p1.toInt64 < (0 : Int64))) (c4 : ¬ ((4095 : Int64) < p1.toInt64)) (c5 : ¬ (q2 < (0 : Int64))) (c6 : ¬ ((4611686018427387903 : Int64) < q2)) :
    MetFree l (⟨"com/example/nonce/nonce/id/UuidV7", "fromFields", "(JIJ)Ljava/util/UUID;"⟩ : MethodName) (head1 (Jvm.Cond.code (⟨"com/example/nonce/nonce/id/UuidV7", "fromFields", "(JIJ)Ljava/util/UUID;"⟩ : MethodName) prog_13_method_2_code 9 (some (.object "java/util/UUID")) :: ws) ({ frames := 2, cells := 7, slots := 102, locals := 29 } : Room)) (fun a U => a = #[(.long q1), (.int p1), (.long q2)] ∧ Z.Warmed39 U.vm ∧ U.heap = h0) (fun _ _ _ _ _ => True) (fun _ U o U' => ∃ v L, o = .returned v ∧ Q_rmF Z q1 p1 q2 h0 n0 v U'.heap L ∧ ReturnedEndW U o U' L ({ frames := 2, cells := 7, slots := 102, locals := 29 } : Room).cells ({ frames := 2, cells := 7, slots := 102, locals := 29 } : Room).slots) := by
  refine MetFree.of_bodySF (plainFor_of_name pn_0) hisR ?_
  intro p e s m args below meth c s₁ Bd hml0 hP hK
  obtain ⟨rfl, hZ, hh⟩ := hP
  have hx := Bd.exec
  have hby := Bd.bytes
  have hml : c.maxLocals = 9 := hml0
  have hown : s.vm.findClass "com/example/nonce/nonce/id/UuidV7" = some m.cls := (findClass_of_methodNamed Bd.named :)
  have hnm := (name_of_methodNamed Bd.named Bd.method).1
  have X0 : Stand p l e ({ frames := 2, cells := 7, slots := 102, locals := 29 } : Room) s m #[(.long q1), (.int p1), (.long q2)] below meth c s₁ [] 0 0 := Stand.of_body Bd
  have e0 : s₁.heap = h0 := by rw [← hh, Bd.state]; rfl
  have N0 := Fr.nil n0
  have pre0 : ∀ t, Steps p.tables e below (s₁.setTop (mkF m 0 #[.val (.long q1), .second, .val (.int p1), .val (.long q2), .second, .unset, .unset, .unset, .unset] [])) t → Steps p.tables e below (s₁.setTop (entryFrame m #[(.long q1), (.int p1), (.long q2)] 9)) t := fun t k => castTop (ef_rmF m q1 p1 q2) k
  have hS0 : s.Since s.vm 0 := (State.WarmedH.refl s).since 0
  have hk0 : 0 ≤ h0.size := Nat.zero_le _
  have wS := own_wS hw
  obtain ⟨b1, T1, h1, kk1, X1, e1, E1, hS1, hk1, hZ1, hown1, st1⟩ := ldcS (s := s) (vm0 := s.vm) X0 hx hZ hown (hw _ (List.mem_of_getElem? (i := 6) rfl)) wS e0 hS0 hk0 (g := (mkF m 0 #[.val (.long q1), .second, .val (.int p1), .val (.long q2), .second, .unset, .unset, .unset, .unset] [])) rfl (hb hby d1_0) (n := 40) (by decide) (by decide) (by decide) (by decide)
  have K1 : Keep h0 h1 [] := (Keep.refl h0 []).ext E1
  obtain ⟨_, _, ⟨T2, L2, k2, n2⟩, -, X2, ⟨Lc2, hQ2, l2, y2, z2⟩, st2⟩ := Jvm.LawKit.callS X1 hx (y := (⟨"com/example/nonce/nonce/id/UuidV7", "requireWithin", "(Ljava/lang/String;JJ)V"⟩ : MethodName)) hown1 (mvT hZ1 (hw _ (List.mem_of_getElem? (i := 15) rfl))) (mvT hZ1 (hw _ (List.mem_of_getElem? (i := 16) rfl))) (mvT hZ1 (hw _ (List.mem_of_getElem? (i := 4) rfl))) (mvT hZ1 (hw _ (List.mem_of_getElem? (i := 17) rfl))) (by decide) (backOf (W := 0) (rmR l Z a0 hw [] b1 q1 (281474976710655 : Int64)  h1 n0 (Nat.le_trans Z0 E1.1) c1 c2) hZ1 (hw _ (List.mem_of_getElem? (i := 17) rfl)) (hw _ (List.mem_of_getElem? (i := 4) rfl)) (by decide) (by decide)) (g := (mkF m 6 #[.val (.long q1), .second, .val (.int p1), .val (.long q2), .second, .unset, .unset, .unset, .unset] [(.long (281474976710655 : Int64)), (.long q1), (.ref b1)])) rfl (by rw [hml]; rfl) (argsL := [(.ref b1), (.long q1), (.long (281474976710655 : Int64))]) (rest := []) (lenOf pd_0 rfl) rfl (by show 2 * 0 + _ ≤ _; exact Nat.le_of_eq rfl) (hb hby d1_6) (fun _ _ => ⟨rfl, e1, (by decide : 2 + 0 ≤ _), (by decide : 44 + 0 ≤ _)⟩)
  dsimp only [Pt.U, Pt.locs, Pt.cells, Pt.slots] at X2 l2 y2 z2 st2 hQ2
  subst l2 y2 z2
  obtain ⟨rfl, N2q, hq2⟩ := hQ2
  have N2 := Fr.app N0 N2q
  obtain ⟨b3, T3, h3, kk3, X3, e3, E3, hS3, hk3, hZ3, hown3, st3⟩ := ldcS (s := s) (vm0 := T1.vm) X2 hx hZ1 hown1 (hw _ (List.mem_of_getElem? (i := 18) rfl)) wS hq2 hS1 hk1 (g := (mkF m 9 #[.val (.long q1), .second, .val (.int p1), .val (.long q2), .second, .unset, .unset, .unset, .unset] [])) rfl (hb hby d1_9) (n := 24) (by decide) (by decide) (by decide) (by decide)
  have K3 : Keep h0 h3 [] := K1.ext E3
  obtain ⟨_, _, ⟨T4, L4, k4, n4⟩, -, X4, ⟨Lc4, hQ4, l4, y4, z4⟩, st4⟩ := Jvm.LawKit.callS X3 hx (y := (⟨"com/example/nonce/nonce/id/UuidV7", "requireWithin", "(Ljava/lang/String;JJ)V"⟩ : MethodName)) hown3 (mvT hZ3 (hw _ (List.mem_of_getElem? (i := 15) rfl))) (mvT hZ3 (hw _ (List.mem_of_getElem? (i := 16) rfl))) (mvT hZ3 (hw _ (List.mem_of_getElem? (i := 4) rfl))) (mvT hZ3 (hw _ (List.mem_of_getElem? (i := 17) rfl))) (by decide) (backOf (W := 0) (rmR l Z a0 hw [] b3 (p1.toInt64) (4095 : Int64)  h3 n0 (Nat.le_trans (Nat.le_trans Z0 E1.1) E3.1) c3 c4) hZ3 (hw _ (List.mem_of_getElem? (i := 17) rfl)) (hw _ (List.mem_of_getElem? (i := 4) rfl)) (by decide) (by decide)) (g := (mkF m 16 #[.val (.long q1), .second, .val (.int p1), .val (.long q2), .second, .unset, .unset, .unset, .unset] [(.long (4095 : Int64)), (.long (p1.toInt64)), (.ref b3)])) rfl (by rw [hml]; rfl) (argsL := [(.ref b3), (.long (p1.toInt64)), (.long (4095 : Int64))]) (rest := []) (lenOf pd_0 rfl) rfl (by show 2 * 0 + _ ≤ _; exact Nat.le_of_eq rfl) (hb hby d1_16) (fun _ _ => ⟨rfl, e3, (by decide : 4 + 0 ≤ _), (by decide : 72 + 0 ≤ _)⟩)
  dsimp only [Pt.U, Pt.locs, Pt.cells, Pt.slots] at X4 l4 y4 z4 st4 hQ4
  subst l4 y4 z4
  obtain ⟨rfl, N4q, hq4⟩ := hQ4
  have N4 := Fr.app N2 N4q
  obtain ⟨b5, T5, h5, kk5, X5, e5, E5, hS5, hk5, hZ5, hown5, st5⟩ := ldcS (s := s) (vm0 := T3.vm) X4 hx hZ3 hown3 (hw _ (List.mem_of_getElem? (i := 20) rfl)) wS hq4 hS3 hk3 (g := (mkF m 19 #[.val (.long q1), .second, .val (.int p1), .val (.long q2), .second, .unset, .unset, .unset, .unset] [])) rfl (hb hby d1_19) (n := 24) (by decide) (by decide) (by decide) (by decide)
  have K5 : Keep h0 h5 [] := K3.ext E5
  obtain ⟨_, _, ⟨T6, L6, k6, n6⟩, -, X6, ⟨Lc6, hQ6, l6, y6, z6⟩, st6⟩ := Jvm.LawKit.callS X5 hx (y := (⟨"com/example/nonce/nonce/id/UuidV7", "requireWithin", "(Ljava/lang/String;JJ)V"⟩ : MethodName)) hown5 (mvT hZ5 (hw _ (List.mem_of_getElem? (i := 15) rfl))) (mvT hZ5 (hw _ (List.mem_of_getElem? (i := 16) rfl))) (mvT hZ5 (hw _ (List.mem_of_getElem? (i := 4) rfl))) (mvT hZ5 (hw _ (List.mem_of_getElem? (i := 17) rfl))) (by decide) (backOf (W := 0) (rmR l Z a0 hw [] b5 q2 (4611686018427387903 : Int64)  h5 n0 (Nat.le_trans (Nat.le_trans (Nat.le_trans Z0 E1.1) E3.1) E5.1) c5 c6) hZ5 (hw _ (List.mem_of_getElem? (i := 17) rfl)) (hw _ (List.mem_of_getElem? (i := 4) rfl)) (by decide) (by decide)) (g := (mkF m 25 #[.val (.long q1), .second, .val (.int p1), .val (.long q2), .second, .unset, .unset, .unset, .unset] [(.long (4611686018427387903 : Int64)), (.long q2), (.ref b5)])) rfl (by rw [hml]; rfl) (argsL := [(.ref b5), (.long q2), (.long (4611686018427387903 : Int64))]) (rest := []) (lenOf pd_0 rfl) rfl (by show 2 * 0 + _ ≤ _; exact Nat.le_of_eq rfl) (hb hby d1_25) (fun _ _ => ⟨rfl, e5, (by decide : 6 + 0 ≤ _), (by decide : 100 + 0 ≤ _)⟩)
  dsimp only [Pt.U, Pt.locs, Pt.cells, Pt.slots] at X6 l6 y6 z6 st6 hQ6
  subst l6 y6 z6
  obtain ⟨rfl, N6q, hq6⟩ := hQ6
  have N6 := Fr.app N4 N6q
  obtain ⟨T7, h7, X7, e7, E7, A7, D7, -, st7⟩ := newO X6 hx hZ5 hown5 (hw _ (List.mem_of_getElem? (i := 24) rfl)) (hw _ (List.mem_of_getElem? (i := 25) rfl)) (hw _ (List.mem_of_getElem? (i := 26) rfl)) hq6 (g := (mkF m 48 #[.val (.long q1), .second, .val (.int p1), .val (.long q2), .second, .val (.long (((q1 <<< ((16 : Int32) &&& 0x3f).toInt64) ||| (28672 : Int64)) ||| (p1.toInt64))), .second, .val (.long ((-9223372036854775808 : Int64) ||| q2)), .second] [])) rfl (hb hby d1_48) (by decide) (by decide)
  obtain ⟨b7, g7⟩ : ∃ z, z = h5.size := ⟨_, rfl⟩
  rw [← g7] at A7 D7 st7
  have F7_mostSigBits : Fld Z h7 b7 "java/util/UUID" "mostSigBits" "J" (.long (0 : Int64)) := D7 (Or.inr (hw _ (List.mem_of_getElem? (i := 34) rfl))) (ty := .long) (by decide)
  have F7_leastSigBits : Fld Z h7 b7 "java/util/UUID" "leastSigBits" "J" (.long (0 : Int64)) := D7 (Or.inr (hw _ (List.mem_of_getElem? (i := 36) rfl))) (ty := .long) (by decide)
  have g_b7 : n0 ≤ b7 := Nat.le_trans (Nat.le_trans (Nat.le_trans (Nat.le_trans Z0 E1.1) E3.1) E5.1) (Nat.le_of_eq g7.symm)
  have sz_b7 : h0.size ≤ b7 := (Nat.le_trans K5.1 (Nat.le_of_eq g7.symm))
  have K7 : Keep h0 h7 [] := K5.ext E7
  obtain ⟨_, _, ⟨T8, L8, k8, n8⟩, -, X8, ⟨Lc8, hQ8, l8, y8, z8⟩, st8⟩ := X7.specialBack hx (y := (⟨"java/util/UUID", "<init>", "(JJ)V"⟩ : MethodName)) rfl hown5 (mvT hZ5 (hw _ (List.mem_of_getElem? (i := 27) rfl))) (mvT hZ5 (hw _ (List.mem_of_getElem? (i := 28) rfl))) (mvT hZ5 (hw _ (List.mem_of_getElem? (i := 29) rfl))) (by decide) (backOf (W := 1) (rmU l Z a0 hw [] b7 (((q1 <<< ((16 : Int32) &&& 0x3f).toInt64) ||| (28672 : Int64)) ||| (p1.toInt64)) ((-9223372036854775808 : Int64) ||| q2)  h7 n0 (Nat.le_trans (Nat.le_trans (Nat.le_trans (Nat.le_trans Z0 E1.1) E3.1) E5.1) E7.1) F7_mostSigBits F7_leastSigBits A7 g_b7) hZ5 (hw _ (List.mem_of_getElem? (i := 29) rfl)) (hw _ (List.mem_of_getElem? (i := 26) rfl)) (by decide) (by decide)) (g := (mkF m 56 #[.val (.long q1), .second, .val (.int p1), .val (.long q2), .second, .val (.long (((q1 <<< ((16 : Int32) &&& 0x3f).toInt64) ||| (28672 : Int64)) ||| (p1.toInt64))), .second, .val (.long ((-9223372036854775808 : Int64) ||| q2)), .second] [(.long ((-9223372036854775808 : Int64) ||| q2)), (.long (((q1 <<< ((16 : Int32) &&& 0x3f).toInt64) ||| (28672 : Int64)) ||| (p1.toInt64))), (.ref b7), (.ref b7)])) rfl (by rw [hml]; rfl) (Steps.refl _) (a := b7) (argsL := [(.long (((q1 <<< ((16 : Int32) &&& 0x3f).toInt64) ||| (28672 : Int64)) ||| (p1.toInt64))), (.long ((-9223372036854775808 : Int64) ||| q2))]) (rest := [(.ref b7)]) (lenOf pd_1 rfl) rfl (by show 2 * 0 + _ ≤ _; exact Nat.le_of_eq rfl) (hb hby d1_56) (fun _ _ => ⟨rfl, e7, (by decide : 7 + 0 ≤ _), (by decide : 102 + 0 ≤ _)⟩)
  dsimp only [Pt.U, Pt.locs, Pt.cells, Pt.slots] at X8 l8 y8 z8 st8 hQ8
  subst l8 y8 z8
  obtain ⟨rfl, N8q, Kq8, Eq8, F1q8, F2q8⟩ := hQ8
  have N8 := Fr.app N6 N8q
  have K8 : Keep h0 T8.heap [] := K7.trans Kq8 (allS (Or.inr sz_b7) all0)
  have pre9 : ∀ t, Steps p.tables e below (T8.setTop (mkF m 59 #[.val (.long q1), .second, .val (.int p1), .val (.long q2), .second, .val (.long (((q1 <<< ((16 : Int32) &&& 0x3f).toInt64) ||| (28672 : Int64)) ||| (p1.toInt64))), .second, .val (.long ((-9223372036854775808 : Int64) ||| q2)), .second] [(.ref b7)])) t → Steps p.tables e below (s₁.setTop (entryFrame m #[(.long q1), (.int p1), (.long q2)] 9)) t := by
    intro t k
    refine pre0 t ?_
    show Steps p.tables e below (s₁.setTop (mkF m 0 #[.val (.long q1), .second, .val (.int p1), .val (.long q2), .second, .unset, .unset, .unset, .unset] [])) _
    refine st1 _ ?_
    show Steps p.tables e below (T1.setTop (mkF m 2 #[.val (.long q1), .second, .val (.int p1), .val (.long q2), .second, .unset, .unset, .unset, .unset] [(.ref b1)])) _
    refine XS.lloadN X1.here hx rfl (hb hby d1_2) rfl ?_
    show Steps p.tables e below (T1.setTop (mkF m 3 #[.val (.long q1), .second, .val (.int p1), .val (.long q2), .second, .unset, .unset, .unset, .unset] [(.long q1), (.ref b1)])) _
    refine X1.ldc2Long hx hown1 (mvT hZ1 (hw _ (List.mem_of_getElem? (i := 14) rfl))) (g := (mkF m 3 #[.val (.long q1), .second, .val (.int p1), .val (.long q2), .second, .unset, .unset, .unset, .unset] [(.long q1), (.ref b1)])) rfl (hb hby d1_3) _ ?_
    show Steps p.tables e below (T1.setTop (mkF m 6 #[.val (.long q1), .second, .val (.int p1), .val (.long q2), .second, .unset, .unset, .unset, .unset] [(.long (281474976710655 : Int64)), (.long q1), (.ref b1)])) _
    refine st2 _ ?_
    show Steps p.tables e below (T2.setTop (mkF m 9 #[.val (.long q1), .second, .val (.int p1), .val (.long q2), .second, .unset, .unset, .unset, .unset] [])) _
    refine st3 _ ?_
    show Steps p.tables e below (T3.setTop (mkF m 11 #[.val (.long q1), .second, .val (.int p1), .val (.long q2), .second, .unset, .unset, .unset, .unset] [(.ref b3)])) _
    refine XS.iloadN X3.here hx rfl (hb hby d1_11) rfl ?_
    show Steps p.tables e below (T3.setTop (mkF m 12 #[.val (.long q1), .second, .val (.int p1), .val (.long q2), .second, .unset, .unset, .unset, .unset] [(.int p1), (.ref b3)])) _
    refine XS.i2l X3.here hx rfl (hb hby d1_12) rfl ?_
    show Steps p.tables e below (T3.setTop (mkF m 13 #[.val (.long q1), .second, .val (.int p1), .val (.long q2), .second, .unset, .unset, .unset, .unset] [(.long (p1.toInt64)), (.ref b3)])) _
    refine X3.ldc2Long hx hown3 (mvT hZ3 (hw _ (List.mem_of_getElem? (i := 19) rfl))) (g := (mkF m 13 #[.val (.long q1), .second, .val (.int p1), .val (.long q2), .second, .unset, .unset, .unset, .unset] [(.long (p1.toInt64)), (.ref b3)])) rfl (hb hby d1_13) _ ?_
    show Steps p.tables e below (T3.setTop (mkF m 16 #[.val (.long q1), .second, .val (.int p1), .val (.long q2), .second, .unset, .unset, .unset, .unset] [(.long (4095 : Int64)), (.long (p1.toInt64)), (.ref b3)])) _
    refine st4 _ ?_
    show Steps p.tables e below (T4.setTop (mkF m 19 #[.val (.long q1), .second, .val (.int p1), .val (.long q2), .second, .unset, .unset, .unset, .unset] [])) _
    refine st5 _ ?_
    show Steps p.tables e below (T5.setTop (mkF m 21 #[.val (.long q1), .second, .val (.int p1), .val (.long q2), .second, .unset, .unset, .unset, .unset] [(.ref b5)])) _
    refine XS.lloadN X5.here hx rfl (hb hby d1_21) rfl ?_
    show Steps p.tables e below (T5.setTop (mkF m 22 #[.val (.long q1), .second, .val (.int p1), .val (.long q2), .second, .unset, .unset, .unset, .unset] [(.long q2), (.ref b5)])) _
    refine X5.ldc2Long hx hown5 (mvT hZ5 (hw _ (List.mem_of_getElem? (i := 21) rfl))) (g := (mkF m 22 #[.val (.long q1), .second, .val (.int p1), .val (.long q2), .second, .unset, .unset, .unset, .unset] [(.long q2), (.ref b5)])) rfl (hb hby d1_22) _ ?_
    show Steps p.tables e below (T5.setTop (mkF m 25 #[.val (.long q1), .second, .val (.int p1), .val (.long q2), .second, .unset, .unset, .unset, .unset] [(.long (4611686018427387903 : Int64)), (.long q2), (.ref b5)])) _
    refine st6 _ ?_
    show Steps p.tables e below (T6.setTop (mkF m 28 #[.val (.long q1), .second, .val (.int p1), .val (.long q2), .second, .unset, .unset, .unset, .unset] [])) _
    refine XS.lloadN X6.here hx rfl (hb hby d1_28) rfl ?_
    show Steps p.tables e below (T6.setTop (mkF m 29 #[.val (.long q1), .second, .val (.int p1), .val (.long q2), .second, .unset, .unset, .unset, .unset] [(.long q1)])) _
    refine XS.bipush X6.here hx rfl (hb hby d1_29) ?_
    show Steps p.tables e below (T6.setTop (mkF m 31 #[.val (.long q1), .second, .val (.int p1), .val (.long q2), .second, .unset, .unset, .unset, .unset] [(.int (16 : Int32)), (.long q1)])) _
    refine XS.lshl X6.here hx rfl (hb hby d1_31) rfl ?_
    show Steps p.tables e below (T6.setTop (mkF m 32 #[.val (.long q1), .second, .val (.int p1), .val (.long q2), .second, .unset, .unset, .unset, .unset] [(.long (q1 <<< ((16 : Int32) &&& 0x3f).toInt64))])) _
    refine X6.ldc2Long hx hown5 (mvT hZ5 (hw _ (List.mem_of_getElem? (i := 22) rfl))) (g := (mkF m 32 #[.val (.long q1), .second, .val (.int p1), .val (.long q2), .second, .unset, .unset, .unset, .unset] [(.long (q1 <<< ((16 : Int32) &&& 0x3f).toInt64))])) rfl (hb hby d1_32) _ ?_
    show Steps p.tables e below (T6.setTop (mkF m 35 #[.val (.long q1), .second, .val (.int p1), .val (.long q2), .second, .unset, .unset, .unset, .unset] [(.long (28672 : Int64)), (.long (q1 <<< ((16 : Int32) &&& 0x3f).toInt64))])) _
    refine XS.lor X6.here hx rfl (hb hby d1_35) rfl ?_
    show Steps p.tables e below (T6.setTop (mkF m 36 #[.val (.long q1), .second, .val (.int p1), .val (.long q2), .second, .unset, .unset, .unset, .unset] [(.long ((q1 <<< ((16 : Int32) &&& 0x3f).toInt64) ||| (28672 : Int64)))])) _
    refine XS.iloadN X6.here hx rfl (hb hby d1_36) rfl ?_
    show Steps p.tables e below (T6.setTop (mkF m 37 #[.val (.long q1), .second, .val (.int p1), .val (.long q2), .second, .unset, .unset, .unset, .unset] [(.int p1), (.long ((q1 <<< ((16 : Int32) &&& 0x3f).toInt64) ||| (28672 : Int64)))])) _
    refine XS.i2l X6.here hx rfl (hb hby d1_37) rfl ?_
    show Steps p.tables e below (T6.setTop (mkF m 38 #[.val (.long q1), .second, .val (.int p1), .val (.long q2), .second, .unset, .unset, .unset, .unset] [(.long (p1.toInt64)), (.long ((q1 <<< ((16 : Int32) &&& 0x3f).toInt64) ||| (28672 : Int64)))])) _
    refine XS.lor X6.here hx rfl (hb hby d1_38) rfl ?_
    show Steps p.tables e below (T6.setTop (mkF m 39 #[.val (.long q1), .second, .val (.int p1), .val (.long q2), .second, .unset, .unset, .unset, .unset] [(.long (((q1 <<< ((16 : Int32) &&& 0x3f).toInt64) ||| (28672 : Int64)) ||| (p1.toInt64)))])) _
    refine XS.lstore X6.here hx rfl (hb hby d1_39) rfl (l' := #[.val (.long q1), .second, .val (.int p1), .val (.long q2), .second, .val (.long (((q1 <<< ((16 : Int32) &&& 0x3f).toInt64) ||| (28672 : Int64)) ||| (p1.toInt64))), .second, .unset, .unset]) rfl ?_
    show Steps p.tables e below (T6.setTop (mkF m 41 #[.val (.long q1), .second, .val (.int p1), .val (.long q2), .second, .val (.long (((q1 <<< ((16 : Int32) &&& 0x3f).toInt64) ||| (28672 : Int64)) ||| (p1.toInt64))), .second, .unset, .unset] [])) _
    refine X6.ldc2Long hx hown5 (mvT hZ5 (hw _ (List.mem_of_getElem? (i := 23) rfl))) (g := (mkF m 41 #[.val (.long q1), .second, .val (.int p1), .val (.long q2), .second, .val (.long (((q1 <<< ((16 : Int32) &&& 0x3f).toInt64) ||| (28672 : Int64)) ||| (p1.toInt64))), .second, .unset, .unset] [])) rfl (hb hby d1_41) _ ?_
    show Steps p.tables e below (T6.setTop (mkF m 44 #[.val (.long q1), .second, .val (.int p1), .val (.long q2), .second, .val (.long (((q1 <<< ((16 : Int32) &&& 0x3f).toInt64) ||| (28672 : Int64)) ||| (p1.toInt64))), .second, .unset, .unset] [(.long (-9223372036854775808 : Int64))])) _
    refine XS.lloadN X6.here hx rfl (hb hby d1_44) rfl ?_
    show Steps p.tables e below (T6.setTop (mkF m 45 #[.val (.long q1), .second, .val (.int p1), .val (.long q2), .second, .val (.long (((q1 <<< ((16 : Int32) &&& 0x3f).toInt64) ||| (28672 : Int64)) ||| (p1.toInt64))), .second, .unset, .unset] [(.long q2), (.long (-9223372036854775808 : Int64))])) _
    refine XS.lor X6.here hx rfl (hb hby d1_45) rfl ?_
    show Steps p.tables e below (T6.setTop (mkF m 46 #[.val (.long q1), .second, .val (.int p1), .val (.long q2), .second, .val (.long (((q1 <<< ((16 : Int32) &&& 0x3f).toInt64) ||| (28672 : Int64)) ||| (p1.toInt64))), .second, .unset, .unset] [(.long ((-9223372036854775808 : Int64) ||| q2))])) _
    refine XS.lstore X6.here hx rfl (hb hby d1_46) rfl (l' := #[.val (.long q1), .second, .val (.int p1), .val (.long q2), .second, .val (.long (((q1 <<< ((16 : Int32) &&& 0x3f).toInt64) ||| (28672 : Int64)) ||| (p1.toInt64))), .second, .val (.long ((-9223372036854775808 : Int64) ||| q2)), .second]) rfl ?_
    show Steps p.tables e below (T6.setTop (mkF m 48 #[.val (.long q1), .second, .val (.int p1), .val (.long q2), .second, .val (.long (((q1 <<< ((16 : Int32) &&& 0x3f).toInt64) ||| (28672 : Int64)) ||| (p1.toInt64))), .second, .val (.long ((-9223372036854775808 : Int64) ||| q2)), .second] [])) _
    refine st7 _ ?_
    show Steps p.tables e below (T7.setTop (mkF m 51 #[.val (.long q1), .second, .val (.int p1), .val (.long q2), .second, .val (.long (((q1 <<< ((16 : Int32) &&& 0x3f).toInt64) ||| (28672 : Int64)) ||| (p1.toInt64))), .second, .val (.long ((-9223372036854775808 : Int64) ||| q2)), .second] [(.ref b7)])) _
    refine XS.dup X7.here hx rfl (hb hby d1_51) rfl rfl ?_
    show Steps p.tables e below (T7.setTop (mkF m 52 #[.val (.long q1), .second, .val (.int p1), .val (.long q2), .second, .val (.long (((q1 <<< ((16 : Int32) &&& 0x3f).toInt64) ||| (28672 : Int64)) ||| (p1.toInt64))), .second, .val (.long ((-9223372036854775808 : Int64) ||| q2)), .second] [(.ref b7), (.ref b7)])) _
    refine XS.lload X7.here hx rfl (hb hby d1_52) rfl ?_
    show Steps p.tables e below (T7.setTop (mkF m 54 #[.val (.long q1), .second, .val (.int p1), .val (.long q2), .second, .val (.long (((q1 <<< ((16 : Int32) &&& 0x3f).toInt64) ||| (28672 : Int64)) ||| (p1.toInt64))), .second, .val (.long ((-9223372036854775808 : Int64) ||| q2)), .second] [(.long (((q1 <<< ((16 : Int32) &&& 0x3f).toInt64) ||| (28672 : Int64)) ||| (p1.toInt64))), (.ref b7), (.ref b7)])) _
    refine XS.lload X7.here hx rfl (hb hby d1_54) rfl ?_
    show Steps p.tables e below (T7.setTop (mkF m 56 #[.val (.long q1), .second, .val (.int p1), .val (.long q2), .second, .val (.long (((q1 <<< ((16 : Int32) &&& 0x3f).toInt64) ||| (28672 : Int64)) ||| (p1.toInt64))), .second, .val (.long ((-9223372036854775808 : Int64) ||| q2)), .second] [(.long ((-9223372036854775808 : Int64) ||| q2)), (.long (((q1 <<< ((16 : Int32) &&& 0x3f).toInt64) ||| (28672 : Int64)) ||| (p1.toInt64))), (.ref b7), (.ref b7)])) _
    refine st8.trans ?_
    show Steps p.tables e below (T8.setTop (mkF m 59 #[.val (.long q1), .second, .val (.int p1), .val (.long q2), .second, .val (.long (((q1 <<< ((16 : Int32) &&& 0x3f).toInt64) ||| (28672 : Int64)) ||| (p1.toInt64))), .second, .val (.long ((-9223372036854775808 : Int64) ||| q2)), .second] [(.ref b7)])) _
    exact k
  obtain ⟨fs, hr, hrun, hended, hq⟩ := X8.leaveW (s := s) (vm₁ := T5.vm) hS5 (Nat.le_trans (Nat.le_trans hk5 E7.1) Kq8.1) (v := some (.ref b7)) (fun h => by rw [Bd.returns] at h; cases h)
  refine ⟨_, _, pre9 _ ?_, hrun, hended, _, _, rfl, ?_, hq.1, hq.2.1, hq.2.2.1, hq.2.2.2.mono (by decide) (by decide)⟩
  · exact retOut X8 hx Bd.returns (by first | rfl | simp [narrow]) (Or.inr (Or.inr (Or.inr (Or.inr ⟨rfl, rfl, rfl⟩)))) (hb hby d1_59) hr
  · show Q_rmF Z q1 p1 q2 h0 n0 _ T8.heap _
    exact ⟨b7, rfl, N8, K8, Eq8, F1q8, F2q8⟩
theorem ef_rm0 (m : MethodId) (x0 : Int64) (x1 : Int32) (x2 : Int64) : entryFrame m #[(.long x0), (.int x1), (.long x2)] maxLocals = mkF m 0 #[.val (.long x0), .second, .val (.int x1), .val (.long x2), .second, .unset, .unset, .unset, .unset, .unset, .unset, .unset, .unset, .unset, .unset, .unset, .unset, .unset, .unset, .unset] [] := by first | (simp [entryFrame, mkF, argsToLocals, Value.category, maxLocals]; done) | rfl
theorem pn_1 : plainName "com/example/nonce/nonce/id/UuidV7FromFieldsPinLaw" = true := by first | (simp [plainName, overriddenIn]; done) | decide +kernel
theorem pd_2 : parseMethodDescriptor "(JIJ)Ljava/util/UUID;" = some ⟨[.long, .int, .long], some (.object "java/util/UUID")⟩ := by decide +kernel
theorem pd_3 : parseMethodDescriptor "()J" = some ⟨[], some .long⟩ := by decide +kernel
def Q_rm0 (Z : State) (q1 : Int64) (p1 : Int32) (q2 : Int64) (h0 : Heap) (n0 : Nat) (v : Option Value) (h : Heap) (L : List Loc) : Prop := v = some (.int 1) ∧ Fr n0 L
set_option maxRecDepth 65536 in
set_option maxHeartbeats 40000000 in
theorem rm0 (l : Launch) (Z : State) (a0 : Array Value) (hw : ∀ d ∈ tables_1, d.before a0 Z = true) (ws : List Jvm.Cond) (q1 : Int64) (p1 : Int32) (q2 : Int64) (h0 : Heap) (n0 : Nat) (Z0 : n0 ≤ h0.size) :
    MetFree l x (head1 (Jvm.Cond.code x code maxLocals ret :: ws) room_1) (fun a U => a = #[(.long q1), (.int p1), (.long q2)] ∧ Z.Warmed39 U.vm ∧ U.heap = h0) (fun _ _ _ _ _ => True) (fun _ U o U' => ∃ v L, o = .returned v ∧ Q_rm0 Z q1 p1 q2 h0 n0 v U'.heap L ∧ ReturnedEndW U o U' L room_1.cells room_1.slots) := by
  refine MetFree.of_bodySF (plainFor_of_name pn_1) hisR ?_
  intro p e s m args below meth c s₁ Bd hml0 hP hK
  obtain ⟨rfl, hZ, hh⟩ := hP
  have hx := Bd.exec
  have hby := Bd.bytes
  have hml : c.maxLocals = 20 := hml0
  have hown : s.vm.findClass "com/example/nonce/nonce/id/UuidV7FromFieldsPinLaw" = some m.cls := (findClass_of_methodNamed Bd.named :)
  have hnm := (name_of_methodNamed Bd.named Bd.method).1
  have X0 : Stand p l e room_1 s m #[(.long q1), (.int p1), (.long q2)] below meth c s₁ [] 0 0 := Stand.of_body Bd
  have e0 : s₁.heap = h0 := by rw [← hh, Bd.state]; rfl
  have N0 := Fr.nil n0
  have pre0 : ∀ t, Steps p.tables e below (s₁.setTop (mkF m 0 #[.val (.long q1), .second, .val (.int p1), .val (.long q2), .second, .unset, .unset, .unset, .unset, .unset, .unset, .unset, .unset, .unset, .unset, .unset, .unset, .unset, .unset, .unset] [])) t → Steps p.tables e below (s₁.setTop (entryFrame m #[(.long q1), (.int p1), (.long q2)] maxLocals)) t := fun t k => castTop (ef_rm0 m q1 p1 q2) k
  have hS0 : s.Since s.vm 0 := (State.WarmedH.refl s).since 0
  have hk0 : 0 ≤ h0.size := Nat.zero_le _
  have wS := own_wS hw
  have pre1 : ∀ t, Steps p.tables e below (s₁.setTop (mkF m 5 #[.val (.long q1), .second, .val (.int p1), .val (.long q2), .second, .unset, .unset, .unset, .unset, .unset, .unset, .unset, .unset, .unset, .unset, .unset, .unset, .unset, .unset, .unset] [(.long (q1 &&& (281474976710655 : Int64)))])) t → Steps p.tables e below (s₁.setTop (entryFrame m #[(.long q1), (.int p1), (.long q2)] maxLocals)) t := by
    intro t k
    refine pre0 t ?_
    show Steps p.tables e below (s₁.setTop (mkF m 0 #[.val (.long q1), .second, .val (.int p1), .val (.long q2), .second, .unset, .unset, .unset, .unset, .unset, .unset, .unset, .unset, .unset, .unset, .unset, .unset, .unset, .unset, .unset] [])) _
    refine XS.lloadN X0.here hx rfl (hb hby at_0) rfl ?_
    show Steps p.tables e below (s₁.setTop (mkF m 1 #[.val (.long q1), .second, .val (.int p1), .val (.long q2), .second, .unset, .unset, .unset, .unset, .unset, .unset, .unset, .unset, .unset, .unset, .unset, .unset, .unset, .unset, .unset] [(.long q1)])) _
    refine X0.ldc2Long hx hown (mvT hZ (hw _ (List.mem_of_getElem? (i := 0) rfl))) (g := (mkF m 1 #[.val (.long q1), .second, .val (.int p1), .val (.long q2), .second, .unset, .unset, .unset, .unset, .unset, .unset, .unset, .unset, .unset, .unset, .unset, .unset, .unset, .unset, .unset] [(.long q1)])) rfl (hb hby at_1) _ ?_
    show Steps p.tables e below (s₁.setTop (mkF m 4 #[.val (.long q1), .second, .val (.int p1), .val (.long q2), .second, .unset, .unset, .unset, .unset, .unset, .unset, .unset, .unset, .unset, .unset, .unset, .unset, .unset, .unset, .unset] [(.long (281474976710655 : Int64)), (.long q1)])) _
    refine XS.land X0.here hx rfl (hb hby at_4) rfl ?_
    show Steps p.tables e below (s₁.setTop (mkF m 5 #[.val (.long q1), .second, .val (.int p1), .val (.long q2), .second, .unset, .unset, .unset, .unset, .unset, .unset, .unset, .unset, .unset, .unset, .unset, .unset, .unset, .unset, .unset] [(.long (q1 &&& (281474976710655 : Int64)))])) _
    exact k
  obtain ⟨tm, htm⟩ : ∃ z : Int64, z = (q1 &&& (281474976710655 : Int64)) := ⟨_, rfl⟩
  rw [← htm] at pre1
  have pre2 : ∀ t, Steps p.tables e below (s₁.setTop (mkF m 12 #[.val (.long q1), .second, .val (.int p1), .val (.long q2), .second, .val (.long tm), .second, .unset, .unset, .unset, .unset, .unset, .unset, .unset, .unset, .unset, .unset, .unset, .unset, .unset] [(.int (p1 &&& (4095 : Int32)))])) t → Steps p.tables e below (s₁.setTop (entryFrame m #[(.long q1), (.int p1), (.long q2)] maxLocals)) t := by
    intro t k
    refine pre1 t ?_
    show Steps p.tables e below (s₁.setTop (mkF m 5 #[.val (.long q1), .second, .val (.int p1), .val (.long q2), .second, .unset, .unset, .unset, .unset, .unset, .unset, .unset, .unset, .unset, .unset, .unset, .unset, .unset, .unset, .unset] [(.long tm)])) _
    refine XS.lstore X0.here hx rfl (hb hby at_5) rfl (l' := #[.val (.long q1), .second, .val (.int p1), .val (.long q2), .second, .val (.long tm), .second, .unset, .unset, .unset, .unset, .unset, .unset, .unset, .unset, .unset, .unset, .unset, .unset, .unset]) rfl ?_
    show Steps p.tables e below (s₁.setTop (mkF m 7 #[.val (.long q1), .second, .val (.int p1), .val (.long q2), .second, .val (.long tm), .second, .unset, .unset, .unset, .unset, .unset, .unset, .unset, .unset, .unset, .unset, .unset, .unset, .unset] [])) _
    refine XS.iloadN X0.here hx rfl (hb hby at_7) rfl ?_
    show Steps p.tables e below (s₁.setTop (mkF m 8 #[.val (.long q1), .second, .val (.int p1), .val (.long q2), .second, .val (.long tm), .second, .unset, .unset, .unset, .unset, .unset, .unset, .unset, .unset, .unset, .unset, .unset, .unset, .unset] [(.int p1)])) _
    refine XS.sipush X0.here hx rfl (hb hby at_8) ?_
    show Steps p.tables e below (s₁.setTop (mkF m 11 #[.val (.long q1), .second, .val (.int p1), .val (.long q2), .second, .val (.long tm), .second, .unset, .unset, .unset, .unset, .unset, .unset, .unset, .unset, .unset, .unset, .unset, .unset, .unset] [(.int (4095 : Int32)), (.int p1)])) _
    refine XS.iand X0.here hx rfl (hb hby at_11) rfl ?_
    show Steps p.tables e below (s₁.setTop (mkF m 12 #[.val (.long q1), .second, .val (.int p1), .val (.long q2), .second, .val (.long tm), .second, .unset, .unset, .unset, .unset, .unset, .unset, .unset, .unset, .unset, .unset, .unset, .unset, .unset] [(.int (p1 &&& (4095 : Int32)))])) _
    exact k
  obtain ⟨ra, hra⟩ : ∃ z : Int32, z = (p1 &&& (4095 : Int32)) := ⟨_, rfl⟩
  rw [← hra] at pre2
  have pre3 : ∀ t, Steps p.tables e below (s₁.setTop (mkF m 19 #[.val (.long q1), .second, .val (.int p1), .val (.long q2), .second, .val (.long tm), .second, .val (.int ra), .unset, .unset, .unset, .unset, .unset, .unset, .unset, .unset, .unset, .unset, .unset, .unset] [(.long (q2 &&& (4611686018427387903 : Int64)))])) t → Steps p.tables e below (s₁.setTop (entryFrame m #[(.long q1), (.int p1), (.long q2)] maxLocals)) t := by
    intro t k
    refine pre2 t ?_
    show Steps p.tables e below (s₁.setTop (mkF m 12 #[.val (.long q1), .second, .val (.int p1), .val (.long q2), .second, .val (.long tm), .second, .unset, .unset, .unset, .unset, .unset, .unset, .unset, .unset, .unset, .unset, .unset, .unset, .unset] [(.int ra)])) _
    refine XS.istore X0.here hx rfl (hb hby at_12) rfl (l' := #[.val (.long q1), .second, .val (.int p1), .val (.long q2), .second, .val (.long tm), .second, .val (.int ra), .unset, .unset, .unset, .unset, .unset, .unset, .unset, .unset, .unset, .unset, .unset, .unset]) rfl ?_
    show Steps p.tables e below (s₁.setTop (mkF m 14 #[.val (.long q1), .second, .val (.int p1), .val (.long q2), .second, .val (.long tm), .second, .val (.int ra), .unset, .unset, .unset, .unset, .unset, .unset, .unset, .unset, .unset, .unset, .unset, .unset] [])) _
    refine XS.lloadN X0.here hx rfl (hb hby at_14) rfl ?_
    show Steps p.tables e below (s₁.setTop (mkF m 15 #[.val (.long q1), .second, .val (.int p1), .val (.long q2), .second, .val (.long tm), .second, .val (.int ra), .unset, .unset, .unset, .unset, .unset, .unset, .unset, .unset, .unset, .unset, .unset, .unset] [(.long q2)])) _
    refine X0.ldc2Long hx hown (mvT hZ (hw _ (List.mem_of_getElem? (i := 1) rfl))) (g := (mkF m 15 #[.val (.long q1), .second, .val (.int p1), .val (.long q2), .second, .val (.long tm), .second, .val (.int ra), .unset, .unset, .unset, .unset, .unset, .unset, .unset, .unset, .unset, .unset, .unset, .unset] [(.long q2)])) rfl (hb hby at_15) _ ?_
    show Steps p.tables e below (s₁.setTop (mkF m 18 #[.val (.long q1), .second, .val (.int p1), .val (.long q2), .second, .val (.long tm), .second, .val (.int ra), .unset, .unset, .unset, .unset, .unset, .unset, .unset, .unset, .unset, .unset, .unset, .unset] [(.long (4611686018427387903 : Int64)), (.long q2)])) _
    refine XS.land X0.here hx rfl (hb hby at_18) rfl ?_
    show Steps p.tables e below (s₁.setTop (mkF m 19 #[.val (.long q1), .second, .val (.int p1), .val (.long q2), .second, .val (.long tm), .second, .val (.int ra), .unset, .unset, .unset, .unset, .unset, .unset, .unset, .unset, .unset, .unset, .unset, .unset] [(.long (q2 &&& (4611686018427387903 : Int64)))])) _
    exact k
  obtain ⟨rb, hrb⟩ : ∃ z : Int64, z = (q2 &&& (4611686018427387903 : Int64)) := ⟨_, rfl⟩
  rw [← hrb] at pre3
  obtain ⟨t0, t1, t2⟩ := own_t htm
  obtain ⟨a0', a1, a2⟩ := own_a hra
  obtain ⟨b0, b1, b2⟩ := own_b hrb
  obtain ⟨r1, r2, r3, r4, r5⟩ := own_law t0 a0' b0
  obtain ⟨_, _, ⟨T4, L4, k4, n4⟩, -, X4, hS4, gS4, ⟨Lc4, hQ4, l4, y4, z4⟩, st4⟩ := callSS X0 hx (y := (⟨"com/example/nonce/nonce/id/UuidV7", "fromFields", "(JIJ)Ljava/util/UUID;"⟩ : MethodName)) hown (mvT hZ (hw _ (List.mem_of_getElem? (i := 2) rfl))) (mvT hZ (hw _ (List.mem_of_getElem? (i := 3) rfl))) (mvT hZ (hw _ (List.mem_of_getElem? (i := 4) rfl))) (mvT hZ (hw _ (List.mem_of_getElem? (i := 5) rfl))) (by decide) (backOfS (W := 0) (rmF l Z a0 hw [] tm ra rb  h0 n0 Z0 t1 t2 a1 a2 b1 b2) hZ (hw _ (List.mem_of_getElem? (i := 5) rfl)) (hw _ (List.mem_of_getElem? (i := 4) rfl)) (by decide) (by decide)) (g := (mkF m 27 #[.val (.long q1), .second, .val (.int p1), .val (.long q2), .second, .val (.long tm), .second, .val (.int ra), .val (.long rb), .second, .unset, .unset, .unset, .unset, .unset, .unset, .unset, .unset, .unset, .unset] [(.long rb), (.int ra), (.long tm)])) rfl (by rw [hml]; rfl) (argsL := [(.long tm), (.int ra), (.long rb)]) (rest := []) (lenOf pd_2 rfl) rfl (by show 2 * 0 + _ ≤ _; exact Nat.le_of_eq rfl) (hb hby at_27) (fun _ _ => ⟨rfl, e0, (by decide : 0 + 7 ≤ _), (by decide : 0 + 102 ≤ _)⟩)
  dsimp only [Pt.U, Pt.locs, Pt.cells, Pt.slots] at X4 l4 y4 z4 st4 hQ4
  subst l4 y4 z4
  dsimp only [Pt.U] at hS4 gS4
  have hZ4 : Z.Warmed39 (s.setVm T4.vm).vm := State.Warmed39.trans hZ hS4.1
  have hown4 : (s.setVm T4.vm).vm.findClass "com/example/nonce/nonce/id/UuidV7FromFieldsPinLaw" = some m.cls := (hS4.1.alike.findClass _ _).trans hown
  obtain ⟨ar4, rfl, N4q, Kq4, Eq4, F1q4, F2q4⟩ := hQ4
  have N4 := Fr.app N0 N4q
  have K4 : Keep h0 T4.heap [] := (Keep.refl h0 []).trans Kq4 all0
  obtain ⟨cq5, kq5, q5a, q5b, q5c⟩ := isOf hZ4 rfl Eq4
  obtain ⟨_, _, ⟨T5, L5, k5, n5⟩, -, X5, ⟨Lc5, hQ5, l5, y5, z5⟩, st5⟩ := X4.virtualBack hx (y := (⟨"java/util/UUID", "getMostSignificantBits", "()J"⟩ : MethodName)) (z := (⟨"java/util/UUID", "getMostSignificantBits", "()J"⟩ : MethodName)) hown4 (mvT hZ4 (hw _ (List.mem_of_getElem? (i := 37) rfl))) (mvT hZ4 (hw _ (List.mem_of_getElem? (i := 38) rfl))) (notFace_of_selects (args := #[]) (mvT hZ4 (hw _ (List.mem_of_getElem? (i := 40) rfl)))) (mvT hZ4 (hw _ (List.mem_of_getElem? (i := 40) rfl))) (mvT hZ4 (hw _ (List.mem_of_getElem? (i := 39) rfl))) (by decide) (backOf (W := 0) (rmM l Z a0 hw [] ar4 (own_hi tm ra) T4.heap n0 (Nat.le_trans Z0 Kq4.1) F1q4) hZ4 (hw _ (List.mem_of_getElem? (i := 41) rfl)) (hw _ (List.mem_of_getElem? (i := 26) rfl)) (by decide) (by decide)) q5a q5c (g := (mkF m 34 #[.val (.long q1), .second, .val (.int p1), .val (.long q2), .second, .val (.long tm), .second, .val (.int ra), .val (.long rb), .second, .val (.ref ar4), .unset, .unset, .unset, .unset, .unset, .unset, .unset, .unset, .unset] [(.ref ar4)])) rfl (by rw [hml]; rfl) (Steps.refl _) (argsL := []) (rest := []) (lenOf pd_3 rfl) rfl (by show 2 * 0 + _ ≤ _; exact Nat.le_of_eq rfl) (hb hby at_34) (fun _ _ => ⟨rfl, rfl, (by decide : 7 + 0 ≤ _), (by decide : 102 + 0 ≤ _)⟩)
  dsimp only [Pt.U, Pt.locs, Pt.cells, Pt.slots] at X5 l5 y5 z5 st5 hQ5
  subst l5 y5 z5
  obtain ⟨rfl, N5q, hq5⟩ := hQ5
  have N5 := Fr.app N4 N5q
  obtain ⟨cq6, kq6, q6a, q6b, q6c⟩ := isOf hZ4 hq5 Eq4
  obtain ⟨_, _, ⟨T6, L6, k6, n6⟩, -, X6, ⟨Lc6, hQ6, l6, y6, z6⟩, st6⟩ := X5.virtualBack hx (y := (⟨"java/util/UUID", "getLeastSignificantBits", "()J"⟩ : MethodName)) (z := (⟨"java/util/UUID", "getLeastSignificantBits", "()J"⟩ : MethodName)) hown4 (mvT hZ4 (hw _ (List.mem_of_getElem? (i := 42) rfl))) (mvT hZ4 (hw _ (List.mem_of_getElem? (i := 43) rfl))) (notFace_of_selects (args := #[]) (mvT hZ4 (hw _ (List.mem_of_getElem? (i := 45) rfl)))) (mvT hZ4 (hw _ (List.mem_of_getElem? (i := 45) rfl))) (mvT hZ4 (hw _ (List.mem_of_getElem? (i := 44) rfl))) (by decide) (backOf (W := 0) (rmL l Z a0 hw [] ar4 (own_lo rb) T4.heap n0 (Nat.le_trans Z0 Kq4.1) F2q4) hZ4 (hw _ (List.mem_of_getElem? (i := 46) rfl)) (hw _ (List.mem_of_getElem? (i := 26) rfl)) (by decide) (by decide)) q6a q6c (g := (mkF m 41 #[.val (.long q1), .second, .val (.int p1), .val (.long q2), .second, .val (.long tm), .second, .val (.int ra), .val (.long rb), .second, .val (.ref ar4), .val (.long (own_hi tm ra)), .second, .unset, .unset, .unset, .unset, .unset, .unset, .unset] [(.ref ar4)])) rfl (by rw [hml]; rfl) (Steps.refl _) (argsL := []) (rest := []) (lenOf pd_3 rfl) rfl (by show 2 * 0 + _ ≤ _; exact Nat.le_of_eq rfl) (hb hby at_41) (fun _ _ => ⟨rfl, hq5, (by decide : 7 + 0 ≤ _), (by decide : 102 + 0 ≤ _)⟩)
  dsimp only [Pt.U, Pt.locs, Pt.cells, Pt.slots] at X6 l6 y6 z6 st6 hQ6
  subst l6 y6 z6
  obtain ⟨rfl, N6q, hq6⟩ := hQ6
  have N6 := Fr.app N5 N6q
  have pre7 : ∀ t, Steps p.tables e below (T6.setTop (mkF m 175 #[.val (.long q1), .second, .val (.int p1), .val (.long q2), .second, .val (.long tm), .second, .val (.int ra), .val (.long rb), .second, .val (.ref ar4), .val (.long (own_hi tm ra)), .second, .val (.long (own_lo rb)), .second, .val (.int (1 : Int32)), .val (.int (1 : Int32)), .val (.int (1 : Int32)), .val (.int (1 : Int32)), .val (.int (1 : Int32))] [(.int (1 : Int32))])) t → Steps p.tables e below (s₁.setTop (entryFrame m #[(.long q1), (.int p1), (.long q2)] maxLocals)) t := by
    intro t k
    refine pre3 t ?_
    show Steps p.tables e below (s₁.setTop (mkF m 19 #[.val (.long q1), .second, .val (.int p1), .val (.long q2), .second, .val (.long tm), .second, .val (.int ra), .unset, .unset, .unset, .unset, .unset, .unset, .unset, .unset, .unset, .unset, .unset, .unset] [(.long rb)])) _
    refine XS.lstore X0.here hx rfl (hb hby at_19) rfl (l' := #[.val (.long q1), .second, .val (.int p1), .val (.long q2), .second, .val (.long tm), .second, .val (.int ra), .val (.long rb), .second, .unset, .unset, .unset, .unset, .unset, .unset, .unset, .unset, .unset, .unset]) rfl ?_
    show Steps p.tables e below (s₁.setTop (mkF m 21 #[.val (.long q1), .second, .val (.int p1), .val (.long q2), .second, .val (.long tm), .second, .val (.int ra), .val (.long rb), .second, .unset, .unset, .unset, .unset, .unset, .unset, .unset, .unset, .unset, .unset] [])) _
    refine XS.lload X0.here hx rfl (hb hby at_21) rfl ?_
    show Steps p.tables e below (s₁.setTop (mkF m 23 #[.val (.long q1), .second, .val (.int p1), .val (.long q2), .second, .val (.long tm), .second, .val (.int ra), .val (.long rb), .second, .unset, .unset, .unset, .unset, .unset, .unset, .unset, .unset, .unset, .unset] [(.long tm)])) _
    refine XS.iload X0.here hx rfl (hb hby at_23) rfl ?_
    show Steps p.tables e below (s₁.setTop (mkF m 25 #[.val (.long q1), .second, .val (.int p1), .val (.long q2), .second, .val (.long tm), .second, .val (.int ra), .val (.long rb), .second, .unset, .unset, .unset, .unset, .unset, .unset, .unset, .unset, .unset, .unset] [(.int ra), (.long tm)])) _
    refine XS.lload X0.here hx rfl (hb hby at_25) rfl ?_
    show Steps p.tables e below (s₁.setTop (mkF m 27 #[.val (.long q1), .second, .val (.int p1), .val (.long q2), .second, .val (.long tm), .second, .val (.int ra), .val (.long rb), .second, .unset, .unset, .unset, .unset, .unset, .unset, .unset, .unset, .unset, .unset] [(.long rb), (.int ra), (.long tm)])) _
    refine st4.trans ?_
    show Steps p.tables e below (T4.setTop (mkF m 30 #[.val (.long q1), .second, .val (.int p1), .val (.long q2), .second, .val (.long tm), .second, .val (.int ra), .val (.long rb), .second, .unset, .unset, .unset, .unset, .unset, .unset, .unset, .unset, .unset, .unset] [(.ref ar4)])) _
    refine XS.astore X4.here hx rfl (hb hby at_30) rfl (rfl) (l' := #[.val (.long q1), .second, .val (.int p1), .val (.long q2), .second, .val (.long tm), .second, .val (.int ra), .val (.long rb), .second, .val (.ref ar4), .unset, .unset, .unset, .unset, .unset, .unset, .unset, .unset, .unset]) rfl ?_
    show Steps p.tables e below (T4.setTop (mkF m 32 #[.val (.long q1), .second, .val (.int p1), .val (.long q2), .second, .val (.long tm), .second, .val (.int ra), .val (.long rb), .second, .val (.ref ar4), .unset, .unset, .unset, .unset, .unset, .unset, .unset, .unset, .unset] [])) _
    refine XS.aload X4.here hx rfl (hb hby at_32) rfl (rfl) ?_
    show Steps p.tables e below (T4.setTop (mkF m 34 #[.val (.long q1), .second, .val (.int p1), .val (.long q2), .second, .val (.long tm), .second, .val (.int ra), .val (.long rb), .second, .val (.ref ar4), .unset, .unset, .unset, .unset, .unset, .unset, .unset, .unset, .unset] [(.ref ar4)])) _
    refine st5.trans ?_
    show Steps p.tables e below (T5.setTop (mkF m 37 #[.val (.long q1), .second, .val (.int p1), .val (.long q2), .second, .val (.long tm), .second, .val (.int ra), .val (.long rb), .second, .val (.ref ar4), .unset, .unset, .unset, .unset, .unset, .unset, .unset, .unset, .unset] [(.long (own_hi tm ra))])) _
    refine XS.lstore X5.here hx rfl (hb hby at_37) rfl (l' := #[.val (.long q1), .second, .val (.int p1), .val (.long q2), .second, .val (.long tm), .second, .val (.int ra), .val (.long rb), .second, .val (.ref ar4), .val (.long (own_hi tm ra)), .second, .unset, .unset, .unset, .unset, .unset, .unset, .unset]) rfl ?_
    show Steps p.tables e below (T5.setTop (mkF m 39 #[.val (.long q1), .second, .val (.int p1), .val (.long q2), .second, .val (.long tm), .second, .val (.int ra), .val (.long rb), .second, .val (.ref ar4), .val (.long (own_hi tm ra)), .second, .unset, .unset, .unset, .unset, .unset, .unset, .unset] [])) _
    refine XS.aload X5.here hx rfl (hb hby at_39) rfl (rfl) ?_
    show Steps p.tables e below (T5.setTop (mkF m 41 #[.val (.long q1), .second, .val (.int p1), .val (.long q2), .second, .val (.long tm), .second, .val (.int ra), .val (.long rb), .second, .val (.ref ar4), .val (.long (own_hi tm ra)), .second, .unset, .unset, .unset, .unset, .unset, .unset, .unset] [(.ref ar4)])) _
    refine st6.trans ?_
    show Steps p.tables e below (T6.setTop (mkF m 44 #[.val (.long q1), .second, .val (.int p1), .val (.long q2), .second, .val (.long tm), .second, .val (.int ra), .val (.long rb), .second, .val (.ref ar4), .val (.long (own_hi tm ra)), .second, .unset, .unset, .unset, .unset, .unset, .unset, .unset] [(.long (own_lo rb))])) _
    refine XS.lstore X6.here hx rfl (hb hby at_44) rfl (l' := #[.val (.long q1), .second, .val (.int p1), .val (.long q2), .second, .val (.long tm), .second, .val (.int ra), .val (.long rb), .second, .val (.ref ar4), .val (.long (own_hi tm ra)), .second, .val (.long (own_lo rb)), .second, .unset, .unset, .unset, .unset, .unset]) rfl ?_
    show Steps p.tables e below (T6.setTop (mkF m 46 #[.val (.long q1), .second, .val (.int p1), .val (.long q2), .second, .val (.long tm), .second, .val (.int ra), .val (.long rb), .second, .val (.ref ar4), .val (.long (own_hi tm ra)), .second, .val (.long (own_lo rb)), .second, .unset, .unset, .unset, .unset, .unset] [])) _
    refine XS.lload X6.here hx rfl (hb hby at_46) rfl ?_
    show Steps p.tables e below (T6.setTop (mkF m 48 #[.val (.long q1), .second, .val (.int p1), .val (.long q2), .second, .val (.long tm), .second, .val (.int ra), .val (.long rb), .second, .val (.ref ar4), .val (.long (own_hi tm ra)), .second, .val (.long (own_lo rb)), .second, .unset, .unset, .unset, .unset, .unset] [(.long (own_hi tm ra))])) _
    refine XS.bipush X6.here hx rfl (hb hby at_48) ?_
    show Steps p.tables e below (T6.setTop (mkF m 50 #[.val (.long q1), .second, .val (.int p1), .val (.long q2), .second, .val (.long tm), .second, .val (.int ra), .val (.long rb), .second, .val (.ref ar4), .val (.long (own_hi tm ra)), .second, .val (.long (own_lo rb)), .second, .unset, .unset, .unset, .unset, .unset] [(.int (16 : Int32)), (.long (own_hi tm ra))])) _
    refine XS.lushr X6.here hx rfl (hb hby at_50) rfl ?_
    show Steps p.tables e below (T6.setTop (mkF m 51 #[.val (.long q1), .second, .val (.int p1), .val (.long q2), .second, .val (.long tm), .second, .val (.int ra), .val (.long rb), .second, .val (.ref ar4), .val (.long (own_hi tm ra)), .second, .val (.long (own_lo rb)), .second, .unset, .unset, .unset, .unset, .unset] [(.long (((own_hi tm ra).toUInt64 >>> ((16 : Int32) &&& 0x3f).toInt64.toUInt64).toInt64))])) _
    refine XS.lload X6.here hx rfl (hb hby at_51) rfl ?_
    show Steps p.tables e below (T6.setTop (mkF m 53 #[.val (.long q1), .second, .val (.int p1), .val (.long q2), .second, .val (.long tm), .second, .val (.int ra), .val (.long rb), .second, .val (.ref ar4), .val (.long (own_hi tm ra)), .second, .val (.long (own_lo rb)), .second, .unset, .unset, .unset, .unset, .unset] [(.long tm), (.long (((own_hi tm ra).toUInt64 >>> ((16 : Int32) &&& 0x3f).toInt64.toUInt64).toInt64))])) _
    refine XS.lcmp X6.here hx rfl (hb hby at_53) rfl ?_
    show Steps p.tables e below (T6.setTop (mkF m 54 #[.val (.long q1), .second, .val (.int p1), .val (.long q2), .second, .val (.long tm), .second, .val (.int ra), .val (.long rb), .second, .val (.ref ar4), .val (.long (own_hi tm ra)), .second, .val (.long (own_lo rb)), .second, .unset, .unset, .unset, .unset, .unset] [(.int (lcmpW (((own_hi tm ra).toUInt64 >>> ((16 : Int32) &&& 0x3f).toInt64.toUInt64).toInt64) tm))])) _
    refine XS.ifNo X6.here hx rfl (hb hby at_54) rfl ((if0 _ _).trans (teq ((lw_eq (((own_hi tm ra).toUInt64 >>> ((16 : Int32) &&& 0x3f).toInt64.toUInt64).toInt64) tm).mpr r1)).2) ?_
    show Steps p.tables e below (T6.setTop (mkF m 57 #[.val (.long q1), .second, .val (.int p1), .val (.long q2), .second, .val (.long tm), .second, .val (.int ra), .val (.long rb), .second, .val (.ref ar4), .val (.long (own_hi tm ra)), .second, .val (.long (own_lo rb)), .second, .unset, .unset, .unset, .unset, .unset] [])) _
    refine XS.iconst X6.here hx rfl (hb hby at_57) ?_
    show Steps p.tables e below (T6.setTop (mkF m 58 #[.val (.long q1), .second, .val (.int p1), .val (.long q2), .second, .val (.long tm), .second, .val (.int ra), .val (.long rb), .second, .val (.ref ar4), .val (.long (own_hi tm ra)), .second, .val (.long (own_lo rb)), .second, .unset, .unset, .unset, .unset, .unset] [(.int (1 : Int32))])) _
    refine XS.goto X6.here hx rfl (pc0 := 58) (pc' := 62) rfl (hb hby at_58) (by decide) (by decide) ?_
    show Steps p.tables e below (T6.setTop (mkF m 62 #[.val (.long q1), .second, .val (.int p1), .val (.long q2), .second, .val (.long tm), .second, .val (.int ra), .val (.long rb), .second, .val (.ref ar4), .val (.long (own_hi tm ra)), .second, .val (.long (own_lo rb)), .second, .unset, .unset, .unset, .unset, .unset] [(.int (1 : Int32))])) _
    refine XS.istore X6.here hx rfl (hb hby at_62) rfl (l' := #[.val (.long q1), .second, .val (.int p1), .val (.long q2), .second, .val (.long tm), .second, .val (.int ra), .val (.long rb), .second, .val (.ref ar4), .val (.long (own_hi tm ra)), .second, .val (.long (own_lo rb)), .second, .val (.int (1 : Int32)), .unset, .unset, .unset, .unset]) rfl ?_
    show Steps p.tables e below (T6.setTop (mkF m 64 #[.val (.long q1), .second, .val (.int p1), .val (.long q2), .second, .val (.long tm), .second, .val (.int ra), .val (.long rb), .second, .val (.ref ar4), .val (.long (own_hi tm ra)), .second, .val (.long (own_lo rb)), .second, .val (.int (1 : Int32)), .unset, .unset, .unset, .unset] [])) _
    refine XS.lload X6.here hx rfl (hb hby at_64) rfl ?_
    show Steps p.tables e below (T6.setTop (mkF m 66 #[.val (.long q1), .second, .val (.int p1), .val (.long q2), .second, .val (.long tm), .second, .val (.int ra), .val (.long rb), .second, .val (.ref ar4), .val (.long (own_hi tm ra)), .second, .val (.long (own_lo rb)), .second, .val (.int (1 : Int32)), .unset, .unset, .unset, .unset] [(.long (own_hi tm ra))])) _
    refine XS.bipush X6.here hx rfl (hb hby at_66) ?_
    show Steps p.tables e below (T6.setTop (mkF m 68 #[.val (.long q1), .second, .val (.int p1), .val (.long q2), .second, .val (.long tm), .second, .val (.int ra), .val (.long rb), .second, .val (.ref ar4), .val (.long (own_hi tm ra)), .second, .val (.long (own_lo rb)), .second, .val (.int (1 : Int32)), .unset, .unset, .unset, .unset] [(.int (12 : Int32)), (.long (own_hi tm ra))])) _
    refine XS.lushr X6.here hx rfl (hb hby at_68) rfl ?_
    show Steps p.tables e below (T6.setTop (mkF m 69 #[.val (.long q1), .second, .val (.int p1), .val (.long q2), .second, .val (.long tm), .second, .val (.int ra), .val (.long rb), .second, .val (.ref ar4), .val (.long (own_hi tm ra)), .second, .val (.long (own_lo rb)), .second, .val (.int (1 : Int32)), .unset, .unset, .unset, .unset] [(.long (((own_hi tm ra).toUInt64 >>> ((12 : Int32) &&& 0x3f).toInt64.toUInt64).toInt64))])) _
    refine X6.ldc2Long hx hown4 (mvT hZ4 (hw _ (List.mem_of_getElem? (i := 47) rfl))) (g := (mkF m 69 #[.val (.long q1), .second, .val (.int p1), .val (.long q2), .second, .val (.long tm), .second, .val (.int ra), .val (.long rb), .second, .val (.ref ar4), .val (.long (own_hi tm ra)), .second, .val (.long (own_lo rb)), .second, .val (.int (1 : Int32)), .unset, .unset, .unset, .unset] [(.long (((own_hi tm ra).toUInt64 >>> ((12 : Int32) &&& 0x3f).toInt64.toUInt64).toInt64))])) rfl (hb hby at_69) _ ?_
    show Steps p.tables e below (T6.setTop (mkF m 72 #[.val (.long q1), .second, .val (.int p1), .val (.long q2), .second, .val (.long tm), .second, .val (.int ra), .val (.long rb), .second, .val (.ref ar4), .val (.long (own_hi tm ra)), .second, .val (.long (own_lo rb)), .second, .val (.int (1 : Int32)), .unset, .unset, .unset, .unset] [(.long (15 : Int64)), (.long (((own_hi tm ra).toUInt64 >>> ((12 : Int32) &&& 0x3f).toInt64.toUInt64).toInt64))])) _
    refine XS.land X6.here hx rfl (hb hby at_72) rfl ?_
    show Steps p.tables e below (T6.setTop (mkF m 73 #[.val (.long q1), .second, .val (.int p1), .val (.long q2), .second, .val (.long tm), .second, .val (.int ra), .val (.long rb), .second, .val (.ref ar4), .val (.long (own_hi tm ra)), .second, .val (.long (own_lo rb)), .second, .val (.int (1 : Int32)), .unset, .unset, .unset, .unset] [(.long ((((own_hi tm ra).toUInt64 >>> ((12 : Int32) &&& 0x3f).toInt64.toUInt64).toInt64) &&& (15 : Int64)))])) _
    refine X6.ldc2Long hx hown4 (mvT hZ4 (hw _ (List.mem_of_getElem? (i := 48) rfl))) (g := (mkF m 73 #[.val (.long q1), .second, .val (.int p1), .val (.long q2), .second, .val (.long tm), .second, .val (.int ra), .val (.long rb), .second, .val (.ref ar4), .val (.long (own_hi tm ra)), .second, .val (.long (own_lo rb)), .second, .val (.int (1 : Int32)), .unset, .unset, .unset, .unset] [(.long ((((own_hi tm ra).toUInt64 >>> ((12 : Int32) &&& 0x3f).toInt64.toUInt64).toInt64) &&& (15 : Int64)))])) rfl (hb hby at_73) _ ?_
    show Steps p.tables e below (T6.setTop (mkF m 76 #[.val (.long q1), .second, .val (.int p1), .val (.long q2), .second, .val (.long tm), .second, .val (.int ra), .val (.long rb), .second, .val (.ref ar4), .val (.long (own_hi tm ra)), .second, .val (.long (own_lo rb)), .second, .val (.int (1 : Int32)), .unset, .unset, .unset, .unset] [(.long (7 : Int64)), (.long ((((own_hi tm ra).toUInt64 >>> ((12 : Int32) &&& 0x3f).toInt64.toUInt64).toInt64) &&& (15 : Int64)))])) _
    refine XS.lcmp X6.here hx rfl (hb hby at_76) rfl ?_
    show Steps p.tables e below (T6.setTop (mkF m 77 #[.val (.long q1), .second, .val (.int p1), .val (.long q2), .second, .val (.long tm), .second, .val (.int ra), .val (.long rb), .second, .val (.ref ar4), .val (.long (own_hi tm ra)), .second, .val (.long (own_lo rb)), .second, .val (.int (1 : Int32)), .unset, .unset, .unset, .unset] [(.int (lcmpW ((((own_hi tm ra).toUInt64 >>> ((12 : Int32) &&& 0x3f).toInt64.toUInt64).toInt64) &&& (15 : Int64)) (7 : Int64)))])) _
    refine XS.ifNo X6.here hx rfl (hb hby at_77) rfl ((if0 _ _).trans (teq ((lw_eq ((((own_hi tm ra).toUInt64 >>> ((12 : Int32) &&& 0x3f).toInt64.toUInt64).toInt64) &&& (15 : Int64)) (7 : Int64)).mpr r2)).2) ?_
    show Steps p.tables e below (T6.setTop (mkF m 80 #[.val (.long q1), .second, .val (.int p1), .val (.long q2), .second, .val (.long tm), .second, .val (.int ra), .val (.long rb), .second, .val (.ref ar4), .val (.long (own_hi tm ra)), .second, .val (.long (own_lo rb)), .second, .val (.int (1 : Int32)), .unset, .unset, .unset, .unset] [])) _
    refine XS.iconst X6.here hx rfl (hb hby at_80) ?_
    show Steps p.tables e below (T6.setTop (mkF m 81 #[.val (.long q1), .second, .val (.int p1), .val (.long q2), .second, .val (.long tm), .second, .val (.int ra), .val (.long rb), .second, .val (.ref ar4), .val (.long (own_hi tm ra)), .second, .val (.long (own_lo rb)), .second, .val (.int (1 : Int32)), .unset, .unset, .unset, .unset] [(.int (1 : Int32))])) _
    refine XS.goto X6.here hx rfl (pc0 := 81) (pc' := 85) rfl (hb hby at_81) (by decide) (by decide) ?_
    show Steps p.tables e below (T6.setTop (mkF m 85 #[.val (.long q1), .second, .val (.int p1), .val (.long q2), .second, .val (.long tm), .second, .val (.int ra), .val (.long rb), .second, .val (.ref ar4), .val (.long (own_hi tm ra)), .second, .val (.long (own_lo rb)), .second, .val (.int (1 : Int32)), .unset, .unset, .unset, .unset] [(.int (1 : Int32))])) _
    refine XS.istore X6.here hx rfl (hb hby at_85) rfl (l' := #[.val (.long q1), .second, .val (.int p1), .val (.long q2), .second, .val (.long tm), .second, .val (.int ra), .val (.long rb), .second, .val (.ref ar4), .val (.long (own_hi tm ra)), .second, .val (.long (own_lo rb)), .second, .val (.int (1 : Int32)), .val (.int (1 : Int32)), .unset, .unset, .unset]) rfl ?_
    show Steps p.tables e below (T6.setTop (mkF m 87 #[.val (.long q1), .second, .val (.int p1), .val (.long q2), .second, .val (.long tm), .second, .val (.int ra), .val (.long rb), .second, .val (.ref ar4), .val (.long (own_hi tm ra)), .second, .val (.long (own_lo rb)), .second, .val (.int (1 : Int32)), .val (.int (1 : Int32)), .unset, .unset, .unset] [])) _
    refine XS.lload X6.here hx rfl (hb hby at_87) rfl ?_
    show Steps p.tables e below (T6.setTop (mkF m 89 #[.val (.long q1), .second, .val (.int p1), .val (.long q2), .second, .val (.long tm), .second, .val (.int ra), .val (.long rb), .second, .val (.ref ar4), .val (.long (own_hi tm ra)), .second, .val (.long (own_lo rb)), .second, .val (.int (1 : Int32)), .val (.int (1 : Int32)), .unset, .unset, .unset] [(.long (own_hi tm ra))])) _
    refine X6.ldc2Long hx hown4 (mvT hZ4 (hw _ (List.mem_of_getElem? (i := 49) rfl))) (g := (mkF m 89 #[.val (.long q1), .second, .val (.int p1), .val (.long q2), .second, .val (.long tm), .second, .val (.int ra), .val (.long rb), .second, .val (.ref ar4), .val (.long (own_hi tm ra)), .second, .val (.long (own_lo rb)), .second, .val (.int (1 : Int32)), .val (.int (1 : Int32)), .unset, .unset, .unset] [(.long (own_hi tm ra))])) rfl (hb hby at_89) _ ?_
    show Steps p.tables e below (T6.setTop (mkF m 92 #[.val (.long q1), .second, .val (.int p1), .val (.long q2), .second, .val (.long tm), .second, .val (.int ra), .val (.long rb), .second, .val (.ref ar4), .val (.long (own_hi tm ra)), .second, .val (.long (own_lo rb)), .second, .val (.int (1 : Int32)), .val (.int (1 : Int32)), .unset, .unset, .unset] [(.long (4095 : Int64)), (.long (own_hi tm ra))])) _
    refine XS.land X6.here hx rfl (hb hby at_92) rfl ?_
    show Steps p.tables e below (T6.setTop (mkF m 93 #[.val (.long q1), .second, .val (.int p1), .val (.long q2), .second, .val (.long tm), .second, .val (.int ra), .val (.long rb), .second, .val (.ref ar4), .val (.long (own_hi tm ra)), .second, .val (.long (own_lo rb)), .second, .val (.int (1 : Int32)), .val (.int (1 : Int32)), .unset, .unset, .unset] [(.long ((own_hi tm ra) &&& (4095 : Int64)))])) _
    refine XS.iload X6.here hx rfl (hb hby at_93) rfl ?_
    show Steps p.tables e below (T6.setTop (mkF m 95 #[.val (.long q1), .second, .val (.int p1), .val (.long q2), .second, .val (.long tm), .second, .val (.int ra), .val (.long rb), .second, .val (.ref ar4), .val (.long (own_hi tm ra)), .second, .val (.long (own_lo rb)), .second, .val (.int (1 : Int32)), .val (.int (1 : Int32)), .unset, .unset, .unset] [(.int ra), (.long ((own_hi tm ra) &&& (4095 : Int64)))])) _
    refine XS.i2l X6.here hx rfl (hb hby at_95) rfl ?_
    show Steps p.tables e below (T6.setTop (mkF m 96 #[.val (.long q1), .second, .val (.int p1), .val (.long q2), .second, .val (.long tm), .second, .val (.int ra), .val (.long rb), .second, .val (.ref ar4), .val (.long (own_hi tm ra)), .second, .val (.long (own_lo rb)), .second, .val (.int (1 : Int32)), .val (.int (1 : Int32)), .unset, .unset, .unset] [(.long (ra.toInt64)), (.long ((own_hi tm ra) &&& (4095 : Int64)))])) _
    refine XS.lcmp X6.here hx rfl (hb hby at_96) rfl ?_
    show Steps p.tables e below (T6.setTop (mkF m 97 #[.val (.long q1), .second, .val (.int p1), .val (.long q2), .second, .val (.long tm), .second, .val (.int ra), .val (.long rb), .second, .val (.ref ar4), .val (.long (own_hi tm ra)), .second, .val (.long (own_lo rb)), .second, .val (.int (1 : Int32)), .val (.int (1 : Int32)), .unset, .unset, .unset] [(.int (lcmpW ((own_hi tm ra) &&& (4095 : Int64)) (ra.toInt64)))])) _
    refine XS.ifNo X6.here hx rfl (hb hby at_97) rfl ((if0 _ _).trans (teq ((lw_eq ((own_hi tm ra) &&& (4095 : Int64)) (ra.toInt64)).mpr r3)).2) ?_
    show Steps p.tables e below (T6.setTop (mkF m 100 #[.val (.long q1), .second, .val (.int p1), .val (.long q2), .second, .val (.long tm), .second, .val (.int ra), .val (.long rb), .second, .val (.ref ar4), .val (.long (own_hi tm ra)), .second, .val (.long (own_lo rb)), .second, .val (.int (1 : Int32)), .val (.int (1 : Int32)), .unset, .unset, .unset] [])) _
    refine XS.iconst X6.here hx rfl (hb hby at_100) ?_
    show Steps p.tables e below (T6.setTop (mkF m 101 #[.val (.long q1), .second, .val (.int p1), .val (.long q2), .second, .val (.long tm), .second, .val (.int ra), .val (.long rb), .second, .val (.ref ar4), .val (.long (own_hi tm ra)), .second, .val (.long (own_lo rb)), .second, .val (.int (1 : Int32)), .val (.int (1 : Int32)), .unset, .unset, .unset] [(.int (1 : Int32))])) _
    refine XS.goto X6.here hx rfl (pc0 := 101) (pc' := 105) rfl (hb hby at_101) (by decide) (by decide) ?_
    show Steps p.tables e below (T6.setTop (mkF m 105 #[.val (.long q1), .second, .val (.int p1), .val (.long q2), .second, .val (.long tm), .second, .val (.int ra), .val (.long rb), .second, .val (.ref ar4), .val (.long (own_hi tm ra)), .second, .val (.long (own_lo rb)), .second, .val (.int (1 : Int32)), .val (.int (1 : Int32)), .unset, .unset, .unset] [(.int (1 : Int32))])) _
    refine XS.istore X6.here hx rfl (hb hby at_105) rfl (l' := #[.val (.long q1), .second, .val (.int p1), .val (.long q2), .second, .val (.long tm), .second, .val (.int ra), .val (.long rb), .second, .val (.ref ar4), .val (.long (own_hi tm ra)), .second, .val (.long (own_lo rb)), .second, .val (.int (1 : Int32)), .val (.int (1 : Int32)), .val (.int (1 : Int32)), .unset, .unset]) rfl ?_
    show Steps p.tables e below (T6.setTop (mkF m 107 #[.val (.long q1), .second, .val (.int p1), .val (.long q2), .second, .val (.long tm), .second, .val (.int ra), .val (.long rb), .second, .val (.ref ar4), .val (.long (own_hi tm ra)), .second, .val (.long (own_lo rb)), .second, .val (.int (1 : Int32)), .val (.int (1 : Int32)), .val (.int (1 : Int32)), .unset, .unset] [])) _
    refine XS.lload X6.here hx rfl (hb hby at_107) rfl ?_
    show Steps p.tables e below (T6.setTop (mkF m 109 #[.val (.long q1), .second, .val (.int p1), .val (.long q2), .second, .val (.long tm), .second, .val (.int ra), .val (.long rb), .second, .val (.ref ar4), .val (.long (own_hi tm ra)), .second, .val (.long (own_lo rb)), .second, .val (.int (1 : Int32)), .val (.int (1 : Int32)), .val (.int (1 : Int32)), .unset, .unset] [(.long (own_lo rb))])) _
    refine XS.bipush X6.here hx rfl (hb hby at_109) ?_
    show Steps p.tables e below (T6.setTop (mkF m 111 #[.val (.long q1), .second, .val (.int p1), .val (.long q2), .second, .val (.long tm), .second, .val (.int ra), .val (.long rb), .second, .val (.ref ar4), .val (.long (own_hi tm ra)), .second, .val (.long (own_lo rb)), .second, .val (.int (1 : Int32)), .val (.int (1 : Int32)), .val (.int (1 : Int32)), .unset, .unset] [(.int (62 : Int32)), (.long (own_lo rb))])) _
    refine XS.lushr X6.here hx rfl (hb hby at_111) rfl ?_
    show Steps p.tables e below (T6.setTop (mkF m 112 #[.val (.long q1), .second, .val (.int p1), .val (.long q2), .second, .val (.long tm), .second, .val (.int ra), .val (.long rb), .second, .val (.ref ar4), .val (.long (own_hi tm ra)), .second, .val (.long (own_lo rb)), .second, .val (.int (1 : Int32)), .val (.int (1 : Int32)), .val (.int (1 : Int32)), .unset, .unset] [(.long (((own_lo rb).toUInt64 >>> ((62 : Int32) &&& 0x3f).toInt64.toUInt64).toInt64))])) _
    refine X6.ldc2Long hx hown4 (mvT hZ4 (hw _ (List.mem_of_getElem? (i := 50) rfl))) (g := (mkF m 112 #[.val (.long q1), .second, .val (.int p1), .val (.long q2), .second, .val (.long tm), .second, .val (.int ra), .val (.long rb), .second, .val (.ref ar4), .val (.long (own_hi tm ra)), .second, .val (.long (own_lo rb)), .second, .val (.int (1 : Int32)), .val (.int (1 : Int32)), .val (.int (1 : Int32)), .unset, .unset] [(.long (((own_lo rb).toUInt64 >>> ((62 : Int32) &&& 0x3f).toInt64.toUInt64).toInt64))])) rfl (hb hby at_112) _ ?_
    show Steps p.tables e below (T6.setTop (mkF m 115 #[.val (.long q1), .second, .val (.int p1), .val (.long q2), .second, .val (.long tm), .second, .val (.int ra), .val (.long rb), .second, .val (.ref ar4), .val (.long (own_hi tm ra)), .second, .val (.long (own_lo rb)), .second, .val (.int (1 : Int32)), .val (.int (1 : Int32)), .val (.int (1 : Int32)), .unset, .unset] [(.long (2 : Int64)), (.long (((own_lo rb).toUInt64 >>> ((62 : Int32) &&& 0x3f).toInt64.toUInt64).toInt64))])) _
    refine XS.lcmp X6.here hx rfl (hb hby at_115) rfl ?_
    show Steps p.tables e below (T6.setTop (mkF m 116 #[.val (.long q1), .second, .val (.int p1), .val (.long q2), .second, .val (.long tm), .second, .val (.int ra), .val (.long rb), .second, .val (.ref ar4), .val (.long (own_hi tm ra)), .second, .val (.long (own_lo rb)), .second, .val (.int (1 : Int32)), .val (.int (1 : Int32)), .val (.int (1 : Int32)), .unset, .unset] [(.int (lcmpW (((own_lo rb).toUInt64 >>> ((62 : Int32) &&& 0x3f).toInt64.toUInt64).toInt64) (2 : Int64)))])) _
    refine XS.ifNo X6.here hx rfl (hb hby at_116) rfl ((if0 _ _).trans (teq ((lw_eq (((own_lo rb).toUInt64 >>> ((62 : Int32) &&& 0x3f).toInt64.toUInt64).toInt64) (2 : Int64)).mpr r4)).2) ?_
    show Steps p.tables e below (T6.setTop (mkF m 119 #[.val (.long q1), .second, .val (.int p1), .val (.long q2), .second, .val (.long tm), .second, .val (.int ra), .val (.long rb), .second, .val (.ref ar4), .val (.long (own_hi tm ra)), .second, .val (.long (own_lo rb)), .second, .val (.int (1 : Int32)), .val (.int (1 : Int32)), .val (.int (1 : Int32)), .unset, .unset] [])) _
    refine XS.iconst X6.here hx rfl (hb hby at_119) ?_
    show Steps p.tables e below (T6.setTop (mkF m 120 #[.val (.long q1), .second, .val (.int p1), .val (.long q2), .second, .val (.long tm), .second, .val (.int ra), .val (.long rb), .second, .val (.ref ar4), .val (.long (own_hi tm ra)), .second, .val (.long (own_lo rb)), .second, .val (.int (1 : Int32)), .val (.int (1 : Int32)), .val (.int (1 : Int32)), .unset, .unset] [(.int (1 : Int32))])) _
    refine XS.goto X6.here hx rfl (pc0 := 120) (pc' := 124) rfl (hb hby at_120) (by decide) (by decide) ?_
    show Steps p.tables e below (T6.setTop (mkF m 124 #[.val (.long q1), .second, .val (.int p1), .val (.long q2), .second, .val (.long tm), .second, .val (.int ra), .val (.long rb), .second, .val (.ref ar4), .val (.long (own_hi tm ra)), .second, .val (.long (own_lo rb)), .second, .val (.int (1 : Int32)), .val (.int (1 : Int32)), .val (.int (1 : Int32)), .unset, .unset] [(.int (1 : Int32))])) _
    refine XS.istore X6.here hx rfl (hb hby at_124) rfl (l' := #[.val (.long q1), .second, .val (.int p1), .val (.long q2), .second, .val (.long tm), .second, .val (.int ra), .val (.long rb), .second, .val (.ref ar4), .val (.long (own_hi tm ra)), .second, .val (.long (own_lo rb)), .second, .val (.int (1 : Int32)), .val (.int (1 : Int32)), .val (.int (1 : Int32)), .val (.int (1 : Int32)), .unset]) rfl ?_
    show Steps p.tables e below (T6.setTop (mkF m 126 #[.val (.long q1), .second, .val (.int p1), .val (.long q2), .second, .val (.long tm), .second, .val (.int ra), .val (.long rb), .second, .val (.ref ar4), .val (.long (own_hi tm ra)), .second, .val (.long (own_lo rb)), .second, .val (.int (1 : Int32)), .val (.int (1 : Int32)), .val (.int (1 : Int32)), .val (.int (1 : Int32)), .unset] [])) _
    refine XS.lload X6.here hx rfl (hb hby at_126) rfl ?_
    show Steps p.tables e below (T6.setTop (mkF m 128 #[.val (.long q1), .second, .val (.int p1), .val (.long q2), .second, .val (.long tm), .second, .val (.int ra), .val (.long rb), .second, .val (.ref ar4), .val (.long (own_hi tm ra)), .second, .val (.long (own_lo rb)), .second, .val (.int (1 : Int32)), .val (.int (1 : Int32)), .val (.int (1 : Int32)), .val (.int (1 : Int32)), .unset] [(.long (own_lo rb))])) _
    refine X6.ldc2Long hx hown4 (mvT hZ4 (hw _ (List.mem_of_getElem? (i := 1) rfl))) (g := (mkF m 128 #[.val (.long q1), .second, .val (.int p1), .val (.long q2), .second, .val (.long tm), .second, .val (.int ra), .val (.long rb), .second, .val (.ref ar4), .val (.long (own_hi tm ra)), .second, .val (.long (own_lo rb)), .second, .val (.int (1 : Int32)), .val (.int (1 : Int32)), .val (.int (1 : Int32)), .val (.int (1 : Int32)), .unset] [(.long (own_lo rb))])) rfl (hb hby at_128) _ ?_
    show Steps p.tables e below (T6.setTop (mkF m 131 #[.val (.long q1), .second, .val (.int p1), .val (.long q2), .second, .val (.long tm), .second, .val (.int ra), .val (.long rb), .second, .val (.ref ar4), .val (.long (own_hi tm ra)), .second, .val (.long (own_lo rb)), .second, .val (.int (1 : Int32)), .val (.int (1 : Int32)), .val (.int (1 : Int32)), .val (.int (1 : Int32)), .unset] [(.long (4611686018427387903 : Int64)), (.long (own_lo rb))])) _
    refine XS.land X6.here hx rfl (hb hby at_131) rfl ?_
    show Steps p.tables e below (T6.setTop (mkF m 132 #[.val (.long q1), .second, .val (.int p1), .val (.long q2), .second, .val (.long tm), .second, .val (.int ra), .val (.long rb), .second, .val (.ref ar4), .val (.long (own_hi tm ra)), .second, .val (.long (own_lo rb)), .second, .val (.int (1 : Int32)), .val (.int (1 : Int32)), .val (.int (1 : Int32)), .val (.int (1 : Int32)), .unset] [(.long ((own_lo rb) &&& (4611686018427387903 : Int64)))])) _
    refine XS.lload X6.here hx rfl (hb hby at_132) rfl ?_
    show Steps p.tables e below (T6.setTop (mkF m 134 #[.val (.long q1), .second, .val (.int p1), .val (.long q2), .second, .val (.long tm), .second, .val (.int ra), .val (.long rb), .second, .val (.ref ar4), .val (.long (own_hi tm ra)), .second, .val (.long (own_lo rb)), .second, .val (.int (1 : Int32)), .val (.int (1 : Int32)), .val (.int (1 : Int32)), .val (.int (1 : Int32)), .unset] [(.long rb), (.long ((own_lo rb) &&& (4611686018427387903 : Int64)))])) _
    refine XS.lcmp X6.here hx rfl (hb hby at_134) rfl ?_
    show Steps p.tables e below (T6.setTop (mkF m 135 #[.val (.long q1), .second, .val (.int p1), .val (.long q2), .second, .val (.long tm), .second, .val (.int ra), .val (.long rb), .second, .val (.ref ar4), .val (.long (own_hi tm ra)), .second, .val (.long (own_lo rb)), .second, .val (.int (1 : Int32)), .val (.int (1 : Int32)), .val (.int (1 : Int32)), .val (.int (1 : Int32)), .unset] [(.int (lcmpW ((own_lo rb) &&& (4611686018427387903 : Int64)) rb))])) _
    refine XS.ifNo X6.here hx rfl (hb hby at_135) rfl ((if0 _ _).trans (teq ((lw_eq ((own_lo rb) &&& (4611686018427387903 : Int64)) rb).mpr r5)).2) ?_
    show Steps p.tables e below (T6.setTop (mkF m 138 #[.val (.long q1), .second, .val (.int p1), .val (.long q2), .second, .val (.long tm), .second, .val (.int ra), .val (.long rb), .second, .val (.ref ar4), .val (.long (own_hi tm ra)), .second, .val (.long (own_lo rb)), .second, .val (.int (1 : Int32)), .val (.int (1 : Int32)), .val (.int (1 : Int32)), .val (.int (1 : Int32)), .unset] [])) _
    refine XS.iconst X6.here hx rfl (hb hby at_138) ?_
    show Steps p.tables e below (T6.setTop (mkF m 139 #[.val (.long q1), .second, .val (.int p1), .val (.long q2), .second, .val (.long tm), .second, .val (.int ra), .val (.long rb), .second, .val (.ref ar4), .val (.long (own_hi tm ra)), .second, .val (.long (own_lo rb)), .second, .val (.int (1 : Int32)), .val (.int (1 : Int32)), .val (.int (1 : Int32)), .val (.int (1 : Int32)), .unset] [(.int (1 : Int32))])) _
    refine XS.goto X6.here hx rfl (pc0 := 139) (pc' := 143) rfl (hb hby at_139) (by decide) (by decide) ?_
    show Steps p.tables e below (T6.setTop (mkF m 143 #[.val (.long q1), .second, .val (.int p1), .val (.long q2), .second, .val (.long tm), .second, .val (.int ra), .val (.long rb), .second, .val (.ref ar4), .val (.long (own_hi tm ra)), .second, .val (.long (own_lo rb)), .second, .val (.int (1 : Int32)), .val (.int (1 : Int32)), .val (.int (1 : Int32)), .val (.int (1 : Int32)), .unset] [(.int (1 : Int32))])) _
    refine XS.istore X6.here hx rfl (hb hby at_143) rfl (l' := #[.val (.long q1), .second, .val (.int p1), .val (.long q2), .second, .val (.long tm), .second, .val (.int ra), .val (.long rb), .second, .val (.ref ar4), .val (.long (own_hi tm ra)), .second, .val (.long (own_lo rb)), .second, .val (.int (1 : Int32)), .val (.int (1 : Int32)), .val (.int (1 : Int32)), .val (.int (1 : Int32)), .val (.int (1 : Int32))]) rfl ?_
    show Steps p.tables e below (T6.setTop (mkF m 145 #[.val (.long q1), .second, .val (.int p1), .val (.long q2), .second, .val (.long tm), .second, .val (.int ra), .val (.long rb), .second, .val (.ref ar4), .val (.long (own_hi tm ra)), .second, .val (.long (own_lo rb)), .second, .val (.int (1 : Int32)), .val (.int (1 : Int32)), .val (.int (1 : Int32)), .val (.int (1 : Int32)), .val (.int (1 : Int32))] [])) _
    refine XS.iload X6.here hx rfl (hb hby at_145) rfl ?_
    show Steps p.tables e below (T6.setTop (mkF m 147 #[.val (.long q1), .second, .val (.int p1), .val (.long q2), .second, .val (.long tm), .second, .val (.int ra), .val (.long rb), .second, .val (.ref ar4), .val (.long (own_hi tm ra)), .second, .val (.long (own_lo rb)), .second, .val (.int (1 : Int32)), .val (.int (1 : Int32)), .val (.int (1 : Int32)), .val (.int (1 : Int32)), .val (.int (1 : Int32))] [(.int (1 : Int32))])) _
    refine XS.ifNo X6.here hx rfl (hb hby at_147) rfl ((if0 _ _).trans (feq (by decide : ¬ ((1 : Int32) = (0 : Int32)))).1) ?_
    show Steps p.tables e below (T6.setTop (mkF m 150 #[.val (.long q1), .second, .val (.int p1), .val (.long q2), .second, .val (.long tm), .second, .val (.int ra), .val (.long rb), .second, .val (.ref ar4), .val (.long (own_hi tm ra)), .second, .val (.long (own_lo rb)), .second, .val (.int (1 : Int32)), .val (.int (1 : Int32)), .val (.int (1 : Int32)), .val (.int (1 : Int32)), .val (.int (1 : Int32))] [])) _
    refine XS.iload X6.here hx rfl (hb hby at_150) rfl ?_
    show Steps p.tables e below (T6.setTop (mkF m 152 #[.val (.long q1), .second, .val (.int p1), .val (.long q2), .second, .val (.long tm), .second, .val (.int ra), .val (.long rb), .second, .val (.ref ar4), .val (.long (own_hi tm ra)), .second, .val (.long (own_lo rb)), .second, .val (.int (1 : Int32)), .val (.int (1 : Int32)), .val (.int (1 : Int32)), .val (.int (1 : Int32)), .val (.int (1 : Int32))] [(.int (1 : Int32))])) _
    refine XS.ifNo X6.here hx rfl (hb hby at_152) rfl ((if0 _ _).trans (feq (by decide : ¬ ((1 : Int32) = (0 : Int32)))).1) ?_
    show Steps p.tables e below (T6.setTop (mkF m 155 #[.val (.long q1), .second, .val (.int p1), .val (.long q2), .second, .val (.long tm), .second, .val (.int ra), .val (.long rb), .second, .val (.ref ar4), .val (.long (own_hi tm ra)), .second, .val (.long (own_lo rb)), .second, .val (.int (1 : Int32)), .val (.int (1 : Int32)), .val (.int (1 : Int32)), .val (.int (1 : Int32)), .val (.int (1 : Int32))] [])) _
    refine XS.iload X6.here hx rfl (hb hby at_155) rfl ?_
    show Steps p.tables e below (T6.setTop (mkF m 157 #[.val (.long q1), .second, .val (.int p1), .val (.long q2), .second, .val (.long tm), .second, .val (.int ra), .val (.long rb), .second, .val (.ref ar4), .val (.long (own_hi tm ra)), .second, .val (.long (own_lo rb)), .second, .val (.int (1 : Int32)), .val (.int (1 : Int32)), .val (.int (1 : Int32)), .val (.int (1 : Int32)), .val (.int (1 : Int32))] [(.int (1 : Int32))])) _
    refine XS.ifNo X6.here hx rfl (hb hby at_157) rfl ((if0 _ _).trans (feq (by decide : ¬ ((1 : Int32) = (0 : Int32)))).1) ?_
    show Steps p.tables e below (T6.setTop (mkF m 160 #[.val (.long q1), .second, .val (.int p1), .val (.long q2), .second, .val (.long tm), .second, .val (.int ra), .val (.long rb), .second, .val (.ref ar4), .val (.long (own_hi tm ra)), .second, .val (.long (own_lo rb)), .second, .val (.int (1 : Int32)), .val (.int (1 : Int32)), .val (.int (1 : Int32)), .val (.int (1 : Int32)), .val (.int (1 : Int32))] [])) _
    refine XS.iload X6.here hx rfl (hb hby at_160) rfl ?_
    show Steps p.tables e below (T6.setTop (mkF m 162 #[.val (.long q1), .second, .val (.int p1), .val (.long q2), .second, .val (.long tm), .second, .val (.int ra), .val (.long rb), .second, .val (.ref ar4), .val (.long (own_hi tm ra)), .second, .val (.long (own_lo rb)), .second, .val (.int (1 : Int32)), .val (.int (1 : Int32)), .val (.int (1 : Int32)), .val (.int (1 : Int32)), .val (.int (1 : Int32))] [(.int (1 : Int32))])) _
    refine XS.ifNo X6.here hx rfl (hb hby at_162) rfl ((if0 _ _).trans (feq (by decide : ¬ ((1 : Int32) = (0 : Int32)))).1) ?_
    show Steps p.tables e below (T6.setTop (mkF m 165 #[.val (.long q1), .second, .val (.int p1), .val (.long q2), .second, .val (.long tm), .second, .val (.int ra), .val (.long rb), .second, .val (.ref ar4), .val (.long (own_hi tm ra)), .second, .val (.long (own_lo rb)), .second, .val (.int (1 : Int32)), .val (.int (1 : Int32)), .val (.int (1 : Int32)), .val (.int (1 : Int32)), .val (.int (1 : Int32))] [])) _
    refine XS.iload X6.here hx rfl (hb hby at_165) rfl ?_
    show Steps p.tables e below (T6.setTop (mkF m 167 #[.val (.long q1), .second, .val (.int p1), .val (.long q2), .second, .val (.long tm), .second, .val (.int ra), .val (.long rb), .second, .val (.ref ar4), .val (.long (own_hi tm ra)), .second, .val (.long (own_lo rb)), .second, .val (.int (1 : Int32)), .val (.int (1 : Int32)), .val (.int (1 : Int32)), .val (.int (1 : Int32)), .val (.int (1 : Int32))] [(.int (1 : Int32))])) _
    refine XS.ifNo X6.here hx rfl (hb hby at_167) rfl ((if0 _ _).trans (feq (by decide : ¬ ((1 : Int32) = (0 : Int32)))).1) ?_
    show Steps p.tables e below (T6.setTop (mkF m 170 #[.val (.long q1), .second, .val (.int p1), .val (.long q2), .second, .val (.long tm), .second, .val (.int ra), .val (.long rb), .second, .val (.ref ar4), .val (.long (own_hi tm ra)), .second, .val (.long (own_lo rb)), .second, .val (.int (1 : Int32)), .val (.int (1 : Int32)), .val (.int (1 : Int32)), .val (.int (1 : Int32)), .val (.int (1 : Int32))] [])) _
    refine XS.iconst X6.here hx rfl (hb hby at_170) ?_
    show Steps p.tables e below (T6.setTop (mkF m 171 #[.val (.long q1), .second, .val (.int p1), .val (.long q2), .second, .val (.long tm), .second, .val (.int ra), .val (.long rb), .second, .val (.ref ar4), .val (.long (own_hi tm ra)), .second, .val (.long (own_lo rb)), .second, .val (.int (1 : Int32)), .val (.int (1 : Int32)), .val (.int (1 : Int32)), .val (.int (1 : Int32)), .val (.int (1 : Int32))] [(.int (1 : Int32))])) _
    refine XS.goto X6.here hx rfl (pc0 := 171) (pc' := 175) rfl (hb hby at_171) (by decide) (by decide) ?_
    show Steps p.tables e below (T6.setTop (mkF m 175 #[.val (.long q1), .second, .val (.int p1), .val (.long q2), .second, .val (.long tm), .second, .val (.int ra), .val (.long rb), .second, .val (.ref ar4), .val (.long (own_hi tm ra)), .second, .val (.long (own_lo rb)), .second, .val (.int (1 : Int32)), .val (.int (1 : Int32)), .val (.int (1 : Int32)), .val (.int (1 : Int32)), .val (.int (1 : Int32))] [(.int (1 : Int32))])) _
    exact k
  obtain ⟨fs, hr, hrun, hended, hq⟩ := X6.leaveW (s := s) (vm₁ := T4.vm) hS4 (by rw [hq6]; exact (Nat.le_refl T4.heap.size)) (v := some (.int (1 : Int32))) (fun h => by rw [Bd.returns] at h; cases h)
  refine ⟨_, _, pre7 _ ?_, hrun, hended, _, _, rfl, ?_, hq.1, hq.2.1, hq.2.2.1, hq.2.2.2.mono (by decide) (by decide)⟩
  · exact retN X6 hx (t := .boolean) Bd.returns (by simp) (hb hby at_175) hr
  · show Q_rm0 Z q1 p1 q2 h0 n0 _ T6.heap _
    rw [hq6]
    exact ⟨rfl, N6⟩
set_option maxRecDepth 65536 in
set_option maxHeartbeats 40000000 in
theorem comes_1 {Post : Tables → Env → Array Value → State → Outcome → State → Prop} (hpost : ∀ tb e args s v u, (limb_1_1.after args s (.returned v) u = true ∧ limb_1_2.after args s (.returned v) u = true ∧ True) → ReturnedEndW s (.returned v) u (Jvm.fieldLocs frame_1_writes args s ++ Jvm.arrayLocs frame_1_arrays args s ++ Jvm.staticLocs frame_1_statics s) 16 3200 → Post tb e args s (.returned v) u) :
    ArmFor flags0 classFile x code maxLocals ret World_1 tables_1 room_1 Calls_1 rest_1 Pre_1 Post := by
  intro l hfl _ _ p e ha hc hk s m args below hf hA hF happ hP
  obtain ⟨hcalls, hrest, hpre⟩ := hP
  obtain ⟨-, -, -, hnamed, -, -, -, hat⟩ := (Spec.applies_iff hf).mp happ
  obtain ⟨hg, hn⟩ := and_e (Cond.before_iff.mp (show (Jvm.Cond.and given_1 narrow_1).before args s = true from hpre))
  obtain ⟨g1, g2⟩ := and_e hg
  obtain ⟨g3, g4⟩ := and_e g2
  obtain ⟨g5, g6⟩ := and_e g4
  obtain ⟨w0, w1, w2, rfl⟩ : ∃ w0 w1 w2 : Value, args = #[w0, w1, w2] := by
    have hs : args.size = 3 := by simpa [Cond.value, given_1] using g1
    obtain ⟨L⟩ := args
    match L, hs with
    | [w0, w1, w2], _ => exact ⟨w0, w1, w2, rfl⟩
  have hw := fun d (hd : d ∈ tables_1) => atoms_spec (ws := Jvm.Cond.code x code maxLocals ret :: tables_1) hat d (List.mem_cons_of_mem _ hd)
  obtain ⟨i0, ei0⟩ := isL_v g3
  obtain rfl : w0 = (.long i0) := Option.some.inj ei0
  obtain ⟨i1, ei1⟩ := is_v g5
  obtain rfl : w1 = (.int i1) := Option.some.inj ei1
  obtain ⟨i2, ei2⟩ := isL_v g6
  obtain rfl : w2 = (.long i2) := Option.some.inj ei2
  obtain ⟨n, o, h1, h2, h3, _, L, rfl, ⟨rfl, N⟩, hq⟩ := rm0 l s _ hw tables_1 i0 i1 i2 s.heap s.heap.size (Nat.le_refl _)  p e ha hc hk s m _ below hf ((Spec.applies_iff_loose hf).mp happ).1 ⟨rfl, State.Warmed39.refl s, rfl⟩ trivial
  refine ⟨n, _, h1, h2, h3, hpost _ _ _ _ _ _ ⟨Cond.after_iff.mpr rfl, Cond.after_iff.mpr (eq_i res_at (Term.int_eval (1)) rfl), trivial⟩ ⟨hq.1, hq.2.1, hq.2.2.1, (hq.2.2.2.sift fun y hy => Or.inr (N y hy)).mono (by decide) (by decide)⟩⟩
theorem main_1_1 : Claimed_1_1 := comes_1 fun _ _ _ _ _ _ h hF => ⟨h.1, hF⟩
theorem main_1_2 : Claimed_1_2 := comes_1 fun _ _ _ _ _ _ h hF => ⟨h.2.1, hF⟩
end Jvm.Pilot.@@N@@
namespace Jvm.Pilot.@@N@@
open Jvm Jvm.ClassFile Sem Op Lib Jvm.Free Jvm.Stand Jvm.Pilot.@@N@@.Jvm.D
/-! MADE BY PROGRAM (witnessworld.py) out of the Statement's table words and the real class files: 15 classes; the members and pool entries that the words name. The judged class is class 1, her method 1. -/
namespace start1
open Jvm.ClassFile
def u (s : String) : CpInfo := .utf8 (stringToUtf16 s)
/-- a pool by its gaps: so many unusable entries, then the entry; so many at the end -/
def gap : Nat → List CpInfo → List CpInfo
  | 0, r => r
  | n + 1, r => .unusable :: gap n r
def poolList (es : List (Nat × CpInfo)) (last : Nat) : List CpInfo := es.foldr (fun e r => gap e.1 (e.2 :: r)) (gap last [])
def pool (es : List (Nat × CpInfo)) (last : Nat) : Array CpInfo := ⟨poolList es last⟩
def fileOf (pool : Array CpInfo) (this : Nat) (attrs : Array Attribute := #[]) (ms : Array MethodInfo := #[]) (fl : Nat := 33) (sup : Nat := 0) (ifs : Array Nat := #[]) (fds : Array FieldInfo := #[]) : ClassFile where
  minorVersion := 0
  majorVersion := 65
  constantPool := pool
  accessFlags := fl
  thisClass := this
  superClass := sup
  interfaces := ifs
  fields := fds
  methods := ms
  attributes := attrs
def plain (name : String) (sup : Option ClassId) : Class where
  name := name
  kind := .ordinary
  loader := none
  accessFlags := 33
  super := sup
  interfaces := #[]
  cf := none
  fields := #[]
  methods := #[]
  instanceTypes := #[]
  staticTypes := #[]
  resolved := #[]
  callSites := []
  init := .initialized
  statics := none
  mirror := none

def pool0 : Array CpInfo := pool [(5, u "<init>"), (0, u "()V"), (1, .class_ 10), (1, u "java/lang/Object")] 113

def k0c0 : Code := { maxStack := 0, maxLocals := 1, code := object_method_1_code, exceptionTable := #[], attributes := #[] }
def k0m0 : Method := { name := "<init>", desc := "()V", sig := { parameters := [], returnType := none }, accessFlags := 1, code := some k0c0 }
/-- java/lang/Object -/
def k0 : Class := { plain "java/lang/Object" none with
  accessFlags := 33
  interfaces := #[]
  cf := some (fileOf pool0 8 #[] #[{ accessFlags := 1, nameIndex := 5, descriptorIndex := 6, attributes := #[] }] 33 0 #[] #[])
  fields := #[]
  methods := #[k0m0]
  instanceTypes := #[]
  staticTypes := #[]
  resolved := Array.replicate 124 none
  statics := none }

def pool1 : Array CpInfo := pool [(2, .class_ 4), (1, u "java/lang/Object"), (0, u "<init>"), (0, u "()V"), (0, .class_ 8), (0, u "com/example/nonce/nonce/id/UuidV7"), (0, .long 281474976710655), (1, .long 4611686018427387903), (1, .methodref 7 14), (0, .nameAndType 15 16), (0, u "fromFields"), (0, u "(JIJ)Ljava/util/UUID;"), (0, .methodref 18 19), (0, .class_ 20), (0, .nameAndType 21 22), (0, u "java/util/UUID"), (0, u "getMostSignificantBits"), (0, u "()J"), (0, .methodref 18 24), (0, .nameAndType 25 22), (0, u "getLeastSignificantBits"), (0, .long 15), (1, .long 7), (1, .long 4095), (1, .long 2), (1, .class_ 35), (0, u "com/example/nonce/nonce/id/UuidV7FromFieldsPinLaw"), (2, u "law"), (0, u "(JIJ)Z")] 3

def k1m0 : Method := { name := "<init>", desc := "()V", sig := { parameters := [], returnType := none }, accessFlags := 2, code := none }
def k1c1 : Code := { maxStack := 5, maxLocals := 20, code := code, exceptionTable := #[], attributes := #[] }
def k1m1 : Method := { name := "law", desc := "(JIJ)Z", sig := { parameters := [.long, .int, .long], returnType := some .boolean }, accessFlags := 9, code := some k1c1 }
/-- com/example/nonce/nonce/id/UuidV7FromFieldsPinLaw -/
def k1 : Class := { plain "com/example/nonce/nonce/id/UuidV7FromFieldsPinLaw" (some 0) with
  accessFlags := 49
  interfaces := #[]
  cf := some (fileOf pool1 34 #[] #[{ accessFlags := 2, nameIndex := 5, descriptorIndex := 6, attributes := #[] }, { accessFlags := 9, nameIndex := 38, descriptorIndex := 39, attributes := #[] }] 49 2 #[] #[])
  fields := #[]
  methods := #[k1m0, k1m1]
  instanceTypes := #[]
  staticTypes := #[]
  resolved := Array.replicate 43 none
  statics := none }

def pool2 : Array CpInfo := pool [(2, .class_ 4), (1, u "java/lang/Object"), (0, u "<init>"), (0, u "()V"), (0, .string 8), (0, u "unix_ts_ms"), (0, .class_ 10), (0, u "com/example/nonce/nonce/id/UuidV7"), (0, .long 281474976710655), (1, .methodref 9 14), (0, .nameAndType 15 16), (0, u "requireWithin"), (0, u "(Ljava/lang/String;JJ)V"), (0, .string 18), (0, u "rand_a"), (0, .long 4095), (1, .string 22), (0, u "rand_b"), (0, .long 4611686018427387903), (1, .long 28672), (1, .long 9223372036854775808), (1, .class_ 30), (0, u "java/util/UUID"), (0, .methodref 29 32), (0, .nameAndType 5 33), (0, u "(JJ)V"), (25, u "MAX_UNIX_MILLIS"), (0, u "J"), (1, u "MAX_RAND_A"), (0, u "I"), (1, u "MAX_RAND_B"), (0, u "VERSION"), (1, u "FORM"), (0, u "Ljava/lang/String;"), (2, u "fromFields"), (0, u "(JIJ)Ljava/util/UUID;")] 20

def k2m0 : Method := { name := "<init>", desc := "()V", sig := { parameters := [], returnType := none }, accessFlags := 2, code := none }
def k2c1 : Code := { maxStack := 6, maxLocals := 9, code := prog_13_method_2_code, exceptionTable := #[], attributes := #[] }
def k2m1 : Method := { name := "fromFields", desc := "(JIJ)Ljava/util/UUID;", sig := { parameters := [.long, .int, .long], returnType := some (.object "java/util/UUID") }, accessFlags := 9, code := some k2c1 }
def k2c2 : Code := { maxStack := 7, maxLocals := 5, code := prog_13_method_5_code, exceptionTable := #[], attributes := #[] }
def k2m2 : Method := { name := "requireWithin", desc := "(Ljava/lang/String;JJ)V", sig := { parameters := [(.object "java/lang/String"), .long, .long], returnType := none }, accessFlags := 10, code := some k2c2 }
/-- com/example/nonce/nonce/id/UuidV7 -/
def k2 : Class := { plain "com/example/nonce/nonce/id/UuidV7" (some 0) with
  accessFlags := 33
  interfaces := #[]
  cf := some (fileOf pool2 9 #[] #[{ accessFlags := 2, nameIndex := 5, descriptorIndex := 6, attributes := #[] }, { accessFlags := 9, nameIndex := 72, descriptorIndex := 73, attributes := #[] }, { accessFlags := 10, nameIndex := 15, descriptorIndex := 16, attributes := #[] }] 33 2 #[] #[{ accessFlags := 25, nameIndex := 59, descriptorIndex := 60, attributes := #[] }, { accessFlags := 25, nameIndex := 62, descriptorIndex := 63, attributes := #[] }, { accessFlags := 25, nameIndex := 65, descriptorIndex := 60, attributes := #[] }, { accessFlags := 26, nameIndex := 66, descriptorIndex := 63, attributes := #[] }, { accessFlags := 24, nameIndex := 68, descriptorIndex := 69, attributes := #[] }])
  fields := #[{ name := "MAX_UNIX_MILLIS", type := .long, accessFlags := 25, slot := 0, constantValue := 0 }, { name := "MAX_RAND_A", type := .int, accessFlags := 25, slot := 1, constantValue := 0 }, { name := "MAX_RAND_B", type := .long, accessFlags := 25, slot := 2, constantValue := 0 }, { name := "VERSION", type := .int, accessFlags := 26, slot := 3, constantValue := 0 }, { name := "FORM", type := (.object "java/lang/String"), accessFlags := 24, slot := 4, constantValue := 0 }]
  methods := #[k2m0, k2m1, k2m2]
  instanceTypes := #[]
  staticTypes := #[.long, .int, .long, .int, (.object "java/lang/String")]
  resolved := Array.replicate 94 none
  statics := none }

def pool3 : Array CpInfo := pool [(1, .class_ 2), (0, u "java/io/Serializable"), (0, .class_ 4), (0, u "java/lang/Object")] 2

/-- java/io/Serializable -/
def k3 : Class := { plain "java/io/Serializable" (some 0) with
  accessFlags := 1537
  interfaces := #[]
  cf := some (fileOf pool3 1 #[] #[] 1537 3 #[] #[])
  fields := #[]
  methods := #[]
  instanceTypes := #[]
  staticTypes := #[]
  resolved := Array.replicate 7 none
  statics := none }

def pool4 : Array CpInfo := pool [(1, .class_ 2), (0, u "java/lang/Comparable"), (0, .class_ 4), (0, u "java/lang/Object")] 7

/-- java/lang/Comparable -/
def k4 : Class := { plain "java/lang/Comparable" (some 0) with
  accessFlags := 1537
  interfaces := #[]
  cf := some (fileOf pool4 1 #[] #[] 1537 3 #[] #[])
  fields := #[]
  methods := #[]
  instanceTypes := #[]
  staticTypes := #[]
  resolved := Array.replicate 12 none
  statics := none }

def pool5 : Array CpInfo := pool [(2, .class_ 4), (1, u "java/lang/CharSequence"), (42, .class_ 48), (0, u "java/lang/CharSequence$1CodePointIterator"), (10, .class_ 60), (0, u "java/lang/CharSequence$1CharIterator"), (5, .class_ 67), (0, u "java/lang/Object")] 63

/-- java/lang/CharSequence -/
def k5 : Class := { plain "java/lang/CharSequence" (some 0) with
  accessFlags := 1537
  interfaces := #[]
  cf := some (fileOf pool5 2 #[.nestMembers #[47, 59]] #[] 1537 66 #[] #[])
  fields := #[]
  methods := #[]
  instanceTypes := #[]
  staticTypes := #[]
  resolved := Array.replicate 131 none
  statics := none }

def pool6 : Array CpInfo := pool [(1, .class_ 2), (0, u "java/lang/constant/Constable"), (0, .class_ 4), (0, u "java/lang/Object")] 6

/-- java/lang/constant/Constable -/
def k6 : Class := { plain "java/lang/constant/Constable" (some 0) with
  accessFlags := 1537
  interfaces := #[]
  cf := some (fileOf pool6 1 #[] #[] 1537 3 #[] #[])
  fields := #[]
  methods := #[]
  instanceTypes := #[]
  staticTypes := #[]
  resolved := Array.replicate 11 none
  statics := none }

def pool7 : Array CpInfo := pool [(1, .class_ 2), (0, u "java/lang/constant/ConstantDesc"), (0, .class_ 4), (0, u "java/lang/Object")] 32

/-- java/lang/constant/ConstantDesc -/
def k7 : Class := { plain "java/lang/constant/ConstantDesc" (some 0) with
  accessFlags := 1537
  interfaces := #[]
  cf := some (fileOf pool7 1 #[] #[] 1537 3 #[] #[])
  fields := #[]
  methods := #[]
  instanceTypes := #[]
  staticTypes := #[]
  resolved := Array.replicate 37 none
  statics := none }

def pool8 : Array CpInfo := pool [(2, .class_ 4), (1, u "java/lang/Object"), (0, u "<init>"), (0, u "()V"), (3, .class_ 12), (1, u "java/lang/String"), (0, u "value"), (0, u "[B"), (2, u "coder"), (0, u "B"), (2, u "hash"), (0, u "I"), (2, u "hashIsZero"), (0, u "Z"), (13, u "COMPACT_STRINGS"), (534, .class_ 576), (0, u "java/lang/CharSequence"), (22, u "CASE_INSENSITIVE_ORDER"), (0, u "Ljava/util/Comparator;"), (500, u "serialPersistentFields"), (0, u "[Ljava/io/ObjectStreamField;"), (0, .class_ 1104), (0, u "java/lang/String$CaseInsensitiveComparator"), (1, .class_ 1107), (0, u "java/io/Serializable"), (0, .class_ 1109), (0, u "java/lang/Comparable"), (0, .class_ 1111), (0, u "java/lang/constant/Constable"), (0, .class_ 1113), (0, u "java/lang/constant/ConstantDesc"), (2, u "serialVersionUID"), (0, u "J"), (3, u "REPL"), (0, u "C"), (2, u "LATIN1"), (1, u "UTF16")] 323

def k8m0 : Method := { name := "<init>", desc := "()V", sig := { parameters := [], returnType := none }, accessFlags := 1, code := none }
/-- java/lang/String -/
def k8 : Class := { plain "java/lang/String" (some 0) with
  accessFlags := 49
  interfaces := #[3, 4, 5, 6, 7]
  cf := some (fileOf pool8 10 #[.nestMembers #[1103]] #[{ accessFlags := 1, nameIndex := 5, descriptorIndex := 6, attributes := #[] }] 49 2 #[1106, 1108, 575, 1110, 1112] #[{ accessFlags := 18, nameIndex := 13, descriptorIndex := 14, attributes := #[] }, { accessFlags := 18, nameIndex := 17, descriptorIndex := 18, attributes := #[] }, { accessFlags := 2, nameIndex := 21, descriptorIndex := 22, attributes := #[] }, { accessFlags := 2, nameIndex := 25, descriptorIndex := 26, attributes := #[] }, { accessFlags := 26, nameIndex := 1116, descriptorIndex := 1117, attributes := #[] }, { accessFlags := 24, nameIndex := 40, descriptorIndex := 26, attributes := #[] }, { accessFlags := 26, nameIndex := 1101, descriptorIndex := 1102, attributes := #[] }, { accessFlags := 26, nameIndex := 1121, descriptorIndex := 1122, attributes := #[] }, { accessFlags := 25, nameIndex := 599, descriptorIndex := 600, attributes := #[] }, { accessFlags := 24, nameIndex := 1125, descriptorIndex := 18, attributes := #[] }, { accessFlags := 24, nameIndex := 1127, descriptorIndex := 18, attributes := #[] }])
  fields := #[{ name := "value", type := (.array .byte), accessFlags := 18, slot := 0, constantValue := 0 }, { name := "coder", type := .byte, accessFlags := 18, slot := 1, constantValue := 0 }, { name := "hash", type := .int, accessFlags := 2, slot := 2, constantValue := 0 }, { name := "hashIsZero", type := .boolean, accessFlags := 2, slot := 3, constantValue := 0 }, { name := "serialVersionUID", type := .long, accessFlags := 26, slot := 0, constantValue := 0 }, { name := "COMPACT_STRINGS", type := .boolean, accessFlags := 24, slot := 1, constantValue := 0 }, { name := "serialPersistentFields", type := (.array (.object "java/io/ObjectStreamField")), accessFlags := 26, slot := 2, constantValue := 0 }, { name := "REPL", type := .char, accessFlags := 26, slot := 3, constantValue := 0 }, { name := "CASE_INSENSITIVE_ORDER", type := (.object "java/util/Comparator"), accessFlags := 25, slot := 4, constantValue := 0 }, { name := "LATIN1", type := .byte, accessFlags := 24, slot := 5, constantValue := 0 }, { name := "UTF16", type := .byte, accessFlags := 24, slot := 6, constantValue := 0 }]
  methods := #[k8m0]
  instanceTypes := #[(.array .byte), .byte, .int, .boolean]
  staticTypes := #[.long, .boolean, (.array (.object "java/io/ObjectStreamField")), .char, (.object "java/util/Comparator"), .byte, .byte]
  resolved := Array.replicate 1451 none
  statics := none }

def pool9 : Array CpInfo := pool [(1, .methodref 2 3), (0, .class_ 4), (0, .nameAndType 5 6), (0, u "java/lang/Object"), (0, u "<init>"), (0, u "()V"), (1, .class_ 10), (1, u "java/util/UUID"), (0, u "$assertionsDisabled"), (0, u "Z"), (7, .fieldref 8 21), (0, .nameAndType 22 23), (0, u "mostSigBits"), (0, u "J"), (0, .fieldref 8 25), (0, .nameAndType 26 23), (0, u "leastSigBits"), (1, .class_ 30), (1, u "java/util/UUID$Holder"), (33, u "NIBBLES"), (0, u "[B"), (18, u "(JJ)V"), (61, u "jla"), (0, u "Ljdk/internal/access/JavaLangAccess;"), (40, .class_ 189), (0, u "java/io/Serializable"), (0, .class_ 191), (0, u "java/lang/Comparable"), (0, u "serialVersionUID"), (50, u "getLeastSignificantBits"), (0, u "()J"), (0, u "getMostSignificantBits")] 20

def k9c0 : Code := { maxStack := 3, maxLocals := 5, code := jdk_2758_method_2_code, exceptionTable := #[], attributes := #[] }
def k9m0 : Method := { name := "<init>", desc := "(JJ)V", sig := { parameters := [.long, .long], returnType := none }, accessFlags := 1, code := some k9c0 }
def k9c1 : Code := { maxStack := 2, maxLocals := 1, code := jdk_2758_method_8_code, exceptionTable := #[], attributes := #[] }
def k9m1 : Method := { name := "getLeastSignificantBits", desc := "()J", sig := { parameters := [], returnType := some .long }, accessFlags := 1, code := some k9c1 }
def k9c2 : Code := { maxStack := 2, maxLocals := 1, code := jdk_2758_method_9_code, exceptionTable := #[], attributes := #[] }
def k9m2 : Method := { name := "getMostSignificantBits", desc := "()J", sig := { parameters := [], returnType := some .long }, accessFlags := 1, code := some k9c2 }
/-- java/util/UUID -/
def k9 : Class := { plain "java/util/UUID" (some 0) with
  accessFlags := 49
  interfaces := #[3, 4]
  cf := some (fileOf pool9 8 #[.nestMembers #[28]] #[{ accessFlags := 1, nameIndex := 5, descriptorIndex := 84, attributes := #[] }, { accessFlags := 1, nameIndex := 243, descriptorIndex := 244, attributes := #[] }, { accessFlags := 1, nameIndex := 245, descriptorIndex := 244, attributes := #[] }] 49 2 #[188, 190] #[{ accessFlags := 26, nameIndex := 192, descriptorIndex := 23, attributes := #[] }, { accessFlags := 18, nameIndex := 22, descriptorIndex := 23, attributes := #[] }, { accessFlags := 18, nameIndex := 26, descriptorIndex := 23, attributes := #[] }, { accessFlags := 26, nameIndex := 146, descriptorIndex := 147, attributes := #[] }, { accessFlags := 26, nameIndex := 64, descriptorIndex := 65, attributes := #[] }, { accessFlags := 4120, nameIndex := 11, descriptorIndex := 12, attributes := #[] }])
  fields := #[{ name := "serialVersionUID", type := .long, accessFlags := 26, slot := 0, constantValue := 0 }, { name := "mostSigBits", type := .long, accessFlags := 18, slot := 0, constantValue := 0 }, { name := "leastSigBits", type := .long, accessFlags := 18, slot := 1, constantValue := 0 }, { name := "jla", type := (.object "jdk/internal/access/JavaLangAccess"), accessFlags := 26, slot := 1, constantValue := 0 }, { name := "NIBBLES", type := (.array .byte), accessFlags := 26, slot := 2, constantValue := 0 }, { name := "$assertionsDisabled", type := .boolean, accessFlags := 4120, slot := 3, constantValue := 0 }]
  methods := #[k9m0, k9m1, k9m2]
  instanceTypes := #[.long, .long]
  staticTypes := #[.long, (.object "jdk/internal/access/JavaLangAccess"), (.array .byte), .boolean]
  resolved := Array.replicate 266 none
  statics := none }

def pool10 : Array CpInfo := pool [(1, u "java/lang/Cloneable"), (0, .class_ 1), (0, u "java/lang/Object"), (0, .class_ 3)] 3

/-- java/lang/Cloneable -/
def k10 : Class := { plain "java/lang/Cloneable" (some 0) with
  accessFlags := 1537
  interfaces := #[]
  cf := some (fileOf pool10 2 #[] #[] 1537 4 #[] #[])
  fields := #[]
  methods := #[]
  instanceTypes := #[]
  staticTypes := #[]
  resolved := Array.replicate 8 none
  statics := none }

/-- the primitive byte -/
def k11 : Class := { plain "byte" none with kind := .primitive 'B', accessFlags := 0x411 }
/-- [B -/
def k12 : Class := { plain "[B" (some 0) with kind := .array 11 .byte, interfaces := #[10, 3], accessFlags := 1041 }

/-- the primitive int -/
def k13 : Class := { plain "int" none with kind := .primitive 'I', accessFlags := 0x411 }
/-- [I -/
def k14 : Class := { plain "[I" (some 0) with kind := .array 13 .int, interfaces := #[10, 3], accessFlags := 1041 }

def heap : Heap := #[]
def classes : Array Class := #[k0, k1, k2, k3, k4, k5, k6, k7, k8, k9, k10, k11, k12, k13, k14]
def interned : List (Array UInt16 × Addr) := []
def slotsUsed : Nat := 0
def theMethod : MethodId := ⟨1, 1⟩
def args0 : Array Value := #[.long 5, .int 3, .long 7]
def aboutOver (below : List Frame) : State where
  vm := { classes := classes, interned := interned.toArray }
  heap := heap
  slotsUsed := slotsUsed
  threads := #[{ frames := .invoking theMethod args0 :: below }]
def below0 : List Frame := [.native { method := ⟨0, 0⟩, args := #[] }]
def about1 : State := aboutOver below0
def p0 : Program := .bare "" "" ""
def e0 : Env := launch0.env 0 0 0
theorem w_frames : about1.frames = Frame.invoking theMethod args0 :: below0 := rfl
set_option maxRecDepth 65536 in
theorem w_args : argsFit about1.vm theMethod args0 = true := by decide +kernel
set_option maxRecDepth 65536 in
theorem w_heap : heapFits about1 = true := by decide +kernel
set_option maxRecDepth 65536 in
theorem w_runnable : about1.curStatus? = some .runnable := by decide +kernel
set_option maxRecDepth 65536 in
theorem w_alone : about1.alone = true := by decide +kernel
set_option maxRecDepth 65536 in
theorem w_named : about1.methodNamed? x = some theMethod := by decide +kernel
set_option maxRecDepth 65536 in
theorem w_hears : about1.hears theMethod below0 = true := by decide +kernel
set_option maxRecDepth 65536 in
theorem w_ripe : about1.ripe theMethod args0 below0 = true := by decide +kernel
theorem w_running : about1.status = .running := rfl
set_option maxRecDepth 65536 in
theorem w_room : about1.hasRoom e0.platform room_1 = true :=
  launch0.hasRoom_least _ room_1 (by decide +kernel) (by decide +kernel) (by decide +kernel) (by decide +kernel) (by decide +kernel) (by decide +kernel)
theorem allAtoms_all (ts : List Jvm.Cond) (a : Array Jvm.Value) (st : Jvm.State) : (allAtoms ts).before a st = ts.all (fun c => c.before a st) := by
  induction ts with
  | nil => rfl
  | cons c t ih =>
    show (Jvm.Cond.and c (allAtoms t)).before a st = _
    rw [Jvm.Cond.before_and, ih, List.all_cons]
def words1 : List Jvm.Cond := Jvm.Cond.code x code maxLocals ret :: tables_1
/-- a 'code' word, met by the world's own term for the bytes: nothing is compared byte by byte -/
theorem code_word {y : MethodName} {bytes : ByteArray} {mx : Nat} {rt : Option FieldType} {a : Array Value} {s : State} {m : MethodId} {meth : Method} {c : Code} (h1 : s.methodNamed? y = some m) (h2 : s.vm.method? m = some meth) (h3 : meth.code = some c) (h4 : c.code = bytes)
    (h5 : (c.maxLocals == mx && c.exceptionTable.isEmpty && decide (c.maxStack ≤ mostOperands) && decide (meth.sig.returnType = rt) && !meth.locks && decide (parseMethodDescriptor y.desc = some meth.sig)) = true) : (Jvm.Cond.code y bytes mx rt).before a s = true := by
  simp only [Bool.and_eq_true, beq_iff_eq, Bool.not_eq_true', decide_eq_true_eq] at h5
  obtain ⟨⟨⟨⟨⟨g1, g2⟩, g3⟩, g4⟩, g5⟩, g6⟩ := h5
  simp [Cond.before, Cond.holds, Cond.value, h1, h2, h3, h4, g1, g2, g3, g4, g5, g6]
def isCode : Jvm.Cond → Bool
  | .code _ _ _ _ => true
  | _ => false
theorem all_split {L : List Jvm.Cond} {P : Jvm.Cond → Bool} (h1 : L.all (fun c => isCode c || P c) = true) (h2 : ∀ c ∈ L.filter isCode, P c = true) : L.all P = true := by
  refine List.all_eq_true.mpr fun c hc => ?_
  have h := List.all_eq_true.mp h1 c hc
  rcases Bool.eq_false_or_eq_true (isCode c) with hi | hi
  · exact h2 c (List.mem_filter.mpr ⟨hc, hi⟩)
  · simpa [hi] using h
set_option maxRecDepth 65536 in
theorem w_c0 : (Jvm.Cond.code x code maxLocals ret).before args0 about1 = true := code_word (m := ⟨1, 1⟩) (meth := k1m1) (c := k1c1) (by decide +kernel) rfl rfl rfl (by decide +kernel)
set_option maxRecDepth 65536 in
theorem w_c1 : (Jvm.Cond.code ({ cls := "com/example/nonce/nonce/id/UuidV7", name := "fromFields", desc := "(JIJ)Ljava/util/UUID;" } : Jvm.MethodName) prog_13_method_2_code (9 : Nat) (Option.some (Jvm.ClassFile.FieldType.object "java/util/UUID"))).before args0 about1 = true := code_word (m := ⟨2, 1⟩) (meth := k2m1) (c := k2c1) (by decide +kernel) rfl rfl rfl (by decide +kernel)
set_option maxRecDepth 65536 in
theorem w_c2 : (Jvm.Cond.code ({ cls := "com/example/nonce/nonce/id/UuidV7", name := "requireWithin", desc := "(Ljava/lang/String;JJ)V" } : Jvm.MethodName) prog_13_method_5_code (5 : Nat) (Option.none : Option Jvm.ClassFile.FieldType)).before args0 about1 = true := code_word (m := ⟨2, 2⟩) (meth := k2m2) (c := k2c2) (by decide +kernel) rfl rfl rfl (by decide +kernel)
set_option maxRecDepth 65536 in
theorem w_c3 : (Jvm.Cond.code ({ cls := "java/util/UUID", name := "<init>", desc := "(JJ)V" } : Jvm.MethodName) jdk_2758_method_2_code (5 : Nat) (Option.none : Option Jvm.ClassFile.FieldType)).before args0 about1 = true := code_word (m := ⟨9, 0⟩) (meth := k9m0) (c := k9c0) (by decide +kernel) rfl rfl rfl (by decide +kernel)
set_option maxRecDepth 65536 in
theorem w_c4 : (Jvm.Cond.code ({ cls := "java/lang/Object", name := "<init>", desc := "()V" } : Jvm.MethodName) object_method_1_code (1 : Nat) (Option.none : Option Jvm.ClassFile.FieldType)).before args0 about1 = true := code_word (m := ⟨0, 0⟩) (meth := k0m0) (c := k0c0) (by decide +kernel) rfl rfl rfl (by decide +kernel)
set_option maxRecDepth 65536 in
theorem w_c5 : (Jvm.Cond.code ({ cls := "java/util/UUID", name := "getMostSignificantBits", desc := "()J" } : Jvm.MethodName) jdk_2758_method_9_code (1 : Nat) (Option.some Jvm.ClassFile.FieldType.long)).before args0 about1 = true := code_word (m := ⟨9, 2⟩) (meth := k9m2) (c := k9c2) (by decide +kernel) rfl rfl rfl (by decide +kernel)
set_option maxRecDepth 65536 in
theorem w_c6 : (Jvm.Cond.code ({ cls := "java/util/UUID", name := "getLeastSignificantBits", desc := "()J" } : Jvm.MethodName) jdk_2758_method_8_code (1 : Nat) (Option.some Jvm.ClassFile.FieldType.long)).before args0 about1 = true := code_word (m := ⟨9, 1⟩) (meth := k9m1) (c := k9c1) (by decide +kernel) rfl rfl rfl (by decide +kernel)
def codes1 : List Jvm.Cond := [Jvm.Cond.code x code maxLocals ret, Jvm.Cond.code ({ cls := "com/example/nonce/nonce/id/UuidV7", name := "fromFields", desc := "(JIJ)Ljava/util/UUID;" } : Jvm.MethodName) prog_13_method_2_code (9 : Nat) (Option.some (Jvm.ClassFile.FieldType.object "java/util/UUID")), Jvm.Cond.code ({ cls := "com/example/nonce/nonce/id/UuidV7", name := "requireWithin", desc := "(Ljava/lang/String;JJ)V" } : Jvm.MethodName) prog_13_method_5_code (5 : Nat) (Option.none : Option Jvm.ClassFile.FieldType), Jvm.Cond.code ({ cls := "java/util/UUID", name := "<init>", desc := "(JJ)V" } : Jvm.MethodName) jdk_2758_method_2_code (5 : Nat) (Option.none : Option Jvm.ClassFile.FieldType), Jvm.Cond.code ({ cls := "java/lang/Object", name := "<init>", desc := "()V" } : Jvm.MethodName) object_method_1_code (1 : Nat) (Option.none : Option Jvm.ClassFile.FieldType), Jvm.Cond.code ({ cls := "java/util/UUID", name := "getMostSignificantBits", desc := "()J" } : Jvm.MethodName) jdk_2758_method_9_code (1 : Nat) (Option.some Jvm.ClassFile.FieldType.long), Jvm.Cond.code ({ cls := "java/util/UUID", name := "getLeastSignificantBits", desc := "()J" } : Jvm.MethodName) jdk_2758_method_8_code (1 : Nat) (Option.some Jvm.ClassFile.FieldType.long)]
set_option maxRecDepth 65536 in
theorem codes_eq : words1.filter isCode = codes1 := rfl
theorem w_codes : ∀ c ∈ words1.filter isCode, c.before args0 about1 = true := by
  rw [codes_eq]
  intro c hc
  simp only [codes1, List.mem_cons, List.not_mem_nil, or_false] at hc
  rcases hc with rfl | rfl | rfl | rfl | rfl | rfl | rfl
  · exact w_c0
  · exact w_c1
  · exact w_c2
  · exact w_c3
  · exact w_c4
  · exact w_c5
  · exact w_c6
set_option maxRecDepth 65536 in
theorem w_t1 : (words1.take 24).all (fun c => isCode c || c.before args0 about1) = true := by decide +kernel
set_option maxRecDepth 65536 in
theorem w_t2 : ((words1.drop 24).take 24).all (fun c => isCode c || c.before args0 about1) = true := by decide +kernel
set_option maxRecDepth 65536 in
theorem w_t3 : ((words1.drop 24).drop 24).all (fun c => isCode c || c.before args0 about1) = true := by decide +kernel
theorem w_tables : (allAtoms (Jvm.Cond.code x code maxLocals ret :: tables_1)).before args0 about1 = true := by
  rw [allAtoms_all]
  show words1.all (fun c => c.before args0 about1) = true
  refine all_split ?_ w_codes
  rw [← List.take_append_drop 24 words1, List.all_append, w_t1, ← List.take_append_drop 24 (words1.drop 24), List.all_append, w_t2, w_t3]
  rfl
set_option maxRecDepth 65536 in
theorem w_case : (Jvm.Cond.and given_1 narrow_1).before args0 about1 = true := by decide +kernel
theorem w_applies : (headSpec (Jvm.Cond.code x code maxLocals ret :: tables_1) room_1).applies x e0.platform about1 = true :=
  (Spec.applies_iff w_frames).mpr ⟨w_running, w_runnable, w_alone, w_named, w_hears, w_ripe, w_room, w_tables⟩
theorem atStart : AtStart classFile x code maxLocals ret World_1 tables_1 room_1 Calls_1 rest_1 Pre_1 launch0 p0 e0 about1 theMethod args0 below0 :=
  ⟨lists_1, trivial, launch0.admits_env _ _ _, launch0.least_env, fairChoices_fair.cas, fairChoices_fair.clock, w_frames, w_args, w_heap, w_applies, trivial, trivial, w_case⟩
end start1
theorem witness_1 : WitnessClaimed_1 := ⟨start1.p0, start1.e0, start1.about1, start1.theMethod, start1.args0, start1.below0, start1.atStart⟩
end Jvm.Pilot.@@N@@
