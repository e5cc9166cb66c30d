import JvmDerived
import JvmDerived.Pilot.@@N@@Statement
import JvmDerived.Pilot.@@N@@Code
set_option linter.unusedVariables false
set_option linter.unusedSimpArgs false
@@BLOCK:NumsL.lean.txt@@
namespace Jvm.Pilot.@@N@@
open Jvm Jvm.ClassFile Sem Op Lib Jvm.Free Jvm.Stand Jvm.LawKit Jvm.RoadKit Bundle Jvm.Pilot.@@N@@.Jvm.D

theorem ef_rm1 (m : MethodId) (x0 : Int32) : entryFrame m #[(.int x0)] 1 = mkF m 0 #[.val (.int x0)] [] := by first | (simp [entryFrame, mkF, argsToLocals, Value.category]; done) | rfl
theorem pn_0 : plainName "com/example/tallybuf/tallybuf/alloc/Arena" = true := by first | (simp [plainName, overriddenIn]; done) | decide +kernel
theorem d1_0 : decode prog_2_method_10_code 0 = .ok (.iload_n 0, 1) := by decide +kernel
theorem d1_1 : decode prog_2_method_10_code 1 = .ok (.sipush 8192, 3) := by decide +kernel
theorem d1_4 : decode prog_2_method_10_code 4 = .ok (.iadd, 1) := by decide +kernel
theorem d1_5 : decode prog_2_method_10_code 5 = .ok (.iconst 1, 1) := by decide +kernel
theorem d1_6 : decode prog_2_method_10_code 6 = .ok (.isub, 1) := by decide +kernel
theorem d1_7 : decode prog_2_method_10_code 7 = .ok (.sipush 8192, 3) := by decide +kernel
theorem d1_10 : decode prog_2_method_10_code 10 = .ok (.idiv, 1) := by decide +kernel
theorem d1_11 : decode prog_2_method_10_code 11 = .ok (.ireturn, 1) := by decide +kernel
def Q_rm1 (Z : State) (p1 : Int32) (h0 : Heap) (n0 : Nat) (v : Option Value) (h : Heap) (L : List Loc) : Prop := v = some (.int (((p1 + (8192 : Int32)) - (1 : Int32)) / (8192 : Int32))) ∧ Fr n0 L ∧ h = h0
set_option maxRecDepth 65536 in
set_option maxHeartbeats 40000000 in
theorem rm1 (l : Launch) (Z : State) (a0 : Array Value) (hw : ∀ d ∈ tables_1, d.before a0 Z = true) (ws : List Jvm.Cond) (p1 : Int32) (h0 : Heap) (n0 : Nat) (Z0 : n0 ≤ h0.size) :
    MetFree l (⟨"com/example/tallybuf/tallybuf/alloc/Arena", "pages", "(I)I"⟩ : MethodName) (head1 (Jvm.Cond.code (⟨"com/example/tallybuf/tallybuf/alloc/Arena", "pages", "(I)I"⟩ : MethodName) prog_2_method_10_code 1 (some .int) :: ws) ({ frames := 0, cells := 0, slots := 0, locals := 0 } : Room)) (fun a U => a = #[(.int p1)] ∧ Z.Warmed39 U.vm ∧ U.heap = h0) (fun _ _ _ _ _ => True) (fun _ U o U' => ∃ v L, o = .returned v ∧ Q_rm1 Z p1 h0 n0 v U'.heap L ∧ FrameEnd U o U' L ({ frames := 0, cells := 0, slots := 0, locals := 0 } : Room).cells ({ frames := 0, cells := 0, slots := 0, locals := 0 } : Room).slots) := by
  refine MetFree.of_bodySF (plainFor_of_name pn_0) hisR ?_
  intro p e s m args below meth c s₁ Bd hml0 hP hK
  obtain ⟨rfl, hZ, hh⟩ := hP
  have hx := Bd.exec
  have hby := Bd.bytes
  have hml : c.maxLocals = 1 := hml0
  have hown : s.vm.findClass "com/example/tallybuf/tallybuf/alloc/Arena" = some m.cls := findClass_of_methodNamed Bd.named
  have hnm := (name_of_methodNamed Bd.named Bd.method).1
  have X0 : Stand p l e ({ frames := 0, cells := 0, slots := 0, locals := 0 } : Room) s m #[(.int p1)] below meth c s₁ [] 0 0 := Stand.of_body Bd
  have e0 : s₁.heap = h0 := by rw [← hh, Bd.state]; rfl
  have N0 := Fr.nil n0
  have pre0 : ∀ t, Steps p.tables e below (s₁.setTop (mkF m 0 #[.val (.int p1)] [])) t → Steps p.tables e below (s₁.setTop (entryFrame m #[(.int p1)] 1)) t := fun t k => castTop (ef_rm1 m p1) k
  have pre1 : ∀ t, Steps p.tables e below (s₁.setTop (mkF m 11 #[.val (.int p1)] [(.int (((p1 + (8192 : Int32)) - (1 : Int32)) / (8192 : Int32)))])) t → Steps p.tables e below (s₁.setTop (entryFrame m #[(.int p1)] 1)) t := by
    intro t k
    refine pre0 t ?_
    show Steps p.tables e below (s₁.setTop (mkF m 0 #[.val (.int p1)] [])) _
    refine XS.iloadN X0.here hx rfl (hb hby d1_0) rfl ?_
    show Steps p.tables e below (s₁.setTop (mkF m 1 #[.val (.int p1)] [(.int p1)])) _
    refine XS.sipush X0.here hx rfl (hb hby d1_1) ?_
    show Steps p.tables e below (s₁.setTop (mkF m 4 #[.val (.int p1)] [(.int (8192 : Int32)), (.int p1)])) _
    refine XS.iadd X0.here hx rfl (hb hby d1_4) rfl ?_
    show Steps p.tables e below (s₁.setTop (mkF m 5 #[.val (.int p1)] [(.int (p1 + (8192 : Int32)))])) _
    refine XS.iconst X0.here hx rfl (hb hby d1_5) ?_
    show Steps p.tables e below (s₁.setTop (mkF m 6 #[.val (.int p1)] [(.int (1 : Int32)), (.int (p1 + (8192 : Int32)))])) _
    refine XS.isub X0.here hx rfl (hb hby d1_6) rfl ?_
    show Steps p.tables e below (s₁.setTop (mkF m 7 #[.val (.int p1)] [(.int ((p1 + (8192 : Int32)) - (1 : Int32)))])) _
    refine XS.sipush X0.here hx rfl (hb hby d1_7) ?_
    show Steps p.tables e below (s₁.setTop (mkF m 10 #[.val (.int p1)] [(.int (8192 : Int32)), (.int ((p1 + (8192 : Int32)) - (1 : Int32)))])) _
    refine XS.idiv X0.here hx rfl (hb hby d1_10) rfl (by decide) ?_
    show Steps p.tables e below (s₁.setTop (mkF m 11 #[.val (.int p1)] [(.int (((p1 + (8192 : Int32)) - (1 : Int32)) / (8192 : Int32)))])) _
    exact k
  obtain ⟨fs, hr, hrun, hended, hW, hsame⟩ := X0.leave (v := some (.int (((p1 + (8192 : Int32)) - (1 : Int32)) / (8192 : Int32)))) (fun h => by rw [Bd.returns] at h; cases h)
  refine ⟨_, _, pre1 _ ?_, hrun, hended, _, _, rfl, ?_, ⟨_, rfl⟩, hW, hsame.mono (by decide) (by decide)⟩
  · exact retOut X0 hx Bd.returns rfl (Or.inl ⟨rfl, Or.inl rfl, _, rfl⟩) (hb hby d1_11) hr
  · show Q_rm1 Z p1 h0 n0 _ s₁.heap _
    rw [e0]
    exact ⟨rfl, N0, rfl⟩
theorem own_c {x z : Int32} (e : z = (x &&& (2147483647 : Int32)) % (4194305 : Int32)) : 0 ≤ z.toInt ∧ z.toInt ≤ 4194304 := by
  have e1 : (x &&& 2147483647).toInt = x.toInt % 2 ^ 31 := Jvm.Kit.i32_mask x 2147483647 (k := 31) (by decide) (by decide)
  have e2 : z.toInt = (x &&& 2147483647).toInt % (4194305 : Int32).toInt := by rw [e]; exact Jvm.Kit.i32_rem_nonneg (by omega)
  rw [show (4194305 : Int32).toInt = 4194305 from rfl] at e2
  omega
theorem own_k {x z : Int32} (e : z = (x &&& (1023 : Int32)) % (513 : Int32)) : 0 ≤ z.toInt ∧ z.toInt ≤ 512 := by
  have e1 : (x &&& 1023).toInt = x.toInt % 2 ^ 10 := Jvm.Kit.i32_mask x 1023 (k := 10) (by decide) (by decide)
  have e2 : z.toInt = (x &&& 1023).toInt % (513 : Int32).toInt := by rw [e]; exact Jvm.Kit.i32_rem_nonneg (by omega)
  rw [show (513 : Int32).toInt = 513 from rfl] at e2
  omega
theorem own_pg {c z : Int32} (e : z = (((c + (8192 : Int32)) - (1 : Int32)) / (8192 : Int32))) (h0 : 0 ≤ c.toInt) (h1 : c.toInt ≤ 4194305) : z.toInt = (c.toInt + 8191) / 8192 := by
  have e0 : (8192 : Int32).toInt = 8192 := rfl
  have e1 : (c + 8192).toInt = c.toInt + (8192 : Int32).toInt := Jvm.Kit.i32_add (by omega) (by omega)
  have e3 : (1 : Int32).toInt = 1 := rfl
  have e2 : (c + 8192 - 1).toInt = (c + 8192).toInt - (1 : Int32).toInt := Jvm.Kit.i32_sub (by omega) (by omega)
  have e4 : z.toInt = (c + 8192 - 1).toInt.tdiv (8192 : Int32).toInt := by rw [e]; exact Jvm.Kit.i32_div (by omega)
  rw [e4, e0, Int.tdiv_eq_ediv_of_nonneg (by omega)]; omega
theorem own_at {z b : Int32} (e : b = z * (8192 : Int32)) (h0 : 0 ≤ z.toInt) (h1 : z.toInt ≤ 512) : b.toInt = z.toInt * 8192 := by
  have e0 : (8192 : Int32).toInt = 8192 := rfl
  rw [e, Jvm.Kit.i32_mul (by rw [e0]; omega) (by rw [e0]; omega), e0]
theorem own_l {z : Int32} (h0 : -1 ≤ z.toInt) (h1 : z.toInt ≤ 512) : (z.toInt64 * (8192 : Int64)).toInt = z.toInt * 8192 := by
  have e0 : (8192 : Int64).toInt = 8192 := rfl
  have e1 := Jvm.Kit.i64_of_i32 z
  rw [Jvm.Kit.i64_mul (by rw [e0, e1]; omega) (by rw [e0, e1]; omega), e0, e1]
theorem ef_rm0 (m : MethodId) (x0 : Int32) (x1 : Int32) : entryFrame m #[(.int x0), (.int x1)] maxLocals = mkF m 0 #[.val (.int x0), .val (.int x1), .unset, .unset, .unset, .unset] [] := by first | (simp [entryFrame, mkF, argsToLocals, Value.category, maxLocals]; done) | rfl
theorem pn_1 : plainName "com/example/tallybuf/tallybuf/alloc/ArenaPagesPinLaw" = true := by first | (simp [plainName, overriddenIn]; done) | decide +kernel
theorem pd_0 : parseMethodDescriptor "(I)I" = some ⟨[.int], some .int⟩ := by decide +kernel
def Q_rm0 (Z : State) (p1 : Int32) (p2 : Int32) (h0 : Heap) (n0 : Nat) (v : Option Value) (h : Heap) (L : List Loc) : Prop := v = some (.int 1) ∧ Fr n0 L
set_option maxRecDepth 65536 in
set_option maxHeartbeats 40000000 in
theorem rm0 (l : Launch) (Z : State) (a0 : Array Value) (hw : ∀ d ∈ tables_1, d.before a0 Z = true) (ws : List Jvm.Cond) (p1 : Int32) (p2 : Int32) (h0 : Heap) (n0 : Nat) (Z0 : n0 ≤ h0.size) :
    MetFree l x (head1 (Jvm.Cond.code x code maxLocals ret :: ws) room_1) (fun a U => a = #[(.int p1), (.int p2)] ∧ Z.Warmed39 U.vm ∧ U.heap = h0) (fun _ _ _ _ _ => True) (fun _ U o U' => ∃ v L, o = .returned v ∧ Q_rm0 Z p1 p2 h0 n0 v U'.heap L ∧ FrameEnd U o U' L room_1.cells room_1.slots) := by
  refine MetFree.of_bodySF (plainFor_of_name pn_1) hisR ?_
  intro p e s m args below meth c s₁ Bd hml0 hP hK
  obtain ⟨rfl, hZ, hh⟩ := hP
  have hx := Bd.exec
  have hby := Bd.bytes
  have hml : c.maxLocals = 6 := hml0
  have hown : s.vm.findClass "com/example/tallybuf/tallybuf/alloc/ArenaPagesPinLaw" = some m.cls := findClass_of_methodNamed Bd.named
  have hnm := (name_of_methodNamed Bd.named Bd.method).1
  have X0 : Stand p l e room_1 s m #[(.int p1), (.int p2)] below meth c s₁ [] 0 0 := Stand.of_body Bd
  have e0 : s₁.heap = h0 := by rw [← hh, Bd.state]; rfl
  have N0 := Fr.nil n0
  have pre0 : ∀ t, Steps p.tables e below (s₁.setTop (mkF m 0 #[.val (.int p1), .val (.int p2), .unset, .unset, .unset, .unset] [])) t → Steps p.tables e below (s₁.setTop (entryFrame m #[(.int p1), (.int p2)] maxLocals)) t := fun t k => castTop (ef_rm0 m p1 p2) k
  have pre1 : ∀ t, Steps p.tables e below (s₁.setTop (mkF m 9 #[.val (.int p1), .val (.int p2), .val (.int ((p1 &&& (2147483647 : Int32)) % (4194305 : Int32))), .unset, .unset, .unset] [(.int ((p1 &&& (2147483647 : Int32)) % (4194305 : Int32)))])) t → Steps p.tables e below (s₁.setTop (entryFrame m #[(.int p1), (.int p2)] maxLocals)) t := by
    intro t k
    refine pre0 t ?_
    show Steps p.tables e below (s₁.setTop (mkF m 0 #[.val (.int p1), .val (.int p2), .unset, .unset, .unset, .unset] [])) _
    refine XS.iloadN X0.here hx rfl (hb hby at_0) rfl ?_
    show Steps p.tables e below (s₁.setTop (mkF m 1 #[.val (.int p1), .val (.int p2), .unset, .unset, .unset, .unset] [(.int p1)])) _
    refine X0.ldcInt hx hown (mvT hZ (hw _ (List.mem_of_getElem? (i := 0) rfl))) (g := (mkF m 1 #[.val (.int p1), .val (.int p2), .unset, .unset, .unset, .unset] [(.int p1)])) rfl (hb hby at_1) _ ?_
    show Steps p.tables e below (s₁.setTop (mkF m 3 #[.val (.int p1), .val (.int p2), .unset, .unset, .unset, .unset] [(.int (2147483647 : Int32)), (.int p1)])) _
    refine XS.iand X0.here hx rfl (hb hby at_3) rfl ?_
    show Steps p.tables e below (s₁.setTop (mkF m 4 #[.val (.int p1), .val (.int p2), .unset, .unset, .unset, .unset] [(.int (p1 &&& (2147483647 : Int32)))])) _
    refine X0.ldcInt hx hown (mvT hZ (hw _ (List.mem_of_getElem? (i := 1) rfl))) (g := (mkF m 4 #[.val (.int p1), .val (.int p2), .unset, .unset, .unset, .unset] [(.int (p1 &&& (2147483647 : Int32)))])) rfl (hb hby at_4) _ ?_
    show Steps p.tables e below (s₁.setTop (mkF m 6 #[.val (.int p1), .val (.int p2), .unset, .unset, .unset, .unset] [(.int (4194305 : Int32)), (.int (p1 &&& (2147483647 : Int32)))])) _
    refine iremM X0 hx rfl (hb hby at_6) rfl (by decide) ?_
    show Steps p.tables e below (s₁.setTop (mkF m 7 #[.val (.int p1), .val (.int p2), .unset, .unset, .unset, .unset] [(.int ((p1 &&& (2147483647 : Int32)) % (4194305 : Int32)))])) _
    refine XS.istoreN X0.here hx rfl (hb hby at_7) rfl (l' := #[.val (.int p1), .val (.int p2), .val (.int ((p1 &&& (2147483647 : Int32)) % (4194305 : Int32))), .unset, .unset, .unset]) rfl ?_
    show Steps p.tables e below (s₁.setTop (mkF m 8 #[.val (.int p1), .val (.int p2), .val (.int ((p1 &&& (2147483647 : Int32)) % (4194305 : Int32))), .unset, .unset, .unset] [])) _
    refine XS.iloadN X0.here hx rfl (hb hby at_8) rfl ?_
    show Steps p.tables e below (s₁.setTop (mkF m 9 #[.val (.int p1), .val (.int p2), .val (.int ((p1 &&& (2147483647 : Int32)) % (4194305 : Int32))), .unset, .unset, .unset] [(.int ((p1 &&& (2147483647 : Int32)) % (4194305 : Int32)))])) _
    exact k
  obtain ⟨cc, hcc⟩ : ∃ z : Int32, z = ((p1 &&& (2147483647 : Int32)) % (4194305 : Int32)) := ⟨_, rfl⟩
  rw [← hcc] at pre1
  obtain ⟨hc0, hc1⟩ := own_c hcc
  obtain ⟨_, _, ⟨T2, L2, k2, n2⟩, -, X2, ⟨Lc2, hQ2, l2, y2, z2⟩, st2⟩ := Jvm.LawKit.callS X0 hx (y := (⟨"com/example/tallybuf/tallybuf/alloc/Arena", "pages", "(I)I"⟩ : MethodName)) hown (mvT hZ (hw _ (List.mem_of_getElem? (i := 2) rfl))) (mvT hZ (hw _ (List.mem_of_getElem? (i := 3) rfl))) (mvT hZ (hw _ (List.mem_of_getElem? (i := 4) rfl))) (mvT hZ (hw _ (List.mem_of_getElem? (i := 5) rfl))) (by decide) (backOf (W := 0) (rm1 l Z a0 hw [] cc  h0 n0 Z0 ) hZ (hw _ (List.mem_of_getElem? (i := 5) rfl)) (hw _ (List.mem_of_getElem? (i := 4) rfl)) (by decide) (by decide)) (g := (mkF m 9 #[.val (.int p1), .val (.int p2), .val (.int cc), .unset, .unset, .unset] [(.int cc)])) rfl (by rw [hml]; rfl) (argsL := [(.int cc)]) (rest := []) (lenOf pd_0 rfl) rfl (by show 2 * 0 + _ ≤ _; exact Nat.le_of_eq rfl) (hb hby at_9) (fun _ _ => ⟨rfl, e0, (by decide : 0 + 0 ≤ _), (by decide : 0 + 0 ≤ _)⟩)
  dsimp only [Pt.U, Pt.locs, Pt.cells, Pt.slots] at X2 l2 y2 z2 st2 hQ2
  subst l2 y2 z2
  obtain ⟨rfl, N2q, hq2⟩ := hQ2
  have N2 := Fr.app N0 N2q
  have pre3 : ∀ t, Steps p.tables e below (T2.setTop (mkF m 12 #[.val (.int p1), .val (.int p2), .val (.int cc), .unset, .unset, .unset] [(.int (((cc + (8192 : Int32)) - (1 : Int32)) / (8192 : Int32)))])) t → Steps p.tables e below (s₁.setTop (entryFrame m #[(.int p1), (.int p2)] maxLocals)) t := by
    intro t k
    refine pre1 t ?_
    refine st2 _ ?_
    show Steps p.tables e below (T2.setTop (mkF m 12 #[.val (.int p1), .val (.int p2), .val (.int cc), .unset, .unset, .unset] [(.int (((cc + (8192 : Int32)) - (1 : Int32)) / (8192 : Int32)))])) _
    exact k
  obtain ⟨pg, hpg⟩ : ∃ z : Int32, z = (((cc + (8192 : Int32)) - (1 : Int32)) / (8192 : Int32)) := ⟨_, rfl⟩
  rw [← hpg] at pre3
  have hp := own_pg hpg hc0 (by omega)
  have b14 : ¬ (pg < (0 : Int32)) := by rw [Int32.lt_iff_toInt_lt]; have : (0 : Int32).toInt = 0 := rfl; omega
  have b21 : ¬ ((512 : Int32) < pg) := by rw [Int32.lt_iff_toInt_lt]; have : (512 : Int32).toInt = 512 := rfl; omega
  have l1 := own_l (z := pg) (by omega) (by omega)
  have l0 := Jvm.Kit.i64_of_i32 cc
  have b35 : ¬ ((pg.toInt64 * (8192 : Int64)) < cc.toInt64) := by rw [Int64.lt_iff_toInt_lt]; omega
  have e3 : (1 : Int32).toInt = 1 := rfl
  have s1 : (pg - (1 : Int32)).toInt = pg.toInt - (1 : Int32).toInt := Jvm.Kit.i32_sub (by omega) (by omega)
  have l2 := own_l (z := pg - (1 : Int32)) (by omega) (by omega)
  have b51 : ((pg - (1 : Int32)).toInt64 * (8192 : Int64)) < cc.toInt64 := by rw [Int64.lt_iff_toInt_lt]; omega
  have pre4 : ∀ t, Steps p.tables e below (T2.setTop (mkF m 65 #[.val (.int p1), .val (.int p2), .val (.int cc), .val (.int pg), .unset, .unset] [(.int ((p2 &&& (1023 : Int32)) % (513 : Int32)))])) t → Steps p.tables e below (s₁.setTop (entryFrame m #[(.int p1), (.int p2)] maxLocals)) t := by
    intro t k
    refine pre3 t ?_
    show Steps p.tables e below (T2.setTop (mkF m 12 #[.val (.int p1), .val (.int p2), .val (.int cc), .unset, .unset, .unset] [(.int pg)])) _
    refine XS.istoreN X2.here hx rfl (hb hby at_12) rfl (l' := #[.val (.int p1), .val (.int p2), .val (.int cc), .val (.int pg), .unset, .unset]) rfl ?_
    show Steps p.tables e below (T2.setTop (mkF m 13 #[.val (.int p1), .val (.int p2), .val (.int cc), .val (.int pg), .unset, .unset] [])) _
    refine XS.iloadN X2.here hx rfl (hb hby at_13) rfl ?_
    show Steps p.tables e below (T2.setTop (mkF m 14 #[.val (.int p1), .val (.int p2), .val (.int cc), .val (.int pg), .unset, .unset] [(.int pg)])) _
    refine XS.ifNo X2.here hx rfl (hb hby at_14) rfl ((if0 _ _).trans (flt b14).1) ?_
    show Steps p.tables e below (T2.setTop (mkF m 17 #[.val (.int p1), .val (.int p2), .val (.int cc), .val (.int pg), .unset, .unset] [])) _
    refine XS.iloadN X2.here hx rfl (hb hby at_17) rfl ?_
    show Steps p.tables e below (T2.setTop (mkF m 18 #[.val (.int p1), .val (.int p2), .val (.int cc), .val (.int pg), .unset, .unset] [(.int pg)])) _
    refine XS.sipush X2.here hx rfl (hb hby at_18) ?_
    show Steps p.tables e below (T2.setTop (mkF m 21 #[.val (.int p1), .val (.int p2), .val (.int cc), .val (.int pg), .unset, .unset] [(.int (512 : Int32)), (.int pg)])) _
    refine XS.icmpYes X2.here hx rfl (pc0 := 21) (pc' := 26) rfl (hb hby at_21) rfl (flt b21).2.2.2 (by decide) (by decide) ?_
    show Steps p.tables e below (T2.setTop (mkF m 26 #[.val (.int p1), .val (.int p2), .val (.int cc), .val (.int pg), .unset, .unset] [])) _
    refine XS.iloadN X2.here hx rfl (hb hby at_26) rfl ?_
    show Steps p.tables e below (T2.setTop (mkF m 27 #[.val (.int p1), .val (.int p2), .val (.int cc), .val (.int pg), .unset, .unset] [(.int pg)])) _
    refine XS.i2l X2.here hx rfl (hb hby at_27) rfl ?_
    show Steps p.tables e below (T2.setTop (mkF m 28 #[.val (.int p1), .val (.int p2), .val (.int cc), .val (.int pg), .unset, .unset] [(.long (pg.toInt64))])) _
    refine X2.ldc2Long hx hown (mvT hZ (hw _ (List.mem_of_getElem? (i := 6) rfl))) (g := (mkF m 28 #[.val (.int p1), .val (.int p2), .val (.int cc), .val (.int pg), .unset, .unset] [(.long (pg.toInt64))])) rfl (hb hby at_28) _ ?_
    show Steps p.tables e below (T2.setTop (mkF m 31 #[.val (.int p1), .val (.int p2), .val (.int cc), .val (.int pg), .unset, .unset] [(.long (8192 : Int64)), (.long (pg.toInt64))])) _
    refine XS.lmul X2.here hx rfl (hb hby at_31) rfl ?_
    show Steps p.tables e below (T2.setTop (mkF m 32 #[.val (.int p1), .val (.int p2), .val (.int cc), .val (.int pg), .unset, .unset] [(.long ((pg.toInt64) * (8192 : Int64)))])) _
    refine XS.iloadN X2.here hx rfl (hb hby at_32) rfl ?_
    show Steps p.tables e below (T2.setTop (mkF m 33 #[.val (.int p1), .val (.int p2), .val (.int cc), .val (.int pg), .unset, .unset] [(.int cc), (.long ((pg.toInt64) * (8192 : Int64)))])) _
    refine XS.i2l X2.here hx rfl (hb hby at_33) rfl ?_
    show Steps p.tables e below (T2.setTop (mkF m 34 #[.val (.int p1), .val (.int p2), .val (.int cc), .val (.int pg), .unset, .unset] [(.long (cc.toInt64)), (.long ((pg.toInt64) * (8192 : Int64)))])) _
    refine XS.lcmp X2.here hx rfl (hb hby at_34) rfl ?_
    show Steps p.tables e below (T2.setTop (mkF m 35 #[.val (.int p1), .val (.int p2), .val (.int cc), .val (.int pg), .unset, .unset] [(.int (lcmpW ((pg.toInt64) * (8192 : Int64)) (cc.toInt64)))])) _
    refine XS.ifYes X2.here hx rfl (pc0 := 35) (pc' := 40) rfl (hb hby at_35) rfl ((if0 _ _).trans (flt (mt (lw_lt ((pg.toInt64) * (8192 : Int64)) (cc.toInt64)).mp b35)).2.1) (by decide) (by decide) ?_
    show Steps p.tables e below (T2.setTop (mkF m 40 #[.val (.int p1), .val (.int p2), .val (.int cc), .val (.int pg), .unset, .unset] [])) _
    refine XS.iloadN X2.here hx rfl (hb hby at_40) rfl ?_
    show Steps p.tables e below (T2.setTop (mkF m 41 #[.val (.int p1), .val (.int p2), .val (.int cc), .val (.int pg), .unset, .unset] [(.int pg)])) _
    refine XS.iconst X2.here hx rfl (hb hby at_41) ?_
    show Steps p.tables e below (T2.setTop (mkF m 42 #[.val (.int p1), .val (.int p2), .val (.int cc), .val (.int pg), .unset, .unset] [(.int (1 : Int32)), (.int pg)])) _
    refine XS.isub X2.here hx rfl (hb hby at_42) rfl ?_
    show Steps p.tables e below (T2.setTop (mkF m 43 #[.val (.int p1), .val (.int p2), .val (.int cc), .val (.int pg), .unset, .unset] [(.int (pg - (1 : Int32)))])) _
    refine XS.i2l X2.here hx rfl (hb hby at_43) rfl ?_
    show Steps p.tables e below (T2.setTop (mkF m 44 #[.val (.int p1), .val (.int p2), .val (.int cc), .val (.int pg), .unset, .unset] [(.long ((pg - (1 : Int32)).toInt64))])) _
    refine X2.ldc2Long hx hown (mvT hZ (hw _ (List.mem_of_getElem? (i := 6) rfl))) (g := (mkF m 44 #[.val (.int p1), .val (.int p2), .val (.int cc), .val (.int pg), .unset, .unset] [(.long ((pg - (1 : Int32)).toInt64))])) rfl (hb hby at_44) _ ?_
    show Steps p.tables e below (T2.setTop (mkF m 47 #[.val (.int p1), .val (.int p2), .val (.int cc), .val (.int pg), .unset, .unset] [(.long (8192 : Int64)), (.long ((pg - (1 : Int32)).toInt64))])) _
    refine XS.lmul X2.here hx rfl (hb hby at_47) rfl ?_
    show Steps p.tables e below (T2.setTop (mkF m 48 #[.val (.int p1), .val (.int p2), .val (.int cc), .val (.int pg), .unset, .unset] [(.long (((pg - (1 : Int32)).toInt64) * (8192 : Int64)))])) _
    refine XS.iloadN X2.here hx rfl (hb hby at_48) rfl ?_
    show Steps p.tables e below (T2.setTop (mkF m 49 #[.val (.int p1), .val (.int p2), .val (.int cc), .val (.int pg), .unset, .unset] [(.int cc), (.long (((pg - (1 : Int32)).toInt64) * (8192 : Int64)))])) _
    refine XS.i2l X2.here hx rfl (hb hby at_49) rfl ?_
    show Steps p.tables e below (T2.setTop (mkF m 50 #[.val (.int p1), .val (.int p2), .val (.int cc), .val (.int pg), .unset, .unset] [(.long (cc.toInt64)), (.long (((pg - (1 : Int32)).toInt64) * (8192 : Int64)))])) _
    refine XS.lcmp X2.here hx rfl (hb hby at_50) rfl ?_
    show Steps p.tables e below (T2.setTop (mkF m 51 #[.val (.int p1), .val (.int p2), .val (.int cc), .val (.int pg), .unset, .unset] [(.int (lcmpW (((pg - (1 : Int32)).toInt64) * (8192 : Int64)) (cc.toInt64)))])) _
    refine XS.ifYes X2.here hx rfl (pc0 := 51) (pc' := 56) rfl (hb hby at_51) rfl ((if0 _ _).trans (tlt ((lw_lt (((pg - (1 : Int32)).toInt64) * (8192 : Int64)) (cc.toInt64)).mpr b51)).1) (by decide) (by decide) ?_
    show Steps p.tables e below (T2.setTop (mkF m 56 #[.val (.int p1), .val (.int p2), .val (.int cc), .val (.int pg), .unset, .unset] [])) _
    refine XS.iloadN X2.here hx rfl (hb hby at_56) rfl ?_
    show Steps p.tables e below (T2.setTop (mkF m 57 #[.val (.int p1), .val (.int p2), .val (.int cc), .val (.int pg), .unset, .unset] [(.int p2)])) _
    refine XS.sipush X2.here hx rfl (hb hby at_57) ?_
    show Steps p.tables e below (T2.setTop (mkF m 60 #[.val (.int p1), .val (.int p2), .val (.int cc), .val (.int pg), .unset, .unset] [(.int (1023 : Int32)), (.int p2)])) _
    refine XS.iand X2.here hx rfl (hb hby at_60) rfl ?_
    show Steps p.tables e below (T2.setTop (mkF m 61 #[.val (.int p1), .val (.int p2), .val (.int cc), .val (.int pg), .unset, .unset] [(.int (p2 &&& (1023 : Int32)))])) _
    refine XS.sipush X2.here hx rfl (hb hby at_61) ?_
    show Steps p.tables e below (T2.setTop (mkF m 64 #[.val (.int p1), .val (.int p2), .val (.int cc), .val (.int pg), .unset, .unset] [(.int (513 : Int32)), (.int (p2 &&& (1023 : Int32)))])) _
    refine iremM X2 hx rfl (hb hby at_64) rfl (by decide) ?_
    show Steps p.tables e below (T2.setTop (mkF m 65 #[.val (.int p1), .val (.int p2), .val (.int cc), .val (.int pg), .unset, .unset] [(.int ((p2 &&& (1023 : Int32)) % (513 : Int32)))])) _
    exact k
  obtain ⟨kk, hkk⟩ : ∃ z : Int32, z = ((p2 &&& (1023 : Int32)) % (513 : Int32)) := ⟨_, rfl⟩
  rw [← hkk] at pre4
  obtain ⟨hk0, hk1⟩ := own_k hkk
  have pre5 : ∀ t, Steps p.tables e below (T2.setTop (mkF m 73 #[.val (.int p1), .val (.int p2), .val (.int cc), .val (.int pg), .val (.int kk), .unset] [(.int (kk * (8192 : Int32)))])) t → Steps p.tables e below (s₁.setTop (entryFrame m #[(.int p1), (.int p2)] maxLocals)) t := by
    intro t k
    refine pre4 t ?_
    show Steps p.tables e below (T2.setTop (mkF m 65 #[.val (.int p1), .val (.int p2), .val (.int cc), .val (.int pg), .unset, .unset] [(.int kk)])) _
    refine XS.istore X2.here hx rfl (hb hby at_65) rfl (l' := #[.val (.int p1), .val (.int p2), .val (.int cc), .val (.int pg), .val (.int kk), .unset]) rfl ?_
    show Steps p.tables e below (T2.setTop (mkF m 67 #[.val (.int p1), .val (.int p2), .val (.int cc), .val (.int pg), .val (.int kk), .unset] [])) _
    refine XS.iload X2.here hx rfl (hb hby at_67) rfl ?_
    show Steps p.tables e below (T2.setTop (mkF m 69 #[.val (.int p1), .val (.int p2), .val (.int cc), .val (.int pg), .val (.int kk), .unset] [(.int kk)])) _
    refine XS.sipush X2.here hx rfl (hb hby at_69) ?_
    show Steps p.tables e below (T2.setTop (mkF m 72 #[.val (.int p1), .val (.int p2), .val (.int cc), .val (.int pg), .val (.int kk), .unset] [(.int (8192 : Int32)), (.int kk)])) _
    refine XS.imul X2.here hx rfl (hb hby at_72) rfl ?_
    show Steps p.tables e below (T2.setTop (mkF m 73 #[.val (.int p1), .val (.int p2), .val (.int cc), .val (.int pg), .val (.int kk), .unset] [(.int (kk * (8192 : Int32)))])) _
    exact k
  obtain ⟨ab, hab⟩ : ∃ z : Int32, z = (kk * (8192 : Int32)) := ⟨_, rfl⟩
  rw [← hab] at pre5
  have ha := own_at hab hk0 hk1
  obtain ⟨_, _, ⟨T6, L6, k6, n6⟩, -, X6, ⟨Lc6, hQ6, l6, y6, z6⟩, st6⟩ := Jvm.LawKit.callS X2 hx (y := (⟨"com/example/tallybuf/tallybuf/alloc/Arena", "pages", "(I)I"⟩ : MethodName)) hown (mvT hZ (hw _ (List.mem_of_getElem? (i := 2) rfl))) (mvT hZ (hw _ (List.mem_of_getElem? (i := 3) rfl))) (mvT hZ (hw _ (List.mem_of_getElem? (i := 4) rfl))) (mvT hZ (hw _ (List.mem_of_getElem? (i := 5) rfl))) (by decide) (backOf (W := 0) (rm1 l Z a0 hw [] ab  h0 n0 Z0 ) hZ (hw _ (List.mem_of_getElem? (i := 5) rfl)) (hw _ (List.mem_of_getElem? (i := 4) rfl)) (by decide) (by decide)) (g := (mkF m 77 #[.val (.int p1), .val (.int p2), .val (.int cc), .val (.int pg), .val (.int kk), .val (.int ab)] [(.int ab)])) rfl (by rw [hml]; rfl) (argsL := [(.int ab)]) (rest := []) (lenOf pd_0 rfl) rfl (by show 2 * 0 + _ ≤ _; exact Nat.le_of_eq rfl) (hb hby at_77) (fun _ _ => ⟨rfl, hq2, (by decide : 0 + 0 ≤ _), (by decide : 0 + 0 ≤ _)⟩)
  dsimp only [Pt.U, Pt.locs, Pt.cells, Pt.slots] at X6 l6 y6 z6 st6 hQ6
  subst l6 y6 z6
  obtain ⟨rfl, N6q, hq6⟩ := hQ6
  have N6 := Fr.app N2 N6q
  have b82 : (((ab + (8192 : Int32)) - (1 : Int32)) / (8192 : Int32)) = kk := Int32.toInt_inj.mp (by rw [own_pg rfl (by omega) (by omega)]; omega)
  have pre7 : ∀ t, Steps p.tables e below (T6.setTop (mkF m 89 #[.val (.int p1), .val (.int p2), .val (.int cc), .val (.int pg), .val (.int kk), .val (.int ab)] [(.int kk)])) t → Steps p.tables e below (s₁.setTop (entryFrame m #[(.int p1), (.int p2)] maxLocals)) t := by
    intro t k
    refine pre5 t ?_
    show Steps p.tables e below (T2.setTop (mkF m 73 #[.val (.int p1), .val (.int p2), .val (.int cc), .val (.int pg), .val (.int kk), .unset] [(.int ab)])) _
    refine XS.istore X2.here hx rfl (hb hby at_73) rfl (l' := #[.val (.int p1), .val (.int p2), .val (.int cc), .val (.int pg), .val (.int kk), .val (.int ab)]) rfl ?_
    show Steps p.tables e below (T2.setTop (mkF m 75 #[.val (.int p1), .val (.int p2), .val (.int cc), .val (.int pg), .val (.int kk), .val (.int ab)] [])) _
    refine XS.iload X2.here hx rfl (hb hby at_75) rfl ?_
    show Steps p.tables e below (T2.setTop (mkF m 77 #[.val (.int p1), .val (.int p2), .val (.int cc), .val (.int pg), .val (.int kk), .val (.int ab)] [(.int ab)])) _
    refine st6 _ ?_
    show Steps p.tables e below (T6.setTop (mkF m 80 #[.val (.int p1), .val (.int p2), .val (.int cc), .val (.int pg), .val (.int kk), .val (.int ab)] [(.int (((ab + (8192 : Int32)) - (1 : Int32)) / (8192 : Int32)))])) _
    refine XS.iload X6.here hx rfl (hb hby at_80) rfl ?_
    show Steps p.tables e below (T6.setTop (mkF m 82 #[.val (.int p1), .val (.int p2), .val (.int cc), .val (.int pg), .val (.int kk), .val (.int ab)] [(.int kk), (.int (((ab + (8192 : Int32)) - (1 : Int32)) / (8192 : Int32)))])) _
    refine XS.icmpYes X6.here hx rfl (pc0 := 82) (pc' := 87) rfl (hb hby at_82) rfl (teq b82).1 (by decide) (by decide) ?_
    show Steps p.tables e below (T6.setTop (mkF m 87 #[.val (.int p1), .val (.int p2), .val (.int cc), .val (.int pg), .val (.int kk), .val (.int ab)] [])) _
    refine XS.iload X6.here hx rfl (hb hby at_87) rfl ?_
    show Steps p.tables e below (T6.setTop (mkF m 89 #[.val (.int p1), .val (.int p2), .val (.int cc), .val (.int pg), .val (.int kk), .val (.int ab)] [(.int kk)])) _
    exact k
  by_cases h89 : (0 : Int32) < kk
  · skip
    have h89' := Int32.lt_iff_toInt_lt.mp h89
    have e6 : (0 : Int32).toInt = 0 := rfl
    have s4 : (ab - (1 : Int32)).toInt = ab.toInt - (1 : Int32).toInt := Jvm.Kit.i32_sub (by omega) (by omega)
    have b101 : ((((ab - (1 : Int32)) + (8192 : Int32)) - (1 : Int32)) / (8192 : Int32)) = kk := Int32.toInt_inj.mp (by rw [own_pg rfl (by omega) (by omega)]; omega)
    obtain ⟨_, _, ⟨T8, L8, k8, n8⟩, -, X8, ⟨Lc8, hQ8, l8, y8, z8⟩, st8⟩ := Jvm.LawKit.callS X6 hx (y := (⟨"com/example/tallybuf/tallybuf/alloc/Arena", "pages", "(I)I"⟩ : MethodName)) hown (mvT hZ (hw _ (List.mem_of_getElem? (i := 2) rfl))) (mvT hZ (hw _ (List.mem_of_getElem? (i := 3) rfl))) (mvT hZ (hw _ (List.mem_of_getElem? (i := 4) rfl))) (mvT hZ (hw _ (List.mem_of_getElem? (i := 5) rfl))) (by decide) (backOf (W := 0) (rm1 l Z a0 hw [] (ab - (1 : Int32))  h0 n0 Z0 ) hZ (hw _ (List.mem_of_getElem? (i := 5) rfl)) (hw _ (List.mem_of_getElem? (i := 4) rfl)) (by decide) (by decide)) (g := (mkF m 96 #[.val (.int p1), .val (.int p2), .val (.int cc), .val (.int pg), .val (.int kk), .val (.int ab)] [(.int (ab - (1 : Int32)))])) rfl (by rw [hml]; rfl) (argsL := [(.int (ab - (1 : Int32)))]) (rest := []) (lenOf pd_0 rfl) rfl (by show 2 * 0 + _ ≤ _; exact Nat.le_of_eq rfl) (hb hby at_96) (fun _ _ => ⟨rfl, hq6, (by decide : 0 + 0 ≤ _), (by decide : 0 + 0 ≤ _)⟩)
    dsimp only [Pt.U, Pt.locs, Pt.cells, Pt.slots] at X8 l8 y8 z8 st8 hQ8
    subst l8 y8 z8
    obtain ⟨rfl, N8q, hq8⟩ := hQ8
    have N8 := Fr.app N6 N8q
    have pre9 : ∀ t, Steps p.tables e below (T8.setTop (mkF m 111 #[.val (.int p1), .val (.int p2), .val (.int cc), .val (.int pg), .val (.int kk), .val (.int ab)] [(.int (512 : Int32)), (.int kk)])) t → Steps p.tables e below (s₁.setTop (entryFrame m #[(.int p1), (.int p2)] maxLocals)) t := by
      intro t k
      refine pre7 t ?_
      refine XS.ifNo X6.here hx rfl (hb hby at_89) rfl ((if0 _ _).trans (tlt h89).2.2.2) ?_
      show Steps p.tables e below (T6.setTop (mkF m 92 #[.val (.int p1), .val (.int p2), .val (.int cc), .val (.int pg), .val (.int kk), .val (.int ab)] [])) _
      refine XS.iload X6.here hx rfl (hb hby at_92) rfl ?_
      show Steps p.tables e below (T6.setTop (mkF m 94 #[.val (.int p1), .val (.int p2), .val (.int cc), .val (.int pg), .val (.int kk), .val (.int ab)] [(.int ab)])) _
      refine XS.iconst X6.here hx rfl (hb hby at_94) ?_
      show Steps p.tables e below (T6.setTop (mkF m 95 #[.val (.int p1), .val (.int p2), .val (.int cc), .val (.int pg), .val (.int kk), .val (.int ab)] [(.int (1 : Int32)), (.int ab)])) _
      refine XS.isub X6.here hx rfl (hb hby at_95) rfl ?_
      show Steps p.tables e below (T6.setTop (mkF m 96 #[.val (.int p1), .val (.int p2), .val (.int cc), .val (.int pg), .val (.int kk), .val (.int ab)] [(.int (ab - (1 : Int32)))])) _
      refine st8 _ ?_
      show Steps p.tables e below (T8.setTop (mkF m 99 #[.val (.int p1), .val (.int p2), .val (.int cc), .val (.int pg), .val (.int kk), .val (.int ab)] [(.int ((((ab - (1 : Int32)) + (8192 : Int32)) - (1 : Int32)) / (8192 : Int32)))])) _
      refine XS.iload X8.here hx rfl (hb hby at_99) rfl ?_
      show Steps p.tables e below (T8.setTop (mkF m 101 #[.val (.int p1), .val (.int p2), .val (.int cc), .val (.int pg), .val (.int kk), .val (.int ab)] [(.int kk), (.int ((((ab - (1 : Int32)) + (8192 : Int32)) - (1 : Int32)) / (8192 : Int32)))])) _
      refine XS.icmpYes X8.here hx rfl (pc0 := 101) (pc' := 106) rfl (hb hby at_101) rfl (teq b101).1 (by decide) (by decide) ?_
      show Steps p.tables e below (T8.setTop (mkF m 106 #[.val (.int p1), .val (.int p2), .val (.int cc), .val (.int pg), .val (.int kk), .val (.int ab)] [])) _
      refine XS.iload X8.here hx rfl (hb hby at_106) rfl ?_
      show Steps p.tables e below (T8.setTop (mkF m 108 #[.val (.int p1), .val (.int p2), .val (.int cc), .val (.int pg), .val (.int kk), .val (.int ab)] [(.int kk)])) _
      refine XS.sipush X8.here hx rfl (hb hby at_108) ?_
      show Steps p.tables e below (T8.setTop (mkF m 111 #[.val (.int p1), .val (.int p2), .val (.int cc), .val (.int pg), .val (.int kk), .val (.int ab)] [(.int (512 : Int32)), (.int kk)])) _
      exact k
    by_cases h111 : kk < (512 : Int32)
    · skip
      have h111' := Int32.lt_iff_toInt_lt.mp h111
      have e4 : (1 : Int32).toInt = 1 := rfl
      have e5 : (512 : Int32).toInt = 512 := rfl
      have s2 : (ab + (1 : Int32)).toInt = ab.toInt + (1 : Int32).toInt := Jvm.Kit.i32_add (by omega) (by omega)
      have s3 : (kk + (1 : Int32)).toInt = kk.toInt + (1 : Int32).toInt := Jvm.Kit.i32_add (by omega) (by omega)
      have b125 : ((((ab + (1 : Int32)) + (8192 : Int32)) - (1 : Int32)) / (8192 : Int32)) = (kk + (1 : Int32)) := Int32.toInt_inj.mp (by rw [own_pg rfl (by omega) (by omega)]; omega)
      obtain ⟨_, _, ⟨T10, L10, k10, n10⟩, -, X10, ⟨Lc10, hQ10, l10, y10, z10⟩, st10⟩ := Jvm.LawKit.callS X8 hx (y := (⟨"com/example/tallybuf/tallybuf/alloc/Arena", "pages", "(I)I"⟩ : MethodName)) hown (mvT hZ (hw _ (List.mem_of_getElem? (i := 2) rfl))) (mvT hZ (hw _ (List.mem_of_getElem? (i := 3) rfl))) (mvT hZ (hw _ (List.mem_of_getElem? (i := 4) rfl))) (mvT hZ (hw _ (List.mem_of_getElem? (i := 5) rfl))) (by decide) (backOf (W := 0) (rm1 l Z a0 hw [] (ab + (1 : Int32))  h0 n0 Z0 ) hZ (hw _ (List.mem_of_getElem? (i := 5) rfl)) (hw _ (List.mem_of_getElem? (i := 4) rfl)) (by decide) (by decide)) (g := (mkF m 118 #[.val (.int p1), .val (.int p2), .val (.int cc), .val (.int pg), .val (.int kk), .val (.int ab)] [(.int (ab + (1 : Int32)))])) rfl (by rw [hml]; rfl) (argsL := [(.int (ab + (1 : Int32)))]) (rest := []) (lenOf pd_0 rfl) rfl (by show 2 * 0 + _ ≤ _; exact Nat.le_of_eq rfl) (hb hby at_118) (fun _ _ => ⟨rfl, hq8, (by decide : 0 + 0 ≤ _), (by decide : 0 + 0 ≤ _)⟩)
      dsimp only [Pt.U, Pt.locs, Pt.cells, Pt.slots] at X10 l10 y10 z10 st10 hQ10
      subst l10 y10 z10
      obtain ⟨rfl, N10q, hq10⟩ := hQ10
      have N10 := Fr.app N8 N10q
      have pre11 : ∀ t, Steps p.tables e below (T10.setTop (mkF m 131 #[.val (.int p1), .val (.int p2), .val (.int cc), .val (.int pg), .val (.int kk), .val (.int ab)] [(.int (1 : Int32))])) t → Steps p.tables e below (s₁.setTop (entryFrame m #[(.int p1), (.int p2)] maxLocals)) t := by
        intro t k
        refine pre9 t ?_
        refine XS.icmpNo X8.here hx rfl (hb hby at_111) rfl (tlt h111).2.1 ?_
        show Steps p.tables e below (T8.setTop (mkF m 114 #[.val (.int p1), .val (.int p2), .val (.int cc), .val (.int pg), .val (.int kk), .val (.int ab)] [])) _
        refine XS.iload X8.here hx rfl (hb hby at_114) rfl ?_
        show Steps p.tables e below (T8.setTop (mkF m 116 #[.val (.int p1), .val (.int p2), .val (.int cc), .val (.int pg), .val (.int kk), .val (.int ab)] [(.int ab)])) _
        refine XS.iconst X8.here hx rfl (hb hby at_116) ?_
        show Steps p.tables e below (T8.setTop (mkF m 117 #[.val (.int p1), .val (.int p2), .val (.int cc), .val (.int pg), .val (.int kk), .val (.int ab)] [(.int (1 : Int32)), (.int ab)])) _
        refine XS.iadd X8.here hx rfl (hb hby at_117) rfl ?_
        show Steps p.tables e below (T8.setTop (mkF m 118 #[.val (.int p1), .val (.int p2), .val (.int cc), .val (.int pg), .val (.int kk), .val (.int ab)] [(.int (ab + (1 : Int32)))])) _
        refine st10 _ ?_
        show Steps p.tables e below (T10.setTop (mkF m 121 #[.val (.int p1), .val (.int p2), .val (.int cc), .val (.int pg), .val (.int kk), .val (.int ab)] [(.int ((((ab + (1 : Int32)) + (8192 : Int32)) - (1 : Int32)) / (8192 : Int32)))])) _
        refine XS.iload X10.here hx rfl (hb hby at_121) rfl ?_
        show Steps p.tables e below (T10.setTop (mkF m 123 #[.val (.int p1), .val (.int p2), .val (.int cc), .val (.int pg), .val (.int kk), .val (.int ab)] [(.int kk), (.int ((((ab + (1 : Int32)) + (8192 : Int32)) - (1 : Int32)) / (8192 : Int32)))])) _
        refine XS.iconst X10.here hx rfl (hb hby at_123) ?_
        show Steps p.tables e below (T10.setTop (mkF m 124 #[.val (.int p1), .val (.int p2), .val (.int cc), .val (.int pg), .val (.int kk), .val (.int ab)] [(.int (1 : Int32)), (.int kk), (.int ((((ab + (1 : Int32)) + (8192 : Int32)) - (1 : Int32)) / (8192 : Int32)))])) _
        refine XS.iadd X10.here hx rfl (hb hby at_124) rfl ?_
        show Steps p.tables e below (T10.setTop (mkF m 125 #[.val (.int p1), .val (.int p2), .val (.int cc), .val (.int pg), .val (.int kk), .val (.int ab)] [(.int (kk + (1 : Int32))), (.int ((((ab + (1 : Int32)) + (8192 : Int32)) - (1 : Int32)) / (8192 : Int32)))])) _
        refine XS.icmpYes X10.here hx rfl (pc0 := 125) (pc' := 130) rfl (hb hby at_125) rfl (teq b125).1 (by decide) (by decide) ?_
        show Steps p.tables e below (T10.setTop (mkF m 130 #[.val (.int p1), .val (.int p2), .val (.int cc), .val (.int pg), .val (.int kk), .val (.int ab)] [])) _
        refine XS.iconst X10.here hx rfl (hb hby at_130) ?_
        show Steps p.tables e below (T10.setTop (mkF m 131 #[.val (.int p1), .val (.int p2), .val (.int cc), .val (.int pg), .val (.int kk), .val (.int ab)] [(.int (1 : Int32))])) _
        exact k
      obtain ⟨fs, hr, hrun, hended, hW, hsame⟩ := X10.leave (v := some (.int (1 : Int32))) (fun h => by rw [Bd.returns] at h; cases h)
      refine ⟨_, _, pre11 _ ?_, hrun, hended, _, _, rfl, ?_, ⟨_, rfl⟩, hW, hsame.mono (by decide) (by decide)⟩
      · exact retN X10 hx (t := .boolean) Bd.returns (by simp) (hb hby at_131) hr
      · show Q_rm0 Z p1 p2 h0 n0 _ T10.heap _
        rw [hq10]
        exact ⟨rfl, N10⟩
    · skip
      have pre12 : ∀ t, Steps p.tables e below (T8.setTop (mkF m 131 #[.val (.int p1), .val (.int p2), .val (.int cc), .val (.int pg), .val (.int kk), .val (.int ab)] [(.int (1 : Int32))])) t → Steps p.tables e below (s₁.setTop (entryFrame m #[(.int p1), (.int p2)] maxLocals)) t := by
        intro t k
        refine pre9 t ?_
        refine XS.icmpYes X8.here hx rfl (pc0 := 111) (pc' := 130) rfl (hb hby at_111) rfl (flt h111).2.1 (by decide) (by decide) ?_
        show Steps p.tables e below (T8.setTop (mkF m 130 #[.val (.int p1), .val (.int p2), .val (.int cc), .val (.int pg), .val (.int kk), .val (.int ab)] [])) _
        refine XS.iconst X8.here hx rfl (hb hby at_130) ?_
        show Steps p.tables e below (T8.setTop (mkF m 131 #[.val (.int p1), .val (.int p2), .val (.int cc), .val (.int pg), .val (.int kk), .val (.int ab)] [(.int (1 : Int32))])) _
        exact k
      obtain ⟨fs, hr, hrun, hended, hW, hsame⟩ := X8.leave (v := some (.int (1 : Int32))) (fun h => by rw [Bd.returns] at h; cases h)
      refine ⟨_, _, pre12 _ ?_, hrun, hended, _, _, rfl, ?_, ⟨_, rfl⟩, hW, hsame.mono (by decide) (by decide)⟩
      · exact retN X8 hx (t := .boolean) Bd.returns (by simp) (hb hby at_131) hr
      · show Q_rm0 Z p1 p2 h0 n0 _ T8.heap _
        rw [hq8]
        exact ⟨rfl, N8⟩
  · skip
    have pre13 : ∀ t, Steps p.tables e below (T6.setTop (mkF m 111 #[.val (.int p1), .val (.int p2), .val (.int cc), .val (.int pg), .val (.int kk), .val (.int ab)] [(.int (512 : Int32)), (.int kk)])) t → Steps p.tables e below (s₁.setTop (entryFrame m #[(.int p1), (.int p2)] maxLocals)) t := by
      intro t k
      refine pre7 t ?_
      refine XS.ifYes X6.here hx rfl (pc0 := 89) (pc' := 106) rfl (hb hby at_89) rfl ((if0 _ _).trans (flt h89).2.2.2) (by decide) (by decide) ?_
      show Steps p.tables e below (T6.setTop (mkF m 106 #[.val (.int p1), .val (.int p2), .val (.int cc), .val (.int pg), .val (.int kk), .val (.int ab)] [])) _
      refine XS.iload X6.here hx rfl (hb hby at_106) rfl ?_
      show Steps p.tables e below (T6.setTop (mkF m 108 #[.val (.int p1), .val (.int p2), .val (.int cc), .val (.int pg), .val (.int kk), .val (.int ab)] [(.int kk)])) _
      refine XS.sipush X6.here hx rfl (hb hby at_108) ?_
      show Steps p.tables e below (T6.setTop (mkF m 111 #[.val (.int p1), .val (.int p2), .val (.int cc), .val (.int pg), .val (.int kk), .val (.int ab)] [(.int (512 : Int32)), (.int kk)])) _
      exact k
    by_cases h111 : kk < (512 : Int32)
    · skip
      have h111' := Int32.lt_iff_toInt_lt.mp h111
      have e4 : (1 : Int32).toInt = 1 := rfl
      have e5 : (512 : Int32).toInt = 512 := rfl
      have s2 : (ab + (1 : Int32)).toInt = ab.toInt + (1 : Int32).toInt := Jvm.Kit.i32_add (by omega) (by omega)
      have s3 : (kk + (1 : Int32)).toInt = kk.toInt + (1 : Int32).toInt := Jvm.Kit.i32_add (by omega) (by omega)
      have b125 : ((((ab + (1 : Int32)) + (8192 : Int32)) - (1 : Int32)) / (8192 : Int32)) = (kk + (1 : Int32)) := Int32.toInt_inj.mp (by rw [own_pg rfl (by omega) (by omega)]; omega)
      obtain ⟨_, _, ⟨T14, L14, k14, n14⟩, -, X14, ⟨Lc14, hQ14, l14, y14, z14⟩, st14⟩ := Jvm.LawKit.callS X6 hx (y := (⟨"com/example/tallybuf/tallybuf/alloc/Arena", "pages", "(I)I"⟩ : MethodName)) hown (mvT hZ (hw _ (List.mem_of_getElem? (i := 2) rfl))) (mvT hZ (hw _ (List.mem_of_getElem? (i := 3) rfl))) (mvT hZ (hw _ (List.mem_of_getElem? (i := 4) rfl))) (mvT hZ (hw _ (List.mem_of_getElem? (i := 5) rfl))) (by decide) (backOf (W := 0) (rm1 l Z a0 hw [] (ab + (1 : Int32))  h0 n0 Z0 ) hZ (hw _ (List.mem_of_getElem? (i := 5) rfl)) (hw _ (List.mem_of_getElem? (i := 4) rfl)) (by decide) (by decide)) (g := (mkF m 118 #[.val (.int p1), .val (.int p2), .val (.int cc), .val (.int pg), .val (.int kk), .val (.int ab)] [(.int (ab + (1 : Int32)))])) rfl (by rw [hml]; rfl) (argsL := [(.int (ab + (1 : Int32)))]) (rest := []) (lenOf pd_0 rfl) rfl (by show 2 * 0 + _ ≤ _; exact Nat.le_of_eq rfl) (hb hby at_118) (fun _ _ => ⟨rfl, hq6, (by decide : 0 + 0 ≤ _), (by decide : 0 + 0 ≤ _)⟩)
      dsimp only [Pt.U, Pt.locs, Pt.cells, Pt.slots] at X14 l14 y14 z14 st14 hQ14
      subst l14 y14 z14
      obtain ⟨rfl, N14q, hq14⟩ := hQ14
      have N14 := Fr.app N6 N14q
      have pre15 : ∀ t, Steps p.tables e below (T14.setTop (mkF m 131 #[.val (.int p1), .val (.int p2), .val (.int cc), .val (.int pg), .val (.int kk), .val (.int ab)] [(.int (1 : Int32))])) t → Steps p.tables e below (s₁.setTop (entryFrame m #[(.int p1), (.int p2)] maxLocals)) t := by
        intro t k
        refine pre13 t ?_
        refine XS.icmpNo X6.here hx rfl (hb hby at_111) rfl (tlt h111).2.1 ?_
        show Steps p.tables e below (T6.setTop (mkF m 114 #[.val (.int p1), .val (.int p2), .val (.int cc), .val (.int pg), .val (.int kk), .val (.int ab)] [])) _
        refine XS.iload X6.here hx rfl (hb hby at_114) rfl ?_
        show Steps p.tables e below (T6.setTop (mkF m 116 #[.val (.int p1), .val (.int p2), .val (.int cc), .val (.int pg), .val (.int kk), .val (.int ab)] [(.int ab)])) _
        refine XS.iconst X6.here hx rfl (hb hby at_116) ?_
        show Steps p.tables e below (T6.setTop (mkF m 117 #[.val (.int p1), .val (.int p2), .val (.int cc), .val (.int pg), .val (.int kk), .val (.int ab)] [(.int (1 : Int32)), (.int ab)])) _
        refine XS.iadd X6.here hx rfl (hb hby at_117) rfl ?_
        show Steps p.tables e below (T6.setTop (mkF m 118 #[.val (.int p1), .val (.int p2), .val (.int cc), .val (.int pg), .val (.int kk), .val (.int ab)] [(.int (ab + (1 : Int32)))])) _
        refine st14 _ ?_
        show Steps p.tables e below (T14.setTop (mkF m 121 #[.val (.int p1), .val (.int p2), .val (.int cc), .val (.int pg), .val (.int kk), .val (.int ab)] [(.int ((((ab + (1 : Int32)) + (8192 : Int32)) - (1 : Int32)) / (8192 : Int32)))])) _
        refine XS.iload X14.here hx rfl (hb hby at_121) rfl ?_
        show Steps p.tables e below (T14.setTop (mkF m 123 #[.val (.int p1), .val (.int p2), .val (.int cc), .val (.int pg), .val (.int kk), .val (.int ab)] [(.int kk), (.int ((((ab + (1 : Int32)) + (8192 : Int32)) - (1 : Int32)) / (8192 : Int32)))])) _
        refine XS.iconst X14.here hx rfl (hb hby at_123) ?_
        show Steps p.tables e below (T14.setTop (mkF m 124 #[.val (.int p1), .val (.int p2), .val (.int cc), .val (.int pg), .val (.int kk), .val (.int ab)] [(.int (1 : Int32)), (.int kk), (.int ((((ab + (1 : Int32)) + (8192 : Int32)) - (1 : Int32)) / (8192 : Int32)))])) _
        refine XS.iadd X14.here hx rfl (hb hby at_124) rfl ?_
        show Steps p.tables e below (T14.setTop (mkF m 125 #[.val (.int p1), .val (.int p2), .val (.int cc), .val (.int pg), .val (.int kk), .val (.int ab)] [(.int (kk + (1 : Int32))), (.int ((((ab + (1 : Int32)) + (8192 : Int32)) - (1 : Int32)) / (8192 : Int32)))])) _
        refine XS.icmpYes X14.here hx rfl (pc0 := 125) (pc' := 130) rfl (hb hby at_125) rfl (teq b125).1 (by decide) (by decide) ?_
        show Steps p.tables e below (T14.setTop (mkF m 130 #[.val (.int p1), .val (.int p2), .val (.int cc), .val (.int pg), .val (.int kk), .val (.int ab)] [])) _
        refine XS.iconst X14.here hx rfl (hb hby at_130) ?_
        show Steps p.tables e below (T14.setTop (mkF m 131 #[.val (.int p1), .val (.int p2), .val (.int cc), .val (.int pg), .val (.int kk), .val (.int ab)] [(.int (1 : Int32))])) _
        exact k
      obtain ⟨fs, hr, hrun, hended, hW, hsame⟩ := X14.leave (v := some (.int (1 : Int32))) (fun h => by rw [Bd.returns] at h; cases h)
      refine ⟨_, _, pre15 _ ?_, hrun, hended, _, _, rfl, ?_, ⟨_, rfl⟩, hW, hsame.mono (by decide) (by decide)⟩
      · exact retN X14 hx (t := .boolean) Bd.returns (by simp) (hb hby at_131) hr
      · show Q_rm0 Z p1 p2 h0 n0 _ T14.heap _
        rw [hq14]
        exact ⟨rfl, N14⟩
    · skip
      have pre16 : ∀ t, Steps p.tables e below (T6.setTop (mkF m 131 #[.val (.int p1), .val (.int p2), .val (.int cc), .val (.int pg), .val (.int kk), .val (.int ab)] [(.int (1 : Int32))])) t → Steps p.tables e below (s₁.setTop (entryFrame m #[(.int p1), (.int p2)] maxLocals)) t := by
        intro t k
        refine pre13 t ?_
        refine XS.icmpYes X6.here hx rfl (pc0 := 111) (pc' := 130) rfl (hb hby at_111) rfl (flt h111).2.1 (by decide) (by decide) ?_
        show Steps p.tables e below (T6.setTop (mkF m 130 #[.val (.int p1), .val (.int p2), .val (.int cc), .val (.int pg), .val (.int kk), .val (.int ab)] [])) _
        refine XS.iconst X6.here hx rfl (hb hby at_130) ?_
        show Steps p.tables e below (T6.setTop (mkF m 131 #[.val (.int p1), .val (.int p2), .val (.int cc), .val (.int pg), .val (.int kk), .val (.int ab)] [(.int (1 : Int32))])) _
        exact k
      obtain ⟨fs, hr, hrun, hended, hW, hsame⟩ := X6.leave (v := some (.int (1 : Int32))) (fun h => by rw [Bd.returns] at h; cases h)
      refine ⟨_, _, pre16 _ ?_, hrun, hended, _, _, rfl, ?_, ⟨_, rfl⟩, hW, hsame.mono (by decide) (by decide)⟩
      · exact retN X6 hx (t := .boolean) Bd.returns (by simp) (hb hby at_131) hr
      · show Q_rm0 Z p1 p2 h0 n0 _ T6.heap _
        rw [hq6]
        exact ⟨rfl, N6⟩
set_option maxRecDepth 65536 in
set_option maxHeartbeats 40000000 in
theorem comes_1 {Post : Tables → Env → Array Value → State → Outcome → State → Prop} (hpost : ∀ tb e args s v u, (limb_1_1.after args s (.returned v) u = true ∧ limb_1_2.after args s (.returned v) u = true ∧ True) → FrameEnd s (.returned v) u (Jvm.fieldLocs frame_1_writes args s ++ Jvm.arrayLocs frame_1_arrays args s ++ Jvm.staticLocs frame_1_statics s) 0 0 → Post tb e args s (.returned v) u) :
    ArmFor flags0 classFile x code maxLocals ret World_1 tables_1 room_1 Calls_1 rest_1 Pre_1 Post := by
  intro l hfl _ _ p e ha hc hk s m args below hf hA hF happ hP
  obtain ⟨hcalls, hrest, hpre⟩ := hP
  obtain ⟨-, -, -, hnamed, -, -, -, hat⟩ := (Spec.applies_iff hf).mp happ
  obtain ⟨hg, hn⟩ := and_e (Cond.before_iff.mp (show (Jvm.Cond.and given_1 narrow_1).before args s = true from hpre))
  obtain ⟨g1, g2⟩ := and_e hg
  obtain ⟨g3, g4⟩ := and_e g2
  obtain ⟨w0, w1, rfl⟩ : ∃ w0 w1 : Value, args = #[w0, w1] := by
    have hs : args.size = 2 := by simpa [Cond.value, given_1] using g1
    obtain ⟨L⟩ := args
    match L, hs with
    | [w0, w1], _ => exact ⟨w0, w1, rfl⟩
  have hw := fun d (hd : d ∈ tables_1) => atoms_spec (ws := Jvm.Cond.code x code maxLocals ret :: tables_1) hat d (List.mem_cons_of_mem _ hd)
  obtain ⟨i0, ei0⟩ := is_v g3
  obtain rfl : w0 = (.int i0) := Option.some.inj ei0
  obtain ⟨i1, ei1⟩ := is_v g4
  obtain rfl : w1 = (.int i1) := Option.some.inj ei1
  obtain ⟨n, o, h1, h2, h3, _, L, rfl, ⟨rfl, N⟩, hq⟩ := rm0 l s _ hw tables_1 i0 i1 s.heap s.heap.size (Nat.le_refl _)  p e ha hc hk s m _ below hf ((Spec.applies_iff_loose hf).mp happ).1 ⟨rfl, State.Warmed39.refl s, rfl⟩ trivial
  refine ⟨n, _, h1, h2, h3, hpost _ _ _ _ _ _ ⟨Cond.after_iff.mpr rfl, Cond.after_iff.mpr (eq_i res_at (Term.int_eval (1)) rfl), trivial⟩ ⟨hq.1, hq.2.1, (hq.2.2.sift fun y hy => Or.inr (N y hy)).mono (by decide) (by decide)⟩⟩
theorem main_1_1 : Claimed_1_1 := comes_1 fun _ _ _ _ _ _ h hF => ⟨h.1, hF⟩
theorem main_1_2 : Claimed_1_2 := comes_1 fun _ _ _ _ _ _ h hF => ⟨h.2.1, hF⟩
end Jvm.Pilot.@@N@@
namespace Jvm.Pilot.@@N@@
open Jvm Jvm.ClassFile Sem Op Lib Jvm.Free Jvm.Stand Jvm.Pilot.@@N@@.Jvm.D
/-! MADE BY PROGRAM (witnessworld.py) out of the Statement's table words and the real class files: 9 classes; the members and pool entries that the words name. The judged class is class 1, her method 1. -/
namespace start1
open Jvm.ClassFile
def u (s : String) : CpInfo := .utf8 (stringToUtf16 s)
/-- a pool by its gaps: so many unusable entries, then the entry; so many at the end -/
def gap : Nat → List CpInfo → List CpInfo
  | 0, r => r
  | n + 1, r => .unusable :: gap n r
def poolList (es : List (Nat × CpInfo)) (last : Nat) : List CpInfo := es.foldr (fun e r => gap e.1 (e.2 :: r)) (gap last [])
def pool (es : List (Nat × CpInfo)) (last : Nat) : Array CpInfo := ⟨poolList es last⟩
def fileOf (pool : Array CpInfo) (this : Nat) (attrs : Array Attribute := #[]) (ms : Array MethodInfo := #[]) (fl : Nat := 33) (sup : Nat := 0) (ifs : Array Nat := #[]) (fds : Array FieldInfo := #[]) : ClassFile where
  minorVersion := 0
  majorVersion := 65
  constantPool := pool
  accessFlags := fl
  thisClass := this
  superClass := sup
  interfaces := ifs
  fields := fds
  methods := ms
  attributes := attrs
def plain (name : String) (sup : Option ClassId) : Class where
  name := name
  kind := .ordinary
  loader := none
  accessFlags := 33
  super := sup
  interfaces := #[]
  cf := none
  fields := #[]
  methods := #[]
  instanceTypes := #[]
  staticTypes := #[]
  resolved := #[]
  callSites := []
  init := .initialized
  statics := none
  mirror := none

def pool0 : Array CpInfo := pool [(5, u "<init>"), (0, u "()V"), (1, .class_ 10), (1, u "java/lang/Object")] 113

def k0m0 : Method := { name := "<init>", desc := "()V", sig := { parameters := [], returnType := none }, accessFlags := 1, code := none }
/-- java/lang/Object -/
def k0 : Class := { plain "java/lang/Object" none with
  accessFlags := 33
  interfaces := #[]
  cf := some (fileOf pool0 8 #[] #[{ accessFlags := 1, nameIndex := 5, descriptorIndex := 6, attributes := #[] }] 33 0 #[] #[])
  fields := #[]
  methods := #[k0m0]
  instanceTypes := #[]
  staticTypes := #[]
  resolved := Array.replicate 124 none
  statics := none }

def pool1 : Array CpInfo := pool [(2, .class_ 4), (1, u "java/lang/Object"), (0, u "<init>"), (0, u "()V"), (0, .integer 2147483647), (0, .integer 4194305), (0, .methodref 10 11), (0, .class_ 12), (0, .nameAndType 13 14), (0, u "com/example/tallybuf/tallybuf/alloc/Arena"), (0, u "pages"), (0, u "(I)I"), (0, .long 8192), (1, .class_ 18), (0, u "com/example/tallybuf/tallybuf/alloc/ArenaPagesPinLaw"), (2, u "law"), (0, u "(II)Z")] 3

def k1m0 : Method := { name := "<init>", desc := "()V", sig := { parameters := [], returnType := none }, accessFlags := 2, code := none }
def k1c1 : Code := { maxStack := 4, maxLocals := 6, code := code, exceptionTable := #[], attributes := #[] }
def k1m1 : Method := { name := "law", desc := "(II)Z", sig := { parameters := [.int, .int], returnType := some .boolean }, accessFlags := 9, code := some k1c1 }
/-- com/example/tallybuf/tallybuf/alloc/ArenaPagesPinLaw -/
def k1 : Class := { plain "com/example/tallybuf/tallybuf/alloc/ArenaPagesPinLaw" (some 0) with
  accessFlags := 49
  interfaces := #[]
  cf := some (fileOf pool1 17 #[] #[{ accessFlags := 2, nameIndex := 5, descriptorIndex := 6, attributes := #[] }, { accessFlags := 9, nameIndex := 21, descriptorIndex := 22, attributes := #[] }] 49 2 #[] #[])
  fields := #[]
  methods := #[k1m0, k1m1]
  instanceTypes := #[]
  staticTypes := #[]
  resolved := Array.replicate 26 none
  statics := none }

def pool2 : Array CpInfo := pool [(4, .class_ 6), (1, u "java/lang/Object"), (6, .class_ 15), (1, u "com/example/tallybuf/tallybuf/alloc/Arena"), (0, u "lock"), (0, u "Lcom/example/tallybuf/tallybuf/alloc/SpinLock;"), (5, u "freeRuns"), (0, u "Lcom/example/tallybuf/tallybuf/alloc/FreeRuns;"), (0, .class_ 26), (0, u "com/example/tallybuf/tallybuf/alloc/Arena$Chunk"), (2, u "table"), (0, u "[Lcom/example/tallybuf/tallybuf/alloc/Arena$Chunk;"), (5, u "I"), (0, .class_ 38), (0, u "com/example/tallybuf/tallybuf/alloc/Arena$SplitPage"), (2, u "withRoom"), (0, u "[Lcom/example/tallybuf/tallybuf/alloc/Arena$SplitPage;"), (2, u "splitPages"), (0, u "[I"), (2, u "memory"), (0, u "Ljava/util/function/IntFunction;"), (2, u "sweepCaches"), (0, u "Ljava/lang/Runnable;"), (4, u "boundCaches"), (8, u "closed"), (0, u "Z"), (16, u "keptEmpty"), (0, u "Lcom/example/tallybuf/tallybuf/alloc/Arena$Chunk;"), (49, u "(I)I"), (6, u "pages"), (13, u "chunks"), (2, u "smallPages"), (7, .class_ 170), (0, u "com/example/tallybuf/tallybuf/alloc/Arena$Element"), (40, .class_ 213), (1, u "com/example/tallybuf/tallybuf/alloc/Arena$PageRun"), (24, u "chunksMade"), (0, u "J"), (65, .class_ 306), (0, u "com/example/tallybuf/tallybuf/alloc/Arena$Piece"), (5, .class_ 313), (0, u "com/example/tallybuf/tallybuf/alloc/Arena$Keeper")] 7

def k2c0 : Code := { maxStack := 2, maxLocals := 1, code := prog_2_method_10_code, exceptionTable := #[], attributes := #[] }
def k2m0 : Method := { name := "pages", desc := "(I)I", sig := { parameters := [.int], returnType := some .int }, accessFlags := 8, code := some k2c0 }
/-- com/example/tallybuf/tallybuf/alloc/Arena -/
def k2 : Class := { plain "com/example/tallybuf/tallybuf/alloc/Arena" (some 0) with
  accessFlags := 48
  interfaces := #[]
  cf := some (fileOf pool2 13 #[.nestMembers #[169, 37, 211, 305, 312, 25]] #[{ accessFlags := 8, nameIndex := 144, descriptorIndex := 137, attributes := #[] }] 48 4 #[] #[{ accessFlags := 18, nameIndex := 49, descriptorIndex := 50, attributes := #[] }, { accessFlags := 18, nameIndex := 53, descriptorIndex := 54, attributes := #[] }, { accessFlags := 18, nameIndex := 16, descriptorIndex := 17, attributes := #[] }, { accessFlags := 18, nameIndex := 23, descriptorIndex := 24, attributes := #[] }, { accessFlags := 2, nameIndex := 29, descriptorIndex := 30, attributes := #[] }, { accessFlags := 2, nameIndex := 86, descriptorIndex := 87, attributes := #[] }, { accessFlags := 2, nameIndex := 238, descriptorIndex := 239, attributes := #[] }, { accessFlags := 66, nameIndex := 158, descriptorIndex := 36, attributes := #[] }, { accessFlags := 18, nameIndex := 41, descriptorIndex := 42, attributes := #[] }, { accessFlags := 18, nameIndex := 45, descriptorIndex := 46, attributes := #[] }, { accessFlags := 66, nameIndex := 161, descriptorIndex := 36, attributes := #[] }, { accessFlags := 66, nameIndex := 59, descriptorIndex := 36, attributes := #[] }, { accessFlags := 66, nameIndex := 68, descriptorIndex := 69, attributes := #[] }])
  fields := #[{ name := "memory", type := (.object "java/util/function/IntFunction"), accessFlags := 18, slot := 0, constantValue := 0 }, { name := "sweepCaches", type := (.object "java/lang/Runnable"), accessFlags := 18, slot := 1, constantValue := 0 }, { name := "lock", type := (.object "com/example/tallybuf/tallybuf/alloc/SpinLock"), accessFlags := 18, slot := 2, constantValue := 0 }, { name := "freeRuns", type := (.object "com/example/tallybuf/tallybuf/alloc/FreeRuns"), accessFlags := 18, slot := 3, constantValue := 0 }, { name := "table", type := (.array (.object "com/example/tallybuf/tallybuf/alloc/Arena$Chunk")), accessFlags := 2, slot := 4, constantValue := 0 }, { name := "keptEmpty", type := (.object "com/example/tallybuf/tallybuf/alloc/Arena$Chunk"), accessFlags := 2, slot := 5, constantValue := 0 }, { name := "chunksMade", type := .long, accessFlags := 2, slot := 6, constantValue := 0 }, { name := "chunks", type := .int, accessFlags := 66, slot := 7, constantValue := 0 }, { name := "withRoom", type := (.array (.object "com/example/tallybuf/tallybuf/alloc/Arena$SplitPage")), accessFlags := 18, slot := 8, constantValue := 0 }, { name := "splitPages", type := (.array .int), accessFlags := 18, slot := 9, constantValue := 0 }, { name := "smallPages", type := .int, accessFlags := 66, slot := 10, constantValue := 0 }, { name := "boundCaches", type := .int, accessFlags := 66, slot := 11, constantValue := 0 }, { name := "closed", type := .boolean, accessFlags := 66, slot := 12, constantValue := 0 }]
  methods := #[k2m0]
  instanceTypes := #[(.object "java/util/function/IntFunction"), (.object "java/lang/Runnable"), (.object "com/example/tallybuf/tallybuf/alloc/SpinLock"), (.object "com/example/tallybuf/tallybuf/alloc/FreeRuns"), (.array (.object "com/example/tallybuf/tallybuf/alloc/Arena$Chunk")), (.object "com/example/tallybuf/tallybuf/alloc/Arena$Chunk"), .long, .int, (.array (.object "com/example/tallybuf/tallybuf/alloc/Arena$SplitPage")), (.array .int), .int, .int, .boolean]
  staticTypes := #[]
  resolved := Array.replicate 321 none
  statics := none }

def pool3 : Array CpInfo := pool [(1, u "java/lang/Cloneable"), (0, .class_ 1), (0, u "java/lang/Object"), (0, .class_ 3)] 3

/-- java/lang/Cloneable -/
def k3 : Class := { plain "java/lang/Cloneable" (some 0) with
  accessFlags := 1537
  interfaces := #[]
  cf := some (fileOf pool3 2 #[] #[] 1537 4 #[] #[])
  fields := #[]
  methods := #[]
  instanceTypes := #[]
  staticTypes := #[]
  resolved := Array.replicate 8 none
  statics := none }

def pool4 : Array CpInfo := pool [(1, u "java/io/Serializable"), (0, .class_ 1), (0, u "java/lang/Object"), (0, .class_ 3)] 3

/-- java/io/Serializable -/
def k4 : Class := { plain "java/io/Serializable" (some 0) with
  accessFlags := 1537
  interfaces := #[]
  cf := some (fileOf pool4 2 #[] #[] 1537 4 #[] #[])
  fields := #[]
  methods := #[]
  instanceTypes := #[]
  staticTypes := #[]
  resolved := Array.replicate 8 none
  statics := none }

/-- the primitive byte -/
def k5 : Class := { plain "byte" none with kind := .primitive 'B', accessFlags := 0x411 }
/-- [B -/
def k6 : Class := { plain "[B" (some 0) with kind := .array 5 .byte, interfaces := #[3, 4], accessFlags := 1041 }

/-- the primitive int -/
def k7 : Class := { plain "int" none with kind := .primitive 'I', accessFlags := 0x411 }
/-- [I -/
def k8 : Class := { plain "[I" (some 0) with kind := .array 7 .int, interfaces := #[3, 4], accessFlags := 1041 }

def heap : Heap := #[]
def classes : Array Class := #[k0, k1, k2, k3, k4, k5, k6, k7, k8]
def interned : List (Array UInt16 × Addr) := []
def slotsUsed : Nat := 0
def theMethod : MethodId := ⟨1, 1⟩
def args0 : Array Value := #[.int 5, .int 300]
def aboutOver (below : List Frame) : State where
  vm := { classes := classes, interned := interned.toArray }
  heap := heap
  slotsUsed := slotsUsed
  threads := #[{ frames := .invoking theMethod args0 :: below }]
def below0 : List Frame := [.native { method := ⟨0, 0⟩, args := #[] }]
def about1 : State := aboutOver below0
def p0 : Program := .bare "" "" ""
def e0 : Env := launch0.env 0 0 0
theorem w_frames : about1.frames = Frame.invoking theMethod args0 :: below0 := rfl
set_option maxRecDepth 65536 in
theorem w_args : argsFit about1.vm theMethod args0 = true := by decide +kernel
set_option maxRecDepth 65536 in
theorem w_heap : heapFits about1 = true := by decide +kernel
set_option maxRecDepth 65536 in
theorem w_runnable : about1.curStatus? = some .runnable := by decide +kernel
set_option maxRecDepth 65536 in
theorem w_alone : about1.alone = true := by decide +kernel
set_option maxRecDepth 65536 in
theorem w_named : about1.methodNamed? x = some theMethod := by decide +kernel
set_option maxRecDepth 65536 in
theorem w_hears : about1.hears theMethod below0 = true := by decide +kernel
set_option maxRecDepth 65536 in
theorem w_ripe : about1.ripe theMethod args0 below0 = true := by decide +kernel
theorem w_running : about1.status = .running := rfl
set_option maxRecDepth 65536 in
theorem w_room : about1.hasRoom e0.platform room_1 = true :=
  launch0.hasRoom_least _ room_1 (by decide +kernel) (by decide +kernel) (by decide +kernel) (by decide +kernel) (by decide +kernel) (by decide +kernel)
theorem allAtoms_all (ts : List Jvm.Cond) (a : Array Jvm.Value) (st : Jvm.State) : (allAtoms ts).before a st = ts.all (fun c => c.before a st) := by
  induction ts with
  | nil => rfl
  | cons c t ih =>
    show (Jvm.Cond.and c (allAtoms t)).before a st = _
    rw [Jvm.Cond.before_and, ih, List.all_cons]
def words1 : List Jvm.Cond := Jvm.Cond.code x code maxLocals ret :: tables_1
/-- a 'code' word, met by the world's own term for the bytes: nothing is compared byte by byte -/
theorem code_word {y : MethodName} {bytes : ByteArray} {mx : Nat} {rt : Option FieldType} {a : Array Value} {s : State} {m : MethodId} {meth : Method} {c : Code} (h1 : s.methodNamed? y = some m) (h2 : s.vm.method? m = some meth) (h3 : meth.code = some c) (h4 : c.code = bytes)
    (h5 : (c.maxLocals == mx && c.exceptionTable.isEmpty && decide (c.maxStack ≤ mostOperands) && decide (meth.sig.returnType = rt) && !meth.locks && decide (parseMethodDescriptor y.desc = some meth.sig)) = true) : (Jvm.Cond.code y bytes mx rt).before a s = true := by
  simp only [Bool.and_eq_true, beq_iff_eq, Bool.not_eq_true', decide_eq_true_eq] at h5
  obtain ⟨⟨⟨⟨⟨g1, g2⟩, g3⟩, g4⟩, g5⟩, g6⟩ := h5
  simp [Cond.before, Cond.holds, Cond.value, h1, h2, h3, h4, g1, g2, g3, g4, g5, g6]
def isCode : Jvm.Cond → Bool
  | .code _ _ _ _ => true
  | _ => false
theorem all_split {L : List Jvm.Cond} {P : Jvm.Cond → Bool} (h1 : L.all (fun c => isCode c || P c) = true) (h2 : ∀ c ∈ L.filter isCode, P c = true) : L.all P = true := by
  refine List.all_eq_true.mpr fun c hc => ?_
  have h := List.all_eq_true.mp h1 c hc
  rcases Bool.eq_false_or_eq_true (isCode c) with hi | hi
  · exact h2 c (List.mem_filter.mpr ⟨hc, hi⟩)
  · simpa [hi] using h
set_option maxRecDepth 65536 in
theorem w_c0 : (Jvm.Cond.code x code maxLocals ret).before args0 about1 = true := code_word (m := ⟨1, 1⟩) (meth := k1m1) (c := k1c1) (by decide +kernel) rfl rfl rfl (by decide +kernel)
set_option maxRecDepth 65536 in
theorem w_c1 : (Jvm.Cond.code ({ cls := "com/example/tallybuf/tallybuf/alloc/Arena", name := "pages", desc := "(I)I" } : Jvm.MethodName) prog_2_method_10_code (1 : Nat) (Option.some Jvm.ClassFile.FieldType.int)).before args0 about1 = true := code_word (m := ⟨2, 0⟩) (meth := k2m0) (c := k2c0) (by decide +kernel) rfl rfl rfl (by decide +kernel)
def codes1 : List Jvm.Cond := [Jvm.Cond.code x code maxLocals ret, Jvm.Cond.code ({ cls := "com/example/tallybuf/tallybuf/alloc/Arena", name := "pages", desc := "(I)I" } : Jvm.MethodName) prog_2_method_10_code (1 : Nat) (Option.some Jvm.ClassFile.FieldType.int)]
set_option maxRecDepth 65536 in
theorem codes_eq : words1.filter isCode = codes1 := rfl
theorem w_codes : ∀ c ∈ words1.filter isCode, c.before args0 about1 = true := by
  rw [codes_eq]
  intro c hc
  simp only [codes1, List.mem_cons, List.not_mem_nil, or_false] at hc
  rcases hc with rfl | rfl
  · exact w_c0
  · exact w_c1
set_option maxRecDepth 65536 in
theorem w_t1 : words1.all (fun c => isCode c || c.before args0 about1) = true := by decide +kernel
theorem w_tables : (allAtoms (Jvm.Cond.code x code maxLocals ret :: tables_1)).before args0 about1 = true := by
  rw [allAtoms_all]
  show words1.all (fun c => c.before args0 about1) = true
  refine all_split ?_ w_codes
  rw [w_t1]
set_option maxRecDepth 65536 in
theorem w_case : (Jvm.Cond.and given_1 narrow_1).before args0 about1 = true := by decide +kernel
theorem w_applies : (headSpec (Jvm.Cond.code x code maxLocals ret :: tables_1) room_1).applies x e0.platform about1 = true :=
  (Spec.applies_iff w_frames).mpr ⟨w_running, w_runnable, w_alone, w_named, w_hears, w_ripe, w_room, w_tables⟩
theorem atStart : AtStart classFile x code maxLocals ret World_1 tables_1 room_1 Calls_1 rest_1 Pre_1 launch0 p0 e0 about1 theMethod args0 below0 :=
  ⟨lists_1, trivial, launch0.admits_env _ _ _, launch0.least_env, fairChoices_fair.cas, fairChoices_fair.clock, w_frames, w_args, w_heap, w_applies, trivial, trivial, w_case⟩
end start1
theorem witness_1 : WitnessClaimed_1 := ⟨start1.p0, start1.e0, start1.about1, start1.theMethod, start1.args0, start1.below0, start1.atStart⟩
end Jvm.Pilot.@@N@@
