import JvmDerived
import JvmDerived.Pilot.@@N@@Statement
import JvmDerived.Pilot.@@N@@Code
set_option linter.unusedVariables false
set_option linter.unusedSimpArgs false
@@BLOCK:NumsL.lean.txt@@
namespace Jvm.Pilot.@@N@@
open Jvm Jvm.ClassFile Sem Op Lib Jvm.Free Jvm.Stand Jvm.LawKit Jvm.RoadKit Bundle Jvm.Pilot.@@N@@.Jvm.D

def own_max (i j : Int32) : Int32 := if i < j then j else i
def own_minJ (i j : Int64) : Int64 := if j < i then j else i
def own_dp (a b c d e f : Int64) : Int32 := if (0 : Int64) < a then 1 else if (0 : Int64) < b then 1 else if (0 : Int64) < c then 1 else if (0 : Int64) < d then 1 else if (0 : Int64) < e then 1 else if (0 : Int64) < f then 1 else 0
theorem ef_rmM (m : MethodId) (x0 : Int32) (x1 : Int32) : entryFrame m #[(.int x0), (.int x1)] 2 = mkF m 0 #[.val (.int x0), .val (.int x1)] [] := by first | (simp [entryFrame, mkF, argsToLocals, Value.category]; done) | rfl
theorem d6_0 : decode jdk_29_method_65_code 0 = .ok (.iload_n 0, 1) := by decide +kernel
theorem d6_1 : decode jdk_29_method_65_code 1 = .ok (.iload_n 1, 1) := by decide +kernel
theorem d6_2 : decode jdk_29_method_65_code 2 = .ok (.if_icmp .lt 7, 3) := by decide +kernel
theorem d6_9 : decode jdk_29_method_65_code 9 = .ok (.iload_n 1, 1) := by decide +kernel
theorem d6_10 : decode jdk_29_method_65_code 10 = .ok (.ireturn, 1) := by decide +kernel
theorem d6_5 : decode jdk_29_method_65_code 5 = .ok (.iload_n 0, 1) := by decide +kernel
theorem d6_6 : decode jdk_29_method_65_code 6 = .ok (.goto 4, 3) := by decide +kernel
def Q_rmM (Z : State) (p1 : Int32) (p2 : Int32) (h0 : Heap) (n0 : Nat) (v : Option Value) (h : Heap) (L : List Loc) : Prop := v = some (.int (own_max p1 p2)) ∧ Fr n0 L ∧ h = h0
set_option maxRecDepth 65536 in
set_option maxHeartbeats 40000000 in
theorem rmM (l : Launch) (Z : State) (a0 : Array Value) (hw : ∀ d ∈ tables_1, d.before a0 Z = true) (ws : List Jvm.Cond) (p1 : Int32) (p2 : Int32) (h0 : Heap) (n0 : Nat) (Z0 : n0 ≤ h0.size) :
    MetFree l (⟨"java/lang/Math", "max", "(II)I"⟩ : MethodName) (head1 (Jvm.Cond.code (⟨"java/lang/Math", "max", "(II)I"⟩ : MethodName) jdk_29_method_65_code 2 (some .int) :: ws) ({ frames := 0, cells := 0, slots := 0, locals := 0 } : Room)) (fun a U => a = #[(.int p1), (.int p2)] ∧ Z.Warmed39 U.vm ∧ U.heap = h0) (fun _ _ _ _ _ => True) (fun _ U o U' => ∃ v L, o = .returned v ∧ Q_rmM Z p1 p2 h0 n0 v U'.heap L ∧ FrameEnd U o U' L ({ frames := 0, cells := 0, slots := 0, locals := 0 } : Room).cells ({ frames := 0, cells := 0, slots := 0, locals := 0 } : Room).slots) := by
  refine MetFree.of_bodySF (Jvm.Free.JP.mathPlain rfl (by decide +kernel)) hisR ?_
  intro p e s m args below meth c s₁ Bd hml0 hP hK
  obtain ⟨rfl, hZ, hh⟩ := hP
  have hx := Bd.exec
  have hby := Bd.bytes
  have hml : c.maxLocals = 2 := hml0
  have hown : s.vm.findClass "java/lang/Math" = some m.cls := (findClass_of_methodNamed Bd.named :)
  have hnm := (name_of_methodNamed Bd.named Bd.method).1
  have X0 : Stand p l e ({ frames := 0, cells := 0, slots := 0, locals := 0 } : Room) s m #[(.int p1), (.int p2)] below meth c s₁ [] 0 0 := Stand.of_body Bd
  have e0 : s₁.heap = h0 := by rw [← hh, Bd.state]; rfl
  have N0 := Fr.nil n0
  have pre0 : ∀ t, Steps p.tables e below (s₁.setTop (mkF m 0 #[.val (.int p1), .val (.int p2)] [])) t → Steps p.tables e below (s₁.setTop (entryFrame m #[(.int p1), (.int p2)] 2)) t := fun t k => castTop (ef_rmM m p1 p2) k
  have pre1 : ∀ t, Steps p.tables e below (s₁.setTop (mkF m 2 #[.val (.int p1), .val (.int p2)] [(.int p2), (.int p1)])) t → Steps p.tables e below (s₁.setTop (entryFrame m #[(.int p1), (.int p2)] 2)) t := by
    intro t k
    refine pre0 t ?_
    show Steps p.tables e below (s₁.setTop (mkF m 0 #[.val (.int p1), .val (.int p2)] [])) _
    refine XS.iloadN X0.here hx rfl (hb hby d6_0) rfl ?_
    show Steps p.tables e below (s₁.setTop (mkF m 1 #[.val (.int p1), .val (.int p2)] [(.int p1)])) _
    refine XS.iloadN X0.here hx rfl (hb hby d6_1) rfl ?_
    show Steps p.tables e below (s₁.setTop (mkF m 2 #[.val (.int p1), .val (.int p2)] [(.int p2), (.int p1)])) _
    exact k
  by_cases h2 : p1 < p2
  · skip
    have pre2 : ∀ t, Steps p.tables e below (s₁.setTop (mkF m 10 #[.val (.int p1), .val (.int p2)] [(.int p2)])) t → Steps p.tables e below (s₁.setTop (entryFrame m #[(.int p1), (.int p2)] 2)) t := by
      intro t k
      refine pre1 t ?_
      refine XS.icmpYes X0.here hx rfl (pc0 := 2) (pc' := 9) rfl (hb hby d6_2) rfl (tlt h2).1 (by decide) (by decide) ?_
      show Steps p.tables e below (s₁.setTop (mkF m 9 #[.val (.int p1), .val (.int p2)] [])) _
      refine XS.iloadN X0.here hx rfl (hb hby d6_9) rfl ?_
      show Steps p.tables e below (s₁.setTop (mkF m 10 #[.val (.int p1), .val (.int p2)] [(.int p2)])) _
      exact k
    obtain ⟨fs, hr, hrun, hended, hW, hsame⟩ := X0.leave (v := some (.int p2)) (fun h => by rw [Bd.returns] at h; cases h)
    refine ⟨_, _, pre2 _ ?_, hrun, hended, _, _, rfl, ?_, ⟨_, rfl⟩, hW, hsame.mono (by decide) (by decide)⟩
    · exact retOut X0 hx Bd.returns rfl (Or.inl ⟨rfl, Or.inl rfl, _, rfl⟩) (hb hby d6_10) hr
    · show Q_rmM Z p1 p2 h0 n0 _ s₁.heap _
      rw [e0]
      exact ⟨by simp [own_max, h2], N0, rfl⟩
  · skip
    have pre3 : ∀ t, Steps p.tables e below (s₁.setTop (mkF m 10 #[.val (.int p1), .val (.int p2)] [(.int p1)])) t → Steps p.tables e below (s₁.setTop (entryFrame m #[(.int p1), (.int p2)] 2)) t := by
      intro t k
      refine pre1 t ?_
      refine XS.icmpNo X0.here hx rfl (hb hby d6_2) rfl (flt h2).1 ?_
      show Steps p.tables e below (s₁.setTop (mkF m 5 #[.val (.int p1), .val (.int p2)] [])) _
      refine XS.iloadN X0.here hx rfl (hb hby d6_5) rfl ?_
      show Steps p.tables e below (s₁.setTop (mkF m 6 #[.val (.int p1), .val (.int p2)] [(.int p1)])) _
      refine XS.goto X0.here hx rfl (pc0 := 6) (pc' := 10) rfl (hb hby d6_6) (by decide) (by decide) ?_
      show Steps p.tables e below (s₁.setTop (mkF m 10 #[.val (.int p1), .val (.int p2)] [(.int p1)])) _
      exact k
    obtain ⟨fs, hr, hrun, hended, hW, hsame⟩ := X0.leave (v := some (.int p1)) (fun h => by rw [Bd.returns] at h; cases h)
    refine ⟨_, _, pre3 _ ?_, hrun, hended, _, _, rfl, ?_, ⟨_, rfl⟩, hW, hsame.mono (by decide) (by decide)⟩
    · exact retOut X0 hx Bd.returns rfl (Or.inl ⟨rfl, Or.inl rfl, _, rfl⟩) (hb hby d6_10) hr
    · show Q_rmM Z p1 p2 h0 n0 _ s₁.heap _
      rw [e0]
      exact ⟨by simp [own_max, h2], N0, rfl⟩
theorem ef_rmN (m : MethodId) (x0 : Int64) (x1 : Int64) : entryFrame m #[(.long x0), (.long x1)] 4 = mkF m 0 #[.val (.long x0), .second, .val (.long x1), .second] [] := by first | (simp [entryFrame, mkF, argsToLocals, Value.category]; done) | rfl
theorem d24_0 : decode jdk_29_method_70_code 0 = .ok (.lload_n 0, 1) := by decide +kernel
theorem d24_1 : decode jdk_29_method_70_code 1 = .ok (.lload_n 2, 1) := by decide +kernel
theorem d24_2 : decode jdk_29_method_70_code 2 = .ok (.lcmp, 1) := by decide +kernel
theorem d24_3 : decode jdk_29_method_70_code 3 = .ok (.ifCond .gt 7, 3) := by decide +kernel
theorem d24_10 : decode jdk_29_method_70_code 10 = .ok (.lload_n 2, 1) := by decide +kernel
theorem d24_11 : decode jdk_29_method_70_code 11 = .ok (.lreturn, 1) := by decide +kernel
theorem d24_6 : decode jdk_29_method_70_code 6 = .ok (.lload_n 0, 1) := by decide +kernel
theorem d24_7 : decode jdk_29_method_70_code 7 = .ok (.goto 4, 3) := by decide +kernel
def Q_rmN (Z : State) (q1 : Int64) (q2 : Int64) (h0 : Heap) (n0 : Nat) (v : Option Value) (h : Heap) (L : List Loc) : Prop := v = some (.long (own_minJ q1 q2)) ∧ Fr n0 L ∧ h = h0
set_option maxRecDepth 65536 in
set_option maxHeartbeats 40000000 in
theorem rmN (l : Launch) (Z : State) (a0 : Array Value) (hw : ∀ d ∈ tables_1, d.before a0 Z = true) (ws : List Jvm.Cond) (q1 : Int64) (q2 : Int64) (h0 : Heap) (n0 : Nat) (Z0 : n0 ≤ h0.size) :
    MetFree l (⟨"java/lang/Math", "min", "(JJ)J"⟩ : MethodName) (head1 (Jvm.Cond.code (⟨"java/lang/Math", "min", "(JJ)J"⟩ : MethodName) jdk_29_method_70_code 4 (some .long) :: ws) ({ frames := 0, cells := 0, slots := 0, locals := 0 } : Room)) (fun a U => a = #[(.long q1), (.long q2)] ∧ Z.Warmed39 U.vm ∧ U.heap = h0) (fun _ _ _ _ _ => True) (fun _ U o U' => ∃ v L, o = .returned v ∧ Q_rmN Z q1 q2 h0 n0 v U'.heap L ∧ FrameEnd U o U' L ({ frames := 0, cells := 0, slots := 0, locals := 0 } : Room).cells ({ frames := 0, cells := 0, slots := 0, locals := 0 } : Room).slots) := by
  refine MetFree.of_bodySF (Jvm.Free.JP.mathPlain rfl (by decide +kernel)) hisR ?_
  intro p e s m args below meth c s₁ Bd hml0 hP hK
  obtain ⟨rfl, hZ, hh⟩ := hP
  have hx := Bd.exec
  have hby := Bd.bytes
  have hml : c.maxLocals = 4 := hml0
  have hown : s.vm.findClass "java/lang/Math" = some m.cls := (findClass_of_methodNamed Bd.named :)
  have hnm := (name_of_methodNamed Bd.named Bd.method).1
  have X0 : Stand p l e ({ frames := 0, cells := 0, slots := 0, locals := 0 } : Room) s m #[(.long q1), (.long q2)] below meth c s₁ [] 0 0 := Stand.of_body Bd
  have e0 : s₁.heap = h0 := by rw [← hh, Bd.state]; rfl
  have N0 := Fr.nil n0
  have pre0 : ∀ t, Steps p.tables e below (s₁.setTop (mkF m 0 #[.val (.long q1), .second, .val (.long q2), .second] [])) t → Steps p.tables e below (s₁.setTop (entryFrame m #[(.long q1), (.long q2)] 4)) t := fun t k => castTop (ef_rmN m q1 q2) k
  have pre1 : ∀ t, Steps p.tables e below (s₁.setTop (mkF m 3 #[.val (.long q1), .second, .val (.long q2), .second] [(.int (lcmpW q1 q2))])) t → Steps p.tables e below (s₁.setTop (entryFrame m #[(.long q1), (.long q2)] 4)) t := by
    intro t k
    refine pre0 t ?_
    show Steps p.tables e below (s₁.setTop (mkF m 0 #[.val (.long q1), .second, .val (.long q2), .second] [])) _
    refine XS.lloadN X0.here hx rfl (hb hby d24_0) rfl ?_
    show Steps p.tables e below (s₁.setTop (mkF m 1 #[.val (.long q1), .second, .val (.long q2), .second] [(.long q1)])) _
    refine XS.lloadN X0.here hx rfl (hb hby d24_1) rfl ?_
    show Steps p.tables e below (s₁.setTop (mkF m 2 #[.val (.long q1), .second, .val (.long q2), .second] [(.long q2), (.long q1)])) _
    refine XS.lcmp X0.here hx rfl (hb hby d24_2) rfl ?_
    show Steps p.tables e below (s₁.setTop (mkF m 3 #[.val (.long q1), .second, .val (.long q2), .second] [(.int (lcmpW q1 q2))])) _
    exact k
  by_cases h3 : q2 < q1
  · skip
    have pre2 : ∀ t, Steps p.tables e below (s₁.setTop (mkF m 11 #[.val (.long q1), .second, .val (.long q2), .second] [(.long q2)])) t → Steps p.tables e below (s₁.setTop (entryFrame m #[(.long q1), (.long q2)] 4)) t := by
      intro t k
      refine pre1 t ?_
      refine XS.ifYes X0.here hx rfl (pc0 := 3) (pc' := 10) rfl (hb hby d24_3) rfl ((if0 _ _).trans (tlt ((lw_gt q1 q2).mpr h3)).2.2.1) (by decide) (by decide) ?_
      show Steps p.tables e below (s₁.setTop (mkF m 10 #[.val (.long q1), .second, .val (.long q2), .second] [])) _
      refine XS.lloadN X0.here hx rfl (hb hby d24_10) rfl ?_
      show Steps p.tables e below (s₁.setTop (mkF m 11 #[.val (.long q1), .second, .val (.long q2), .second] [(.long q2)])) _
      exact k
    obtain ⟨fs, hr, hrun, hended, hW, hsame⟩ := X0.leave (v := some (.long q2)) (fun h => by rw [Bd.returns] at h; cases h)
    refine ⟨_, _, pre2 _ ?_, hrun, hended, _, _, rfl, ?_, ⟨_, rfl⟩, hW, hsame.mono (by decide) (by decide)⟩
    · exact retOut X0 hx Bd.returns rfl (Or.inr (Or.inl ⟨rfl, rfl, _, rfl⟩)) (hb hby d24_11) hr
    · show Q_rmN Z q1 q2 h0 n0 _ s₁.heap _
      rw [e0]
      exact ⟨by simp [own_minJ, h3], N0, rfl⟩
  · skip
    have pre3 : ∀ t, Steps p.tables e below (s₁.setTop (mkF m 11 #[.val (.long q1), .second, .val (.long q2), .second] [(.long q1)])) t → Steps p.tables e below (s₁.setTop (entryFrame m #[(.long q1), (.long q2)] 4)) t := by
      intro t k
      refine pre1 t ?_
      refine XS.ifNo X0.here hx rfl (hb hby d24_3) rfl ((if0 _ _).trans (flt (mt (lw_gt q1 q2).mp h3)).2.2.1) ?_
      show Steps p.tables e below (s₁.setTop (mkF m 6 #[.val (.long q1), .second, .val (.long q2), .second] [])) _
      refine XS.lloadN X0.here hx rfl (hb hby d24_6) rfl ?_
      show Steps p.tables e below (s₁.setTop (mkF m 7 #[.val (.long q1), .second, .val (.long q2), .second] [(.long q1)])) _
      refine XS.goto X0.here hx rfl (pc0 := 7) (pc' := 11) rfl (hb hby d24_7) (by decide) (by decide) ?_
      show Steps p.tables e below (s₁.setTop (mkF m 11 #[.val (.long q1), .second, .val (.long q2), .second] [(.long q1)])) _
      exact k
    obtain ⟨fs, hr, hrun, hended, hW, hsame⟩ := X0.leave (v := some (.long q1)) (fun h => by rw [Bd.returns] at h; cases h)
    refine ⟨_, _, pre3 _ ?_, hrun, hended, _, _, rfl, ?_, ⟨_, rfl⟩, hW, hsame.mono (by decide) (by decide)⟩
    · exact retOut X0 hx Bd.returns rfl (Or.inr (Or.inl ⟨rfl, rfl, _, rfl⟩)) (hb hby d24_11) hr
    · show Q_rmN Z q1 q2 h0 n0 _ s₁.heap _
      rw [e0]
      exact ⟨by simp [own_minJ, h3], N0, rfl⟩
theorem ef_rmAC (m : MethodId) (x0 : Addr) : entryFrame m #[(.ref x0)] 1 = mkF m 0 #[.val (.ref x0)] [] := by first | (simp [entryFrame, mkF, argsToLocals, Value.category]; done) | rfl
theorem pn_5 : plainName "java/util/AbstractCollection" = true := by first | (simp [plainName, overriddenIn]; done) | decide +kernel
theorem d3_0 : decode jdk_22_method_1_code 0 = .ok (.aload_n 0, 1) := by decide +kernel
theorem d3_1 : decode jdk_22_method_1_code 1 = .ok (.invokespecial 1, 3) := by decide +kernel
theorem d3_4 : decode jdk_22_method_1_code 4 = .ok (.return_, 1) := by decide +kernel
def Q_rmAC (Z : State) (a1 : Addr) (h0 : Heap) (n0 : Nat) (v : Option Value) (h : Heap) (L : List Loc) : Prop := v = none ∧ Fr n0 L ∧ h = h0
set_option maxRecDepth 65536 in
set_option maxHeartbeats 40000000 in
theorem rmAC (l : Launch) (Z : State) (a0 : Array Value) (hw : ∀ d ∈ tables_1, d.before a0 Z = true) (ws : List Jvm.Cond) (a1 : Addr) (h0 : Heap) (n0 : Nat) (Z0 : n0 ≤ h0.size) :
    MetFree l (⟨"java/util/AbstractCollection", "<init>", "()V"⟩ : MethodName) (head1 (Jvm.Cond.code (⟨"java/util/AbstractCollection", "<init>", "()V"⟩ : MethodName) jdk_22_method_1_code 1 none :: ws) ({ frames := 1, cells := 0, slots := 0, locals := 12 } : Room)) (fun a U => a = #[(.ref a1)] ∧ Z.Warmed39 U.vm ∧ U.heap = h0) (fun _ _ _ _ _ => True) (fun _ U o U' => ∃ v L, o = .returned v ∧ Q_rmAC Z a1 h0 n0 v U'.heap L ∧ FrameEnd U o U' L ({ frames := 1, cells := 0, slots := 0, locals := 12 } : Room).cells ({ frames := 1, cells := 0, slots := 0, locals := 12 } : Room).slots) := by
  refine MetFree.of_bodySF (plainFor_of_name pn_5) hisR ?_
  intro p e s m args below meth c s₁ Bd hml0 hP hK
  obtain ⟨rfl, hZ, hh⟩ := hP
  have hx := Bd.exec
  have hby := Bd.bytes
  have hml : c.maxLocals = 1 := hml0
  have hown : s.vm.findClass "java/util/AbstractCollection" = some m.cls := (findClass_of_methodNamed Bd.named :)
  have hnm := (name_of_methodNamed Bd.named Bd.method).1
  have X0 : Stand p l e ({ frames := 1, cells := 0, slots := 0, locals := 12 } : Room) s m #[(.ref a1)] below meth c s₁ [] 0 0 := Stand.of_body Bd
  have e0 : s₁.heap = h0 := by rw [← hh, Bd.state]; rfl
  have N0 := Fr.nil n0
  have pre0 : ∀ t, Steps p.tables e below (s₁.setTop (mkF m 0 #[.val (.ref a1)] [])) t → Steps p.tables e below (s₁.setTop (entryFrame m #[(.ref a1)] 1)) t := fun t k => castTop (ef_rmAC m a1) k
  obtain ⟨T1, X1, e1, st1⟩ := initO X0 hx hZ hown (hw _ (List.mem_of_getElem? (i := 19) rfl)) (hw _ (List.mem_of_getElem? (i := 20) rfl)) (hw _ (List.mem_of_getElem? (i := 21) rfl)) e0 (g := (mkF m 1 #[.val (.ref a1)] [(.ref a1)])) rfl (by rw [hml]; rfl) rfl (hb hby d3_1) (by decide) (W := 0) (by show 2 * 0 + _ ≤ _; exact Nat.le_of_eq rfl) (by decide)
  have pre2 : ∀ t, Steps p.tables e below (T1.setTop (mkF m 4 #[.val (.ref a1)] [])) t → Steps p.tables e below (s₁.setTop (entryFrame m #[(.ref a1)] 1)) t := by
    intro t k
    refine pre0 t ?_
    show Steps p.tables e below (s₁.setTop (mkF m 0 #[.val (.ref a1)] [])) _
    refine XS.aloadN X0.here hx rfl (hb hby d3_0) rfl (rfl) ?_
    show Steps p.tables e below (s₁.setTop (mkF m 1 #[.val (.ref a1)] [(.ref a1)])) _
    refine st1 _ ?_
    show Steps p.tables e below (T1.setTop (mkF m 4 #[.val (.ref a1)] [])) _
    exact k
  obtain ⟨fs, hr, hrun, hended, hW, hsame⟩ := X1.leave (v := none) (fun _ => rfl)
  refine ⟨_, _, pre2 _ ?_, hrun, hended, _, _, rfl, ?_, ⟨_, rfl⟩, hW, hsame.mono (by decide) (by decide)⟩
  · exact X1.returnOut hx Bd.returns (hb hby d3_4) hr
  · show Q_rmAC Z a1 h0 n0 _ T1.heap _
    rw [e1]
    exact ⟨rfl, N0, rfl⟩
theorem ef_rmAB (m : MethodId) (x0 : Addr) : entryFrame m #[(.ref x0)] 1 = mkF m 0 #[.val (.ref x0)] [] := by first | (simp [entryFrame, mkF, argsToLocals, Value.category]; done) | rfl
theorem pn_6 : plainName "java/util/AbstractList" = true := by first | (simp [plainName, overriddenIn]; done) | decide +kernel
theorem d2_0 : decode jdk_39_method_1_code 0 = .ok (.aload_n 0, 1) := by decide +kernel
theorem d2_1 : decode jdk_39_method_1_code 1 = .ok (.invokespecial 1, 3) := by decide +kernel
theorem pd_0 : parseMethodDescriptor "()V" = some ⟨[], none⟩ := by decide +kernel
theorem d2_4 : decode jdk_39_method_1_code 4 = .ok (.aload_n 0, 1) := by decide +kernel
theorem d2_5 : decode jdk_39_method_1_code 5 = .ok (.iconst 0, 1) := by decide +kernel
theorem d2_6 : decode jdk_39_method_1_code 6 = .ok (.putfield 7, 3) := by decide +kernel
theorem d2_9 : decode jdk_39_method_1_code 9 = .ok (.return_, 1) := by decide +kernel
def Q_rmAB (Z : State) (a1 : Addr) (h0 : Heap) (n0 : Nat) (v : Option Value) (h : Heap) (L : List Loc) : Prop := v = none ∧ Fr n0 L ∧ Keep h0 h [a1] ∧ Exa Z h a1 "java/util/ArrayList" ∧ Fld Z h a1 "java/util/AbstractList" "modCount" "I" (.int (0 : Int32)) ∧ Fld Z h a1 "java/util/ArrayList" "elementData" "[Ljava/lang/Object;" .null ∧ Fld Z h a1 "java/util/ArrayList" "size" "I" (.int (0 : Int32))
set_option maxRecDepth 65536 in
set_option maxHeartbeats 40000000 in
theorem rmAB (l : Launch) (Z : State) (a0 : Array Value) (hw : ∀ d ∈ tables_1, d.before a0 Z = true) (ws : List Jvm.Cond) (a1 : Addr) (h0 : Heap) (n0 : Nat) (Z0 : n0 ≤ h0.size) (F0 : Fld Z h0 a1 "java/util/AbstractList" "modCount" "I" (.int (0 : Int32))) (F1 : Fld Z h0 a1 "java/util/ArrayList" "elementData" "[Ljava/lang/Object;" .null) (F2 : Fld Z h0 a1 "java/util/ArrayList" "size" "I" (.int (0 : Int32))) (E1 : Exa Z h0 a1 "java/util/ArrayList") (g_a1 : n0 ≤ a1) :
    MetFree l (⟨"java/util/AbstractList", "<init>", "()V"⟩ : MethodName) (head1 (Jvm.Cond.code (⟨"java/util/AbstractList", "<init>", "()V"⟩ : MethodName) jdk_39_method_1_code 1 none :: ws) ({ frames := 2, cells := 0, slots := 0, locals := 24 } : Room)) (fun a U => a = #[(.ref a1)] ∧ Z.Warmed39 U.vm ∧ U.heap = h0) (fun _ _ _ _ _ => True) (fun _ U o U' => ∃ v L, o = .returned v ∧ Q_rmAB Z a1 h0 n0 v U'.heap L ∧ FrameEnd U o U' L ({ frames := 2, cells := 0, slots := 0, locals := 24 } : Room).cells ({ frames := 2, cells := 0, slots := 0, locals := 24 } : Room).slots) := by
  refine MetFree.of_bodySF (plainFor_of_name pn_6) hisR ?_
  intro p e s m args below meth c s₁ Bd hml0 hP hK
  obtain ⟨rfl, hZ, hh⟩ := hP
  have hx := Bd.exec
  have hby := Bd.bytes
  have hml : c.maxLocals = 1 := hml0
  have hown : s.vm.findClass "java/util/AbstractList" = some m.cls := (findClass_of_methodNamed Bd.named :)
  have hnm := (name_of_methodNamed Bd.named Bd.method).1
  have X0 : Stand p l e ({ frames := 2, cells := 0, slots := 0, locals := 24 } : Room) s m #[(.ref a1)] below meth c s₁ [] 0 0 := Stand.of_body Bd
  have e0 : s₁.heap = h0 := by rw [← hh, Bd.state]; rfl
  have N0 := Fr.nil n0
  have pre0 : ∀ t, Steps p.tables e below (s₁.setTop (mkF m 0 #[.val (.ref a1)] [])) t → Steps p.tables e below (s₁.setTop (entryFrame m #[(.ref a1)] 1)) t := fun t k => castTop (ef_rmAB m a1) k
  obtain ⟨_, _, ⟨T1, L1, k1, n1⟩, -, X1, ⟨Lc1, hQ1, l1, y1, z1⟩, st1⟩ := X0.specialBack hx (y := (⟨"java/util/AbstractCollection", "<init>", "()V"⟩ : MethodName)) rfl hown (mvT hZ (hw _ (List.mem_of_getElem? (i := 13) rfl))) (mvT hZ (hw _ (List.mem_of_getElem? (i := 14) rfl))) (mvT hZ (hw _ (List.mem_of_getElem? (i := 18) rfl))) (by decide) (backOf (W := 0) (rmAC l Z a0 hw [] a1  h0 n0 Z0 ) hZ (hw _ (List.mem_of_getElem? (i := 18) rfl)) (hw _ (List.mem_of_getElem? (i := 17) rfl)) (by decide) (by decide)) (g := (mkF m 1 #[.val (.ref a1)] [(.ref a1)])) rfl (by rw [hml]; rfl) (Steps.refl _) (a := a1) (argsL := []) (rest := []) (lenOf pd_0 rfl) rfl (by show 2 * 0 + _ ≤ _; exact Nat.le_of_eq rfl) (hb hby d2_1) (fun _ _ => ⟨rfl, e0, (by decide : 0 + 0 ≤ _), (by decide : 0 + 0 ≤ _)⟩)
  dsimp only [Pt.U, Pt.locs, Pt.cells, Pt.slots] at X1 l1 y1 z1 st1 hQ1
  subst l1 y1 z1
  obtain ⟨rfl, N1q, hq1⟩ := hQ1
  have N1 := Fr.app N0 N1q
  obtain ⟨T2, h2, X2, e2, W2, st2⟩ := putF X1 hx hZ hown (host := "") (Or.inl (hw _ (List.mem_of_getElem? (i := 22) rfl))) Via.refl hq1 F0 E1 (Or.inl (hw _ (List.mem_of_getElem? (i := 23) rfl))) (hw _ (List.mem_of_getElem? (i := 2) rfl)) (ty := .int) (by decide) rfl rfl (g := (mkF m 6 #[.val (.ref a1)] [(.int (0 : Int32)), (.ref a1)])) rfl rfl (hb hby d2_6)
  have Fw2 := F0.same W2
  have K2 : Keep h0 h2 [a1] := (Keep.refl h0 [a1]).wr W2 (Or.inl (List.mem_of_getElem? (i := 0) rfl))
  have N2 := Fr.snoc X2 N1 g_a1
  have pre3 : ∀ t, Steps p.tables e below (T2.setTop (mkF m 9 #[.val (.ref a1)] [])) t → Steps p.tables e below (s₁.setTop (entryFrame m #[(.ref a1)] 1)) t := by
    intro t k
    refine pre0 t ?_
    show Steps p.tables e below (s₁.setTop (mkF m 0 #[.val (.ref a1)] [])) _
    refine XS.aloadN X0.here hx rfl (hb hby d2_0) rfl (rfl) ?_
    show Steps p.tables e below (s₁.setTop (mkF m 1 #[.val (.ref a1)] [(.ref a1)])) _
    refine st1.trans ?_
    show Steps p.tables e below (T1.setTop (mkF m 4 #[.val (.ref a1)] [])) _
    refine XS.aloadN X1.here hx rfl (hb hby d2_4) rfl (rfl) ?_
    show Steps p.tables e below (T1.setTop (mkF m 5 #[.val (.ref a1)] [(.ref a1)])) _
    refine XS.iconst X1.here hx rfl (hb hby d2_5) ?_
    show Steps p.tables e below (T1.setTop (mkF m 6 #[.val (.ref a1)] [(.int (0 : Int32)), (.ref a1)])) _
    refine st2 _ ?_
    show Steps p.tables e below (T2.setTop (mkF m 9 #[.val (.ref a1)] [])) _
    exact k
  obtain ⟨fs, hr, hrun, hended, hW, hsame⟩ := X2.leave (v := none) (fun _ => rfl)
  refine ⟨_, _, pre3 _ ?_, hrun, hended, _, _, rfl, ?_, ⟨_, rfl⟩, hW, hsame.mono (by decide) (by decide)⟩
  · exact X2.returnOut hx Bd.returns (hb hby d2_9) hr
  · show Q_rmAB Z a1 h0 n0 _ T2.heap _
    rw [e2]
    exact ⟨rfl, N2, K2, (E1.wr W2), Fw2, (F1.other W2 (Or.inr (slot_ne (Or.inl (hw _ (List.mem_of_getElem? (i := 26) rfl))) (Or.inl (hw _ (List.mem_of_getElem? (i := 23) rfl))) (by decide) (t := (.array (.object "java/lang/Object"))) (t' := .int) (by decide) (by decide)))), (F2.other W2 (Or.inr (slot_ne (Or.inl (hw _ (List.mem_of_getElem? (i := 58) rfl))) (Or.inl (hw _ (List.mem_of_getElem? (i := 23) rfl))) (by decide) (t := .int) (t' := .int) (by decide) (by decide))))⟩
theorem ef_rmAL (m : MethodId) (x0 : Addr) : entryFrame m #[(.ref x0)] 1 = mkF m 0 #[.val (.ref x0)] [] := by first | (simp [entryFrame, mkF, argsToLocals, Value.category]; done) | rfl
theorem pn_7 : plainName "java/util/ArrayList" = true := by first | (simp [plainName, overriddenIn]; done) | decide +kernel
theorem own_staK {Z : State} {h h' : Heap} {a : Addr} {C n d K : String} {v : Value} (F : Sta Z h C n d v) (Kp : Keep h h' [a]) (E : Exa Z h a K) : Sta Z h' C n d v := by
  obtain ⟨cf, i, k, f, st, cell, h1, h2, h3, h4, h5, h6, h7⟩ := F
  obtain ⟨c2, k2, e1, -, -, e4, -⟩ := E
  refine ⟨cf, i, k, f, st, cell, h1, h2, h3, h4, Kp.2.1 _ _ h5 ?_, h6, h7⟩
  intro q
  have : st = a := by simpa using q
  subst this
  cases h5.symm.trans e1
  rw [h6] at e4; cases e4
theorem d1_0 : decode jdk_38_method_2_code 0 = .ok (.aload_n 0, 1) := by decide +kernel
theorem d1_1 : decode jdk_38_method_2_code 1 = .ok (.invokespecial 1, 3) := by decide +kernel
theorem d1_4 : decode jdk_38_method_2_code 4 = .ok (.aload_n 0, 1) := by decide +kernel
theorem d1_5 : decode jdk_38_method_2_code 5 = .ok (.getstatic 39, 3) := by decide +kernel
theorem d1_8 : decode jdk_38_method_2_code 8 = .ok (.putfield 9, 3) := by decide +kernel
theorem d1_11 : decode jdk_38_method_2_code 11 = .ok (.return_, 1) := by decide +kernel
def Q_rmAL (Z : State) (a1 : Addr) (aD : Addr) (h0 : Heap) (n0 : Nat) (v : Option Value) (h : Heap) (L : List Loc) : Prop := v = none ∧ Fr n0 L ∧ Keep h0 h [a1] ∧ Exa Z h a1 "java/util/ArrayList" ∧ Fld Z h a1 "java/util/AbstractList" "modCount" "I" (.int (0 : Int32)) ∧ Fld Z h a1 "java/util/ArrayList" "elementData" "[Ljava/lang/Object;" (.ref aD) ∧ Fld Z h a1 "java/util/ArrayList" "size" "I" (.int (0 : Int32))
set_option maxRecDepth 65536 in
set_option maxHeartbeats 40000000 in
theorem rmAL (l : Launch) (Z : State) (a0 : Array Value) (hw : ∀ d ∈ tables_1, d.before a0 Z = true) (ws : List Jvm.Cond) (a1 : Addr) (aD : Addr) (h0 : Heap) (n0 : Nat) (Z0 : n0 ≤ h0.size) (F0 : Fld Z h0 a1 "java/util/AbstractList" "modCount" "I" (.int (0 : Int32))) (F1 : Fld Z h0 a1 "java/util/ArrayList" "elementData" "[Ljava/lang/Object;" .null) (F2 : Fld Z h0 a1 "java/util/ArrayList" "size" "I" (.int (0 : Int32))) (E1 : Exa Z h0 a1 "java/util/ArrayList") (g_a1 : n0 ≤ a1) (SD : Sta Z h0 "java/util/ArrayList" "DEFAULTCAPACITY_EMPTY_ELEMENTDATA" "[Ljava/lang/Object;" (.ref aD)) :
    MetFree l (⟨"java/util/ArrayList", "<init>", "()V"⟩ : MethodName) (head1 (Jvm.Cond.code (⟨"java/util/ArrayList", "<init>", "()V"⟩ : MethodName) jdk_38_method_2_code 1 none :: ws) ({ frames := 3, cells := 0, slots := 0, locals := 36 } : Room)) (fun a U => a = #[(.ref a1)] ∧ Z.Warmed39 U.vm ∧ U.heap = h0) (fun _ _ _ _ _ => True) (fun _ U o U' => ∃ v L, o = .returned v ∧ Q_rmAL Z a1 aD h0 n0 v U'.heap L ∧ FrameEnd U o U' L ({ frames := 3, cells := 0, slots := 0, locals := 36 } : Room).cells ({ frames := 3, cells := 0, slots := 0, locals := 36 } : Room).slots) := by
  refine MetFree.of_bodySF (plainFor_of_name pn_7) hisR ?_
  intro p e s m args below meth c s₁ Bd hml0 hP hK
  obtain ⟨rfl, hZ, hh⟩ := hP
  have hx := Bd.exec
  have hby := Bd.bytes
  have hml : c.maxLocals = 1 := hml0
  have hown : s.vm.findClass "java/util/ArrayList" = some m.cls := (findClass_of_methodNamed Bd.named :)
  have hnm := (name_of_methodNamed Bd.named Bd.method).1
  have X0 : Stand p l e ({ frames := 3, cells := 0, slots := 0, locals := 36 } : Room) s m #[(.ref a1)] below meth c s₁ [] 0 0 := Stand.of_body Bd
  have e0 : s₁.heap = h0 := by rw [← hh, Bd.state]; rfl
  have N0 := Fr.nil n0
  have pre0 : ∀ t, Steps p.tables e below (s₁.setTop (mkF m 0 #[.val (.ref a1)] [])) t → Steps p.tables e below (s₁.setTop (entryFrame m #[(.ref a1)] 1)) t := fun t k => castTop (ef_rmAL m a1) k
  obtain ⟨_, _, ⟨T1, L1, k1, n1⟩, -, X1, ⟨Lc1, hQ1, l1, y1, z1⟩, st1⟩ := X0.specialBack hx (y := (⟨"java/util/AbstractList", "<init>", "()V"⟩ : MethodName)) rfl hown (mvT hZ (hw _ (List.mem_of_getElem? (i := 7) rfl))) (mvT hZ (hw _ (List.mem_of_getElem? (i := 8) rfl))) (mvT hZ (hw _ (List.mem_of_getElem? (i := 12) rfl))) (by decide) (backOf (W := 0) (rmAB l Z a0 hw [] a1  h0 n0 Z0 F0 F1 F2 E1 g_a1) hZ (hw _ (List.mem_of_getElem? (i := 12) rfl)) (hw _ (List.mem_of_getElem? (i := 11) rfl)) (by decide) (by decide)) (g := (mkF m 1 #[.val (.ref a1)] [(.ref a1)])) rfl (by rw [hml]; rfl) (Steps.refl _) (a := a1) (argsL := []) (rest := []) (lenOf pd_0 rfl) rfl (by show 2 * 0 + _ ≤ _; exact Nat.le_of_eq rfl) (hb hby d1_1) (fun _ _ => ⟨rfl, e0, (by decide : 0 + 0 ≤ _), (by decide : 0 + 0 ≤ _)⟩)
  dsimp only [Pt.U, Pt.locs, Pt.cells, Pt.slots] at X1 l1 y1 z1 st1 hQ1
  subst l1 y1 z1
  obtain ⟨rfl, N1q, Kq1, Eq1, G0q1, G1q1, G2q1⟩ := hQ1
  have N1 := Fr.app N0 N1q
  have K1 : Keep h0 T1.heap [a1] := (Keep.refl h0 [a1]).trans Kq1 (allS (Or.inl (List.mem_of_getElem? (i := 0) rfl)) all0)
  have SD' := own_staK SD Kq1 E1
  obtain ⟨T2, X2, e2, st2⟩ := getS2 X1 hx hZ hown (host := "") (Or.inl (hw _ (List.mem_of_getElem? (i := 24) rfl))) Via.refl rfl SD' (g := (mkF m 5 #[.val (.ref a1)] [(.ref a1)])) rfl (hb hby d1_5)
  obtain ⟨T3, h3, X3, e3, W3, st3⟩ := putF X2 hx hZ hown (host := "") (Or.inl (hw _ (List.mem_of_getElem? (i := 25) rfl))) Via.refl e2 G1q1 Eq1 (Or.inl (hw _ (List.mem_of_getElem? (i := 26) rfl))) (hw _ (List.mem_of_getElem? (i := 2) rfl)) (ty := (.array (.object "java/lang/Object"))) (by decide) rfl rfl (g := (mkF m 8 #[.val (.ref a1)] [(.ref aD), (.ref a1)])) rfl rfl (hb hby d1_8)
  have Fw3 := G1q1.same W3
  have K3 : Keep h0 h3 [a1] := K1.wr W3 (Or.inl (List.mem_of_getElem? (i := 0) rfl))
  have N3 := Fr.snoc X3 N1 g_a1
  have pre4 : ∀ t, Steps p.tables e below (T3.setTop (mkF m 11 #[.val (.ref a1)] [])) t → Steps p.tables e below (s₁.setTop (entryFrame m #[(.ref a1)] 1)) t := by
    intro t k
    refine pre0 t ?_
    show Steps p.tables e below (s₁.setTop (mkF m 0 #[.val (.ref a1)] [])) _
    refine XS.aloadN X0.here hx rfl (hb hby d1_0) rfl (rfl) ?_
    show Steps p.tables e below (s₁.setTop (mkF m 1 #[.val (.ref a1)] [(.ref a1)])) _
    refine st1.trans ?_
    show Steps p.tables e below (T1.setTop (mkF m 4 #[.val (.ref a1)] [])) _
    refine XS.aloadN X1.here hx rfl (hb hby d1_4) rfl (rfl) ?_
    show Steps p.tables e below (T1.setTop (mkF m 5 #[.val (.ref a1)] [(.ref a1)])) _
    refine st2 _ ?_
    show Steps p.tables e below (T2.setTop (mkF m 8 #[.val (.ref a1)] [(.ref aD), (.ref a1)])) _
    refine st3 _ ?_
    show Steps p.tables e below (T3.setTop (mkF m 11 #[.val (.ref a1)] [])) _
    exact k
  obtain ⟨fs, hr, hrun, hended, hW, hsame⟩ := X3.leave (v := none) (fun _ => rfl)
  refine ⟨_, _, pre4 _ ?_, hrun, hended, _, _, rfl, ?_, ⟨_, rfl⟩, hW, hsame.mono (by decide) (by decide)⟩
  · exact X3.returnOut hx Bd.returns (hb hby d1_11) hr
  · show Q_rmAL Z a1 aD h0 n0 _ T3.heap _
    rw [e3]
    exact ⟨rfl, N3, K3, (Eq1.wr W3), (G0q1.other W3 (Or.inr (slot_ne (Or.inl (hw _ (List.mem_of_getElem? (i := 23) rfl))) (Or.inl (hw _ (List.mem_of_getElem? (i := 26) rfl))) (by decide) (t := .int) (t' := (.array (.object "java/lang/Object"))) (by decide) (by decide)))), Fw3, (G2q1.other W3 (Or.inr (slot_ne (Or.inl (hw _ (List.mem_of_getElem? (i := 58) rfl))) (Or.inl (hw _ (List.mem_of_getElem? (i := 26) rfl))) (by decide) (t := .int) (t' := (.array (.object "java/lang/Object"))) (by decide) (by decide))))⟩
theorem ef_rmLD (m : MethodId) (x0 : Addr) (x3 : Int32) : entryFrame m #[(.ref x0), .null, .null, (.int x3)] 4 = mkF m 0 #[.val (.ref x0), .val .null, .val .null, .val (.int x3)] [] := by first | (simp [entryFrame, mkF, argsToLocals, Value.category]; done) | rfl
theorem pn_0 : plainName "com/example/kiseki/kiseki/span/LinkData" = true := by first | (simp [plainName, overriddenIn]; done) | decide +kernel
theorem d5_0 : decode prog_33_method_2_code 0 = .ok (.aload_n 0, 1) := by decide +kernel
theorem d5_1 : decode prog_33_method_2_code 1 = .ok (.invokespecial 7, 3) := by decide +kernel
theorem d5_4 : decode prog_33_method_2_code 4 = .ok (.aload_n 0, 1) := by decide +kernel
theorem d5_5 : decode prog_33_method_2_code 5 = .ok (.aload_n 1, 1) := by decide +kernel
theorem d5_6 : decode prog_33_method_2_code 6 = .ok (.ifnonnull 9, 3) := by decide +kernel
theorem d5_9 : decode prog_33_method_2_code 9 = .ok (.getstatic 12, 3) := by decide +kernel
theorem d5_12 : decode prog_33_method_2_code 12 = .ok (.goto 4, 3) := by decide +kernel
theorem d5_16 : decode prog_33_method_2_code 16 = .ok (.putfield 18, 3) := by decide +kernel
theorem d5_19 : decode prog_33_method_2_code 19 = .ok (.aload_n 0, 1) := by decide +kernel
theorem d5_20 : decode prog_33_method_2_code 20 = .ok (.aload_n 2, 1) := by decide +kernel
theorem d5_21 : decode prog_33_method_2_code 21 = .ok (.ifnonnull 9, 3) := by decide +kernel
theorem d5_24 : decode prog_33_method_2_code 24 = .ok (.getstatic 21, 3) := by decide +kernel
theorem d5_27 : decode prog_33_method_2_code 27 = .ok (.goto 4, 3) := by decide +kernel
theorem d5_31 : decode prog_33_method_2_code 31 = .ok (.putfield 27, 3) := by decide +kernel
theorem d5_34 : decode prog_33_method_2_code 34 = .ok (.aload_n 0, 1) := by decide +kernel
theorem d5_35 : decode prog_33_method_2_code 35 = .ok (.iconst 0, 1) := by decide +kernel
theorem d5_36 : decode prog_33_method_2_code 36 = .ok (.iload_n 3, 1) := by decide +kernel
theorem d5_37 : decode prog_33_method_2_code 37 = .ok (.invokestatic 30, 3) := by decide +kernel
theorem pd_1 : parseMethodDescriptor "(II)I" = some ⟨[.int, .int], some .int⟩ := by decide +kernel
theorem d5_40 : decode prog_33_method_2_code 40 = .ok (.putfield 36, 3) := by decide +kernel
theorem d5_43 : decode prog_33_method_2_code 43 = .ok (.return_, 1) := by decide +kernel
def Q_rmLD (Z : State) (a1 : Addr) (p1 : Int32) (aI : Addr) (aE : Addr) (h0 : Heap) (n0 : Nat) (v : Option Value) (h : Heap) (L : List Loc) : Prop := v = none ∧ Fr n0 L ∧ Keep h0 h [a1] ∧ Exa Z h a1 "com/example/kiseki/kiseki/span/LinkData" ∧ Fld Z h a1 "com/example/kiseki/kiseki/span/LinkData" "droppedAttributesCount" "I" (.int (own_max (0 : Int32) p1))
set_option maxRecDepth 65536 in
set_option maxHeartbeats 40000000 in
theorem rmLD (l : Launch) (Z : State) (a0 : Array Value) (hw : ∀ d ∈ tables_1, d.before a0 Z = true) (ws : List Jvm.Cond) (a1 : Addr) (p1 : Int32) (aI : Addr) (aE : Addr) (h0 : Heap) (n0 : Nat) (Z0 : n0 ≤ h0.size) (F0 : Fld Z h0 a1 "com/example/kiseki/kiseki/span/LinkData" "spanContext" "Lcom/example/kiseki/kiseki/span/SpanContext;" .null) (F1 : Fld Z h0 a1 "com/example/kiseki/kiseki/span/LinkData" "attributes" "Lcom/example/kiseki/kiseki/span/Attributes;" .null) (F2 : Fld Z h0 a1 "com/example/kiseki/kiseki/span/LinkData" "droppedAttributesCount" "I" (.int (0 : Int32))) (E1 : Exa Z h0 a1 "com/example/kiseki/kiseki/span/LinkData") (g_a1 : n0 ≤ a1) (SI : Sta Z h0 "com/example/kiseki/kiseki/span/SpanContext" "INVALID" "Lcom/example/kiseki/kiseki/span/SpanContext;" (.ref aI)) (SE : Sta Z h0 "com/example/kiseki/kiseki/span/Attributes" "EMPTY" "Lcom/example/kiseki/kiseki/span/Attributes;" (.ref aE)) :
    MetFree l (⟨"com/example/kiseki/kiseki/span/LinkData", "<init>", "(Lcom/example/kiseki/kiseki/span/SpanContext;Lcom/example/kiseki/kiseki/span/Attributes;I)V"⟩ : MethodName) (head1 (Jvm.Cond.code (⟨"com/example/kiseki/kiseki/span/LinkData", "<init>", "(Lcom/example/kiseki/kiseki/span/SpanContext;Lcom/example/kiseki/kiseki/span/Attributes;I)V"⟩ : MethodName) prog_33_method_2_code 4 none :: ws) ({ frames := 1, cells := 0, slots := 0, locals := 20 } : Room)) (fun a U => a = #[(.ref a1), .null, .null, (.int p1)] ∧ Z.Warmed39 U.vm ∧ U.heap = h0) (fun _ _ _ _ _ => True) (fun _ U o U' => ∃ v L, o = .returned v ∧ Q_rmLD Z a1 p1 aI aE h0 n0 v U'.heap L ∧ FrameEnd U o U' L ({ frames := 1, cells := 0, slots := 0, locals := 20 } : Room).cells ({ frames := 1, cells := 0, slots := 0, locals := 20 } : Room).slots) := by
  refine MetFree.of_bodySF (plainFor_of_name pn_0) hisR ?_
  intro p e s m args below meth c s₁ Bd hml0 hP hK
  obtain ⟨rfl, hZ, hh⟩ := hP
  have hx := Bd.exec
  have hby := Bd.bytes
  have hml : c.maxLocals = 4 := hml0
  have hown : s.vm.findClass "com/example/kiseki/kiseki/span/LinkData" = some m.cls := (findClass_of_methodNamed Bd.named :)
  have hnm := (name_of_methodNamed Bd.named Bd.method).1
  have X0 : Stand p l e ({ frames := 1, cells := 0, slots := 0, locals := 20 } : Room) s m #[(.ref a1), .null, .null, (.int p1)] below meth c s₁ [] 0 0 := Stand.of_body Bd
  have e0 : s₁.heap = h0 := by rw [← hh, Bd.state]; rfl
  have N0 := Fr.nil n0
  have pre0 : ∀ t, Steps p.tables e below (s₁.setTop (mkF m 0 #[.val (.ref a1), .val .null, .val .null, .val (.int p1)] [])) t → Steps p.tables e below (s₁.setTop (entryFrame m #[(.ref a1), .null, .null, (.int p1)] 4)) t := fun t k => castTop (ef_rmLD m a1 p1) k
  obtain ⟨T1, X1, e1, st1⟩ := initO X0 hx hZ hown (hw _ (List.mem_of_getElem? (i := 33) rfl)) (hw _ (List.mem_of_getElem? (i := 20) rfl)) (hw _ (List.mem_of_getElem? (i := 21) rfl)) e0 (g := (mkF m 1 #[.val (.ref a1), .val .null, .val .null, .val (.int p1)] [(.ref a1)])) rfl (by rw [hml]; rfl) rfl (hb hby d5_1) (by decide) (W := 0) (by show 2 * 0 + _ ≤ _; exact Nat.le_of_eq rfl) (by decide)
  obtain ⟨T2, X2, e2, st2⟩ := getS2 X1 hx hZ hown (host := "") (Or.inl (hw _ (List.mem_of_getElem? (i := 34) rfl))) Via.refl e1 SI (g := (mkF m 9 #[.val (.ref a1), .val .null, .val .null, .val (.int p1)] [(.ref a1)])) rfl (hb hby d5_9)
  obtain ⟨T3, h3, X3, e3, W3, st3⟩ := putF X2 hx hZ hown (host := "") (Or.inl (hw _ (List.mem_of_getElem? (i := 37) rfl))) Via.refl e2 F0 E1 (Or.inr ⟨(hw _ (List.mem_of_getElem? (i := 38) rfl)), rfl, hnm⟩) (hw _ (List.mem_of_getElem? (i := 28) rfl)) (ty := (.object "com/example/kiseki/kiseki/span/SpanContext")) (by decide) rfl rfl (g := (mkF m 16 #[.val (.ref a1), .val .null, .val .null, .val (.int p1)] [(.ref aI), (.ref a1)])) rfl rfl (hb hby d5_16)
  have Fw3 := F0.same W3
  have K3 : Keep h0 h3 [a1] := (Keep.refl h0 [a1]).wr W3 (Or.inl (List.mem_of_getElem? (i := 0) rfl))
  have N3 := Fr.snoc X3 N0 g_a1
  obtain ⟨T4, X4, e4, st4⟩ := getS2 X3 hx hZ hown (host := "") (Or.inl (hw _ (List.mem_of_getElem? (i := 39) rfl))) Via.refl e3 (SE.wr W3) (g := (mkF m 24 #[.val (.ref a1), .val .null, .val .null, .val (.int p1)] [(.ref a1)])) rfl (hb hby d5_24)
  obtain ⟨T5, h5, X5, e5, W5, st5⟩ := putF X4 hx hZ hown (host := "") (Or.inl (hw _ (List.mem_of_getElem? (i := 42) rfl))) Via.refl e4 (F1.other W3 (Or.inr (slot_ne (Or.inr (hw _ (List.mem_of_getElem? (i := 43) rfl))) (Or.inr (hw _ (List.mem_of_getElem? (i := 38) rfl))) (by decide) (t := (.object "com/example/kiseki/kiseki/span/Attributes")) (t' := (.object "com/example/kiseki/kiseki/span/SpanContext")) (by decide) (by decide)))) (E1.wr W3) (Or.inr ⟨(hw _ (List.mem_of_getElem? (i := 43) rfl)), rfl, hnm⟩) (hw _ (List.mem_of_getElem? (i := 28) rfl)) (ty := (.object "com/example/kiseki/kiseki/span/Attributes")) (by decide) rfl rfl (g := (mkF m 31 #[.val (.ref a1), .val .null, .val .null, .val (.int p1)] [(.ref aE), (.ref a1)])) rfl rfl (hb hby d5_31)
  have Fw5 := (F1.other W3 (Or.inr (slot_ne (Or.inr (hw _ (List.mem_of_getElem? (i := 43) rfl))) (Or.inr (hw _ (List.mem_of_getElem? (i := 38) rfl))) (by decide) (t := (.object "com/example/kiseki/kiseki/span/Attributes")) (t' := (.object "com/example/kiseki/kiseki/span/SpanContext")) (by decide) (by decide)))).same W5
  have K5 : Keep h0 h5 [a1] := K3.wr W5 (Or.inl (List.mem_of_getElem? (i := 0) rfl))
  have N5 := Fr.snoc X5 N3 g_a1
  obtain ⟨_, _, ⟨T6, L6, k6, n6⟩, -, X6, ⟨Lc6, hQ6, l6, y6, z6⟩, st6⟩ := Jvm.LawKit.callS X5 hx (y := (⟨"java/lang/Math", "max", "(II)I"⟩ : MethodName)) hown (mvT hZ (hw _ (List.mem_of_getElem? (i := 44) rfl))) (mvT hZ (hw _ (List.mem_of_getElem? (i := 45) rfl))) (mvT hZ (hw _ (List.mem_of_getElem? (i := 46) rfl))) (mvT hZ (hw _ (List.mem_of_getElem? (i := 47) rfl))) (by decide) (backOf (W := 1) (rmM l Z a0 hw [] (0 : Int32) p1  h5 n0 (Nat.le_trans (Nat.le_trans Z0 (Keep.of_wr W3).1) (Keep.of_wr W5).1) ) hZ (hw _ (List.mem_of_getElem? (i := 47) rfl)) (hw _ (List.mem_of_getElem? (i := 46) rfl)) (by decide) (by decide)) (g := (mkF m 37 #[.val (.ref a1), .val .null, .val .null, .val (.int p1)] [(.int p1), (.int (0 : Int32)), (.ref a1)])) rfl (by rw [hml]; rfl) (argsL := [(.int (0 : Int32)), (.int p1)]) (rest := [(.ref a1)]) (lenOf pd_1 rfl) rfl (by show 2 * 0 + _ ≤ _; exact Nat.le_of_eq rfl) (hb hby d5_37) (fun _ _ => ⟨rfl, e5, (by decide : 0 + 0 ≤ _), (by decide : 0 + 0 ≤ _)⟩)
  dsimp only [Pt.U, Pt.locs, Pt.cells, Pt.slots] at X6 l6 y6 z6 st6 hQ6
  subst l6 y6 z6
  obtain ⟨rfl, N6q, hq6⟩ := hQ6
  have N6 := Fr.app N5 N6q
  obtain ⟨T7, h7, X7, e7, W7, st7⟩ := putF X6 hx hZ hown (host := "") (Or.inl (hw _ (List.mem_of_getElem? (i := 48) rfl))) Via.refl hq6 ((F2.other W3 (Or.inr (slot_ne (Or.inr (hw _ (List.mem_of_getElem? (i := 49) rfl))) (Or.inr (hw _ (List.mem_of_getElem? (i := 38) rfl))) (by decide) (t := .int) (t' := (.object "com/example/kiseki/kiseki/span/SpanContext")) (by decide) (by decide)))).other W5 (Or.inr (slot_ne (Or.inr (hw _ (List.mem_of_getElem? (i := 49) rfl))) (Or.inr (hw _ (List.mem_of_getElem? (i := 43) rfl))) (by decide) (t := .int) (t' := (.object "com/example/kiseki/kiseki/span/Attributes")) (by decide) (by decide)))) ((E1.wr W3).wr W5) (Or.inr ⟨(hw _ (List.mem_of_getElem? (i := 49) rfl)), rfl, hnm⟩) (hw _ (List.mem_of_getElem? (i := 28) rfl)) (ty := .int) (by decide) rfl rfl (g := (mkF m 40 #[.val (.ref a1), .val .null, .val .null, .val (.int p1)] [(.int (own_max (0 : Int32) p1)), (.ref a1)])) rfl rfl (hb hby d5_40)
  have Fw7 := ((F2.other W3 (Or.inr (slot_ne (Or.inr (hw _ (List.mem_of_getElem? (i := 49) rfl))) (Or.inr (hw _ (List.mem_of_getElem? (i := 38) rfl))) (by decide) (t := .int) (t' := (.object "com/example/kiseki/kiseki/span/SpanContext")) (by decide) (by decide)))).other W5 (Or.inr (slot_ne (Or.inr (hw _ (List.mem_of_getElem? (i := 49) rfl))) (Or.inr (hw _ (List.mem_of_getElem? (i := 43) rfl))) (by decide) (t := .int) (t' := (.object "com/example/kiseki/kiseki/span/Attributes")) (by decide) (by decide)))).same W7
  have K7 : Keep h0 h7 [a1] := K5.wr W7 (Or.inl (List.mem_of_getElem? (i := 0) rfl))
  have N7 := Fr.snoc X7 N6 g_a1
  have pre8 : ∀ t, Steps p.tables e below (T7.setTop (mkF m 43 #[.val (.ref a1), .val .null, .val .null, .val (.int p1)] [])) t → Steps p.tables e below (s₁.setTop (entryFrame m #[(.ref a1), .null, .null, (.int p1)] 4)) t := by
    intro t k
    refine pre0 t ?_
    show Steps p.tables e below (s₁.setTop (mkF m 0 #[.val (.ref a1), .val .null, .val .null, .val (.int p1)] [])) _
    refine XS.aloadN X0.here hx rfl (hb hby d5_0) rfl (rfl) ?_
    show Steps p.tables e below (s₁.setTop (mkF m 1 #[.val (.ref a1), .val .null, .val .null, .val (.int p1)] [(.ref a1)])) _
    refine st1 _ ?_
    show Steps p.tables e below (T1.setTop (mkF m 4 #[.val (.ref a1), .val .null, .val .null, .val (.int p1)] [])) _
    refine XS.aloadN X1.here hx rfl (hb hby d5_4) rfl (rfl) ?_
    show Steps p.tables e below (T1.setTop (mkF m 5 #[.val (.ref a1), .val .null, .val .null, .val (.int p1)] [(.ref a1)])) _
    refine XS.aloadN X1.here hx rfl (hb hby d5_5) rfl (rfl) ?_
    show Steps p.tables e below (T1.setTop (mkF m 6 #[.val (.ref a1), .val .null, .val .null, .val (.int p1)] [.null, (.ref a1)])) _
    refine XS.ifnonnullNo X1.here hx rfl (hb hby d5_6) rfl ?_
    show Steps p.tables e below (T1.setTop (mkF m 9 #[.val (.ref a1), .val .null, .val .null, .val (.int p1)] [(.ref a1)])) _
    refine st2 _ ?_
    show Steps p.tables e below (T2.setTop (mkF m 12 #[.val (.ref a1), .val .null, .val .null, .val (.int p1)] [(.ref aI), (.ref a1)])) _
    refine XS.goto X2.here hx rfl (pc0 := 12) (pc' := 16) rfl (hb hby d5_12) (by decide) (by decide) ?_
    show Steps p.tables e below (T2.setTop (mkF m 16 #[.val (.ref a1), .val .null, .val .null, .val (.int p1)] [(.ref aI), (.ref a1)])) _
    refine st3 _ ?_
    show Steps p.tables e below (T3.setTop (mkF m 19 #[.val (.ref a1), .val .null, .val .null, .val (.int p1)] [])) _
    refine XS.aloadN X3.here hx rfl (hb hby d5_19) rfl (rfl) ?_
    show Steps p.tables e below (T3.setTop (mkF m 20 #[.val (.ref a1), .val .null, .val .null, .val (.int p1)] [(.ref a1)])) _
    refine XS.aloadN X3.here hx rfl (hb hby d5_20) rfl (rfl) ?_
    show Steps p.tables e below (T3.setTop (mkF m 21 #[.val (.ref a1), .val .null, .val .null, .val (.int p1)] [.null, (.ref a1)])) _
    refine XS.ifnonnullNo X3.here hx rfl (hb hby d5_21) rfl ?_
    show Steps p.tables e below (T3.setTop (mkF m 24 #[.val (.ref a1), .val .null, .val .null, .val (.int p1)] [(.ref a1)])) _
    refine st4 _ ?_
    show Steps p.tables e below (T4.setTop (mkF m 27 #[.val (.ref a1), .val .null, .val .null, .val (.int p1)] [(.ref aE), (.ref a1)])) _
    refine XS.goto X4.here hx rfl (pc0 := 27) (pc' := 31) rfl (hb hby d5_27) (by decide) (by decide) ?_
    show Steps p.tables e below (T4.setTop (mkF m 31 #[.val (.ref a1), .val .null, .val .null, .val (.int p1)] [(.ref aE), (.ref a1)])) _
    refine st5 _ ?_
    show Steps p.tables e below (T5.setTop (mkF m 34 #[.val (.ref a1), .val .null, .val .null, .val (.int p1)] [])) _
    refine XS.aloadN X5.here hx rfl (hb hby d5_34) rfl (rfl) ?_
    show Steps p.tables e below (T5.setTop (mkF m 35 #[.val (.ref a1), .val .null, .val .null, .val (.int p1)] [(.ref a1)])) _
    refine XS.iconst X5.here hx rfl (hb hby d5_35) ?_
    show Steps p.tables e below (T5.setTop (mkF m 36 #[.val (.ref a1), .val .null, .val .null, .val (.int p1)] [(.int (0 : Int32)), (.ref a1)])) _
    refine XS.iloadN X5.here hx rfl (hb hby d5_36) rfl ?_
    show Steps p.tables e below (T5.setTop (mkF m 37 #[.val (.ref a1), .val .null, .val .null, .val (.int p1)] [(.int p1), (.int (0 : Int32)), (.ref a1)])) _
    refine st6 _ ?_
    show Steps p.tables e below (T6.setTop (mkF m 40 #[.val (.ref a1), .val .null, .val .null, .val (.int p1)] [(.int (own_max (0 : Int32) p1)), (.ref a1)])) _
    refine st7 _ ?_
    show Steps p.tables e below (T7.setTop (mkF m 43 #[.val (.ref a1), .val .null, .val .null, .val (.int p1)] [])) _
    exact k
  obtain ⟨fs, hr, hrun, hended, hW, hsame⟩ := X7.leave (v := none) (fun _ => rfl)
  refine ⟨_, _, pre8 _ ?_, hrun, hended, _, _, rfl, ?_, ⟨_, rfl⟩, hW, hsame.mono (by decide) (by decide)⟩
  · exact X7.returnOut hx Bd.returns (hb hby d5_43) hr
  · show Q_rmLD Z a1 p1 aI aE h0 n0 _ T7.heap _
    rw [e7]
    exact ⟨rfl, N7, K7, (((E1.wr W3).wr W5).wr W7), Fw7⟩
theorem ef_rmG1 (m : MethodId) (x0 : Addr) (x1 : Int32) : entryFrame m #[(.ref x0), (.int x1)] 4 = mkF m 0 #[.val (.ref x0), .val (.int x1), .unset, .unset] [] := by first | (simp [entryFrame, mkF, argsToLocals, Value.category]; done) | rfl
theorem d10_0 : decode jdk_38_method_6_code 0 = .ok (.aload_n 0, 1) := by decide +kernel
theorem d10_1 : decode jdk_38_method_6_code 1 = .ok (.getfield 9, 3) := by decide +kernel
theorem d10_4 : decode jdk_38_method_6_code 4 = .ok (.arraylength, 1) := by decide +kernel
theorem d10_5 : decode jdk_38_method_6_code 5 = .ok (.istore_n 2, 1) := by decide +kernel
theorem d10_6 : decode jdk_38_method_6_code 6 = .ok (.iload_n 2, 1) := by decide +kernel
theorem d10_7 : decode jdk_38_method_6_code 7 = .ok (.ifCond .gt 13, 3) := by decide +kernel
theorem d10_10 : decode jdk_38_method_6_code 10 = .ok (.aload_n 0, 1) := by decide +kernel
theorem d10_11 : decode jdk_38_method_6_code 11 = .ok (.getfield 9, 3) := by decide +kernel
theorem d10_14 : decode jdk_38_method_6_code 14 = .ok (.getstatic 39, 3) := by decide +kernel
theorem d10_17 : decode jdk_38_method_6_code 17 = .ok (.if_acmp .eq 28, 3) := by decide +kernel
theorem d10_45 : decode jdk_38_method_6_code 45 = .ok (.aload_n 0, 1) := by decide +kernel
theorem d10_46 : decode jdk_38_method_6_code 46 = .ok (.bipush 10, 2) := by decide +kernel
theorem d10_48 : decode jdk_38_method_6_code 48 = .ok (.iload_n 1, 1) := by decide +kernel
theorem d10_49 : decode jdk_38_method_6_code 49 = .ok (.invokestatic 79, 3) := by decide +kernel
theorem d10_52 : decode jdk_38_method_6_code 52 = .ok (.anewarray 7, 3) := by decide +kernel
theorem d10_55 : decode jdk_38_method_6_code 55 = .ok (.dup_x1, 1) := by decide +kernel
theorem d10_56 : decode jdk_38_method_6_code 56 = .ok (.putfield 9, 3) := by decide +kernel
theorem d10_59 : decode jdk_38_method_6_code 59 = .ok (.areturn, 1) := by decide +kernel
def Q_rmG1 (Z : State) (a1 : Addr) (mc : Int32) (aD : Addr) (cD : Cell) (h0 : Heap) (n0 : Nat) (v : Option Value) (h : Heap) (L : List Loc) : Prop := ∃ (b : Addr) (kk : ClassId), v = some (.ref b) ∧ Fr n0 L ∧ Keep h0 h [a1] ∧ n0 ≤ b ∧ h0.size ≤ b ∧ Exa Z h a1 "java/util/ArrayList" ∧ Fld Z h a1 "java/util/AbstractList" "modCount" "I" (.int mc) ∧ Fld Z h a1 "java/util/ArrayList" "elementData" "[Ljava/lang/Object;" (.ref b) ∧ Fld Z h a1 "java/util/ArrayList" "size" "I" (.int (0 : Int32)) ∧ Arv Z h b kk (.object "java/lang/Object") (10 : Int32) [.null, .null, .null, .null, .null, .null, .null, .null, .null, .null] .null ∧ Ovr Z kk "java/lang/Object"
set_option maxRecDepth 65536 in
set_option maxHeartbeats 40000000 in
theorem rmG1 (l : Launch) (Z : State) (a0 : Array Value) (hw : ∀ d ∈ tables_1, d.before a0 Z = true) (ws : List Jvm.Cond) (a1 : Addr) (mc : Int32) (aD : Addr) (cD : Cell) (h0 : Heap) (n0 : Nat) (Z0 : n0 ≤ h0.size) (F0 : Fld Z h0 a1 "java/util/AbstractList" "modCount" "I" (.int mc)) (F1 : Fld Z h0 a1 "java/util/ArrayList" "elementData" "[Ljava/lang/Object;" (.ref aD)) (F2 : Fld Z h0 a1 "java/util/ArrayList" "size" "I" (.int (0 : Int32))) (E1 : Exa Z h0 a1 "java/util/ArrayList") (g_a1 : n0 ≤ a1) (SD : Sta Z h0 "java/util/ArrayList" "DEFAULTCAPACITY_EMPTY_ELEMENTDATA" "[Ljava/lang/Object;" (.ref aD)) (AD : Arr Z h0 aD cD (.object "java/lang/Object")) (SzD : cD.slots.size = (0 : Int32).toNatClampNeg) :
    MetFree l (⟨"java/util/ArrayList", "grow", "(I)[Ljava/lang/Object;"⟩ : MethodName) (head1 (Jvm.Cond.code (⟨"java/util/ArrayList", "grow", "(I)[Ljava/lang/Object;"⟩ : MethodName) jdk_38_method_6_code 4 (some (.array (.object "java/lang/Object"))) :: ws) ({ frames := 1, cells := 1, slots := 10, locals := 20 } : Room)) (fun a U => a = #[(.ref a1), (.int (1 : Int32))] ∧ Z.Warmed39 U.vm ∧ U.heap = h0) (fun _ _ _ _ _ => True) (fun _ U o U' => ∃ v L, o = .returned v ∧ Q_rmG1 Z a1 mc aD cD h0 n0 v U'.heap L ∧ FrameEnd U o U' L ({ frames := 1, cells := 1, slots := 10, locals := 20 } : Room).cells ({ frames := 1, cells := 1, slots := 10, locals := 20 } : Room).slots) := by
  refine MetFree.of_bodySF (plainFor_of_name pn_7) hisR ?_
  intro p e s m args below meth c s₁ Bd hml0 hP hK
  obtain ⟨rfl, hZ, hh⟩ := hP
  have hx := Bd.exec
  have hby := Bd.bytes
  have hml : c.maxLocals = 4 := hml0
  have hown : s.vm.findClass "java/util/ArrayList" = some m.cls := (findClass_of_methodNamed Bd.named :)
  have hnm := (name_of_methodNamed Bd.named Bd.method).1
  have X0 : Stand p l e ({ frames := 1, cells := 1, slots := 10, locals := 20 } : Room) s m #[(.ref a1), (.int (1 : Int32))] below meth c s₁ [] 0 0 := Stand.of_body Bd
  have e0 : s₁.heap = h0 := by rw [← hh, Bd.state]; rfl
  have N0 := Fr.nil n0
  have pre0 : ∀ t, Steps p.tables e below (s₁.setTop (mkF m 0 #[.val (.ref a1), .val (.int (1 : Int32)), .unset, .unset] [])) t → Steps p.tables e below (s₁.setTop (entryFrame m #[(.ref a1), (.int (1 : Int32))] 4)) t := fun t k => castTop (ef_rmG1 m a1 (1 : Int32)) k
  obtain ⟨T1, X1, e1, st1⟩ := getF X0 hx hZ hown (host := "") (Or.inl (hw _ (List.mem_of_getElem? (i := 25) rfl))) Via.refl e0 F1 (g := (mkF m 1 #[.val (.ref a1), .val (.int (1 : Int32)), .unset, .unset] [(.ref a1)])) rfl rfl (hb hby d10_1)
  obtain ⟨T2, X2, e2, st2⟩ := getF X1 hx hZ hown (host := "") (Or.inl (hw _ (List.mem_of_getElem? (i := 25) rfl))) Via.refl e1 F1 (g := (mkF m 11 #[.val (.ref a1), .val (.int (1 : Int32)), .val (.int (0 : Int32)), .unset] [(.ref a1)])) rfl rfl (hb hby d10_11)
  obtain ⟨T3, X3, e3, st3⟩ := getS2 X2 hx hZ hown (host := "") (Or.inl (hw _ (List.mem_of_getElem? (i := 24) rfl))) Via.refl e2 SD (g := (mkF m 14 #[.val (.ref a1), .val (.int (1 : Int32)), .val (.int (0 : Int32)), .unset] [(.ref aD)])) rfl (hb hby d10_14)
  obtain ⟨_, _, ⟨T4, L4, k4, n4⟩, -, X4, ⟨Lc4, hQ4, l4, y4, z4⟩, st4⟩ := Jvm.LawKit.callS X3 hx (y := (⟨"java/lang/Math", "max", "(II)I"⟩ : MethodName)) hown (mvT hZ (hw _ (List.mem_of_getElem? (i := 74) rfl))) (mvT hZ (hw _ (List.mem_of_getElem? (i := 45) rfl))) (mvT hZ (hw _ (List.mem_of_getElem? (i := 46) rfl))) (mvT hZ (hw _ (List.mem_of_getElem? (i := 47) rfl))) (by decide) (backOf (W := 1) (rmM l Z a0 hw [] (10 : Int32) (1 : Int32)  h0 n0 Z0 ) hZ (hw _ (List.mem_of_getElem? (i := 47) rfl)) (hw _ (List.mem_of_getElem? (i := 46) rfl)) (by decide) (by decide)) (g := (mkF m 49 #[.val (.ref a1), .val (.int (1 : Int32)), .val (.int (0 : Int32)), .unset] [(.int (1 : Int32)), (.int (10 : Int32)), (.ref a1)])) rfl (by rw [hml]; rfl) (argsL := [(.int (10 : Int32)), (.int (1 : Int32))]) (rest := [(.ref a1)]) (lenOf pd_1 rfl) rfl (by show 2 * 0 + _ ≤ _; exact Nat.le_of_eq rfl) (hb hby d10_49) (fun _ _ => ⟨rfl, e3, (by decide : 0 + 0 ≤ _), (by decide : 0 + 0 ≤ _)⟩)
  dsimp only [Pt.U, Pt.locs, Pt.cells, Pt.slots] at X4 l4 y4 z4 st4 hQ4
  subst l4 y4 z4
  obtain ⟨rfl, N4q, hq4⟩ := hQ4
  have N4 := Fr.app N0 N4q
  have pre5 : ∀ t, Steps p.tables e below (T4.setTop (mkF m 52 #[.val (.ref a1), .val (.int (1 : Int32)), .val (.int (0 : Int32)), .unset] [(.int (own_max (10 : Int32) (1 : Int32))), (.ref a1)])) t → Steps p.tables e below (s₁.setTop (entryFrame m #[(.ref a1), (.int (1 : Int32))] 4)) t := by
    intro t k
    refine pre0 t ?_
    show Steps p.tables e below (s₁.setTop (mkF m 0 #[.val (.ref a1), .val (.int (1 : Int32)), .unset, .unset] [])) _
    refine XS.aloadN X0.here hx rfl (hb hby d10_0) rfl (rfl) ?_
    show Steps p.tables e below (s₁.setTop (mkF m 1 #[.val (.ref a1), .val (.int (1 : Int32)), .unset, .unset] [(.ref a1)])) _
    refine st1 _ ?_
    show Steps p.tables e below (T1.setTop (mkF m 4 #[.val (.ref a1), .val (.int (1 : Int32)), .unset, .unset] [(.ref aD)])) _
    refine X1.arraylength hx (by rw [e1]; exact AD.1) (State.isArrayOf_alike hZ.alike AD.2.1) (g := (mkF m 4 #[.val (.ref a1), .val (.int (1 : Int32)), .unset, .unset] [(.ref aD)])) rfl rfl (hb hby d10_4) _ ?_
    rw [len_of SzD (by decide)]
    show Steps p.tables e below (T1.setTop (mkF m 5 #[.val (.ref a1), .val (.int (1 : Int32)), .unset, .unset] [(.int (0 : Int32))])) _
    refine XS.istoreN X1.here hx rfl (hb hby d10_5) rfl (l' := #[.val (.ref a1), .val (.int (1 : Int32)), .val (.int (0 : Int32)), .unset]) rfl ?_
    show Steps p.tables e below (T1.setTop (mkF m 6 #[.val (.ref a1), .val (.int (1 : Int32)), .val (.int (0 : Int32)), .unset] [])) _
    refine XS.iloadN X1.here hx rfl (hb hby d10_6) rfl ?_
    show Steps p.tables e below (T1.setTop (mkF m 7 #[.val (.ref a1), .val (.int (1 : Int32)), .val (.int (0 : Int32)), .unset] [(.int (0 : Int32))])) _
    refine XS.ifNo X1.here hx rfl (hb hby d10_7) rfl ((if0 _ _).trans (flt (by decide : ¬ ((0 : Int32) < (0 : Int32)))).2.2.1) ?_
    show Steps p.tables e below (T1.setTop (mkF m 10 #[.val (.ref a1), .val (.int (1 : Int32)), .val (.int (0 : Int32)), .unset] [])) _
    refine XS.aloadN X1.here hx rfl (hb hby d10_10) rfl (rfl) ?_
    show Steps p.tables e below (T1.setTop (mkF m 11 #[.val (.ref a1), .val (.int (1 : Int32)), .val (.int (0 : Int32)), .unset] [(.ref a1)])) _
    refine st2 _ ?_
    show Steps p.tables e below (T2.setTop (mkF m 14 #[.val (.ref a1), .val (.int (1 : Int32)), .val (.int (0 : Int32)), .unset] [(.ref aD)])) _
    refine st3 _ ?_
    show Steps p.tables e below (T3.setTop (mkF m 17 #[.val (.ref a1), .val (.int (1 : Int32)), .val (.int (0 : Int32)), .unset] [(.ref aD), (.ref aD)])) _
    refine Jvm.RoadKit.acmp (g := (mkF m 17 #[.val (.ref a1), .val (.int (1 : Int32)), .val (.int (0 : Int32)), .unset] [(.ref aD), (.ref aD)])) X3 hx rfl rfl rfl (pc0 := 17) (pc' := 45) (same := true) rfl (hb hby d10_17) rfl (decide_eq_true rfl) (by decide) (by decide) ?_
    show Steps p.tables e below (T3.setTop (mkF m 45 #[.val (.ref a1), .val (.int (1 : Int32)), .val (.int (0 : Int32)), .unset] [])) _
    refine XS.aloadN X3.here hx rfl (hb hby d10_45) rfl (rfl) ?_
    show Steps p.tables e below (T3.setTop (mkF m 46 #[.val (.ref a1), .val (.int (1 : Int32)), .val (.int (0 : Int32)), .unset] [(.ref a1)])) _
    refine XS.bipush X3.here hx rfl (hb hby d10_46) ?_
    show Steps p.tables e below (T3.setTop (mkF m 48 #[.val (.ref a1), .val (.int (1 : Int32)), .val (.int (0 : Int32)), .unset] [(.int (10 : Int32)), (.ref a1)])) _
    refine XS.iloadN X3.here hx rfl (hb hby d10_48) rfl ?_
    show Steps p.tables e below (T3.setTop (mkF m 49 #[.val (.ref a1), .val (.int (1 : Int32)), .val (.int (0 : Int32)), .unset] [(.int (1 : Int32)), (.int (10 : Int32)), (.ref a1)])) _
    refine st4 _ ?_
    show Steps p.tables e below (T4.setTop (mkF m 52 #[.val (.ref a1), .val (.int (1 : Int32)), .val (.int (0 : Int32)), .unset] [(.int (own_max (10 : Int32) (1 : Int32))), (.ref a1)])) _
    exact k
  rw [show own_max (10 : Int32) (1 : Int32) = (10 : Int32) from by decide] at pre5
  obtain ⟨T6, h6, k6, X6, e6, E6, A6, O6, st6⟩ := newR X4 hx hZ hown (hw _ (List.mem_of_getElem? (i := 75) rfl)) (hw _ (List.mem_of_getElem? (i := 76) rfl)) hq4 (g := (mkF m 52 #[.val (.ref a1), .val (.int (1 : Int32)), .val (.int (0 : Int32)), .unset] [(.int (10 : Int32)), (.ref a1)])) rfl (hb hby d10_52) rfl (by decide) (cap := 10) (by decide) (by decide) (by decide) (by decide)
  obtain ⟨b6, g6⟩ : ∃ z, z = h0.size := ⟨_, rfl⟩
  rw [← g6] at A6 st6
  have V6 : Arv Z h6 b6 k6 (.object "java/lang/Object") (10 : Int32) [.null, .null, .null, .null, .null, .null, .null, .null, .null, .null] .null := (Arv.new A6 (by decide)).pad (pad_rep [] .null 10)
  have ne_a1_b6 : a1 ≠ b6 := Nat.ne_of_lt (Nat.lt_of_lt_of_le F0.lt (Nat.le_of_eq g6.symm))
  have g_b6 : n0 ≤ b6 := Nat.le_trans Z0 (Nat.le_of_eq g6.symm)
  have sz_b6 : h0.size ≤ b6 := (Nat.le_trans (Keep.refl h0 [a1]).1 (Nat.le_of_eq g6.symm))
  have K6 : Keep h0 h6 [a1] := (Keep.refl h0 [a1]).ext E6
  obtain ⟨T7, h7, X7, e7, W7, st7⟩ := putF X6 hx hZ hown (host := "") (Or.inl (hw _ (List.mem_of_getElem? (i := 25) rfl))) Via.refl e6 (F1.ext E6) (E1.ext E6) (Or.inl (hw _ (List.mem_of_getElem? (i := 26) rfl))) (hw _ (List.mem_of_getElem? (i := 2) rfl)) (ty := (.array (.object "java/lang/Object"))) (by decide) rfl rfl (g := (mkF m 56 #[.val (.ref a1), .val (.int (1 : Int32)), .val (.int (0 : Int32)), .unset] [(.ref b6), (.ref a1), (.ref b6)])) rfl rfl (hb hby d10_56)
  have Fw7 := (F1.ext E6).same W7
  have K7 : Keep h0 h7 [a1] := K6.wr W7 (Or.inl (List.mem_of_getElem? (i := 0) rfl))
  have N7 := Fr.snoc X7 N4 g_a1
  have pre8 : ∀ t, Steps p.tables e below (T7.setTop (mkF m 59 #[.val (.ref a1), .val (.int (1 : Int32)), .val (.int (0 : Int32)), .unset] [(.ref b6)])) t → Steps p.tables e below (s₁.setTop (entryFrame m #[(.ref a1), (.int (1 : Int32))] 4)) t := by
    intro t k
    refine pre5 t ?_
    refine st6 _ ?_
    show Steps p.tables e below (T6.setTop (mkF m 55 #[.val (.ref a1), .val (.int (1 : Int32)), .val (.int (0 : Int32)), .unset] [(.ref b6), (.ref a1)])) _
    refine XS.dupX1 X6.here hx rfl (hb hby d10_55) rfl rfl rfl ?_
    show Steps p.tables e below (T6.setTop (mkF m 56 #[.val (.ref a1), .val (.int (1 : Int32)), .val (.int (0 : Int32)), .unset] [(.ref b6), (.ref a1), (.ref b6)])) _
    refine st7 _ ?_
    show Steps p.tables e below (T7.setTop (mkF m 59 #[.val (.ref a1), .val (.int (1 : Int32)), .val (.int (0 : Int32)), .unset] [(.ref b6)])) _
    exact k
  obtain ⟨fs, hr, hrun, hended, hW, hsame⟩ := X7.leave (v := some (.ref b6)) (fun h => by rw [Bd.returns] at h; cases h)
  refine ⟨_, _, pre8 _ ?_, hrun, hended, _, _, rfl, ?_, ⟨_, rfl⟩, hW, hsame.mono (by decide) (by decide)⟩
  · exact retOut X7 hx Bd.returns (by first | rfl | simp [narrow]) (Or.inr (Or.inr (Or.inr (Or.inr ⟨rfl, rfl, rfl⟩)))) (hb hby d10_59) hr
  · show Q_rmG1 Z a1 mc aD cD h0 n0 _ T7.heap _
    rw [e7]
    exact ⟨b6, k6, rfl, N7, K7, g_b6, sz_b6, ((E1.ext E6).wr W7), ((F0.ext E6).other W7 (Or.inr (slot_ne (Or.inl (hw _ (List.mem_of_getElem? (i := 23) rfl))) (Or.inl (hw _ (List.mem_of_getElem? (i := 26) rfl))) (by decide) (t := .int) (t' := (.array (.object "java/lang/Object"))) (by decide) (by decide)))), Fw7, ((F2.ext E6).other W7 (Or.inr (slot_ne (Or.inl (hw _ (List.mem_of_getElem? (i := 58) rfl))) (Or.inl (hw _ (List.mem_of_getElem? (i := 26) rfl))) (by decide) (t := .int) (t' := (.array (.object "java/lang/Object"))) (by decide) (by decide)))), (V6.other W7 (Ne.symm ne_a1_b6)), O6⟩
theorem ef_rmG0 (m : MethodId) (x0 : Addr) : entryFrame m #[(.ref x0)] 1 = mkF m 0 #[.val (.ref x0)] [] := by first | (simp [entryFrame, mkF, argsToLocals, Value.category]; done) | rfl
theorem d9_0 : decode jdk_38_method_7_code 0 = .ok (.aload_n 0, 1) := by decide +kernel
theorem d9_1 : decode jdk_38_method_7_code 1 = .ok (.aload_n 0, 1) := by decide +kernel
theorem d9_2 : decode jdk_38_method_7_code 2 = .ok (.getfield 48, 3) := by decide +kernel
theorem d9_5 : decode jdk_38_method_7_code 5 = .ok (.iconst 1, 1) := by decide +kernel
theorem d9_6 : decode jdk_38_method_7_code 6 = .ok (.iadd, 1) := by decide +kernel
theorem d9_7 : decode jdk_38_method_7_code 7 = .ok (.invokevirtual 69, 3) := by decide +kernel
theorem pd_2 : parseMethodDescriptor "(I)[Ljava/lang/Object;" = some ⟨[.int], some (.array (.object "java/lang/Object"))⟩ := by decide +kernel
theorem d9_10 : decode jdk_38_method_7_code 10 = .ok (.areturn, 1) := by decide +kernel
def Q_rmG0 (Z : State) (a1 : Addr) (mc : Int32) (aD : Addr) (cD : Cell) (h0 : Heap) (n0 : Nat) (v : Option Value) (h : Heap) (L : List Loc) : Prop := ∃ (b : Addr) (kk : ClassId), v = some (.ref b) ∧ Fr n0 L ∧ Keep h0 h [a1] ∧ n0 ≤ b ∧ h0.size ≤ b ∧ Exa Z h a1 "java/util/ArrayList" ∧ Fld Z h a1 "java/util/AbstractList" "modCount" "I" (.int mc) ∧ Fld Z h a1 "java/util/ArrayList" "elementData" "[Ljava/lang/Object;" (.ref b) ∧ Fld Z h a1 "java/util/ArrayList" "size" "I" (.int (0 : Int32)) ∧ Arv Z h b kk (.object "java/lang/Object") (10 : Int32) [.null, .null, .null, .null, .null, .null, .null, .null, .null, .null] .null ∧ Ovr Z kk "java/lang/Object"
set_option maxRecDepth 65536 in
set_option maxHeartbeats 40000000 in
theorem rmG0 (l : Launch) (Z : State) (a0 : Array Value) (hw : ∀ d ∈ tables_1, d.before a0 Z = true) (ws : List Jvm.Cond) (a1 : Addr) (mc : Int32) (aD : Addr) (cD : Cell) (h0 : Heap) (n0 : Nat) (Z0 : n0 ≤ h0.size) (F0 : Fld Z h0 a1 "java/util/AbstractList" "modCount" "I" (.int mc)) (F1 : Fld Z h0 a1 "java/util/ArrayList" "elementData" "[Ljava/lang/Object;" (.ref aD)) (F2 : Fld Z h0 a1 "java/util/ArrayList" "size" "I" (.int (0 : Int32))) (E1 : Exa Z h0 a1 "java/util/ArrayList") (g_a1 : n0 ≤ a1) (SD : Sta Z h0 "java/util/ArrayList" "DEFAULTCAPACITY_EMPTY_ELEMENTDATA" "[Ljava/lang/Object;" (.ref aD)) (AD : Arr Z h0 aD cD (.object "java/lang/Object")) (SzD : cD.slots.size = (0 : Int32).toNatClampNeg) :
    MetFree l (⟨"java/util/ArrayList", "grow", "()[Ljava/lang/Object;"⟩ : MethodName) (head1 (Jvm.Cond.code (⟨"java/util/ArrayList", "grow", "()[Ljava/lang/Object;"⟩ : MethodName) jdk_38_method_7_code 1 (some (.array (.object "java/lang/Object"))) :: ws) ({ frames := 2, cells := 1, slots := 10, locals := 36 } : Room)) (fun a U => a = #[(.ref a1)] ∧ Z.Warmed39 U.vm ∧ U.heap = h0) (fun _ _ _ _ _ => True) (fun _ U o U' => ∃ v L, o = .returned v ∧ Q_rmG0 Z a1 mc aD cD h0 n0 v U'.heap L ∧ FrameEnd U o U' L ({ frames := 2, cells := 1, slots := 10, locals := 36 } : Room).cells ({ frames := 2, cells := 1, slots := 10, locals := 36 } : Room).slots) := by
  refine MetFree.of_bodySF (plainFor_of_name pn_7) hisR ?_
  intro p e s m args below meth c s₁ Bd hml0 hP hK
  obtain ⟨rfl, hZ, hh⟩ := hP
  have hx := Bd.exec
  have hby := Bd.bytes
  have hml : c.maxLocals = 1 := hml0
  have hown : s.vm.findClass "java/util/ArrayList" = some m.cls := (findClass_of_methodNamed Bd.named :)
  have hnm := (name_of_methodNamed Bd.named Bd.method).1
  have X0 : Stand p l e ({ frames := 2, cells := 1, slots := 10, locals := 36 } : Room) s m #[(.ref a1)] below meth c s₁ [] 0 0 := Stand.of_body Bd
  have e0 : s₁.heap = h0 := by rw [← hh, Bd.state]; rfl
  have N0 := Fr.nil n0
  have pre0 : ∀ t, Steps p.tables e below (s₁.setTop (mkF m 0 #[.val (.ref a1)] [])) t → Steps p.tables e below (s₁.setTop (entryFrame m #[(.ref a1)] 1)) t := fun t k => castTop (ef_rmG0 m a1) k
  obtain ⟨T1, X1, e1, st1⟩ := getF X0 hx hZ hown (host := "") (Or.inl (hw _ (List.mem_of_getElem? (i := 57) rfl))) Via.refl e0 F2 (g := (mkF m 2 #[.val (.ref a1)] [(.ref a1), (.ref a1)])) rfl rfl (hb hby d9_2)
  obtain ⟨cq2, q2, q2'⟩ := E1.cell
  obtain ⟨_, _, ⟨T2, L2, k2, n2⟩, -, X2, ⟨Lc2, hQ2, l2, y2, z2⟩, st2⟩ := X1.privateBack hx (y := (⟨"java/util/ArrayList", "grow", "(I)[Ljava/lang/Object;"⟩ : MethodName)) hown (mvT hZ (hw _ (List.mem_of_getElem? (i := 69) rfl))) (mvT hZ (hw _ (List.mem_of_getElem? (i := 70) rfl))) (mvT hZ (hw _ (List.mem_of_getElem? (i := 72) rfl))) (Cond.privateMethod_at (mvP hZ (hw _ (List.mem_of_getElem? (i := 71) rfl)) (args := #[]))) (mvT hZ (hw _ (List.mem_of_getElem? (i := 73) rfl))) (by decide) (backOf (W := 0) (rmG1 l Z a0 hw [] a1 mc aD cD h0 n0 Z0 F0 F1 F2 E1 g_a1 SD AD SzD) hZ (hw _ (List.mem_of_getElem? (i := 73) rfl)) (hw _ (List.mem_of_getElem? (i := 3) rfl)) (by decide) (by decide)) (g := (mkF m 7 #[.val (.ref a1)] [(.int (1 : Int32)), (.ref a1)])) rfl (by rw [hml]; rfl) (Steps.refl _) (a := a1) (by rw [e1]; exact q2) q2' (argsL := [(.int (1 : Int32))]) (rest := []) (lenOf pd_2 rfl) rfl (by show 2 * 0 + _ ≤ _; exact Nat.le_of_eq rfl) (hb hby d9_7) (fun _ _ => ⟨rfl, e1, (by decide : 0 + 1 ≤ _), (by decide : 0 + 10 ≤ _)⟩)
  dsimp only [Pt.U, Pt.locs, Pt.cells, Pt.slots] at X2 l2 y2 z2 st2 hQ2
  subst l2 y2 z2
  obtain ⟨b2, kk2, rfl, N2q, Kq2, gb2, zb2, Eq2, G0q2, G1q2, G2q2, Vq2, Oq2⟩ := hQ2
  have N2 := Fr.app N0 N2q
  have K2 : Keep h0 T2.heap [a1] := (Keep.refl h0 [a1]).trans Kq2 (allS (Or.inl (List.mem_of_getElem? (i := 0) rfl)) all0)
  have pre3 : ∀ t, Steps p.tables e below (T2.setTop (mkF m 10 #[.val (.ref a1)] [(.ref b2)])) t → Steps p.tables e below (s₁.setTop (entryFrame m #[(.ref a1)] 1)) t := by
    intro t k
    refine pre0 t ?_
    show Steps p.tables e below (s₁.setTop (mkF m 0 #[.val (.ref a1)] [])) _
    refine XS.aloadN X0.here hx rfl (hb hby d9_0) rfl (rfl) ?_
    show Steps p.tables e below (s₁.setTop (mkF m 1 #[.val (.ref a1)] [(.ref a1)])) _
    refine XS.aloadN X0.here hx rfl (hb hby d9_1) rfl (rfl) ?_
    show Steps p.tables e below (s₁.setTop (mkF m 2 #[.val (.ref a1)] [(.ref a1), (.ref a1)])) _
    refine st1 _ ?_
    show Steps p.tables e below (T1.setTop (mkF m 5 #[.val (.ref a1)] [(.int (0 : Int32)), (.ref a1)])) _
    refine XS.iconst X1.here hx rfl (hb hby d9_5) ?_
    show Steps p.tables e below (T1.setTop (mkF m 6 #[.val (.ref a1)] [(.int (1 : Int32)), (.int (0 : Int32)), (.ref a1)])) _
    refine XS.iadd X1.here hx rfl (hb hby d9_6) rfl ?_
    show Steps p.tables e below (T1.setTop (mkF m 7 #[.val (.ref a1)] [(.int (1 : Int32)), (.ref a1)])) _
    refine st2.trans ?_
    show Steps p.tables e below (T2.setTop (mkF m 10 #[.val (.ref a1)] [(.ref b2)])) _
    exact k
  obtain ⟨fs, hr, hrun, hended, hW, hsame⟩ := X2.leave (v := some (.ref b2)) (fun h => by rw [Bd.returns] at h; cases h)
  refine ⟨_, _, pre3 _ ?_, hrun, hended, _, _, rfl, ?_, ⟨_, rfl⟩, hW, hsame.mono (by decide) (by decide)⟩
  · exact retOut X2 hx Bd.returns (by first | rfl | simp [narrow]) (Or.inr (Or.inr (Or.inr (Or.inr ⟨rfl, rfl, rfl⟩)))) (hb hby d9_10) hr
  · show Q_rmG0 Z a1 mc aD cD h0 n0 _ T2.heap _
    exact ⟨b2, kk2, rfl, N2, K2, gb2, zb2, Eq2, G0q2, G1q2, G2q2, Vq2, Oq2⟩
theorem ef_rmA3 (m : MethodId) (x0 : Addr) (x1 : Addr) (x2 : Addr) (x3 : Int32) : entryFrame m #[(.ref x0), (.ref x1), (.ref x2), (.int x3)] 4 = mkF m 0 #[.val (.ref x0), .val (.ref x1), .val (.ref x2), .val (.int x3)] [] := by first | (simp [entryFrame, mkF, argsToLocals, Value.category]; done) | rfl
theorem d8_0 : decode jdk_38_method_24_code 0 = .ok (.iload_n 3, 1) := by decide +kernel
theorem d8_1 : decode jdk_38_method_24_code 1 = .ok (.aload_n 2, 1) := by decide +kernel
theorem d8_2 : decode jdk_38_method_24_code 2 = .ok (.arraylength, 1) := by decide +kernel
theorem d8_3 : decode jdk_38_method_24_code 3 = .ok (.if_icmp .ne 8, 3) := by decide +kernel
theorem d8_6 : decode jdk_38_method_24_code 6 = .ok (.aload_n 0, 1) := by decide +kernel
theorem d8_7 : decode jdk_38_method_24_code 7 = .ok (.invokevirtual 129, 3) := by decide +kernel
theorem pd_3 : parseMethodDescriptor "()[Ljava/lang/Object;" = some ⟨[], some (.array (.object "java/lang/Object"))⟩ := by decide +kernel
theorem d8_10 : decode jdk_38_method_24_code 10 = .ok (.astore_n 2, 1) := by decide +kernel
theorem d8_11 : decode jdk_38_method_24_code 11 = .ok (.aload_n 2, 1) := by decide +kernel
theorem d8_12 : decode jdk_38_method_24_code 12 = .ok (.iload_n 3, 1) := by decide +kernel
theorem d8_13 : decode jdk_38_method_24_code 13 = .ok (.aload_n 1, 1) := by decide +kernel
theorem d8_14 : decode jdk_38_method_24_code 14 = .ok (.aastore, 1) := by decide +kernel
theorem d8_15 : decode jdk_38_method_24_code 15 = .ok (.aload_n 0, 1) := by decide +kernel
theorem d8_16 : decode jdk_38_method_24_code 16 = .ok (.iload_n 3, 1) := by decide +kernel
theorem d8_17 : decode jdk_38_method_24_code 17 = .ok (.iconst 1, 1) := by decide +kernel
theorem d8_18 : decode jdk_38_method_24_code 18 = .ok (.iadd, 1) := by decide +kernel
theorem d8_19 : decode jdk_38_method_24_code 19 = .ok (.putfield 48, 3) := by decide +kernel
theorem d8_22 : decode jdk_38_method_24_code 22 = .ok (.return_, 1) := by decide +kernel
def Q_rmA3 (Z : State) (a1 : Addr) (a2 : Addr) (mc : Int32) (aD : Addr) (cD : Cell) (h0 : Heap) (n0 : Nat) (v : Option Value) (h : Heap) (L : List Loc) : Prop := ∃ (b : Addr) (kk : ClassId), v = none ∧ Fr n0 L ∧ Keep h0 h [a1] ∧ h0.size ≤ b ∧ Exa Z h a1 "java/util/ArrayList" ∧ Fld Z h a1 "java/util/AbstractList" "modCount" "I" (.int mc) ∧ Fld Z h a1 "java/util/ArrayList" "elementData" "[Ljava/lang/Object;" (.ref b) ∧ Fld Z h a1 "java/util/ArrayList" "size" "I" (.int (1 : Int32)) ∧ Arv Z h b kk (.object "java/lang/Object") (10 : Int32) [(.ref a2), .null, .null, .null, .null, .null, .null, .null, .null, .null] .null ∧ Ovr Z kk "java/lang/Object"
set_option maxRecDepth 65536 in
set_option maxHeartbeats 40000000 in
theorem rmA3 (l : Launch) (Z : State) (a0 : Array Value) (hw : ∀ d ∈ tables_1, d.before a0 Z = true) (ws : List Jvm.Cond) (a1 : Addr) (a2 : Addr) (mc : Int32) (aD : Addr) (cD : Cell) (h0 : Heap) (n0 : Nat) (Z0 : n0 ≤ h0.size) (F0 : Fld Z h0 a1 "java/util/AbstractList" "modCount" "I" (.int mc)) (F1 : Fld Z h0 a1 "java/util/ArrayList" "elementData" "[Ljava/lang/Object;" (.ref aD)) (F2 : Fld Z h0 a1 "java/util/ArrayList" "size" "I" (.int (0 : Int32))) (E1 : Exa Z h0 a1 "java/util/ArrayList") (g_a1 : n0 ≤ a1) (SD : Sta Z h0 "java/util/ArrayList" "DEFAULTCAPACITY_EMPTY_ELEMENTDATA" "[Ljava/lang/Object;" (.ref aD)) (AD : Arr Z h0 aD cD (.object "java/lang/Object")) (SzD : cD.slots.size = (0 : Int32).toNatClampNeg) (E2 : Exa Z h0 a2 "com/example/kiseki/kiseki/span/LinkData") :
    MetFree l (⟨"java/util/ArrayList", "add", "(Ljava/lang/Object;[Ljava/lang/Object;I)V"⟩ : MethodName) (head1 (Jvm.Cond.code (⟨"java/util/ArrayList", "add", "(Ljava/lang/Object;[Ljava/lang/Object;I)V"⟩ : MethodName) jdk_38_method_24_code 4 none :: ws) ({ frames := 3, cells := 1, slots := 10, locals := 60 } : Room)) (fun a U => a = #[(.ref a1), (.ref a2), (.ref aD), (.int (0 : Int32))] ∧ Z.Warmed39 U.vm ∧ U.heap = h0) (fun _ _ _ _ _ => True) (fun _ U o U' => ∃ v L, o = .returned v ∧ Q_rmA3 Z a1 a2 mc aD cD h0 n0 v U'.heap L ∧ FrameEnd U o U' L ({ frames := 3, cells := 1, slots := 10, locals := 60 } : Room).cells ({ frames := 3, cells := 1, slots := 10, locals := 60 } : Room).slots) := by
  refine MetFree.of_bodySF (plainFor_of_name pn_7) hisR ?_
  intro p e s m args below meth c s₁ Bd hml0 hP hK
  obtain ⟨rfl, hZ, hh⟩ := hP
  have hx := Bd.exec
  have hby := Bd.bytes
  have hml : c.maxLocals = 4 := hml0
  have hown : s.vm.findClass "java/util/ArrayList" = some m.cls := (findClass_of_methodNamed Bd.named :)
  have hnm := (name_of_methodNamed Bd.named Bd.method).1
  have X0 : Stand p l e ({ frames := 3, cells := 1, slots := 10, locals := 60 } : Room) s m #[(.ref a1), (.ref a2), (.ref aD), (.int (0 : Int32))] below meth c s₁ [] 0 0 := Stand.of_body Bd
  have e0 : s₁.heap = h0 := by rw [← hh, Bd.state]; rfl
  have N0 := Fr.nil n0
  have pre0 : ∀ t, Steps p.tables e below (s₁.setTop (mkF m 0 #[.val (.ref a1), .val (.ref a2), .val (.ref aD), .val (.int (0 : Int32))] [])) t → Steps p.tables e below (s₁.setTop (entryFrame m #[(.ref a1), (.ref a2), (.ref aD), (.int (0 : Int32))] 4)) t := fun t k => castTop (ef_rmA3 m a1 a2 aD (0 : Int32)) k
  obtain ⟨cq1, q1, q1'⟩ := E1.cell
  obtain ⟨_, _, ⟨T1, L1, k1, n1⟩, -, X1, ⟨Lc1, hQ1, l1, y1, z1⟩, st1⟩ := X0.privateBack hx (y := (⟨"java/util/ArrayList", "grow", "()[Ljava/lang/Object;"⟩ : MethodName)) hown (mvT hZ (hw _ (List.mem_of_getElem? (i := 64) rfl))) (mvT hZ (hw _ (List.mem_of_getElem? (i := 65) rfl))) (mvT hZ (hw _ (List.mem_of_getElem? (i := 67) rfl))) (Cond.privateMethod_at (mvP hZ (hw _ (List.mem_of_getElem? (i := 66) rfl)) (args := #[]))) (mvT hZ (hw _ (List.mem_of_getElem? (i := 68) rfl))) (by decide) (backOf (W := 0) (rmG0 l Z a0 hw [] a1 mc aD cD h0 n0 Z0 F0 F1 F2 E1 g_a1 SD AD SzD) hZ (hw _ (List.mem_of_getElem? (i := 68) rfl)) (hw _ (List.mem_of_getElem? (i := 3) rfl)) (by decide) (by decide)) (g := (mkF m 7 #[.val (.ref a1), .val (.ref a2), .val (.ref aD), .val (.int (0 : Int32))] [(.ref a1)])) rfl (by rw [hml]; rfl) (Steps.refl _) (a := a1) (by rw [e0]; exact q1) q1' (argsL := []) (rest := []) (lenOf pd_3 rfl) rfl (by show 2 * 0 + _ ≤ _; exact Nat.le_of_eq rfl) (hb hby d8_7) (fun _ _ => ⟨rfl, e0, (by decide : 0 + 1 ≤ _), (by decide : 0 + 10 ≤ _)⟩)
  dsimp only [Pt.U, Pt.locs, Pt.cells, Pt.slots] at X1 l1 y1 z1 st1 hQ1
  subst l1 y1 z1
  obtain ⟨b1, kk1, rfl, N1q, Kq1, g_b1, sz_b1, Eq1, G0q1, G1q1, G2q1, Vq1, Oq1⟩ := hQ1
  have N1 := Fr.app N0 N1q
  have K1 : Keep h0 T1.heap [a1] := (Keep.refl h0 [a1]).trans Kq1 (allS (Or.inl (List.mem_of_getElem? (i := 0) rfl)) all0)
  have ne_a1_b1 : a1 ≠ b1 := Nat.ne_of_lt (Nat.lt_of_lt_of_le E1.lt sz_b1)
  obtain ⟨cl2, Ar2, q2, S2, M2, H2, G2⟩ := id Vq1
  have hin2 : ¬ ((0 : Int32) < 0 ∨ cl2.slots.size ≤ ((0 : Int32)).toNatClampNeg) := inb_of S2 ⟨by decide, by decide⟩
  obtain ⟨T3, h3, X3, e3, W3, st3⟩ := stR X1 hx hZ rfl Ar2 (j := (0 : Int32)) hin2 rfl (Sto.ofV Ar2 q2 Oq1 (Ins.of_exa (E2.keep Kq1) (hw _ (List.mem_of_getElem? (i := 77) rfl)))) (g := (mkF m 14 #[.val (.ref a1), .val (.ref a2), .val (.ref b1), .val (.int (0 : Int32))] [(.ref a2), (.int (0 : Int32)), (.ref b1)])) rfl rfl (hb hby d8_14)
  have V3 : Arv Z h3 b1 kk1 (.object "java/lang/Object") (10 : Int32) [(.ref a2), .null, .null, .null, .null, .null, .null, .null, .null, .null] .null := Arv.set Ar2 q2 S2 M2 H2 G2 rfl W3 0 rfl (Nat.le_of_ble_eq_true rfl)
  have K3 : Keep h0 h3 [a1] := K1.wr W3 (Or.inr sz_b1)
  have N3 := Fr.snoc X3 N1 g_b1
  obtain ⟨T4, h4, X4, e4, W4, st4⟩ := putF X3 hx hZ hown (host := "") (Or.inl (hw _ (List.mem_of_getElem? (i := 57) rfl))) Via.refl e3 (G2q1.other W3 (Or.inl ne_a1_b1)) (Eq1.wr W3) (Or.inl (hw _ (List.mem_of_getElem? (i := 58) rfl))) (hw _ (List.mem_of_getElem? (i := 2) rfl)) (ty := .int) (by decide) rfl rfl (g := (mkF m 19 #[.val (.ref a1), .val (.ref a2), .val (.ref b1), .val (.int (0 : Int32))] [(.int (1 : Int32)), (.ref a1)])) rfl rfl (hb hby d8_19)
  have Fw4 := (G2q1.other W3 (Or.inl ne_a1_b1)).same W4
  have K4 : Keep h0 h4 [a1] := K3.wr W4 (Or.inl (List.mem_of_getElem? (i := 0) rfl))
  have N4 := Fr.snoc X4 N3 g_a1
  have pre5 : ∀ t, Steps p.tables e below (T4.setTop (mkF m 22 #[.val (.ref a1), .val (.ref a2), .val (.ref b1), .val (.int (0 : Int32))] [])) t → Steps p.tables e below (s₁.setTop (entryFrame m #[(.ref a1), (.ref a2), (.ref aD), (.int (0 : Int32))] 4)) t := by
    intro t k
    refine pre0 t ?_
    show Steps p.tables e below (s₁.setTop (mkF m 0 #[.val (.ref a1), .val (.ref a2), .val (.ref aD), .val (.int (0 : Int32))] [])) _
    refine XS.iloadN X0.here hx rfl (hb hby d8_0) rfl ?_
    show Steps p.tables e below (s₁.setTop (mkF m 1 #[.val (.ref a1), .val (.ref a2), .val (.ref aD), .val (.int (0 : Int32))] [(.int (0 : Int32))])) _
    refine XS.aloadN X0.here hx rfl (hb hby d8_1) rfl (rfl) ?_
    show Steps p.tables e below (s₁.setTop (mkF m 2 #[.val (.ref a1), .val (.ref a2), .val (.ref aD), .val (.int (0 : Int32))] [(.ref aD), (.int (0 : Int32))])) _
    refine X0.arraylength hx (by rw [e0]; exact AD.1) (State.isArrayOf_alike hZ.alike AD.2.1) (g := (mkF m 2 #[.val (.ref a1), .val (.ref a2), .val (.ref aD), .val (.int (0 : Int32))] [(.ref aD), (.int (0 : Int32))])) rfl rfl (hb hby d8_2) _ ?_
    rw [len_of SzD (by decide)]
    show Steps p.tables e below (s₁.setTop (mkF m 3 #[.val (.ref a1), .val (.ref a2), .val (.ref aD), .val (.int (0 : Int32))] [(.int (0 : Int32)), (.int (0 : Int32))])) _
    refine XS.icmpNo X0.here hx rfl (hb hby d8_3) rfl (teq (by decide : (0 : Int32) = (0 : Int32))).2 ?_
    show Steps p.tables e below (s₁.setTop (mkF m 6 #[.val (.ref a1), .val (.ref a2), .val (.ref aD), .val (.int (0 : Int32))] [])) _
    refine XS.aloadN X0.here hx rfl (hb hby d8_6) rfl (rfl) ?_
    show Steps p.tables e below (s₁.setTop (mkF m 7 #[.val (.ref a1), .val (.ref a2), .val (.ref aD), .val (.int (0 : Int32))] [(.ref a1)])) _
    refine st1.trans ?_
    show Steps p.tables e below (T1.setTop (mkF m 10 #[.val (.ref a1), .val (.ref a2), .val (.ref aD), .val (.int (0 : Int32))] [(.ref b1)])) _
    refine XS.astoreN X1.here hx rfl (hb hby d8_10) rfl (rfl) (l' := #[.val (.ref a1), .val (.ref a2), .val (.ref b1), .val (.int (0 : Int32))]) rfl ?_
    show Steps p.tables e below (T1.setTop (mkF m 11 #[.val (.ref a1), .val (.ref a2), .val (.ref b1), .val (.int (0 : Int32))] [])) _
    refine XS.aloadN X1.here hx rfl (hb hby d8_11) rfl (rfl) ?_
    show Steps p.tables e below (T1.setTop (mkF m 12 #[.val (.ref a1), .val (.ref a2), .val (.ref b1), .val (.int (0 : Int32))] [(.ref b1)])) _
    refine XS.iloadN X1.here hx rfl (hb hby d8_12) rfl ?_
    show Steps p.tables e below (T1.setTop (mkF m 13 #[.val (.ref a1), .val (.ref a2), .val (.ref b1), .val (.int (0 : Int32))] [(.int (0 : Int32)), (.ref b1)])) _
    refine XS.aloadN X1.here hx rfl (hb hby d8_13) rfl (rfl) ?_
    show Steps p.tables e below (T1.setTop (mkF m 14 #[.val (.ref a1), .val (.ref a2), .val (.ref b1), .val (.int (0 : Int32))] [(.ref a2), (.int (0 : Int32)), (.ref b1)])) _
    refine st3 _ ?_
    show Steps p.tables e below (T3.setTop (mkF m 15 #[.val (.ref a1), .val (.ref a2), .val (.ref b1), .val (.int (0 : Int32))] [])) _
    refine XS.aloadN X3.here hx rfl (hb hby d8_15) rfl (rfl) ?_
    show Steps p.tables e below (T3.setTop (mkF m 16 #[.val (.ref a1), .val (.ref a2), .val (.ref b1), .val (.int (0 : Int32))] [(.ref a1)])) _
    refine XS.iloadN X3.here hx rfl (hb hby d8_16) rfl ?_
    show Steps p.tables e below (T3.setTop (mkF m 17 #[.val (.ref a1), .val (.ref a2), .val (.ref b1), .val (.int (0 : Int32))] [(.int (0 : Int32)), (.ref a1)])) _
    refine XS.iconst X3.here hx rfl (hb hby d8_17) ?_
    show Steps p.tables e below (T3.setTop (mkF m 18 #[.val (.ref a1), .val (.ref a2), .val (.ref b1), .val (.int (0 : Int32))] [(.int (1 : Int32)), (.int (0 : Int32)), (.ref a1)])) _
    refine XS.iadd X3.here hx rfl (hb hby d8_18) rfl ?_
    show Steps p.tables e below (T3.setTop (mkF m 19 #[.val (.ref a1), .val (.ref a2), .val (.ref b1), .val (.int (0 : Int32))] [(.int (1 : Int32)), (.ref a1)])) _
    refine st4 _ ?_
    show Steps p.tables e below (T4.setTop (mkF m 22 #[.val (.ref a1), .val (.ref a2), .val (.ref b1), .val (.int (0 : Int32))] [])) _
    exact k
  obtain ⟨fs, hr, hrun, hended, hW, hsame⟩ := X4.leave (v := none) (fun _ => rfl)
  refine ⟨_, _, pre5 _ ?_, hrun, hended, _, _, rfl, ?_, ⟨_, rfl⟩, hW, hsame.mono (by decide) (by decide)⟩
  · exact X4.returnOut hx Bd.returns (hb hby d8_22) hr
  · show Q_rmA3 Z a1 a2 mc aD cD h0 n0 _ T4.heap _
    rw [e4]
    exact ⟨b1, kk1, rfl, N4, K4, sz_b1, ((Eq1.wr W3).wr W4), ((G0q1.other W3 (Or.inl ne_a1_b1)).other W4 (Or.inr (slot_ne (Or.inl (hw _ (List.mem_of_getElem? (i := 23) rfl))) (Or.inl (hw _ (List.mem_of_getElem? (i := 58) rfl))) (by decide) (t := .int) (t' := .int) (by decide) (by decide)))), ((G1q1.other W3 (Or.inl ne_a1_b1)).other W4 (Or.inr (slot_ne (Or.inl (hw _ (List.mem_of_getElem? (i := 26) rfl))) (Or.inl (hw _ (List.mem_of_getElem? (i := 58) rfl))) (by decide) (t := (.array (.object "java/lang/Object"))) (t' := .int) (by decide) (by decide)))), Fw4, (V3.other W4 (Ne.symm ne_a1_b1)), Oq1⟩
theorem ef_rmA1 (m : MethodId) (x0 : Addr) (x1 : Addr) : entryFrame m #[(.ref x0), (.ref x1)] 2 = mkF m 0 #[.val (.ref x0), .val (.ref x1)] [] := by first | (simp [entryFrame, mkF, argsToLocals, Value.category]; done) | rfl
theorem own_neA {Z : State} {h : Heap} {a b : Addr} {C : String} {n : Nat} {a0 : Array Value} {c : Cell} {ty : FieldType} (F : Exa Z h a C) (wi : (Jvm.Cond.instantiable C n).before a0 Z = true) (G : Arr Z h b c ty) : b ≠ a := Ne.symm (ne_arr F wi G)
theorem d7_0 : decode jdk_38_method_25_code 0 = .ok (.aload_n 0, 1) := by decide +kernel
theorem d7_1 : decode jdk_38_method_25_code 1 = .ok (.dup, 1) := by decide +kernel
theorem d7_2 : decode jdk_38_method_25_code 2 = .ok (.getfield 63, 3) := by decide +kernel
theorem d7_5 : decode jdk_38_method_25_code 5 = .ok (.iconst 1, 1) := by decide +kernel
theorem d7_6 : decode jdk_38_method_25_code 6 = .ok (.iadd, 1) := by decide +kernel
theorem d7_7 : decode jdk_38_method_25_code 7 = .ok (.putfield 63, 3) := by decide +kernel
theorem d7_10 : decode jdk_38_method_25_code 10 = .ok (.aload_n 0, 1) := by decide +kernel
theorem d7_11 : decode jdk_38_method_25_code 11 = .ok (.aload_n 1, 1) := by decide +kernel
theorem d7_12 : decode jdk_38_method_25_code 12 = .ok (.aload_n 0, 1) := by decide +kernel
theorem d7_13 : decode jdk_38_method_25_code 13 = .ok (.getfield 9, 3) := by decide +kernel
theorem d7_16 : decode jdk_38_method_25_code 16 = .ok (.aload_n 0, 1) := by decide +kernel
theorem d7_17 : decode jdk_38_method_25_code 17 = .ok (.getfield 48, 3) := by decide +kernel
theorem d7_20 : decode jdk_38_method_25_code 20 = .ok (.invokevirtual 131, 3) := by decide +kernel
theorem pd_4 : parseMethodDescriptor "(Ljava/lang/Object;[Ljava/lang/Object;I)V" = some ⟨[(.object "java/lang/Object"), (.array (.object "java/lang/Object")), .int], none⟩ := by decide +kernel
theorem d7_23 : decode jdk_38_method_25_code 23 = .ok (.iconst 1, 1) := by decide +kernel
theorem d7_24 : decode jdk_38_method_25_code 24 = .ok (.ireturn, 1) := by decide +kernel
theorem own_szT {h h' : Heap} {a b : Addr} {sl : Nat} {v : Value} (W : Wr h h' a sl v) (q : h'.size ≤ b) : h.size ≤ b := by rw [W.size] at q; exact q
def Q_rmA1 (Z : State) (a1 : Addr) (a2 : Addr) (mc : Int32) (aD : Addr) (cD : Cell) (h0 : Heap) (n0 : Nat) (v : Option Value) (h : Heap) (L : List Loc) : Prop := ∃ (b : Addr) (kk : ClassId), v = some (.int (1 : Int32)) ∧ Fr n0 L ∧ Keep h0 h [a1] ∧ h0.size ≤ b ∧ Exa Z h a1 "java/util/ArrayList" ∧ Fld Z h a1 "java/util/AbstractList" "modCount" "I" (.int (mc + (1 : Int32))) ∧ Fld Z h a1 "java/util/ArrayList" "elementData" "[Ljava/lang/Object;" (.ref b) ∧ Fld Z h a1 "java/util/ArrayList" "size" "I" (.int (1 : Int32)) ∧ Arv Z h b kk (.object "java/lang/Object") (10 : Int32) [(.ref a2), .null, .null, .null, .null, .null, .null, .null, .null, .null] .null ∧ Ovr Z kk "java/lang/Object"
set_option maxRecDepth 65536 in
set_option maxHeartbeats 40000000 in
theorem rmA1 (l : Launch) (Z : State) (a0 : Array Value) (hw : ∀ d ∈ tables_1, d.before a0 Z = true) (ws : List Jvm.Cond) (a1 : Addr) (a2 : Addr) (mc : Int32) (aD : Addr) (cD : Cell) (h0 : Heap) (n0 : Nat) (Z0 : n0 ≤ h0.size) (F0 : Fld Z h0 a1 "java/util/AbstractList" "modCount" "I" (.int mc)) (F1 : Fld Z h0 a1 "java/util/ArrayList" "elementData" "[Ljava/lang/Object;" (.ref aD)) (F2 : Fld Z h0 a1 "java/util/ArrayList" "size" "I" (.int (0 : Int32))) (E1 : Exa Z h0 a1 "java/util/ArrayList") (g_a1 : n0 ≤ a1) (SD : Sta Z h0 "java/util/ArrayList" "DEFAULTCAPACITY_EMPTY_ELEMENTDATA" "[Ljava/lang/Object;" (.ref aD)) (AD : Arr Z h0 aD cD (.object "java/lang/Object")) (SzD : cD.slots.size = (0 : Int32).toNatClampNeg) (E2 : Exa Z h0 a2 "com/example/kiseki/kiseki/span/LinkData") :
    MetFree l (⟨"java/util/ArrayList", "add", "(Ljava/lang/Object;)Z"⟩ : MethodName) (head1 (Jvm.Cond.code (⟨"java/util/ArrayList", "add", "(Ljava/lang/Object;)Z"⟩ : MethodName) jdk_38_method_25_code 2 (some .boolean) :: ws) ({ frames := 4, cells := 1, slots := 10, locals := 90 } : Room)) (fun a U => a = #[(.ref a1), (.ref a2)] ∧ Z.Warmed39 U.vm ∧ U.heap = h0) (fun _ _ _ _ _ => True) (fun _ U o U' => ∃ v L, o = .returned v ∧ Q_rmA1 Z a1 a2 mc aD cD h0 n0 v U'.heap L ∧ FrameEnd U o U' L ({ frames := 4, cells := 1, slots := 10, locals := 90 } : Room).cells ({ frames := 4, cells := 1, slots := 10, locals := 90 } : Room).slots) := by
  refine MetFree.of_bodySF (plainFor_of_name pn_7) hisR ?_
  intro p e s m args below meth c s₁ Bd hml0 hP hK
  obtain ⟨rfl, hZ, hh⟩ := hP
  have hx := Bd.exec
  have hby := Bd.bytes
  have hml : c.maxLocals = 2 := hml0
  have hown : s.vm.findClass "java/util/ArrayList" = some m.cls := (findClass_of_methodNamed Bd.named :)
  have hnm := (name_of_methodNamed Bd.named Bd.method).1
  have X0 : Stand p l e ({ frames := 4, cells := 1, slots := 10, locals := 90 } : Room) s m #[(.ref a1), (.ref a2)] below meth c s₁ [] 0 0 := Stand.of_body Bd
  have e0 : s₁.heap = h0 := by rw [← hh, Bd.state]; rfl
  have N0 := Fr.nil n0
  have pre0 : ∀ t, Steps p.tables e below (s₁.setTop (mkF m 0 #[.val (.ref a1), .val (.ref a2)] [])) t → Steps p.tables e below (s₁.setTop (entryFrame m #[(.ref a1), (.ref a2)] 2)) t := fun t k => castTop (ef_rmA1 m a1 a2) k
  have ne_aD_a1 : aD ≠ a1 := own_neA E1 (hw _ (List.mem_of_getElem? (i := 2) rfl)) AD
  obtain ⟨T1, X1, e1, st1⟩ := getF X0 hx hZ hown (host := "") (Or.inl (hw _ (List.mem_of_getElem? (i := 55) rfl))) (Via.of (hw _ (List.mem_of_getElem? (i := 56) rfl))) e0 F0 (g := (mkF m 2 #[.val (.ref a1), .val (.ref a2)] [(.ref a1), (.ref a1)])) rfl rfl (hb hby d7_2)
  obtain ⟨T2, h2, X2, e2, W2, st2⟩ := putF X1 hx hZ hown (host := "") (Or.inl (hw _ (List.mem_of_getElem? (i := 55) rfl))) (Via.of (hw _ (List.mem_of_getElem? (i := 56) rfl))) e1 F0 E1 (Or.inl (hw _ (List.mem_of_getElem? (i := 23) rfl))) (hw _ (List.mem_of_getElem? (i := 2) rfl)) (ty := .int) (by decide) rfl rfl (g := (mkF m 7 #[.val (.ref a1), .val (.ref a2)] [(.int (mc + (1 : Int32))), (.ref a1)])) rfl rfl (hb hby d7_7)
  have Fw2 := F0.same W2
  have K2 : Keep h0 h2 [a1] := (Keep.refl h0 [a1]).wr W2 (Or.inl (List.mem_of_getElem? (i := 0) rfl))
  have N2 := Fr.snoc X2 N0 g_a1
  obtain ⟨T3, X3, e3, st3⟩ := getF X2 hx hZ hown (host := "") (Or.inl (hw _ (List.mem_of_getElem? (i := 25) rfl))) Via.refl e2 (F1.other W2 (Or.inr (slot_ne (Or.inl (hw _ (List.mem_of_getElem? (i := 26) rfl))) (Or.inl (hw _ (List.mem_of_getElem? (i := 23) rfl))) (by decide) (t := (.array (.object "java/lang/Object"))) (t' := .int) (by decide) (by decide)))) (g := (mkF m 13 #[.val (.ref a1), .val (.ref a2)] [(.ref a1), (.ref a2), (.ref a1)])) rfl rfl (hb hby d7_13)
  obtain ⟨T4, X4, e4, st4⟩ := getF X3 hx hZ hown (host := "") (Or.inl (hw _ (List.mem_of_getElem? (i := 57) rfl))) Via.refl e3 (F2.other W2 (Or.inr (slot_ne (Or.inl (hw _ (List.mem_of_getElem? (i := 58) rfl))) (Or.inl (hw _ (List.mem_of_getElem? (i := 23) rfl))) (by decide) (t := .int) (t' := .int) (by decide) (by decide)))) (g := (mkF m 17 #[.val (.ref a1), .val (.ref a2)] [(.ref a1), (.ref aD), (.ref a2), (.ref a1)])) rfl rfl (hb hby d7_17)
  obtain ⟨cq5, q5, q5'⟩ := (E1.wr W2).cell
  obtain ⟨_, _, ⟨T5, L5, k5, n5⟩, -, X5, ⟨Lc5, hQ5, l5, y5, z5⟩, st5⟩ := X4.privateBack hx (y := (⟨"java/util/ArrayList", "add", "(Ljava/lang/Object;[Ljava/lang/Object;I)V"⟩ : MethodName)) hown (mvT hZ (hw _ (List.mem_of_getElem? (i := 59) rfl))) (mvT hZ (hw _ (List.mem_of_getElem? (i := 60) rfl))) (mvT hZ (hw _ (List.mem_of_getElem? (i := 62) rfl))) (Cond.privateMethod_at (mvP hZ (hw _ (List.mem_of_getElem? (i := 61) rfl)) (args := #[]))) (mvT hZ (hw _ (List.mem_of_getElem? (i := 63) rfl))) (by decide) (backOf (W := 0) (rmA3 l Z a0 hw [] a1 a2 (mc + (1 : Int32)) aD cD h2 n0 (Nat.le_trans Z0 (Keep.of_wr W2).1) Fw2 (F1.other W2 (Or.inr (slot_ne (Or.inl (hw _ (List.mem_of_getElem? (i := 26) rfl))) (Or.inl (hw _ (List.mem_of_getElem? (i := 23) rfl))) (by decide) (t := (.array (.object "java/lang/Object"))) (t' := .int) (by decide) (by decide)))) (F2.other W2 (Or.inr (slot_ne (Or.inl (hw _ (List.mem_of_getElem? (i := 58) rfl))) (Or.inl (hw _ (List.mem_of_getElem? (i := 23) rfl))) (by decide) (t := .int) (t' := .int) (by decide) (by decide)))) (E1.wr W2) g_a1 (SD.wr W2) (AD.other W2 (ne_aD_a1)) SzD (E2.wr W2)) hZ (hw _ (List.mem_of_getElem? (i := 63) rfl)) (hw _ (List.mem_of_getElem? (i := 3) rfl)) (by decide) (by decide)) (g := (mkF m 20 #[.val (.ref a1), .val (.ref a2)] [(.int (0 : Int32)), (.ref aD), (.ref a2), (.ref a1)])) rfl (by rw [hml]; rfl) (Steps.refl _) (a := a1) (by rw [e4]; exact q5) q5' (argsL := [(.ref a2), (.ref aD), (.int (0 : Int32))]) (rest := []) (lenOf pd_4 rfl) rfl (by show 2 * 0 + _ ≤ _; exact Nat.le_of_eq rfl) (hb hby d7_20) (fun _ _ => ⟨rfl, e4, (by decide : 0 + 1 ≤ _), (by decide : 0 + 10 ≤ _)⟩)
  dsimp only [Pt.U, Pt.locs, Pt.cells, Pt.slots] at X5 l5 y5 z5 st5 hQ5
  subst l5 y5 z5
  obtain ⟨b5, kk5, rfl, N5q, Kq5, sz_b5, Eq5, G0q5, G1q5, G2q5, Vq5, Oq5⟩ := hQ5
  have N5 := Fr.app N2 N5q
  have K5 : Keep h0 T5.heap [a1] := K2.trans Kq5 (allS (Or.inl (List.mem_of_getElem? (i := 0) rfl)) all0)
  have pre6 : ∀ t, Steps p.tables e below (T5.setTop (mkF m 24 #[.val (.ref a1), .val (.ref a2)] [(.int (1 : Int32))])) t → Steps p.tables e below (s₁.setTop (entryFrame m #[(.ref a1), (.ref a2)] 2)) t := by
    intro t k
    refine pre0 t ?_
    show Steps p.tables e below (s₁.setTop (mkF m 0 #[.val (.ref a1), .val (.ref a2)] [])) _
    refine XS.aloadN X0.here hx rfl (hb hby d7_0) rfl (rfl) ?_
    show Steps p.tables e below (s₁.setTop (mkF m 1 #[.val (.ref a1), .val (.ref a2)] [(.ref a1)])) _
    refine XS.dup X0.here hx rfl (hb hby d7_1) rfl rfl ?_
    show Steps p.tables e below (s₁.setTop (mkF m 2 #[.val (.ref a1), .val (.ref a2)] [(.ref a1), (.ref a1)])) _
    refine st1 _ ?_
    show Steps p.tables e below (T1.setTop (mkF m 5 #[.val (.ref a1), .val (.ref a2)] [(.int mc), (.ref a1)])) _
    refine XS.iconst X1.here hx rfl (hb hby d7_5) ?_
    show Steps p.tables e below (T1.setTop (mkF m 6 #[.val (.ref a1), .val (.ref a2)] [(.int (1 : Int32)), (.int mc), (.ref a1)])) _
    refine XS.iadd X1.here hx rfl (hb hby d7_6) rfl ?_
    show Steps p.tables e below (T1.setTop (mkF m 7 #[.val (.ref a1), .val (.ref a2)] [(.int (mc + (1 : Int32))), (.ref a1)])) _
    refine st2 _ ?_
    show Steps p.tables e below (T2.setTop (mkF m 10 #[.val (.ref a1), .val (.ref a2)] [])) _
    refine XS.aloadN X2.here hx rfl (hb hby d7_10) rfl (rfl) ?_
    show Steps p.tables e below (T2.setTop (mkF m 11 #[.val (.ref a1), .val (.ref a2)] [(.ref a1)])) _
    refine XS.aloadN X2.here hx rfl (hb hby d7_11) rfl (rfl) ?_
    show Steps p.tables e below (T2.setTop (mkF m 12 #[.val (.ref a1), .val (.ref a2)] [(.ref a2), (.ref a1)])) _
    refine XS.aloadN X2.here hx rfl (hb hby d7_12) rfl (rfl) ?_
    show Steps p.tables e below (T2.setTop (mkF m 13 #[.val (.ref a1), .val (.ref a2)] [(.ref a1), (.ref a2), (.ref a1)])) _
    refine st3 _ ?_
    show Steps p.tables e below (T3.setTop (mkF m 16 #[.val (.ref a1), .val (.ref a2)] [(.ref aD), (.ref a2), (.ref a1)])) _
    refine XS.aloadN X3.here hx rfl (hb hby d7_16) rfl (rfl) ?_
    show Steps p.tables e below (T3.setTop (mkF m 17 #[.val (.ref a1), .val (.ref a2)] [(.ref a1), (.ref aD), (.ref a2), (.ref a1)])) _
    refine st4 _ ?_
    show Steps p.tables e below (T4.setTop (mkF m 20 #[.val (.ref a1), .val (.ref a2)] [(.int (0 : Int32)), (.ref aD), (.ref a2), (.ref a1)])) _
    refine st5.trans ?_
    show Steps p.tables e below (T5.setTop (mkF m 23 #[.val (.ref a1), .val (.ref a2)] [])) _
    refine XS.iconst X5.here hx rfl (hb hby d7_23) ?_
    show Steps p.tables e below (T5.setTop (mkF m 24 #[.val (.ref a1), .val (.ref a2)] [(.int (1 : Int32))])) _
    exact k
  obtain ⟨fs, hr, hrun, hended, hW, hsame⟩ := X5.leave (v := some (.int (1 : Int32))) (fun h => by rw [Bd.returns] at h; cases h)
  refine ⟨_, _, pre6 _ ?_, hrun, hended, _, _, rfl, ?_, ⟨_, rfl⟩, hW, hsame.mono (by decide) (by decide)⟩
  · exact retN X5 hx (t := .boolean) Bd.returns (by simp) (hb hby d7_24) hr
  · show Q_rmA1 Z a1 a2 mc aD cD h0 n0 _ T5.heap _
    exact ⟨b5, kk5, rfl, N5, K5, own_szT W2 sz_b5, Eq5, G0q5, G1q5, G2q5, Vq5, Oq5⟩
theorem ef_rmSz (m : MethodId) (x0 : Addr) : entryFrame m #[(.ref x0)] 1 = mkF m 0 #[.val (.ref x0)] [] := by first | (simp [entryFrame, mkF, argsToLocals, Value.category]; done) | rfl
theorem d12_0 : decode jdk_38_method_8_code 0 = .ok (.aload_n 0, 1) := by decide +kernel
theorem d12_1 : decode jdk_38_method_8_code 1 = .ok (.getfield 48, 3) := by decide +kernel
theorem d12_4 : decode jdk_38_method_8_code 4 = .ok (.ireturn, 1) := by decide +kernel
def Q_rmSz (Z : State) (a1 : Addr) (p1 : Int32) (h0 : Heap) (n0 : Nat) (v : Option Value) (h : Heap) (L : List Loc) : Prop := v = some (.int p1) ∧ Fr n0 L ∧ h = h0
set_option maxRecDepth 65536 in
set_option maxHeartbeats 40000000 in
theorem rmSz (l : Launch) (Z : State) (a0 : Array Value) (hw : ∀ d ∈ tables_1, d.before a0 Z = true) (ws : List Jvm.Cond) (a1 : Addr) (p1 : Int32) (h0 : Heap) (n0 : Nat) (Z0 : n0 ≤ h0.size) (F2 : Fld Z h0 a1 "java/util/ArrayList" "size" "I" (.int p1)) :
    MetFree l (⟨"java/util/ArrayList", "size", "()I"⟩ : MethodName) (head1 (Jvm.Cond.code (⟨"java/util/ArrayList", "size", "()I"⟩ : MethodName) jdk_38_method_8_code 1 (some .int) :: ws) ({ frames := 0, cells := 0, slots := 0, locals := 0 } : Room)) (fun a U => a = #[(.ref a1)] ∧ Z.Warmed39 U.vm ∧ U.heap = h0) (fun _ _ _ _ _ => True) (fun _ U o U' => ∃ v L, o = .returned v ∧ Q_rmSz Z a1 p1 h0 n0 v U'.heap L ∧ FrameEnd U o U' L ({ frames := 0, cells := 0, slots := 0, locals := 0 } : Room).cells ({ frames := 0, cells := 0, slots := 0, locals := 0 } : Room).slots) := by
  refine MetFree.of_bodySF (plainFor_of_name pn_7) hisR ?_
  intro p e s m args below meth c s₁ Bd hml0 hP hK
  obtain ⟨rfl, hZ, hh⟩ := hP
  have hx := Bd.exec
  have hby := Bd.bytes
  have hml : c.maxLocals = 1 := hml0
  have hown : s.vm.findClass "java/util/ArrayList" = some m.cls := (findClass_of_methodNamed Bd.named :)
  have hnm := (name_of_methodNamed Bd.named Bd.method).1
  have X0 : Stand p l e ({ frames := 0, cells := 0, slots := 0, locals := 0 } : Room) s m #[(.ref a1)] below meth c s₁ [] 0 0 := Stand.of_body Bd
  have e0 : s₁.heap = h0 := by rw [← hh, Bd.state]; rfl
  have N0 := Fr.nil n0
  have pre0 : ∀ t, Steps p.tables e below (s₁.setTop (mkF m 0 #[.val (.ref a1)] [])) t → Steps p.tables e below (s₁.setTop (entryFrame m #[(.ref a1)] 1)) t := fun t k => castTop (ef_rmSz m a1) k
  obtain ⟨T1, X1, e1, st1⟩ := getF X0 hx hZ hown (host := "") (Or.inl (hw _ (List.mem_of_getElem? (i := 57) rfl))) Via.refl e0 F2 (g := (mkF m 1 #[.val (.ref a1)] [(.ref a1)])) rfl rfl (hb hby d12_1)
  have pre2 : ∀ t, Steps p.tables e below (T1.setTop (mkF m 4 #[.val (.ref a1)] [(.int p1)])) t → Steps p.tables e below (s₁.setTop (entryFrame m #[(.ref a1)] 1)) t := by
    intro t k
    refine pre0 t ?_
    show Steps p.tables e below (s₁.setTop (mkF m 0 #[.val (.ref a1)] [])) _
    refine XS.aloadN X0.here hx rfl (hb hby d12_0) rfl (rfl) ?_
    show Steps p.tables e below (s₁.setTop (mkF m 1 #[.val (.ref a1)] [(.ref a1)])) _
    refine st1 _ ?_
    show Steps p.tables e below (T1.setTop (mkF m 4 #[.val (.ref a1)] [(.int p1)])) _
    exact k
  obtain ⟨fs, hr, hrun, hended, hW, hsame⟩ := X1.leave (v := some (.int p1)) (fun h => by rw [Bd.returns] at h; cases h)
  refine ⟨_, _, pre2 _ ?_, hrun, hended, _, _, rfl, ?_, ⟨_, rfl⟩, hW, hsame.mono (by decide) (by decide)⟩
  · exact retOut X1 hx Bd.returns rfl (Or.inl ⟨rfl, Or.inl rfl, _, rfl⟩) (hb hby d12_4) hr
  · show Q_rmSz Z a1 p1 h0 n0 _ T1.heap _
    rw [e1]
    exact ⟨rfl, N0, rfl⟩
theorem ef_rmP (m : MethodId) (x0 : Int32) (x1 : Int32) : entryFrame m #[(.int x0), (.int x1), .null] 3 = mkF m 0 #[.val (.int x0), .val (.int x1), .val .null] [] := by first | (simp [entryFrame, mkF, argsToLocals, Value.category]; done) | rfl
theorem pn_9 : plainName "jdk/internal/util/Preconditions" = true := by first | (simp [plainName, overriddenIn]; done) | decide +kernel
theorem d15_0 : decode jdk_41_method_11_code 0 = .ok (.iload_n 0, 1) := by decide +kernel
theorem d15_1 : decode jdk_41_method_11_code 1 = .ok (.ifCond .lt 8, 3) := by decide +kernel
theorem d15_4 : decode jdk_41_method_11_code 4 = .ok (.iload_n 0, 1) := by decide +kernel
theorem d15_5 : decode jdk_41_method_11_code 5 = .ok (.iload_n 1, 1) := by decide +kernel
theorem d15_6 : decode jdk_41_method_11_code 6 = .ok (.if_icmp .lt 10, 3) := by decide +kernel
theorem d15_16 : decode jdk_41_method_11_code 16 = .ok (.iload_n 0, 1) := by decide +kernel
theorem d15_17 : decode jdk_41_method_11_code 17 = .ok (.ireturn, 1) := by decide +kernel
def Q_rmP (Z : State) (p1 : Int32) (p2 : Int32) (h0 : Heap) (n0 : Nat) (v : Option Value) (h : Heap) (L : List Loc) : Prop := v = some (.int p1) ∧ Fr n0 L ∧ h = h0
set_option maxRecDepth 65536 in
set_option maxHeartbeats 40000000 in
theorem rmP (l : Launch) (Z : State) (a0 : Array Value) (hw : ∀ d ∈ tables_1, d.before a0 Z = true) (ws : List Jvm.Cond) (p1 : Int32) (p2 : Int32) (h0 : Heap) (n0 : Nat) (Z0 : n0 ≤ h0.size) (c1 : ¬ (p1 < (0 : Int32))) (c2 : p1 < p2) :
    MetFree l (⟨"jdk/internal/util/Preconditions", "checkIndex", "(IILjava/util/function/BiFunction;)I"⟩ : MethodName) (head1 (Jvm.Cond.code (⟨"jdk/internal/util/Preconditions", "checkIndex", "(IILjava/util/function/BiFunction;)I"⟩ : MethodName) jdk_41_method_11_code 3 (some .int) :: ws) ({ frames := 0, cells := 0, slots := 0, locals := 0 } : Room)) (fun a U => a = #[(.int p1), (.int p2), .null] ∧ Z.Warmed39 U.vm ∧ U.heap = h0) (fun _ _ _ _ _ => True) (fun _ U o U' => ∃ v L, o = .returned v ∧ Q_rmP Z p1 p2 h0 n0 v U'.heap L ∧ FrameEnd U o U' L ({ frames := 0, cells := 0, slots := 0, locals := 0 } : Room).cells ({ frames := 0, cells := 0, slots := 0, locals := 0 } : Room).slots) := by
  refine MetFree.of_bodySF (plainFor_of_name pn_9) hisR ?_
  intro p e s m args below meth c s₁ Bd hml0 hP hK
  obtain ⟨rfl, hZ, hh⟩ := hP
  have hx := Bd.exec
  have hby := Bd.bytes
  have hml : c.maxLocals = 3 := hml0
  have hown : s.vm.findClass "jdk/internal/util/Preconditions" = some m.cls := (findClass_of_methodNamed Bd.named :)
  have hnm := (name_of_methodNamed Bd.named Bd.method).1
  have X0 : Stand p l e ({ frames := 0, cells := 0, slots := 0, locals := 0 } : Room) s m #[(.int p1), (.int p2), .null] below meth c s₁ [] 0 0 := Stand.of_body Bd
  have e0 : s₁.heap = h0 := by rw [← hh, Bd.state]; rfl
  have N0 := Fr.nil n0
  have pre0 : ∀ t, Steps p.tables e below (s₁.setTop (mkF m 0 #[.val (.int p1), .val (.int p2), .val .null] [])) t → Steps p.tables e below (s₁.setTop (entryFrame m #[(.int p1), (.int p2), .null] 3)) t := fun t k => castTop (ef_rmP m p1 p2) k
  have pre1 : ∀ t, Steps p.tables e below (s₁.setTop (mkF m 17 #[.val (.int p1), .val (.int p2), .val .null] [(.int p1)])) t → Steps p.tables e below (s₁.setTop (entryFrame m #[(.int p1), (.int p2), .null] 3)) t := by
    intro t k
    refine pre0 t ?_
    show Steps p.tables e below (s₁.setTop (mkF m 0 #[.val (.int p1), .val (.int p2), .val .null] [])) _
    refine XS.iloadN X0.here hx rfl (hb hby d15_0) rfl ?_
    show Steps p.tables e below (s₁.setTop (mkF m 1 #[.val (.int p1), .val (.int p2), .val .null] [(.int p1)])) _
    refine XS.ifNo X0.here hx rfl (hb hby d15_1) rfl ((if0 _ _).trans (flt c1).1) ?_
    show Steps p.tables e below (s₁.setTop (mkF m 4 #[.val (.int p1), .val (.int p2), .val .null] [])) _
    refine XS.iloadN X0.here hx rfl (hb hby d15_4) rfl ?_
    show Steps p.tables e below (s₁.setTop (mkF m 5 #[.val (.int p1), .val (.int p2), .val .null] [(.int p1)])) _
    refine XS.iloadN X0.here hx rfl (hb hby d15_5) rfl ?_
    show Steps p.tables e below (s₁.setTop (mkF m 6 #[.val (.int p1), .val (.int p2), .val .null] [(.int p2), (.int p1)])) _
    refine XS.icmpYes X0.here hx rfl (pc0 := 6) (pc' := 16) rfl (hb hby d15_6) rfl (tlt c2).1 (by decide) (by decide) ?_
    show Steps p.tables e below (s₁.setTop (mkF m 16 #[.val (.int p1), .val (.int p2), .val .null] [])) _
    refine XS.iloadN X0.here hx rfl (hb hby d15_16) rfl ?_
    show Steps p.tables e below (s₁.setTop (mkF m 17 #[.val (.int p1), .val (.int p2), .val .null] [(.int p1)])) _
    exact k
  obtain ⟨fs, hr, hrun, hended, hW, hsame⟩ := X0.leave (v := some (.int p1)) (fun h => by rw [Bd.returns] at h; cases h)
  refine ⟨_, _, pre1 _ ?_, hrun, hended, _, _, rfl, ?_, ⟨_, rfl⟩, hW, hsame.mono (by decide) (by decide)⟩
  · exact retOut X0 hx Bd.returns rfl (Or.inl ⟨rfl, Or.inl rfl, _, rfl⟩) (hb hby d15_17) hr
  · show Q_rmP Z p1 p2 h0 n0 _ s₁.heap _
    rw [e0]
    exact ⟨rfl, N0, rfl⟩
theorem ef_rmO (m : MethodId) (x0 : Int32) (x1 : Int32) : entryFrame m #[(.int x0), (.int x1)] 2 = mkF m 0 #[.val (.int x0), .val (.int x1)] [] := by first | (simp [entryFrame, mkF, argsToLocals, Value.category]; done) | rfl
theorem pn_8 : plainName "java/util/Objects" = true := by first | (simp [plainName, overriddenIn]; done) | decide +kernel
theorem d14_0 : decode jdk_31_method_17_code 0 = .ok (.iload_n 0, 1) := by decide +kernel
theorem d14_1 : decode jdk_31_method_17_code 1 = .ok (.iload_n 1, 1) := by decide +kernel
theorem d14_2 : decode jdk_31_method_17_code 2 = .ok (.aconst_null, 1) := by decide +kernel
theorem d14_3 : decode jdk_31_method_17_code 3 = .ok (.invokestatic 105, 3) := by decide +kernel
theorem pd_5 : parseMethodDescriptor "(IILjava/util/function/BiFunction;)I" = some ⟨[.int, .int, (.object "java/util/function/BiFunction")], some .int⟩ := by decide +kernel
theorem d14_6 : decode jdk_31_method_17_code 6 = .ok (.ireturn, 1) := by decide +kernel
def Q_rmO (Z : State) (p1 : Int32) (p2 : Int32) (h0 : Heap) (n0 : Nat) (v : Option Value) (h : Heap) (L : List Loc) : Prop := v = some (.int p1) ∧ Fr n0 L ∧ h = h0
set_option maxRecDepth 65536 in
set_option maxHeartbeats 40000000 in
theorem rmO (l : Launch) (Z : State) (a0 : Array Value) (hw : ∀ d ∈ tables_1, d.before a0 Z = true) (ws : List Jvm.Cond) (p1 : Int32) (p2 : Int32) (h0 : Heap) (n0 : Nat) (Z0 : n0 ≤ h0.size) (c1 : ¬ (p1 < (0 : Int32))) (c2 : p1 < p2) :
    MetFree l (⟨"java/util/Objects", "checkIndex", "(II)I"⟩ : MethodName) (head1 (Jvm.Cond.code (⟨"java/util/Objects", "checkIndex", "(II)I"⟩ : MethodName) jdk_31_method_17_code 2 (some .int) :: ws) ({ frames := 1, cells := 0, slots := 0, locals := 20 } : Room)) (fun a U => a = #[(.int p1), (.int p2)] ∧ Z.Warmed39 U.vm ∧ U.heap = h0) (fun _ _ _ _ _ => True) (fun _ U o U' => ∃ v L, o = .returned v ∧ Q_rmO Z p1 p2 h0 n0 v U'.heap L ∧ FrameEnd U o U' L ({ frames := 1, cells := 0, slots := 0, locals := 20 } : Room).cells ({ frames := 1, cells := 0, slots := 0, locals := 20 } : Room).slots) := by
  refine MetFree.of_bodySF (plainFor_of_name pn_8) hisR ?_
  intro p e s m args below meth c s₁ Bd hml0 hP hK
  obtain ⟨rfl, hZ, hh⟩ := hP
  have hx := Bd.exec
  have hby := Bd.bytes
  have hml : c.maxLocals = 2 := hml0
  have hown : s.vm.findClass "java/util/Objects" = some m.cls := (findClass_of_methodNamed Bd.named :)
  have hnm := (name_of_methodNamed Bd.named Bd.method).1
  have X0 : Stand p l e ({ frames := 1, cells := 0, slots := 0, locals := 20 } : Room) s m #[(.int p1), (.int p2)] below meth c s₁ [] 0 0 := Stand.of_body Bd
  have e0 : s₁.heap = h0 := by rw [← hh, Bd.state]; rfl
  have N0 := Fr.nil n0
  have pre0 : ∀ t, Steps p.tables e below (s₁.setTop (mkF m 0 #[.val (.int p1), .val (.int p2)] [])) t → Steps p.tables e below (s₁.setTop (entryFrame m #[(.int p1), (.int p2)] 2)) t := fun t k => castTop (ef_rmO m p1 p2) k
  obtain ⟨_, _, ⟨T1, L1, k1, n1⟩, -, X1, ⟨Lc1, hQ1, l1, y1, z1⟩, st1⟩ := Jvm.LawKit.callS X0 hx (y := (⟨"jdk/internal/util/Preconditions", "checkIndex", "(IILjava/util/function/BiFunction;)I"⟩ : MethodName)) hown (mvT hZ (hw _ (List.mem_of_getElem? (i := 103) rfl))) (mvT hZ (hw _ (List.mem_of_getElem? (i := 104) rfl))) (mvT hZ (hw _ (List.mem_of_getElem? (i := 105) rfl))) (mvT hZ (hw _ (List.mem_of_getElem? (i := 106) rfl))) (by decide) (backOf (W := 0) (rmP l Z a0 hw [] p1 p2  h0 n0 Z0 c1 c2) hZ (hw _ (List.mem_of_getElem? (i := 106) rfl)) (hw _ (List.mem_of_getElem? (i := 105) rfl)) (by decide) (by decide)) (g := (mkF m 3 #[.val (.int p1), .val (.int p2)] [.null, (.int p2), (.int p1)])) rfl (by rw [hml]; rfl) (argsL := [(.int p1), (.int p2), .null]) (rest := []) (lenOf pd_5 rfl) rfl (by show 2 * 0 + _ ≤ _; exact Nat.le_of_eq rfl) (hb hby d14_3) (fun _ _ => ⟨rfl, e0, (by decide : 0 + 0 ≤ _), (by decide : 0 + 0 ≤ _)⟩)
  dsimp only [Pt.U, Pt.locs, Pt.cells, Pt.slots] at X1 l1 y1 z1 st1 hQ1
  subst l1 y1 z1
  obtain ⟨rfl, N1q, hq1⟩ := hQ1
  have N1 := Fr.app N0 N1q
  have pre2 : ∀ t, Steps p.tables e below (T1.setTop (mkF m 6 #[.val (.int p1), .val (.int p2)] [(.int p1)])) t → Steps p.tables e below (s₁.setTop (entryFrame m #[(.int p1), (.int p2)] 2)) t := by
    intro t k
    refine pre0 t ?_
    show Steps p.tables e below (s₁.setTop (mkF m 0 #[.val (.int p1), .val (.int p2)] [])) _
    refine XS.iloadN X0.here hx rfl (hb hby d14_0) rfl ?_
    show Steps p.tables e below (s₁.setTop (mkF m 1 #[.val (.int p1), .val (.int p2)] [(.int p1)])) _
    refine XS.iloadN X0.here hx rfl (hb hby d14_1) rfl ?_
    show Steps p.tables e below (s₁.setTop (mkF m 2 #[.val (.int p1), .val (.int p2)] [(.int p2), (.int p1)])) _
    refine XS.aconstNull X0.here hx rfl (hb hby d14_2) ?_
    show Steps p.tables e below (s₁.setTop (mkF m 3 #[.val (.int p1), .val (.int p2)] [.null, (.int p2), (.int p1)])) _
    refine st1 _ ?_
    show Steps p.tables e below (T1.setTop (mkF m 6 #[.val (.int p1), .val (.int p2)] [(.int p1)])) _
    exact k
  obtain ⟨fs, hr, hrun, hended, hW, hsame⟩ := X1.leave (v := some (.int p1)) (fun h => by rw [Bd.returns] at h; cases h)
  refine ⟨_, _, pre2 _ ?_, hrun, hended, _, _, rfl, ?_, ⟨_, rfl⟩, hW, hsame.mono (by decide) (by decide)⟩
  · exact retOut X1 hx Bd.returns rfl (Or.inl ⟨rfl, Or.inl rfl, _, rfl⟩) (hb hby d14_6) hr
  · show Q_rmO Z p1 p2 h0 n0 _ T1.heap _
    rw [hq1]
    exact ⟨rfl, N1, rfl⟩
theorem ef_rmED (m : MethodId) (x0 : Addr) (x1 : Int32) : entryFrame m #[(.ref x0), (.int x1)] 2 = mkF m 0 #[.val (.ref x0), .val (.int x1)] [] := by first | (simp [entryFrame, mkF, argsToLocals, Value.category]; done) | rfl
theorem d16_0 : decode jdk_38_method_18_code 0 = .ok (.aload_n 0, 1) := by decide +kernel
theorem d16_1 : decode jdk_38_method_18_code 1 = .ok (.getfield 9, 3) := by decide +kernel
theorem d16_4 : decode jdk_38_method_18_code 4 = .ok (.iload_n 1, 1) := by decide +kernel
theorem d16_5 : decode jdk_38_method_18_code 5 = .ok (.aaload, 1) := by decide +kernel
theorem d16_6 : decode jdk_38_method_18_code 6 = .ok (.areturn, 1) := by decide +kernel
def Q_rmED (Z : State) (a1 : Addr) (b : Addr) (cl : Cell) (a2 : Addr) (h0 : Heap) (n0 : Nat) (v : Option Value) (h : Heap) (L : List Loc) : Prop := v = some (.ref a2) ∧ Fr n0 L ∧ h = h0
set_option maxRecDepth 65536 in
set_option maxHeartbeats 40000000 in
theorem rmED (l : Launch) (Z : State) (a0 : Array Value) (hw : ∀ d ∈ tables_1, d.before a0 Z = true) (ws : List Jvm.Cond) (a1 : Addr) (b : Addr) (cl : Cell) (a2 : Addr) (h0 : Heap) (n0 : Nat) (Z0 : n0 ≤ h0.size) (F1 : Fld Z h0 a1 "java/util/ArrayList" "elementData" "[Ljava/lang/Object;" (.ref b)) (Ab : Arr Z h0 b cl (.object "java/lang/Object")) (Sb : cl.slots.size = (10 : Int32).toNatClampNeg) (tb : cl.slots[0]? = some (.ref a2)) :
    MetFree l (⟨"java/util/ArrayList", "elementData", "(I)Ljava/lang/Object;"⟩ : MethodName) (head1 (Jvm.Cond.code (⟨"java/util/ArrayList", "elementData", "(I)Ljava/lang/Object;"⟩ : MethodName) jdk_38_method_18_code 2 (some (.object "java/lang/Object")) :: ws) ({ frames := 0, cells := 0, slots := 0, locals := 0 } : Room)) (fun a U => a = #[(.ref a1), (.int (0 : Int32))] ∧ Z.Warmed39 U.vm ∧ U.heap = h0) (fun _ _ _ _ _ => True) (fun _ U o U' => ∃ v L, o = .returned v ∧ Q_rmED Z a1 b cl a2 h0 n0 v U'.heap L ∧ FrameEnd U o U' L ({ frames := 0, cells := 0, slots := 0, locals := 0 } : Room).cells ({ frames := 0, cells := 0, slots := 0, locals := 0 } : Room).slots) := by
  refine MetFree.of_bodySF (plainFor_of_name pn_7) hisR ?_
  intro p e s m args below meth c s₁ Bd hml0 hP hK
  obtain ⟨rfl, hZ, hh⟩ := hP
  have hx := Bd.exec
  have hby := Bd.bytes
  have hml : c.maxLocals = 2 := hml0
  have hown : s.vm.findClass "java/util/ArrayList" = some m.cls := (findClass_of_methodNamed Bd.named :)
  have hnm := (name_of_methodNamed Bd.named Bd.method).1
  have X0 : Stand p l e ({ frames := 0, cells := 0, slots := 0, locals := 0 } : Room) s m #[(.ref a1), (.int (0 : Int32))] below meth c s₁ [] 0 0 := Stand.of_body Bd
  have e0 : s₁.heap = h0 := by rw [← hh, Bd.state]; rfl
  have N0 := Fr.nil n0
  have pre0 : ∀ t, Steps p.tables e below (s₁.setTop (mkF m 0 #[.val (.ref a1), .val (.int (0 : Int32))] [])) t → Steps p.tables e below (s₁.setTop (entryFrame m #[(.ref a1), (.int (0 : Int32))] 2)) t := fun t k => castTop (ef_rmED m a1 (0 : Int32)) k
  obtain ⟨T1, X1, e1, st1⟩ := getF X0 hx hZ hown (host := "") (Or.inl (hw _ (List.mem_of_getElem? (i := 25) rfl))) Via.refl e0 F1 (g := (mkF m 1 #[.val (.ref a1), .val (.int (0 : Int32))] [(.ref a1)])) rfl rfl (hb hby d16_1)
  have pre2 : ∀ t, Steps p.tables e below (T1.setTop (mkF m 6 #[.val (.ref a1), .val (.int (0 : Int32))] [(.ref a2)])) t → Steps p.tables e below (s₁.setTop (entryFrame m #[(.ref a1), (.int (0 : Int32))] 2)) t := by
    intro t k
    refine pre0 t ?_
    show Steps p.tables e below (s₁.setTop (mkF m 0 #[.val (.ref a1), .val (.int (0 : Int32))] [])) _
    refine XS.aloadN X0.here hx rfl (hb hby d16_0) rfl (rfl) ?_
    show Steps p.tables e below (s₁.setTop (mkF m 1 #[.val (.ref a1), .val (.int (0 : Int32))] [(.ref a1)])) _
    refine st1 _ ?_
    show Steps p.tables e below (T1.setTop (mkF m 4 #[.val (.ref a1), .val (.int (0 : Int32))] [(.ref b)])) _
    refine XS.iloadN X1.here hx rfl (hb hby d16_4) rfl ?_
    show Steps p.tables e below (T1.setTop (mkF m 5 #[.val (.ref a1), .val (.int (0 : Int32))] [(.int (0 : Int32)), (.ref b)])) _
    refine X1.aaload hx (j := (0 : Int32)) (v := (.ref a2)) (by rw [e1]; exact Ab.1) (State.isArrayOf_alike hZ.alike Ab.2.1) rfl Ab.2.2 (inb_of Sb ⟨by decide, by decide⟩) tb (g := (mkF m 5 #[.val (.ref a1), .val (.int (0 : Int32))] [(.int (0 : Int32)), (.ref b)])) rfl rfl (hb hby d16_5) _ ?_
    show Steps p.tables e below (T1.setTop (mkF m 6 #[.val (.ref a1), .val (.int (0 : Int32))] [(.ref a2)])) _
    exact k
  obtain ⟨fs, hr, hrun, hended, hW, hsame⟩ := X1.leave (v := some (.ref a2)) (fun h => by rw [Bd.returns] at h; cases h)
  refine ⟨_, _, pre2 _ ?_, hrun, hended, _, _, rfl, ?_, ⟨_, rfl⟩, hW, hsame.mono (by decide) (by decide)⟩
  · exact retOut X1 hx Bd.returns (by first | rfl | simp [narrow]) (Or.inr (Or.inr (Or.inr (Or.inr ⟨rfl, rfl, rfl⟩)))) (hb hby d16_6) hr
  · show Q_rmED Z a1 b cl a2 h0 n0 _ T1.heap _
    rw [e1]
    exact ⟨rfl, N0, rfl⟩
theorem ef_rmGet (m : MethodId) (x0 : Addr) (x1 : Int32) : entryFrame m #[(.ref x0), (.int x1)] 2 = mkF m 0 #[.val (.ref x0), .val (.int x1)] [] := by first | (simp [entryFrame, mkF, argsToLocals, Value.category]; done) | rfl
theorem d13_0 : decode jdk_38_method_20_code 0 = .ok (.iload_n 1, 1) := by decide +kernel
theorem d13_1 : decode jdk_38_method_20_code 1 = .ok (.aload_n 0, 1) := by decide +kernel
theorem d13_2 : decode jdk_38_method_20_code 2 = .ok (.getfield 48, 3) := by decide +kernel
theorem d13_5 : decode jdk_38_method_20_code 5 = .ok (.invokestatic 118, 3) := by decide +kernel
theorem d13_8 : decode jdk_38_method_20_code 8 = .ok (.pop, 1) := by decide +kernel
theorem d13_9 : decode jdk_38_method_20_code 9 = .ok (.aload_n 0, 1) := by decide +kernel
theorem d13_10 : decode jdk_38_method_20_code 10 = .ok (.iload_n 1, 1) := by decide +kernel
theorem d13_11 : decode jdk_38_method_20_code 11 = .ok (.invokevirtual 123, 3) := by decide +kernel
theorem pd_6 : parseMethodDescriptor "(I)Ljava/lang/Object;" = some ⟨[.int], some (.object "java/lang/Object")⟩ := by decide +kernel
theorem d13_14 : decode jdk_38_method_20_code 14 = .ok (.areturn, 1) := by decide +kernel
def Q_rmGet (Z : State) (a1 : Addr) (b : Addr) (cl : Cell) (a2 : Addr) (h0 : Heap) (n0 : Nat) (v : Option Value) (h : Heap) (L : List Loc) : Prop := v = some (.ref a2) ∧ Fr n0 L ∧ h = h0
set_option maxRecDepth 65536 in
set_option maxHeartbeats 40000000 in
theorem rmGet (l : Launch) (Z : State) (a0 : Array Value) (hw : ∀ d ∈ tables_1, d.before a0 Z = true) (ws : List Jvm.Cond) (a1 : Addr) (b : Addr) (cl : Cell) (a2 : Addr) (h0 : Heap) (n0 : Nat) (Z0 : n0 ≤ h0.size) (F1 : Fld Z h0 a1 "java/util/ArrayList" "elementData" "[Ljava/lang/Object;" (.ref b)) (Ab : Arr Z h0 b cl (.object "java/lang/Object")) (Sb : cl.slots.size = (10 : Int32).toNatClampNeg) (tb : cl.slots[0]? = some (.ref a2)) (F2 : Fld Z h0 a1 "java/util/ArrayList" "size" "I" (.int (1 : Int32))) (E1 : Exa Z h0 a1 "java/util/ArrayList") :
    MetFree l (⟨"java/util/ArrayList", "get", "(I)Ljava/lang/Object;"⟩ : MethodName) (head1 (Jvm.Cond.code (⟨"java/util/ArrayList", "get", "(I)Ljava/lang/Object;"⟩ : MethodName) jdk_38_method_20_code 2 (some (.object "java/lang/Object")) :: ws) ({ frames := 2, cells := 0, slots := 0, locals := 40 } : Room)) (fun a U => a = #[(.ref a1), (.int (0 : Int32))] ∧ Z.Warmed39 U.vm ∧ U.heap = h0) (fun _ _ _ _ _ => True) (fun _ U o U' => ∃ v L, o = .returned v ∧ Q_rmGet Z a1 b cl a2 h0 n0 v U'.heap L ∧ FrameEnd U o U' L ({ frames := 2, cells := 0, slots := 0, locals := 40 } : Room).cells ({ frames := 2, cells := 0, slots := 0, locals := 40 } : Room).slots) := by
  refine MetFree.of_bodySF (plainFor_of_name pn_7) hisR ?_
  intro p e s m args below meth c s₁ Bd hml0 hP hK
  obtain ⟨rfl, hZ, hh⟩ := hP
  have hx := Bd.exec
  have hby := Bd.bytes
  have hml : c.maxLocals = 2 := hml0
  have hown : s.vm.findClass "java/util/ArrayList" = some m.cls := (findClass_of_methodNamed Bd.named :)
  have hnm := (name_of_methodNamed Bd.named Bd.method).1
  have X0 : Stand p l e ({ frames := 2, cells := 0, slots := 0, locals := 40 } : Room) s m #[(.ref a1), (.int (0 : Int32))] below meth c s₁ [] 0 0 := Stand.of_body Bd
  have e0 : s₁.heap = h0 := by rw [← hh, Bd.state]; rfl
  have N0 := Fr.nil n0
  have pre0 : ∀ t, Steps p.tables e below (s₁.setTop (mkF m 0 #[.val (.ref a1), .val (.int (0 : Int32))] [])) t → Steps p.tables e below (s₁.setTop (entryFrame m #[(.ref a1), (.int (0 : Int32))] 2)) t := fun t k => castTop (ef_rmGet m a1 (0 : Int32)) k
  obtain ⟨T1, X1, e1, st1⟩ := getF X0 hx hZ hown (host := "") (Or.inl (hw _ (List.mem_of_getElem? (i := 57) rfl))) Via.refl e0 F2 (g := (mkF m 2 #[.val (.ref a1), .val (.int (0 : Int32))] [(.ref a1), (.int (0 : Int32))])) rfl rfl (hb hby d13_2)
  obtain ⟨_, _, ⟨T2, L2, k2, n2⟩, -, X2, ⟨Lc2, hQ2, l2, y2, z2⟩, st2⟩ := Jvm.LawKit.callS X1 hx (y := (⟨"java/util/Objects", "checkIndex", "(II)I"⟩ : MethodName)) hown (mvT hZ (hw _ (List.mem_of_getElem? (i := 99) rfl))) (mvT hZ (hw _ (List.mem_of_getElem? (i := 100) rfl))) (mvT hZ (hw _ (List.mem_of_getElem? (i := 101) rfl))) (mvT hZ (hw _ (List.mem_of_getElem? (i := 102) rfl))) (by decide) (backOf (W := 0) (rmO l Z a0 hw [] (0 : Int32) (1 : Int32)  h0 n0 Z0 (by decide) (by decide)) hZ (hw _ (List.mem_of_getElem? (i := 102) rfl)) (hw _ (List.mem_of_getElem? (i := 101) rfl)) (by decide) (by decide)) (g := (mkF m 5 #[.val (.ref a1), .val (.int (0 : Int32))] [(.int (1 : Int32)), (.int (0 : Int32))])) rfl (by rw [hml]; rfl) (argsL := [(.int (0 : Int32)), (.int (1 : Int32))]) (rest := []) (lenOf pd_1 rfl) rfl (by show 2 * 0 + _ ≤ _; exact Nat.le_of_eq rfl) (hb hby d13_5) (fun _ _ => ⟨rfl, e1, (by decide : 0 + 0 ≤ _), (by decide : 0 + 0 ≤ _)⟩)
  dsimp only [Pt.U, Pt.locs, Pt.cells, Pt.slots] at X2 l2 y2 z2 st2 hQ2
  subst l2 y2 z2
  obtain ⟨rfl, N2q, hq2⟩ := hQ2
  have N2 := Fr.app N0 N2q
  obtain ⟨cq3, kq3, q3a, q3b, q3c⟩ := isOf hZ hq2 E1
  obtain ⟨_, _, ⟨T3, L3, k3, n3⟩, -, X3, ⟨Lc3, hQ3, l3, y3, z3⟩, st3⟩ := X2.virtualBack hx (y := (⟨"java/util/ArrayList", "elementData", "(I)Ljava/lang/Object;"⟩ : MethodName)) (z := (⟨"java/util/ArrayList", "elementData", "(I)Ljava/lang/Object;"⟩ : MethodName)) hown (mvT hZ (hw _ (List.mem_of_getElem? (i := 107) rfl))) (mvT hZ (hw _ (List.mem_of_getElem? (i := 108) rfl))) (notFace_of_selects (args := #[]) (mvT hZ (hw _ (List.mem_of_getElem? (i := 110) rfl)))) (mvT hZ (hw _ (List.mem_of_getElem? (i := 110) rfl))) (mvT hZ (hw _ (List.mem_of_getElem? (i := 109) rfl))) (by decide) (backOf (W := 0) (rmED l Z a0 hw [] a1 b cl a2 h0 n0 Z0 F1 Ab Sb tb) hZ (hw _ (List.mem_of_getElem? (i := 111) rfl)) (hw _ (List.mem_of_getElem? (i := 3) rfl)) (by decide) (by decide)) q3a q3c (g := (mkF m 11 #[.val (.ref a1), .val (.int (0 : Int32))] [(.int (0 : Int32)), (.ref a1)])) rfl (by rw [hml]; rfl) (Steps.refl _) (argsL := [(.int (0 : Int32))]) (rest := []) (lenOf pd_6 rfl) rfl (by show 2 * 0 + _ ≤ _; exact Nat.le_of_eq rfl) (hb hby d13_11) (fun _ _ => ⟨rfl, hq2, (by decide : 0 + 0 ≤ _), (by decide : 0 + 0 ≤ _)⟩)
  dsimp only [Pt.U, Pt.locs, Pt.cells, Pt.slots] at X3 l3 y3 z3 st3 hQ3
  subst l3 y3 z3
  obtain ⟨rfl, N3q, hq3⟩ := hQ3
  have N3 := Fr.app N2 N3q
  have pre4 : ∀ t, Steps p.tables e below (T3.setTop (mkF m 14 #[.val (.ref a1), .val (.int (0 : Int32))] [(.ref a2)])) t → Steps p.tables e below (s₁.setTop (entryFrame m #[(.ref a1), (.int (0 : Int32))] 2)) t := by
    intro t k
    refine pre0 t ?_
    show Steps p.tables e below (s₁.setTop (mkF m 0 #[.val (.ref a1), .val (.int (0 : Int32))] [])) _
    refine XS.iloadN X0.here hx rfl (hb hby d13_0) rfl ?_
    show Steps p.tables e below (s₁.setTop (mkF m 1 #[.val (.ref a1), .val (.int (0 : Int32))] [(.int (0 : Int32))])) _
    refine XS.aloadN X0.here hx rfl (hb hby d13_1) rfl (rfl) ?_
    show Steps p.tables e below (s₁.setTop (mkF m 2 #[.val (.ref a1), .val (.int (0 : Int32))] [(.ref a1), (.int (0 : Int32))])) _
    refine st1 _ ?_
    show Steps p.tables e below (T1.setTop (mkF m 5 #[.val (.ref a1), .val (.int (0 : Int32))] [(.int (1 : Int32)), (.int (0 : Int32))])) _
    refine st2 _ ?_
    show Steps p.tables e below (T2.setTop (mkF m 8 #[.val (.ref a1), .val (.int (0 : Int32))] [(.int (0 : Int32))])) _
    refine XS.pop X2.here hx rfl (hb hby d13_8) rfl rfl ?_
    show Steps p.tables e below (T2.setTop (mkF m 9 #[.val (.ref a1), .val (.int (0 : Int32))] [])) _
    refine XS.aloadN X2.here hx rfl (hb hby d13_9) rfl (rfl) ?_
    show Steps p.tables e below (T2.setTop (mkF m 10 #[.val (.ref a1), .val (.int (0 : Int32))] [(.ref a1)])) _
    refine XS.iloadN X2.here hx rfl (hb hby d13_10) rfl ?_
    show Steps p.tables e below (T2.setTop (mkF m 11 #[.val (.ref a1), .val (.int (0 : Int32))] [(.int (0 : Int32)), (.ref a1)])) _
    refine st3.trans ?_
    show Steps p.tables e below (T3.setTop (mkF m 14 #[.val (.ref a1), .val (.int (0 : Int32))] [(.ref a2)])) _
    exact k
  obtain ⟨fs, hr, hrun, hended, hW, hsame⟩ := X3.leave (v := some (.ref a2)) (fun h => by rw [Bd.returns] at h; cases h)
  refine ⟨_, _, pre4 _ ?_, hrun, hended, _, _, rfl, ?_, ⟨_, rfl⟩, hW, hsame.mono (by decide) (by decide)⟩
  · exact retOut X3 hx Bd.returns (by first | rfl | simp [narrow]) (Or.inr (Or.inr (Or.inr (Or.inr ⟨rfl, rfl, rfl⟩)))) (hb hby d13_14) hr
  · show Q_rmGet Z a1 b cl a2 h0 n0 _ T3.heap _
    rw [hq3]
    exact ⟨rfl, N3, rfl⟩
theorem ef_rmDC (m : MethodId) (x0 : Addr) : entryFrame m #[(.ref x0)] 1 = mkF m 0 #[.val (.ref x0)] [] := by first | (simp [entryFrame, mkF, argsToLocals, Value.category]; done) | rfl
theorem d17_0 : decode prog_33_method_5_code 0 = .ok (.aload_n 0, 1) := by decide +kernel
theorem d17_1 : decode prog_33_method_5_code 1 = .ok (.getfield 36, 3) := by decide +kernel
theorem d17_4 : decode prog_33_method_5_code 4 = .ok (.ireturn, 1) := by decide +kernel
def Q_rmDC (Z : State) (a1 : Addr) (p1 : Int32) (h0 : Heap) (n0 : Nat) (v : Option Value) (h : Heap) (L : List Loc) : Prop := v = some (.int p1) ∧ Fr n0 L ∧ h = h0
set_option maxRecDepth 65536 in
set_option maxHeartbeats 40000000 in
theorem rmDC (l : Launch) (Z : State) (a0 : Array Value) (hw : ∀ d ∈ tables_1, d.before a0 Z = true) (ws : List Jvm.Cond) (a1 : Addr) (p1 : Int32) (h0 : Heap) (n0 : Nat) (Z0 : n0 ≤ h0.size) (F2 : Fld Z h0 a1 "com/example/kiseki/kiseki/span/LinkData" "droppedAttributesCount" "I" (.int p1)) :
    MetFree l (⟨"com/example/kiseki/kiseki/span/LinkData", "droppedAttributesCount", "()I"⟩ : MethodName) (head1 (Jvm.Cond.code (⟨"com/example/kiseki/kiseki/span/LinkData", "droppedAttributesCount", "()I"⟩ : MethodName) prog_33_method_5_code 1 (some .int) :: ws) ({ frames := 0, cells := 0, slots := 0, locals := 0 } : Room)) (fun a U => a = #[(.ref a1)] ∧ Z.Warmed39 U.vm ∧ U.heap = h0) (fun _ _ _ _ _ => True) (fun _ U o U' => ∃ v L, o = .returned v ∧ Q_rmDC Z a1 p1 h0 n0 v U'.heap L ∧ FrameEnd U o U' L ({ frames := 0, cells := 0, slots := 0, locals := 0 } : Room).cells ({ frames := 0, cells := 0, slots := 0, locals := 0 } : Room).slots) := by
  refine MetFree.of_bodySF (plainFor_of_name pn_0) hisR ?_
  intro p e s m args below meth c s₁ Bd hml0 hP hK
  obtain ⟨rfl, hZ, hh⟩ := hP
  have hx := Bd.exec
  have hby := Bd.bytes
  have hml : c.maxLocals = 1 := hml0
  have hown : s.vm.findClass "com/example/kiseki/kiseki/span/LinkData" = some m.cls := (findClass_of_methodNamed Bd.named :)
  have hnm := (name_of_methodNamed Bd.named Bd.method).1
  have X0 : Stand p l e ({ frames := 0, cells := 0, slots := 0, locals := 0 } : Room) s m #[(.ref a1)] below meth c s₁ [] 0 0 := Stand.of_body Bd
  have e0 : s₁.heap = h0 := by rw [← hh, Bd.state]; rfl
  have N0 := Fr.nil n0
  have pre0 : ∀ t, Steps p.tables e below (s₁.setTop (mkF m 0 #[.val (.ref a1)] [])) t → Steps p.tables e below (s₁.setTop (entryFrame m #[(.ref a1)] 1)) t := fun t k => castTop (ef_rmDC m a1) k
  obtain ⟨T1, X1, e1, st1⟩ := getF X0 hx hZ hown (host := "") (Or.inl (hw _ (List.mem_of_getElem? (i := 48) rfl))) Via.refl e0 F2 (g := (mkF m 1 #[.val (.ref a1)] [(.ref a1)])) rfl rfl (hb hby d17_1)
  have pre2 : ∀ t, Steps p.tables e below (T1.setTop (mkF m 4 #[.val (.ref a1)] [(.int p1)])) t → Steps p.tables e below (s₁.setTop (entryFrame m #[(.ref a1)] 1)) t := by
    intro t k
    refine pre0 t ?_
    show Steps p.tables e below (s₁.setTop (mkF m 0 #[.val (.ref a1)] [])) _
    refine XS.aloadN X0.here hx rfl (hb hby d17_0) rfl (rfl) ?_
    show Steps p.tables e below (s₁.setTop (mkF m 1 #[.val (.ref a1)] [(.ref a1)])) _
    refine st1 _ ?_
    show Steps p.tables e below (T1.setTop (mkF m 4 #[.val (.ref a1)] [(.int p1)])) _
    exact k
  obtain ⟨fs, hr, hrun, hended, hW, hsame⟩ := X1.leave (v := some (.int p1)) (fun h => by rw [Bd.returns] at h; cases h)
  refine ⟨_, _, pre2 _ ?_, hrun, hended, _, _, rfl, ?_, ⟨_, rfl⟩, hW, hsame.mono (by decide) (by decide)⟩
  · exact retOut X1 hx Bd.returns rfl (Or.inl ⟨rfl, Or.inl rfl, _, rfl⟩) (hb hby d17_4) hr
  · show Q_rmDC Z a1 p1 h0 n0 _ T1.heap _
    rw [e1]
    exact ⟨rfl, N0, rfl⟩
theorem ef_rmDI (m : MethodId) (x0 : Addr) : entryFrame m #[(.ref x0)] 1 = mkF m 0 #[.val (.ref x0)] [] := by first | (simp [entryFrame, mkF, argsToLocals, Value.category]; done) | rfl
theorem pn_1 : plainName "com/example/kiseki/kiseki/tracing/DroppedItems" = true := by first | (simp [plainName, overriddenIn]; done) | decide +kernel
theorem d18_0 : decode prog_46_method_1_code 0 = .ok (.aload_n 0, 1) := by decide +kernel
theorem d18_1 : decode prog_46_method_1_code 1 = .ok (.invokespecial 1, 3) := by decide +kernel
theorem d18_4 : decode prog_46_method_1_code 4 = .ok (.return_, 1) := by decide +kernel
def Q_rmDI (Z : State) (a1 : Addr) (h0 : Heap) (n0 : Nat) (v : Option Value) (h : Heap) (L : List Loc) : Prop := v = none ∧ Fr n0 L ∧ h = h0
set_option maxRecDepth 65536 in
set_option maxHeartbeats 40000000 in
theorem rmDI (l : Launch) (Z : State) (a0 : Array Value) (hw : ∀ d ∈ tables_1, d.before a0 Z = true) (ws : List Jvm.Cond) (a1 : Addr) (h0 : Heap) (n0 : Nat) (Z0 : n0 ≤ h0.size) :
    MetFree l (⟨"com/example/kiseki/kiseki/tracing/DroppedItems", "<init>", "()V"⟩ : MethodName) (head1 (Jvm.Cond.code (⟨"com/example/kiseki/kiseki/tracing/DroppedItems", "<init>", "()V"⟩ : MethodName) prog_46_method_1_code 1 none :: ws) ({ frames := 1, cells := 0, slots := 0, locals := 12 } : Room)) (fun a U => a = #[(.ref a1)] ∧ Z.Warmed39 U.vm ∧ U.heap = h0) (fun _ _ _ _ _ => True) (fun _ U o U' => ∃ v L, o = .returned v ∧ Q_rmDI Z a1 h0 n0 v U'.heap L ∧ FrameEnd U o U' L ({ frames := 1, cells := 0, slots := 0, locals := 12 } : Room).cells ({ frames := 1, cells := 0, slots := 0, locals := 12 } : Room).slots) := by
  refine MetFree.of_bodySF (plainFor_of_name pn_1) hisR ?_
  intro p e s m args below meth c s₁ Bd hml0 hP hK
  obtain ⟨rfl, hZ, hh⟩ := hP
  have hx := Bd.exec
  have hby := Bd.bytes
  have hml : c.maxLocals = 1 := hml0
  have hown : s.vm.findClass "com/example/kiseki/kiseki/tracing/DroppedItems" = some m.cls := (findClass_of_methodNamed Bd.named :)
  have hnm := (name_of_methodNamed Bd.named Bd.method).1
  have X0 : Stand p l e ({ frames := 1, cells := 0, slots := 0, locals := 12 } : Room) s m #[(.ref a1)] below meth c s₁ [] 0 0 := Stand.of_body Bd
  have e0 : s₁.heap = h0 := by rw [← hh, Bd.state]; rfl
  have N0 := Fr.nil n0
  have pre0 : ∀ t, Steps p.tables e below (s₁.setTop (mkF m 0 #[.val (.ref a1)] [])) t → Steps p.tables e below (s₁.setTop (entryFrame m #[(.ref a1)] 1)) t := fun t k => castTop (ef_rmDI m a1) k
  obtain ⟨T1, X1, e1, st1⟩ := initO X0 hx hZ hown (hw _ (List.mem_of_getElem? (i := 124) rfl)) (hw _ (List.mem_of_getElem? (i := 20) rfl)) (hw _ (List.mem_of_getElem? (i := 21) rfl)) e0 (g := (mkF m 1 #[.val (.ref a1)] [(.ref a1)])) rfl (by rw [hml]; rfl) rfl (hb hby d18_1) (by decide) (W := 0) (by show 2 * 0 + _ ≤ _; exact Nat.le_of_eq rfl) (by decide)
  have pre2 : ∀ t, Steps p.tables e below (T1.setTop (mkF m 4 #[.val (.ref a1)] [])) t → Steps p.tables e below (s₁.setTop (entryFrame m #[(.ref a1)] 1)) t := by
    intro t k
    refine pre0 t ?_
    show Steps p.tables e below (s₁.setTop (mkF m 0 #[.val (.ref a1)] [])) _
    refine XS.aloadN X0.here hx rfl (hb hby d18_0) rfl (rfl) ?_
    show Steps p.tables e below (s₁.setTop (mkF m 1 #[.val (.ref a1)] [(.ref a1)])) _
    refine st1 _ ?_
    show Steps p.tables e below (T1.setTop (mkF m 4 #[.val (.ref a1)] [])) _
    exact k
  obtain ⟨fs, hr, hrun, hended, hW, hsame⟩ := X1.leave (v := none) (fun _ => rfl)
  refine ⟨_, _, pre2 _ ?_, hrun, hended, _, _, rfl, ?_, ⟨_, rfl⟩, hW, hsame.mono (by decide) (by decide)⟩
  · exact X1.returnOut hx Bd.returns (hb hby d18_4) hr
  · show Q_rmDI Z a1 h0 n0 _ T1.heap _
    rw [e1]
    exact ⟨rfl, N0, rfl⟩
theorem ef_rmS00 (m : MethodId) (x0 : Int32) (x1 : Int32) (x2 : Addr) : entryFrame m #[(.int x0), (.int x1), (.ref x2)] 6 = mkF m 0 #[.val (.int x0), .val (.int x1), .val (.ref x2), .unset, .unset, .unset] [] := by first | (simp [entryFrame, mkF, argsToLocals, Value.category]; done) | rfl
theorem d11_0 : decode prog_46_method_2_code 0 = .ok (.lconst 0, 1) := by decide +kernel
theorem d11_1 : decode prog_46_method_2_code 1 = .ok (.lstore_n 3, 1) := by decide +kernel
theorem d11_2 : decode prog_46_method_2_code 2 = .ok (.iconst 0, 1) := by decide +kernel
theorem d11_3 : decode prog_46_method_2_code 3 = .ok (.istore 5, 2) := by decide +kernel
theorem d11_5 : decode prog_46_method_2_code 5 = .ok (.iload 5, 2) := by decide +kernel
theorem d11_7 : decode prog_46_method_2_code 7 = .ok (.aload_n 2, 1) := by decide +kernel
theorem d11_8 : decode prog_46_method_2_code 8 = .ok (.invokeinterface 7 1, 5) := by decide +kernel
theorem pd_7 : parseMethodDescriptor "()I" = some ⟨[], some .int⟩ := by decide +kernel
theorem d11_13 : decode prog_46_method_2_code 13 = .ok (.if_icmp .ge 27, 3) := by decide +kernel
theorem d11_40 : decode prog_46_method_2_code 40 = .ok (.aconst_null, 1) := by decide +kernel
theorem d11_41 : decode prog_46_method_2_code 41 = .ok (.astore 5, 2) := by decide +kernel
theorem d11_43 : decode prog_46_method_2_code 43 = .ok (.iload_n 0, 1) := by decide +kernel
theorem d11_44 : decode prog_46_method_2_code 44 = .ok (.ifCond .gt 13, 3) := by decide +kernel
theorem d11_47 : decode prog_46_method_2_code 47 = .ok (.iload_n 1, 1) := by decide +kernel
theorem d11_48 : decode prog_46_method_2_code 48 = .ok (.ifCond .gt 9, 3) := by decide +kernel
theorem d11_51 : decode prog_46_method_2_code 51 = .ok (.lload_n 3, 1) := by decide +kernel
theorem d11_52 : decode prog_46_method_2_code 52 = .ok (.lconst 0, 1) := by decide +kernel
theorem d11_53 : decode prog_46_method_2_code 53 = .ok (.lcmp, 1) := by decide +kernel
theorem d11_54 : decode prog_46_method_2_code 54 = .ok (.ifCond .le 32, 3) := by decide +kernel
theorem d11_86 : decode prog_46_method_2_code 86 = .ok (.aload 5, 2) := by decide +kernel
theorem d11_88 : decode prog_46_method_2_code 88 = .ok (.areturn, 1) := by decide +kernel
def Q_rmS00 (Z : State) (p1 : Int32) (p2 : Int32) (a1 : Addr) (h0 : Heap) (n0 : Nat) (v : Option Value) (h : Heap) (L : List Loc) : Prop := v = some .null ∧ Fr n0 L ∧ h = h0
set_option maxRecDepth 65536 in
set_option maxHeartbeats 40000000 in
theorem rmS00 (l : Launch) (Z : State) (a0 : Array Value) (hw : ∀ d ∈ tables_1, d.before a0 Z = true) (ws : List Jvm.Cond) (p1 : Int32) (p2 : Int32) (a1 : Addr) (h0 : Heap) (n0 : Nat) (Z0 : n0 ≤ h0.size) (E1 : Exa Z h0 a1 "java/util/ArrayList") (F2 : Fld Z h0 a1 "java/util/ArrayList" "size" "I" (.int (0 : Int32))) (h1 : ¬ ((0 : Int32) < p1)) (h2 : ¬ ((0 : Int32) < p2)) (h3 : ¬ ((0 : Int64) < (0 : Int64))) :
    MetFree l (⟨"com/example/kiseki/kiseki/tracing/DroppedItems", "atStart", "(IILjava/util/List;)Lcom/example/kiseki/kiseki/tracing/DroppedItems;"⟩ : MethodName) (head1 (Jvm.Cond.code (⟨"com/example/kiseki/kiseki/tracing/DroppedItems", "atStart", "(IILjava/util/List;)Lcom/example/kiseki/kiseki/tracing/DroppedItems;"⟩ : MethodName) prog_46_method_2_code 6 (some (.object "com/example/kiseki/kiseki/tracing/DroppedItems")) :: ws) ({ frames := 3, cells := 0, slots := 0, locals := 60 } : Room)) (fun a U => a = #[(.int p1), (.int p2), (.ref a1)] ∧ Z.Warmed39 U.vm ∧ U.heap = h0) (fun _ _ _ _ _ => True) (fun _ U o U' => ∃ v L, o = .returned v ∧ Q_rmS00 Z p1 p2 a1 h0 n0 v U'.heap L ∧ FrameEnd U o U' L ({ frames := 3, cells := 0, slots := 0, locals := 60 } : Room).cells ({ frames := 3, cells := 0, slots := 0, locals := 60 } : Room).slots) := by
  refine MetFree.of_bodySF (plainFor_of_name pn_1) hisR ?_
  intro p e s m args below meth c s₁ Bd hml0 hP hK
  obtain ⟨rfl, hZ, hh⟩ := hP
  have hx := Bd.exec
  have hby := Bd.bytes
  have hml : c.maxLocals = 6 := hml0
  have hown : s.vm.findClass "com/example/kiseki/kiseki/tracing/DroppedItems" = some m.cls := (findClass_of_methodNamed Bd.named :)
  have hnm := (name_of_methodNamed Bd.named Bd.method).1
  have X0 : Stand p l e ({ frames := 3, cells := 0, slots := 0, locals := 60 } : Room) s m #[(.int p1), (.int p2), (.ref a1)] below meth c s₁ [] 0 0 := Stand.of_body Bd
  have e0 : s₁.heap = h0 := by rw [← hh, Bd.state]; rfl
  have N0 := Fr.nil n0
  have pre0 : ∀ t, Steps p.tables e below (s₁.setTop (mkF m 0 #[.val (.int p1), .val (.int p2), .val (.ref a1), .unset, .unset, .unset] [])) t → Steps p.tables e below (s₁.setTop (entryFrame m #[(.int p1), (.int p2), (.ref a1)] 6)) t := fun t k => castTop (ef_rmS00 m p1 p2 a1) k
  obtain ⟨cq1, kq1, q1a, q1b, q1c⟩ := isOf hZ e0 E1
  obtain ⟨_, _, ⟨T1, L1, k1, n1⟩, -, X1, ⟨Lc1, hQ1, l1, y1, z1⟩, st1⟩ := X0.interfaceBack hx (xi := (⟨"java/util/List", "size", "()I"⟩ : MethodName)) (y := (⟨"java/util/ArrayList", "size", "()I"⟩ : MethodName)) hown (mvT hZ (hw _ (List.mem_of_getElem? (i := 82) rfl))) (mvT hZ (hw _ (List.mem_of_getElem? (i := 83) rfl))) (mvT hZ (hw _ (List.mem_of_getElem? (i := 84) rfl))) (mvT hZ (hw _ (List.mem_of_getElem? (i := 85) rfl))) (mvT hZ (hw _ (List.mem_of_getElem? (i := 86) rfl))) (mvT hZ (hw _ (List.mem_of_getElem? (i := 87) rfl))) (mvT hZ (hw _ (List.mem_of_getElem? (i := 88) rfl))) (mvT hZ (hw _ (List.mem_of_getElem? (i := 89) rfl))) (by decide) (backOf (W := 1) (rmSz l Z a0 hw [] a1 (0 : Int32) h0 n0 Z0 F2) hZ (hw _ (List.mem_of_getElem? (i := 90) rfl)) (hw _ (List.mem_of_getElem? (i := 3) rfl)) (by decide) (by decide)) q1a q1b q1c (g := (mkF m 8 #[.val (.int p1), .val (.int p2), .val (.ref a1), .val (.long (0 : Int64)), .second, .val (.int (0 : Int32))] [(.ref a1), (.int (0 : Int32))])) rfl (by rw [hml]; rfl) (Steps.refl _) (argsL := []) (rest := [(.int (0 : Int32))]) (lenOf pd_7 rfl) rfl (by show 2 * 0 + _ ≤ _; exact Nat.le_of_eq rfl) (hb hby d11_8) (fun _ _ => ⟨rfl, e0, (by decide : 0 + 0 ≤ _), (by decide : 0 + 0 ≤ _)⟩)
  dsimp only [Pt.U, Pt.locs, Pt.cells, Pt.slots] at X1 l1 y1 z1 st1 hQ1
  subst l1 y1 z1
  obtain ⟨rfl, N1q, hq1⟩ := hQ1
  have N1 := Fr.app N0 N1q
  have pre2 : ∀ t, Steps p.tables e below (T1.setTop (mkF m 88 #[.val (.int p1), .val (.int p2), .val (.ref a1), .val (.long (0 : Int64)), .second, .val .null] [.null])) t → Steps p.tables e below (s₁.setTop (entryFrame m #[(.int p1), (.int p2), (.ref a1)] 6)) t := by
    intro t k
    refine pre0 t ?_
    show Steps p.tables e below (s₁.setTop (mkF m 0 #[.val (.int p1), .val (.int p2), .val (.ref a1), .unset, .unset, .unset] [])) _
    refine XS.lconst X0.here hx rfl (hb hby d11_0) ?_
    show Steps p.tables e below (s₁.setTop (mkF m 1 #[.val (.int p1), .val (.int p2), .val (.ref a1), .unset, .unset, .unset] [(.long (0 : Int64))])) _
    refine XS.lstoreN X0.here hx rfl (hb hby d11_1) rfl (l' := #[.val (.int p1), .val (.int p2), .val (.ref a1), .val (.long (0 : Int64)), .second, .unset]) rfl ?_
    show Steps p.tables e below (s₁.setTop (mkF m 2 #[.val (.int p1), .val (.int p2), .val (.ref a1), .val (.long (0 : Int64)), .second, .unset] [])) _
    refine XS.iconst X0.here hx rfl (hb hby d11_2) ?_
    show Steps p.tables e below (s₁.setTop (mkF m 3 #[.val (.int p1), .val (.int p2), .val (.ref a1), .val (.long (0 : Int64)), .second, .unset] [(.int (0 : Int32))])) _
    refine XS.istore X0.here hx rfl (hb hby d11_3) rfl (l' := #[.val (.int p1), .val (.int p2), .val (.ref a1), .val (.long (0 : Int64)), .second, .val (.int (0 : Int32))]) rfl ?_
    show Steps p.tables e below (s₁.setTop (mkF m 5 #[.val (.int p1), .val (.int p2), .val (.ref a1), .val (.long (0 : Int64)), .second, .val (.int (0 : Int32))] [])) _
    refine XS.iload X0.here hx rfl (hb hby d11_5) rfl ?_
    show Steps p.tables e below (s₁.setTop (mkF m 7 #[.val (.int p1), .val (.int p2), .val (.ref a1), .val (.long (0 : Int64)), .second, .val (.int (0 : Int32))] [(.int (0 : Int32))])) _
    refine XS.aloadN X0.here hx rfl (hb hby d11_7) rfl (rfl) ?_
    show Steps p.tables e below (s₁.setTop (mkF m 8 #[.val (.int p1), .val (.int p2), .val (.ref a1), .val (.long (0 : Int64)), .second, .val (.int (0 : Int32))] [(.ref a1), (.int (0 : Int32))])) _
    refine st1.trans ?_
    show Steps p.tables e below (T1.setTop (mkF m 13 #[.val (.int p1), .val (.int p2), .val (.ref a1), .val (.long (0 : Int64)), .second, .val (.int (0 : Int32))] [(.int (0 : Int32)), (.int (0 : Int32))])) _
    refine XS.icmpYes X1.here hx rfl (pc0 := 13) (pc' := 40) rfl (hb hby d11_13) rfl (flt (by decide : ¬ ((0 : Int32) < (0 : Int32)))).2.1 (by decide) (by decide) ?_
    show Steps p.tables e below (T1.setTop (mkF m 40 #[.val (.int p1), .val (.int p2), .val (.ref a1), .val (.long (0 : Int64)), .second, .val (.int (0 : Int32))] [])) _
    refine XS.aconstNull X1.here hx rfl (hb hby d11_40) ?_
    show Steps p.tables e below (T1.setTop (mkF m 41 #[.val (.int p1), .val (.int p2), .val (.ref a1), .val (.long (0 : Int64)), .second, .val (.int (0 : Int32))] [.null])) _
    refine XS.astore X1.here hx rfl (hb hby d11_41) rfl (rfl) (l' := #[.val (.int p1), .val (.int p2), .val (.ref a1), .val (.long (0 : Int64)), .second, .val .null]) rfl ?_
    show Steps p.tables e below (T1.setTop (mkF m 43 #[.val (.int p1), .val (.int p2), .val (.ref a1), .val (.long (0 : Int64)), .second, .val .null] [])) _
    refine XS.iloadN X1.here hx rfl (hb hby d11_43) rfl ?_
    show Steps p.tables e below (T1.setTop (mkF m 44 #[.val (.int p1), .val (.int p2), .val (.ref a1), .val (.long (0 : Int64)), .second, .val .null] [(.int p1)])) _
    refine XS.ifNo X1.here hx rfl (hb hby d11_44) rfl ((if0 _ _).trans (flt h1).2.2.1) ?_
    show Steps p.tables e below (T1.setTop (mkF m 47 #[.val (.int p1), .val (.int p2), .val (.ref a1), .val (.long (0 : Int64)), .second, .val .null] [])) _
    refine XS.iloadN X1.here hx rfl (hb hby d11_47) rfl ?_
    show Steps p.tables e below (T1.setTop (mkF m 48 #[.val (.int p1), .val (.int p2), .val (.ref a1), .val (.long (0 : Int64)), .second, .val .null] [(.int p2)])) _
    refine XS.ifNo X1.here hx rfl (hb hby d11_48) rfl ((if0 _ _).trans (flt h2).2.2.1) ?_
    show Steps p.tables e below (T1.setTop (mkF m 51 #[.val (.int p1), .val (.int p2), .val (.ref a1), .val (.long (0 : Int64)), .second, .val .null] [])) _
    refine XS.lloadN X1.here hx rfl (hb hby d11_51) rfl ?_
    show Steps p.tables e below (T1.setTop (mkF m 52 #[.val (.int p1), .val (.int p2), .val (.ref a1), .val (.long (0 : Int64)), .second, .val .null] [(.long (0 : Int64))])) _
    refine XS.lconst X1.here hx rfl (hb hby d11_52) ?_
    show Steps p.tables e below (T1.setTop (mkF m 53 #[.val (.int p1), .val (.int p2), .val (.ref a1), .val (.long (0 : Int64)), .second, .val .null] [(.long (0 : Int64)), (.long (0 : Int64))])) _
    refine XS.lcmp X1.here hx rfl (hb hby d11_53) rfl ?_
    show Steps p.tables e below (T1.setTop (mkF m 54 #[.val (.int p1), .val (.int p2), .val (.ref a1), .val (.long (0 : Int64)), .second, .val .null] [(.int (lcmpW (0 : Int64) (0 : Int64)))])) _
    refine XS.ifYes X1.here hx rfl (pc0 := 54) (pc' := 86) rfl (hb hby d11_54) rfl ((if0 _ _).trans (flt (mt (lw_gt (0 : Int64) (0 : Int64)).mp h3)).2.2.2) (by decide) (by decide) ?_
    show Steps p.tables e below (T1.setTop (mkF m 86 #[.val (.int p1), .val (.int p2), .val (.ref a1), .val (.long (0 : Int64)), .second, .val .null] [])) _
    refine XS.aload X1.here hx rfl (hb hby d11_86) rfl (rfl) ?_
    show Steps p.tables e below (T1.setTop (mkF m 88 #[.val (.int p1), .val (.int p2), .val (.ref a1), .val (.long (0 : Int64)), .second, .val .null] [.null])) _
    exact k
  obtain ⟨fs, hr, hrun, hended, hW, hsame⟩ := X1.leave (v := some .null) (fun h => by rw [Bd.returns] at h; cases h)
  refine ⟨_, _, pre2 _ ?_, hrun, hended, _, _, rfl, ?_, ⟨_, rfl⟩, hW, hsame.mono (by decide) (by decide)⟩
  · exact retOut X1 hx Bd.returns (by first | rfl | simp [narrow]) (Or.inr (Or.inr (Or.inr (Or.inr ⟨rfl, rfl, rfl⟩)))) (hb hby d11_88) hr
  · show Q_rmS00 Z p1 p2 a1 h0 n0 _ T1.heap _
    rw [hq1]
    exact ⟨rfl, N1, rfl⟩
theorem ef_rmS01 (m : MethodId) (x0 : Int32) (x1 : Int32) (x2 : Addr) : entryFrame m #[(.int x0), (.int x1), (.ref x2)] 6 = mkF m 0 #[.val (.int x0), .val (.int x1), .val (.ref x2), .unset, .unset, .unset] [] := by first | (simp [entryFrame, mkF, argsToLocals, Value.category]; done) | rfl
theorem d11_57 : decode prog_46_method_2_code 57 = .ok (.new 22, 3) := by decide +kernel
theorem d11_60 : decode prog_46_method_2_code 60 = .ok (.dup, 1) := by decide +kernel
theorem d11_61 : decode prog_46_method_2_code 61 = .ok (.invokespecial 24, 3) := by decide +kernel
theorem d11_64 : decode prog_46_method_2_code 64 = .ok (.astore 5, 2) := by decide +kernel
theorem d11_66 : decode prog_46_method_2_code 66 = .ok (.aload 5, 2) := by decide +kernel
theorem d11_68 : decode prog_46_method_2_code 68 = .ok (.iload_n 0, 1) := by decide +kernel
theorem d11_69 : decode prog_46_method_2_code 69 = .ok (.i2l, 1) := by decide +kernel
theorem d11_70 : decode prog_46_method_2_code 70 = .ok (.putfield 25, 3) := by decide +kernel
theorem d11_73 : decode prog_46_method_2_code 73 = .ok (.aload 5, 2) := by decide +kernel
theorem d11_75 : decode prog_46_method_2_code 75 = .ok (.iload_n 1, 1) := by decide +kernel
theorem d11_76 : decode prog_46_method_2_code 76 = .ok (.i2l, 1) := by decide +kernel
theorem d11_77 : decode prog_46_method_2_code 77 = .ok (.putfield 29, 3) := by decide +kernel
theorem d11_80 : decode prog_46_method_2_code 80 = .ok (.aload 5, 2) := by decide +kernel
theorem d11_82 : decode prog_46_method_2_code 82 = .ok (.lload_n 3, 1) := by decide +kernel
theorem d11_83 : decode prog_46_method_2_code 83 = .ok (.putfield 32, 3) := by decide +kernel
def Q_rmS01 (Z : State) (p1 : Int32) (p2 : Int32) (a1 : Addr) (h0 : Heap) (n0 : Nat) (v : Option Value) (h : Heap) (L : List Loc) : Prop := ∃ b0 : Addr, v = some (.ref b0) ∧ Fr n0 L ∧ Keep h0 h [] ∧ n0 ≤ b0 ∧ Exa Z h b0 "com/example/kiseki/kiseki/tracing/DroppedItems" ∧ Fld Z h b0 "com/example/kiseki/kiseki/tracing/DroppedItems" "attributesBeforeStart" "J" (.long p1.toInt64) ∧ Fld Z h b0 "com/example/kiseki/kiseki/tracing/DroppedItems" "attributesSinceStart" "J" (.long (0 : Int64)) ∧ Fld Z h b0 "com/example/kiseki/kiseki/tracing/DroppedItems" "events" "J" (.long (0 : Int64)) ∧ Fld Z h b0 "com/example/kiseki/kiseki/tracing/DroppedItems" "links" "J" (.long p2.toInt64) ∧ Fld Z h b0 "com/example/kiseki/kiseki/tracing/DroppedItems" "eventAttributes" "J" (.long (0 : Int64)) ∧ Fld Z h b0 "com/example/kiseki/kiseki/tracing/DroppedItems" "linkAttributes" "J" (.long (0 : Int64)) ∧ Fld Z h b0 "com/example/kiseki/kiseki/tracing/DroppedItems" "attributesElsewhere" "J" (.long (0 : Int64)) ∧ Fld Z h b0 "com/example/kiseki/kiseki/tracing/DroppedItems" "eventsElsewhere" "J" (.long (0 : Int64)) ∧ Fld Z h b0 "com/example/kiseki/kiseki/tracing/DroppedItems" "linksElsewhere" "J" (.long (0 : Int64))
set_option maxRecDepth 65536 in
set_option maxHeartbeats 40000000 in
theorem rmS01 (l : Launch) (Z : State) (a0 : Array Value) (hw : ∀ d ∈ tables_1, d.before a0 Z = true) (ws : List Jvm.Cond) (p1 : Int32) (p2 : Int32) (a1 : Addr) (h0 : Heap) (n0 : Nat) (Z0 : n0 ≤ h0.size) (E1 : Exa Z h0 a1 "java/util/ArrayList") (F2 : Fld Z h0 a1 "java/util/ArrayList" "size" "I" (.int (0 : Int32))) (hc : (0 : Int32) < p1 ∨ (0 : Int32) < p2 ∨ (0 : Int64) < (0 : Int64)) :
    MetFree l (⟨"com/example/kiseki/kiseki/tracing/DroppedItems", "atStart", "(IILjava/util/List;)Lcom/example/kiseki/kiseki/tracing/DroppedItems;"⟩ : MethodName) (head1 (Jvm.Cond.code (⟨"com/example/kiseki/kiseki/tracing/DroppedItems", "atStart", "(IILjava/util/List;)Lcom/example/kiseki/kiseki/tracing/DroppedItems;"⟩ : MethodName) prog_46_method_2_code 6 (some (.object "com/example/kiseki/kiseki/tracing/DroppedItems")) :: ws) ({ frames := 3, cells := 1, slots := 9, locals := 60 } : Room)) (fun a U => a = #[(.int p1), (.int p2), (.ref a1)] ∧ Z.Warmed39 U.vm ∧ U.heap = h0) (fun _ _ _ _ _ => True) (fun _ U o U' => ∃ v L, o = .returned v ∧ Q_rmS01 Z p1 p2 a1 h0 n0 v U'.heap L ∧ FrameEnd U o U' L ({ frames := 3, cells := 1, slots := 9, locals := 60 } : Room).cells ({ frames := 3, cells := 1, slots := 9, locals := 60 } : Room).slots) := by
  refine MetFree.of_bodySF (plainFor_of_name pn_1) hisR ?_
  intro p e s m args below meth c s₁ Bd hml0 hP hK
  obtain ⟨rfl, hZ, hh⟩ := hP
  have hx := Bd.exec
  have hby := Bd.bytes
  have hml : c.maxLocals = 6 := hml0
  have hown : s.vm.findClass "com/example/kiseki/kiseki/tracing/DroppedItems" = some m.cls := (findClass_of_methodNamed Bd.named :)
  have hnm := (name_of_methodNamed Bd.named Bd.method).1
  have X0 : Stand p l e ({ frames := 3, cells := 1, slots := 9, locals := 60 } : Room) s m #[(.int p1), (.int p2), (.ref a1)] below meth c s₁ [] 0 0 := Stand.of_body Bd
  have e0 : s₁.heap = h0 := by rw [← hh, Bd.state]; rfl
  have N0 := Fr.nil n0
  have pre0 : ∀ t, Steps p.tables e below (s₁.setTop (mkF m 0 #[.val (.int p1), .val (.int p2), .val (.ref a1), .unset, .unset, .unset] [])) t → Steps p.tables e below (s₁.setTop (entryFrame m #[(.int p1), (.int p2), (.ref a1)] 6)) t := fun t k => castTop (ef_rmS01 m p1 p2 a1) k
  obtain ⟨cq1, kq1, q1a, q1b, q1c⟩ := isOf hZ e0 E1
  obtain ⟨_, _, ⟨T1, L1, k1, n1⟩, -, X1, ⟨Lc1, hQ1, l1, y1, z1⟩, st1⟩ := X0.interfaceBack hx (xi := (⟨"java/util/List", "size", "()I"⟩ : MethodName)) (y := (⟨"java/util/ArrayList", "size", "()I"⟩ : MethodName)) hown (mvT hZ (hw _ (List.mem_of_getElem? (i := 82) rfl))) (mvT hZ (hw _ (List.mem_of_getElem? (i := 83) rfl))) (mvT hZ (hw _ (List.mem_of_getElem? (i := 84) rfl))) (mvT hZ (hw _ (List.mem_of_getElem? (i := 85) rfl))) (mvT hZ (hw _ (List.mem_of_getElem? (i := 86) rfl))) (mvT hZ (hw _ (List.mem_of_getElem? (i := 87) rfl))) (mvT hZ (hw _ (List.mem_of_getElem? (i := 88) rfl))) (mvT hZ (hw _ (List.mem_of_getElem? (i := 89) rfl))) (by decide) (backOf (W := 1) (rmSz l Z a0 hw [] a1 (0 : Int32) h0 n0 Z0 F2) hZ (hw _ (List.mem_of_getElem? (i := 90) rfl)) (hw _ (List.mem_of_getElem? (i := 3) rfl)) (by decide) (by decide)) q1a q1b q1c (g := (mkF m 8 #[.val (.int p1), .val (.int p2), .val (.ref a1), .val (.long (0 : Int64)), .second, .val (.int (0 : Int32))] [(.ref a1), (.int (0 : Int32))])) rfl (by rw [hml]; rfl) (Steps.refl _) (argsL := []) (rest := [(.int (0 : Int32))]) (lenOf pd_7 rfl) rfl (by show 2 * 0 + _ ≤ _; exact Nat.le_of_eq rfl) (hb hby d11_8) (fun _ _ => ⟨rfl, e0, (by decide : 0 + 0 ≤ _), (by decide : 0 + 0 ≤ _)⟩)
  dsimp only [Pt.U, Pt.locs, Pt.cells, Pt.slots] at X1 l1 y1 z1 st1 hQ1
  subst l1 y1 z1
  obtain ⟨rfl, N1q, hq1⟩ := hQ1
  have N1 := Fr.app N0 N1q
  have pre2 : ∀ t, Steps p.tables e below (T1.setTop (mkF m 44 #[.val (.int p1), .val (.int p2), .val (.ref a1), .val (.long (0 : Int64)), .second, .val .null] [(.int p1)])) t → Steps p.tables e below (s₁.setTop (entryFrame m #[(.int p1), (.int p2), (.ref a1)] 6)) t := by
    intro t k
    refine pre0 t ?_
    show Steps p.tables e below (s₁.setTop (mkF m 0 #[.val (.int p1), .val (.int p2), .val (.ref a1), .unset, .unset, .unset] [])) _
    refine XS.lconst X0.here hx rfl (hb hby d11_0) ?_
    show Steps p.tables e below (s₁.setTop (mkF m 1 #[.val (.int p1), .val (.int p2), .val (.ref a1), .unset, .unset, .unset] [(.long (0 : Int64))])) _
    refine XS.lstoreN X0.here hx rfl (hb hby d11_1) rfl (l' := #[.val (.int p1), .val (.int p2), .val (.ref a1), .val (.long (0 : Int64)), .second, .unset]) rfl ?_
    show Steps p.tables e below (s₁.setTop (mkF m 2 #[.val (.int p1), .val (.int p2), .val (.ref a1), .val (.long (0 : Int64)), .second, .unset] [])) _
    refine XS.iconst X0.here hx rfl (hb hby d11_2) ?_
    show Steps p.tables e below (s₁.setTop (mkF m 3 #[.val (.int p1), .val (.int p2), .val (.ref a1), .val (.long (0 : Int64)), .second, .unset] [(.int (0 : Int32))])) _
    refine XS.istore X0.here hx rfl (hb hby d11_3) rfl (l' := #[.val (.int p1), .val (.int p2), .val (.ref a1), .val (.long (0 : Int64)), .second, .val (.int (0 : Int32))]) rfl ?_
    show Steps p.tables e below (s₁.setTop (mkF m 5 #[.val (.int p1), .val (.int p2), .val (.ref a1), .val (.long (0 : Int64)), .second, .val (.int (0 : Int32))] [])) _
    refine XS.iload X0.here hx rfl (hb hby d11_5) rfl ?_
    show Steps p.tables e below (s₁.setTop (mkF m 7 #[.val (.int p1), .val (.int p2), .val (.ref a1), .val (.long (0 : Int64)), .second, .val (.int (0 : Int32))] [(.int (0 : Int32))])) _
    refine XS.aloadN X0.here hx rfl (hb hby d11_7) rfl (rfl) ?_
    show Steps p.tables e below (s₁.setTop (mkF m 8 #[.val (.int p1), .val (.int p2), .val (.ref a1), .val (.long (0 : Int64)), .second, .val (.int (0 : Int32))] [(.ref a1), (.int (0 : Int32))])) _
    refine st1.trans ?_
    show Steps p.tables e below (T1.setTop (mkF m 13 #[.val (.int p1), .val (.int p2), .val (.ref a1), .val (.long (0 : Int64)), .second, .val (.int (0 : Int32))] [(.int (0 : Int32)), (.int (0 : Int32))])) _
    refine XS.icmpYes X1.here hx rfl (pc0 := 13) (pc' := 40) rfl (hb hby d11_13) rfl (flt (by decide : ¬ ((0 : Int32) < (0 : Int32)))).2.1 (by decide) (by decide) ?_
    show Steps p.tables e below (T1.setTop (mkF m 40 #[.val (.int p1), .val (.int p2), .val (.ref a1), .val (.long (0 : Int64)), .second, .val (.int (0 : Int32))] [])) _
    refine XS.aconstNull X1.here hx rfl (hb hby d11_40) ?_
    show Steps p.tables e below (T1.setTop (mkF m 41 #[.val (.int p1), .val (.int p2), .val (.ref a1), .val (.long (0 : Int64)), .second, .val (.int (0 : Int32))] [.null])) _
    refine XS.astore X1.here hx rfl (hb hby d11_41) rfl (rfl) (l' := #[.val (.int p1), .val (.int p2), .val (.ref a1), .val (.long (0 : Int64)), .second, .val .null]) rfl ?_
    show Steps p.tables e below (T1.setTop (mkF m 43 #[.val (.int p1), .val (.int p2), .val (.ref a1), .val (.long (0 : Int64)), .second, .val .null] [])) _
    refine XS.iloadN X1.here hx rfl (hb hby d11_43) rfl ?_
    show Steps p.tables e below (T1.setTop (mkF m 44 #[.val (.int p1), .val (.int p2), .val (.ref a1), .val (.long (0 : Int64)), .second, .val .null] [(.int p1)])) _
    exact k
  by_cases h44 : (0 : Int32) < p1
  · skip
    obtain ⟨T3, h3, X3, e3, E3, A3, D3, -, st3⟩ := newO X1 hx hZ hown (hw _ (List.mem_of_getElem? (i := 119) rfl)) (hw _ (List.mem_of_getElem? (i := 120) rfl)) (hw _ (List.mem_of_getElem? (i := 80) rfl)) hq1 (g := (mkF m 57 #[.val (.int p1), .val (.int p2), .val (.ref a1), .val (.long (0 : Int64)), .second, .val .null] [])) rfl (hb hby d11_57) (by decide) (by decide)
    obtain ⟨b3, g3⟩ : ∃ z, z = h0.size := ⟨_, rfl⟩
    rw [← g3] at A3 D3 st3
    have ne_a1_b3 : a1 ≠ b3 := Nat.ne_of_lt (Nat.lt_of_lt_of_le E1.lt (Nat.le_of_eq g3.symm))
    have F3_attributesBeforeStart : Fld Z h3 b3 "com/example/kiseki/kiseki/tracing/DroppedItems" "attributesBeforeStart" "J" (.long (0 : Int64)) := D3 (Or.inl (hw _ (List.mem_of_getElem? (i := 126) rfl))) (ty := .long) (by decide)
    have F3_links : Fld Z h3 b3 "com/example/kiseki/kiseki/tracing/DroppedItems" "links" "J" (.long (0 : Int64)) := D3 (Or.inl (hw _ (List.mem_of_getElem? (i := 128) rfl))) (ty := .long) (by decide)
    have F3_linkAttributes : Fld Z h3 b3 "com/example/kiseki/kiseki/tracing/DroppedItems" "linkAttributes" "J" (.long (0 : Int64)) := D3 (Or.inl (hw _ (List.mem_of_getElem? (i := 130) rfl))) (ty := .long) (by decide)
    have F3_attributesSinceStart : Fld Z h3 b3 "com/example/kiseki/kiseki/tracing/DroppedItems" "attributesSinceStart" "J" (.long (0 : Int64)) := D3 (Or.inl (hw _ (List.mem_of_getElem? (i := 138) rfl))) (ty := .long) (by decide)
    have F3_events : Fld Z h3 b3 "com/example/kiseki/kiseki/tracing/DroppedItems" "events" "J" (.long (0 : Int64)) := D3 (Or.inl (hw _ (List.mem_of_getElem? (i := 140) rfl))) (ty := .long) (by decide)
    have F3_eventAttributes : Fld Z h3 b3 "com/example/kiseki/kiseki/tracing/DroppedItems" "eventAttributes" "J" (.long (0 : Int64)) := D3 (Or.inl (hw _ (List.mem_of_getElem? (i := 144) rfl))) (ty := .long) (by decide)
    have F3_attributesElsewhere : Fld Z h3 b3 "com/example/kiseki/kiseki/tracing/DroppedItems" "attributesElsewhere" "J" (.long (0 : Int64)) := D3 (Or.inl (hw _ (List.mem_of_getElem? (i := 168) rfl))) (ty := .long) (by decide)
    have F3_eventsElsewhere : Fld Z h3 b3 "com/example/kiseki/kiseki/tracing/DroppedItems" "eventsElsewhere" "J" (.long (0 : Int64)) := D3 (Or.inl (hw _ (List.mem_of_getElem? (i := 170) rfl))) (ty := .long) (by decide)
    have F3_linksElsewhere : Fld Z h3 b3 "com/example/kiseki/kiseki/tracing/DroppedItems" "linksElsewhere" "J" (.long (0 : Int64)) := D3 (Or.inl (hw _ (List.mem_of_getElem? (i := 172) rfl))) (ty := .long) (by decide)
    have g_b3 : n0 ≤ b3 := Nat.le_trans Z0 (Nat.le_of_eq g3.symm)
    have sz_b3 : h0.size ≤ b3 := (Nat.le_trans (Keep.refl h0 []).1 (Nat.le_of_eq g3.symm))
    have K3 : Keep h0 h3 [] := (Keep.refl h0 []).ext E3
    obtain ⟨_, _, ⟨T4, L4, k4, n4⟩, -, X4, ⟨Lc4, hQ4, l4, y4, z4⟩, st4⟩ := X3.specialBack hx (y := (⟨"com/example/kiseki/kiseki/tracing/DroppedItems", "<init>", "()V"⟩ : MethodName)) rfl hown (mvT hZ (hw _ (List.mem_of_getElem? (i := 121) rfl))) (mvT hZ (hw _ (List.mem_of_getElem? (i := 122) rfl))) (mvT hZ (hw _ (List.mem_of_getElem? (i := 123) rfl))) (by decide) (backOf (W := 1) (rmDI l Z a0 hw [] b3  h3 n0 (Nat.le_trans Z0 E3.1) ) hZ (hw _ (List.mem_of_getElem? (i := 123) rfl)) (hw _ (List.mem_of_getElem? (i := 80) rfl)) (by decide) (by decide)) (g := (mkF m 61 #[.val (.int p1), .val (.int p2), .val (.ref a1), .val (.long (0 : Int64)), .second, .val .null] [(.ref b3), (.ref b3)])) rfl (by rw [hml]; rfl) (Steps.refl _) (a := b3) (argsL := []) (rest := [(.ref b3)]) (lenOf pd_0 rfl) rfl (by show 2 * 0 + _ ≤ _; exact Nat.le_of_eq rfl) (hb hby d11_61) (fun _ _ => ⟨rfl, e3, (by decide : 1 + 0 ≤ _), (by decide : 9 + 0 ≤ _)⟩)
    dsimp only [Pt.U, Pt.locs, Pt.cells, Pt.slots] at X4 l4 y4 z4 st4 hQ4
    subst l4 y4 z4
    obtain ⟨rfl, N4q, hq4⟩ := hQ4
    have N4 := Fr.app N1 N4q
    obtain ⟨T5, h5, X5, e5, W5, st5⟩ := putF X4 hx hZ hown (host := "") (Or.inl (hw _ (List.mem_of_getElem? (i := 125) rfl))) Via.refl hq4 F3_attributesBeforeStart A3 (Or.inl (hw _ (List.mem_of_getElem? (i := 126) rfl))) (hw _ (List.mem_of_getElem? (i := 120) rfl)) (ty := .long) (by decide) rfl rfl (g := (mkF m 70 #[.val (.int p1), .val (.int p2), .val (.ref a1), .val (.long (0 : Int64)), .second, .val (.ref b3)] [(.long (p1.toInt64)), (.ref b3)])) rfl rfl (hb hby d11_70)
    have Fw5 := F3_attributesBeforeStart.same W5
    have K5 : Keep h0 h5 [] := K3.wr W5 (Or.inr sz_b3)
    have N5 := Fr.snoc X5 N4 g_b3
    obtain ⟨T6, h6, X6, e6, W6, st6⟩ := putF X5 hx hZ hown (host := "") (Or.inl (hw _ (List.mem_of_getElem? (i := 127) rfl))) Via.refl e5 (F3_links.other W5 (Or.inr (slot_ne (Or.inl (hw _ (List.mem_of_getElem? (i := 128) rfl))) (Or.inl (hw _ (List.mem_of_getElem? (i := 126) rfl))) (by decide) (t := .long) (t' := .long) (by decide) (by decide)))) (A3.wr W5) (Or.inl (hw _ (List.mem_of_getElem? (i := 128) rfl))) (hw _ (List.mem_of_getElem? (i := 120) rfl)) (ty := .long) (by decide) rfl rfl (g := (mkF m 77 #[.val (.int p1), .val (.int p2), .val (.ref a1), .val (.long (0 : Int64)), .second, .val (.ref b3)] [(.long (p2.toInt64)), (.ref b3)])) rfl rfl (hb hby d11_77)
    have Fw6 := (F3_links.other W5 (Or.inr (slot_ne (Or.inl (hw _ (List.mem_of_getElem? (i := 128) rfl))) (Or.inl (hw _ (List.mem_of_getElem? (i := 126) rfl))) (by decide) (t := .long) (t' := .long) (by decide) (by decide)))).same W6
    have K6 : Keep h0 h6 [] := K5.wr W6 (Or.inr sz_b3)
    have N6 := Fr.snoc X6 N5 g_b3
    obtain ⟨T7, h7, X7, e7, W7, st7⟩ := putF X6 hx hZ hown (host := "") (Or.inl (hw _ (List.mem_of_getElem? (i := 129) rfl))) Via.refl e6 ((F3_linkAttributes.other W5 (Or.inr (slot_ne (Or.inl (hw _ (List.mem_of_getElem? (i := 130) rfl))) (Or.inl (hw _ (List.mem_of_getElem? (i := 126) rfl))) (by decide) (t := .long) (t' := .long) (by decide) (by decide)))).other W6 (Or.inr (slot_ne (Or.inl (hw _ (List.mem_of_getElem? (i := 130) rfl))) (Or.inl (hw _ (List.mem_of_getElem? (i := 128) rfl))) (by decide) (t := .long) (t' := .long) (by decide) (by decide)))) ((A3.wr W5).wr W6) (Or.inl (hw _ (List.mem_of_getElem? (i := 130) rfl))) (hw _ (List.mem_of_getElem? (i := 120) rfl)) (ty := .long) (by decide) rfl rfl (g := (mkF m 83 #[.val (.int p1), .val (.int p2), .val (.ref a1), .val (.long (0 : Int64)), .second, .val (.ref b3)] [(.long (0 : Int64)), (.ref b3)])) rfl rfl (hb hby d11_83)
    have Fw7 := ((F3_linkAttributes.other W5 (Or.inr (slot_ne (Or.inl (hw _ (List.mem_of_getElem? (i := 130) rfl))) (Or.inl (hw _ (List.mem_of_getElem? (i := 126) rfl))) (by decide) (t := .long) (t' := .long) (by decide) (by decide)))).other W6 (Or.inr (slot_ne (Or.inl (hw _ (List.mem_of_getElem? (i := 130) rfl))) (Or.inl (hw _ (List.mem_of_getElem? (i := 128) rfl))) (by decide) (t := .long) (t' := .long) (by decide) (by decide)))).same W7
    have K7 : Keep h0 h7 [] := K6.wr W7 (Or.inr sz_b3)
    have N7 := Fr.snoc X7 N6 g_b3
    have pre8 : ∀ t, Steps p.tables e below (T7.setTop (mkF m 88 #[.val (.int p1), .val (.int p2), .val (.ref a1), .val (.long (0 : Int64)), .second, .val (.ref b3)] [(.ref b3)])) t → Steps p.tables e below (s₁.setTop (entryFrame m #[(.int p1), (.int p2), (.ref a1)] 6)) t := by
      intro t k
      refine pre2 t ?_
      refine XS.ifYes X1.here hx rfl (pc0 := 44) (pc' := 57) rfl (hb hby d11_44) rfl ((if0 _ _).trans (tlt h44).2.2.1) (by decide) (by decide) ?_
      show Steps p.tables e below (T1.setTop (mkF m 57 #[.val (.int p1), .val (.int p2), .val (.ref a1), .val (.long (0 : Int64)), .second, .val .null] [])) _
      refine st3 _ ?_
      show Steps p.tables e below (T3.setTop (mkF m 60 #[.val (.int p1), .val (.int p2), .val (.ref a1), .val (.long (0 : Int64)), .second, .val .null] [(.ref b3)])) _
      refine XS.dup X3.here hx rfl (hb hby d11_60) rfl rfl ?_
      show Steps p.tables e below (T3.setTop (mkF m 61 #[.val (.int p1), .val (.int p2), .val (.ref a1), .val (.long (0 : Int64)), .second, .val .null] [(.ref b3), (.ref b3)])) _
      refine st4.trans ?_
      show Steps p.tables e below (T4.setTop (mkF m 64 #[.val (.int p1), .val (.int p2), .val (.ref a1), .val (.long (0 : Int64)), .second, .val .null] [(.ref b3)])) _
      refine XS.astore X4.here hx rfl (hb hby d11_64) rfl (rfl) (l' := #[.val (.int p1), .val (.int p2), .val (.ref a1), .val (.long (0 : Int64)), .second, .val (.ref b3)]) rfl ?_
      show Steps p.tables e below (T4.setTop (mkF m 66 #[.val (.int p1), .val (.int p2), .val (.ref a1), .val (.long (0 : Int64)), .second, .val (.ref b3)] [])) _
      refine XS.aload X4.here hx rfl (hb hby d11_66) rfl (rfl) ?_
      show Steps p.tables e below (T4.setTop (mkF m 68 #[.val (.int p1), .val (.int p2), .val (.ref a1), .val (.long (0 : Int64)), .second, .val (.ref b3)] [(.ref b3)])) _
      refine XS.iloadN X4.here hx rfl (hb hby d11_68) rfl ?_
      show Steps p.tables e below (T4.setTop (mkF m 69 #[.val (.int p1), .val (.int p2), .val (.ref a1), .val (.long (0 : Int64)), .second, .val (.ref b3)] [(.int p1), (.ref b3)])) _
      refine XS.i2l X4.here hx rfl (hb hby d11_69) rfl ?_
      show Steps p.tables e below (T4.setTop (mkF m 70 #[.val (.int p1), .val (.int p2), .val (.ref a1), .val (.long (0 : Int64)), .second, .val (.ref b3)] [(.long (p1.toInt64)), (.ref b3)])) _
      refine st5 _ ?_
      show Steps p.tables e below (T5.setTop (mkF m 73 #[.val (.int p1), .val (.int p2), .val (.ref a1), .val (.long (0 : Int64)), .second, .val (.ref b3)] [])) _
      refine XS.aload X5.here hx rfl (hb hby d11_73) rfl (rfl) ?_
      show Steps p.tables e below (T5.setTop (mkF m 75 #[.val (.int p1), .val (.int p2), .val (.ref a1), .val (.long (0 : Int64)), .second, .val (.ref b3)] [(.ref b3)])) _
      refine XS.iloadN X5.here hx rfl (hb hby d11_75) rfl ?_
      show Steps p.tables e below (T5.setTop (mkF m 76 #[.val (.int p1), .val (.int p2), .val (.ref a1), .val (.long (0 : Int64)), .second, .val (.ref b3)] [(.int p2), (.ref b3)])) _
      refine XS.i2l X5.here hx rfl (hb hby d11_76) rfl ?_
      show Steps p.tables e below (T5.setTop (mkF m 77 #[.val (.int p1), .val (.int p2), .val (.ref a1), .val (.long (0 : Int64)), .second, .val (.ref b3)] [(.long (p2.toInt64)), (.ref b3)])) _
      refine st6 _ ?_
      show Steps p.tables e below (T6.setTop (mkF m 80 #[.val (.int p1), .val (.int p2), .val (.ref a1), .val (.long (0 : Int64)), .second, .val (.ref b3)] [])) _
      refine XS.aload X6.here hx rfl (hb hby d11_80) rfl (rfl) ?_
      show Steps p.tables e below (T6.setTop (mkF m 82 #[.val (.int p1), .val (.int p2), .val (.ref a1), .val (.long (0 : Int64)), .second, .val (.ref b3)] [(.ref b3)])) _
      refine XS.lloadN X6.here hx rfl (hb hby d11_82) rfl ?_
      show Steps p.tables e below (T6.setTop (mkF m 83 #[.val (.int p1), .val (.int p2), .val (.ref a1), .val (.long (0 : Int64)), .second, .val (.ref b3)] [(.long (0 : Int64)), (.ref b3)])) _
      refine st7 _ ?_
      show Steps p.tables e below (T7.setTop (mkF m 86 #[.val (.int p1), .val (.int p2), .val (.ref a1), .val (.long (0 : Int64)), .second, .val (.ref b3)] [])) _
      refine XS.aload X7.here hx rfl (hb hby d11_86) rfl (rfl) ?_
      show Steps p.tables e below (T7.setTop (mkF m 88 #[.val (.int p1), .val (.int p2), .val (.ref a1), .val (.long (0 : Int64)), .second, .val (.ref b3)] [(.ref b3)])) _
      exact k
    obtain ⟨fs, hr, hrun, hended, hW, hsame⟩ := X7.leave (v := some (.ref b3)) (fun h => by rw [Bd.returns] at h; cases h)
    refine ⟨_, _, pre8 _ ?_, hrun, hended, _, _, rfl, ?_, ⟨_, rfl⟩, hW, hsame.mono (by decide) (by decide)⟩
    · exact retOut X7 hx Bd.returns (by first | rfl | simp [narrow]) (Or.inr (Or.inr (Or.inr (Or.inr ⟨rfl, rfl, rfl⟩)))) (hb hby d11_88) hr
    · show Q_rmS01 Z p1 p2 a1 h0 n0 _ T7.heap _
      rw [e7]
      exact ⟨b3, rfl, N7, K7, g_b3, (((A3.wr W5).wr W6).wr W7), ((Fw5.other W6 (Or.inr (slot_ne (Or.inl (hw _ (List.mem_of_getElem? (i := 126) rfl))) (Or.inl (hw _ (List.mem_of_getElem? (i := 128) rfl))) (by decide) (t := .long) (t' := .long) (by decide) (by decide)))).other W7 (Or.inr (slot_ne (Or.inl (hw _ (List.mem_of_getElem? (i := 126) rfl))) (Or.inl (hw _ (List.mem_of_getElem? (i := 130) rfl))) (by decide) (t := .long) (t' := .long) (by decide) (by decide)))), (((F3_attributesSinceStart.other W5 (Or.inr (slot_ne (Or.inl (hw _ (List.mem_of_getElem? (i := 138) rfl))) (Or.inl (hw _ (List.mem_of_getElem? (i := 126) rfl))) (by decide) (t := .long) (t' := .long) (by decide) (by decide)))).other W6 (Or.inr (slot_ne (Or.inl (hw _ (List.mem_of_getElem? (i := 138) rfl))) (Or.inl (hw _ (List.mem_of_getElem? (i := 128) rfl))) (by decide) (t := .long) (t' := .long) (by decide) (by decide)))).other W7 (Or.inr (slot_ne (Or.inl (hw _ (List.mem_of_getElem? (i := 138) rfl))) (Or.inl (hw _ (List.mem_of_getElem? (i := 130) rfl))) (by decide) (t := .long) (t' := .long) (by decide) (by decide)))), (((F3_events.other W5 (Or.inr (slot_ne (Or.inl (hw _ (List.mem_of_getElem? (i := 140) rfl))) (Or.inl (hw _ (List.mem_of_getElem? (i := 126) rfl))) (by decide) (t := .long) (t' := .long) (by decide) (by decide)))).other W6 (Or.inr (slot_ne (Or.inl (hw _ (List.mem_of_getElem? (i := 140) rfl))) (Or.inl (hw _ (List.mem_of_getElem? (i := 128) rfl))) (by decide) (t := .long) (t' := .long) (by decide) (by decide)))).other W7 (Or.inr (slot_ne (Or.inl (hw _ (List.mem_of_getElem? (i := 140) rfl))) (Or.inl (hw _ (List.mem_of_getElem? (i := 130) rfl))) (by decide) (t := .long) (t' := .long) (by decide) (by decide)))), (Fw6.other W7 (Or.inr (slot_ne (Or.inl (hw _ (List.mem_of_getElem? (i := 128) rfl))) (Or.inl (hw _ (List.mem_of_getElem? (i := 130) rfl))) (by decide) (t := .long) (t' := .long) (by decide) (by decide)))), (((F3_eventAttributes.other W5 (Or.inr (slot_ne (Or.inl (hw _ (List.mem_of_getElem? (i := 144) rfl))) (Or.inl (hw _ (List.mem_of_getElem? (i := 126) rfl))) (by decide) (t := .long) (t' := .long) (by decide) (by decide)))).other W6 (Or.inr (slot_ne (Or.inl (hw _ (List.mem_of_getElem? (i := 144) rfl))) (Or.inl (hw _ (List.mem_of_getElem? (i := 128) rfl))) (by decide) (t := .long) (t' := .long) (by decide) (by decide)))).other W7 (Or.inr (slot_ne (Or.inl (hw _ (List.mem_of_getElem? (i := 144) rfl))) (Or.inl (hw _ (List.mem_of_getElem? (i := 130) rfl))) (by decide) (t := .long) (t' := .long) (by decide) (by decide)))), Fw7, (((F3_attributesElsewhere.other W5 (Or.inr (slot_ne (Or.inl (hw _ (List.mem_of_getElem? (i := 168) rfl))) (Or.inl (hw _ (List.mem_of_getElem? (i := 126) rfl))) (by decide) (t := .long) (t' := .long) (by decide) (by decide)))).other W6 (Or.inr (slot_ne (Or.inl (hw _ (List.mem_of_getElem? (i := 168) rfl))) (Or.inl (hw _ (List.mem_of_getElem? (i := 128) rfl))) (by decide) (t := .long) (t' := .long) (by decide) (by decide)))).other W7 (Or.inr (slot_ne (Or.inl (hw _ (List.mem_of_getElem? (i := 168) rfl))) (Or.inl (hw _ (List.mem_of_getElem? (i := 130) rfl))) (by decide) (t := .long) (t' := .long) (by decide) (by decide)))), (((F3_eventsElsewhere.other W5 (Or.inr (slot_ne (Or.inl (hw _ (List.mem_of_getElem? (i := 170) rfl))) (Or.inl (hw _ (List.mem_of_getElem? (i := 126) rfl))) (by decide) (t := .long) (t' := .long) (by decide) (by decide)))).other W6 (Or.inr (slot_ne (Or.inl (hw _ (List.mem_of_getElem? (i := 170) rfl))) (Or.inl (hw _ (List.mem_of_getElem? (i := 128) rfl))) (by decide) (t := .long) (t' := .long) (by decide) (by decide)))).other W7 (Or.inr (slot_ne (Or.inl (hw _ (List.mem_of_getElem? (i := 170) rfl))) (Or.inl (hw _ (List.mem_of_getElem? (i := 130) rfl))) (by decide) (t := .long) (t' := .long) (by decide) (by decide)))), (((F3_linksElsewhere.other W5 (Or.inr (slot_ne (Or.inl (hw _ (List.mem_of_getElem? (i := 172) rfl))) (Or.inl (hw _ (List.mem_of_getElem? (i := 126) rfl))) (by decide) (t := .long) (t' := .long) (by decide) (by decide)))).other W6 (Or.inr (slot_ne (Or.inl (hw _ (List.mem_of_getElem? (i := 172) rfl))) (Or.inl (hw _ (List.mem_of_getElem? (i := 128) rfl))) (by decide) (t := .long) (t' := .long) (by decide) (by decide)))).other W7 (Or.inr (slot_ne (Or.inl (hw _ (List.mem_of_getElem? (i := 172) rfl))) (Or.inl (hw _ (List.mem_of_getElem? (i := 130) rfl))) (by decide) (t := .long) (t' := .long) (by decide) (by decide))))⟩
  · skip
    have pre9 : ∀ t, Steps p.tables e below (T1.setTop (mkF m 48 #[.val (.int p1), .val (.int p2), .val (.ref a1), .val (.long (0 : Int64)), .second, .val .null] [(.int p2)])) t → Steps p.tables e below (s₁.setTop (entryFrame m #[(.int p1), (.int p2), (.ref a1)] 6)) t := by
      intro t k
      refine pre2 t ?_
      refine XS.ifNo X1.here hx rfl (hb hby d11_44) rfl ((if0 _ _).trans (flt h44).2.2.1) ?_
      show Steps p.tables e below (T1.setTop (mkF m 47 #[.val (.int p1), .val (.int p2), .val (.ref a1), .val (.long (0 : Int64)), .second, .val .null] [])) _
      refine XS.iloadN X1.here hx rfl (hb hby d11_47) rfl ?_
      show Steps p.tables e below (T1.setTop (mkF m 48 #[.val (.int p1), .val (.int p2), .val (.ref a1), .val (.long (0 : Int64)), .second, .val .null] [(.int p2)])) _
      exact k
    by_cases h48 : (0 : Int32) < p2
    · skip
      obtain ⟨T10, h10, X10, e10, E10, A10, D10, -, st10⟩ := newO X1 hx hZ hown (hw _ (List.mem_of_getElem? (i := 119) rfl)) (hw _ (List.mem_of_getElem? (i := 120) rfl)) (hw _ (List.mem_of_getElem? (i := 80) rfl)) hq1 (g := (mkF m 57 #[.val (.int p1), .val (.int p2), .val (.ref a1), .val (.long (0 : Int64)), .second, .val .null] [])) rfl (hb hby d11_57) (by decide) (by decide)
      obtain ⟨b10, g10⟩ : ∃ z, z = h0.size := ⟨_, rfl⟩
      rw [← g10] at A10 D10 st10
      have ne_a1_b10 : a1 ≠ b10 := Nat.ne_of_lt (Nat.lt_of_lt_of_le E1.lt (Nat.le_of_eq g10.symm))
      have F10_attributesBeforeStart : Fld Z h10 b10 "com/example/kiseki/kiseki/tracing/DroppedItems" "attributesBeforeStart" "J" (.long (0 : Int64)) := D10 (Or.inl (hw _ (List.mem_of_getElem? (i := 126) rfl))) (ty := .long) (by decide)
      have F10_links : Fld Z h10 b10 "com/example/kiseki/kiseki/tracing/DroppedItems" "links" "J" (.long (0 : Int64)) := D10 (Or.inl (hw _ (List.mem_of_getElem? (i := 128) rfl))) (ty := .long) (by decide)
      have F10_linkAttributes : Fld Z h10 b10 "com/example/kiseki/kiseki/tracing/DroppedItems" "linkAttributes" "J" (.long (0 : Int64)) := D10 (Or.inl (hw _ (List.mem_of_getElem? (i := 130) rfl))) (ty := .long) (by decide)
      have F10_attributesSinceStart : Fld Z h10 b10 "com/example/kiseki/kiseki/tracing/DroppedItems" "attributesSinceStart" "J" (.long (0 : Int64)) := D10 (Or.inl (hw _ (List.mem_of_getElem? (i := 138) rfl))) (ty := .long) (by decide)
      have F10_events : Fld Z h10 b10 "com/example/kiseki/kiseki/tracing/DroppedItems" "events" "J" (.long (0 : Int64)) := D10 (Or.inl (hw _ (List.mem_of_getElem? (i := 140) rfl))) (ty := .long) (by decide)
      have F10_eventAttributes : Fld Z h10 b10 "com/example/kiseki/kiseki/tracing/DroppedItems" "eventAttributes" "J" (.long (0 : Int64)) := D10 (Or.inl (hw _ (List.mem_of_getElem? (i := 144) rfl))) (ty := .long) (by decide)
      have F10_attributesElsewhere : Fld Z h10 b10 "com/example/kiseki/kiseki/tracing/DroppedItems" "attributesElsewhere" "J" (.long (0 : Int64)) := D10 (Or.inl (hw _ (List.mem_of_getElem? (i := 168) rfl))) (ty := .long) (by decide)
      have F10_eventsElsewhere : Fld Z h10 b10 "com/example/kiseki/kiseki/tracing/DroppedItems" "eventsElsewhere" "J" (.long (0 : Int64)) := D10 (Or.inl (hw _ (List.mem_of_getElem? (i := 170) rfl))) (ty := .long) (by decide)
      have F10_linksElsewhere : Fld Z h10 b10 "com/example/kiseki/kiseki/tracing/DroppedItems" "linksElsewhere" "J" (.long (0 : Int64)) := D10 (Or.inl (hw _ (List.mem_of_getElem? (i := 172) rfl))) (ty := .long) (by decide)
      have g_b10 : n0 ≤ b10 := Nat.le_trans Z0 (Nat.le_of_eq g10.symm)
      have sz_b10 : h0.size ≤ b10 := (Nat.le_trans (Keep.refl h0 []).1 (Nat.le_of_eq g10.symm))
      have K10 : Keep h0 h10 [] := (Keep.refl h0 []).ext E10
      obtain ⟨_, _, ⟨T11, L11, k11, n11⟩, -, X11, ⟨Lc11, hQ11, l11, y11, z11⟩, st11⟩ := X10.specialBack hx (y := (⟨"com/example/kiseki/kiseki/tracing/DroppedItems", "<init>", "()V"⟩ : MethodName)) rfl hown (mvT hZ (hw _ (List.mem_of_getElem? (i := 121) rfl))) (mvT hZ (hw _ (List.mem_of_getElem? (i := 122) rfl))) (mvT hZ (hw _ (List.mem_of_getElem? (i := 123) rfl))) (by decide) (backOf (W := 1) (rmDI l Z a0 hw [] b10  h10 n0 (Nat.le_trans Z0 E10.1) ) hZ (hw _ (List.mem_of_getElem? (i := 123) rfl)) (hw _ (List.mem_of_getElem? (i := 80) rfl)) (by decide) (by decide)) (g := (mkF m 61 #[.val (.int p1), .val (.int p2), .val (.ref a1), .val (.long (0 : Int64)), .second, .val .null] [(.ref b10), (.ref b10)])) rfl (by rw [hml]; rfl) (Steps.refl _) (a := b10) (argsL := []) (rest := [(.ref b10)]) (lenOf pd_0 rfl) rfl (by show 2 * 0 + _ ≤ _; exact Nat.le_of_eq rfl) (hb hby d11_61) (fun _ _ => ⟨rfl, e10, (by decide : 1 + 0 ≤ _), (by decide : 9 + 0 ≤ _)⟩)
      dsimp only [Pt.U, Pt.locs, Pt.cells, Pt.slots] at X11 l11 y11 z11 st11 hQ11
      subst l11 y11 z11
      obtain ⟨rfl, N11q, hq11⟩ := hQ11
      have N11 := Fr.app N1 N11q
      obtain ⟨T12, h12, X12, e12, W12, st12⟩ := putF X11 hx hZ hown (host := "") (Or.inl (hw _ (List.mem_of_getElem? (i := 125) rfl))) Via.refl hq11 F10_attributesBeforeStart A10 (Or.inl (hw _ (List.mem_of_getElem? (i := 126) rfl))) (hw _ (List.mem_of_getElem? (i := 120) rfl)) (ty := .long) (by decide) rfl rfl (g := (mkF m 70 #[.val (.int p1), .val (.int p2), .val (.ref a1), .val (.long (0 : Int64)), .second, .val (.ref b10)] [(.long (p1.toInt64)), (.ref b10)])) rfl rfl (hb hby d11_70)
      have Fw12 := F10_attributesBeforeStart.same W12
      have K12 : Keep h0 h12 [] := K10.wr W12 (Or.inr sz_b10)
      have N12 := Fr.snoc X12 N11 g_b10
      obtain ⟨T13, h13, X13, e13, W13, st13⟩ := putF X12 hx hZ hown (host := "") (Or.inl (hw _ (List.mem_of_getElem? (i := 127) rfl))) Via.refl e12 (F10_links.other W12 (Or.inr (slot_ne (Or.inl (hw _ (List.mem_of_getElem? (i := 128) rfl))) (Or.inl (hw _ (List.mem_of_getElem? (i := 126) rfl))) (by decide) (t := .long) (t' := .long) (by decide) (by decide)))) (A10.wr W12) (Or.inl (hw _ (List.mem_of_getElem? (i := 128) rfl))) (hw _ (List.mem_of_getElem? (i := 120) rfl)) (ty := .long) (by decide) rfl rfl (g := (mkF m 77 #[.val (.int p1), .val (.int p2), .val (.ref a1), .val (.long (0 : Int64)), .second, .val (.ref b10)] [(.long (p2.toInt64)), (.ref b10)])) rfl rfl (hb hby d11_77)
      have Fw13 := (F10_links.other W12 (Or.inr (slot_ne (Or.inl (hw _ (List.mem_of_getElem? (i := 128) rfl))) (Or.inl (hw _ (List.mem_of_getElem? (i := 126) rfl))) (by decide) (t := .long) (t' := .long) (by decide) (by decide)))).same W13
      have K13 : Keep h0 h13 [] := K12.wr W13 (Or.inr sz_b10)
      have N13 := Fr.snoc X13 N12 g_b10
      obtain ⟨T14, h14, X14, e14, W14, st14⟩ := putF X13 hx hZ hown (host := "") (Or.inl (hw _ (List.mem_of_getElem? (i := 129) rfl))) Via.refl e13 ((F10_linkAttributes.other W12 (Or.inr (slot_ne (Or.inl (hw _ (List.mem_of_getElem? (i := 130) rfl))) (Or.inl (hw _ (List.mem_of_getElem? (i := 126) rfl))) (by decide) (t := .long) (t' := .long) (by decide) (by decide)))).other W13 (Or.inr (slot_ne (Or.inl (hw _ (List.mem_of_getElem? (i := 130) rfl))) (Or.inl (hw _ (List.mem_of_getElem? (i := 128) rfl))) (by decide) (t := .long) (t' := .long) (by decide) (by decide)))) ((A10.wr W12).wr W13) (Or.inl (hw _ (List.mem_of_getElem? (i := 130) rfl))) (hw _ (List.mem_of_getElem? (i := 120) rfl)) (ty := .long) (by decide) rfl rfl (g := (mkF m 83 #[.val (.int p1), .val (.int p2), .val (.ref a1), .val (.long (0 : Int64)), .second, .val (.ref b10)] [(.long (0 : Int64)), (.ref b10)])) rfl rfl (hb hby d11_83)
      have Fw14 := ((F10_linkAttributes.other W12 (Or.inr (slot_ne (Or.inl (hw _ (List.mem_of_getElem? (i := 130) rfl))) (Or.inl (hw _ (List.mem_of_getElem? (i := 126) rfl))) (by decide) (t := .long) (t' := .long) (by decide) (by decide)))).other W13 (Or.inr (slot_ne (Or.inl (hw _ (List.mem_of_getElem? (i := 130) rfl))) (Or.inl (hw _ (List.mem_of_getElem? (i := 128) rfl))) (by decide) (t := .long) (t' := .long) (by decide) (by decide)))).same W14
      have K14 : Keep h0 h14 [] := K13.wr W14 (Or.inr sz_b10)
      have N14 := Fr.snoc X14 N13 g_b10
      have pre15 : ∀ t, Steps p.tables e below (T14.setTop (mkF m 88 #[.val (.int p1), .val (.int p2), .val (.ref a1), .val (.long (0 : Int64)), .second, .val (.ref b10)] [(.ref b10)])) t → Steps p.tables e below (s₁.setTop (entryFrame m #[(.int p1), (.int p2), (.ref a1)] 6)) t := by
        intro t k
        refine pre9 t ?_
        refine XS.ifYes X1.here hx rfl (pc0 := 48) (pc' := 57) rfl (hb hby d11_48) rfl ((if0 _ _).trans (tlt h48).2.2.1) (by decide) (by decide) ?_
        show Steps p.tables e below (T1.setTop (mkF m 57 #[.val (.int p1), .val (.int p2), .val (.ref a1), .val (.long (0 : Int64)), .second, .val .null] [])) _
        refine st10 _ ?_
        show Steps p.tables e below (T10.setTop (mkF m 60 #[.val (.int p1), .val (.int p2), .val (.ref a1), .val (.long (0 : Int64)), .second, .val .null] [(.ref b10)])) _
        refine XS.dup X10.here hx rfl (hb hby d11_60) rfl rfl ?_
        show Steps p.tables e below (T10.setTop (mkF m 61 #[.val (.int p1), .val (.int p2), .val (.ref a1), .val (.long (0 : Int64)), .second, .val .null] [(.ref b10), (.ref b10)])) _
        refine st11.trans ?_
        show Steps p.tables e below (T11.setTop (mkF m 64 #[.val (.int p1), .val (.int p2), .val (.ref a1), .val (.long (0 : Int64)), .second, .val .null] [(.ref b10)])) _
        refine XS.astore X11.here hx rfl (hb hby d11_64) rfl (rfl) (l' := #[.val (.int p1), .val (.int p2), .val (.ref a1), .val (.long (0 : Int64)), .second, .val (.ref b10)]) rfl ?_
        show Steps p.tables e below (T11.setTop (mkF m 66 #[.val (.int p1), .val (.int p2), .val (.ref a1), .val (.long (0 : Int64)), .second, .val (.ref b10)] [])) _
        refine XS.aload X11.here hx rfl (hb hby d11_66) rfl (rfl) ?_
        show Steps p.tables e below (T11.setTop (mkF m 68 #[.val (.int p1), .val (.int p2), .val (.ref a1), .val (.long (0 : Int64)), .second, .val (.ref b10)] [(.ref b10)])) _
        refine XS.iloadN X11.here hx rfl (hb hby d11_68) rfl ?_
        show Steps p.tables e below (T11.setTop (mkF m 69 #[.val (.int p1), .val (.int p2), .val (.ref a1), .val (.long (0 : Int64)), .second, .val (.ref b10)] [(.int p1), (.ref b10)])) _
        refine XS.i2l X11.here hx rfl (hb hby d11_69) rfl ?_
        show Steps p.tables e below (T11.setTop (mkF m 70 #[.val (.int p1), .val (.int p2), .val (.ref a1), .val (.long (0 : Int64)), .second, .val (.ref b10)] [(.long (p1.toInt64)), (.ref b10)])) _
        refine st12 _ ?_
        show Steps p.tables e below (T12.setTop (mkF m 73 #[.val (.int p1), .val (.int p2), .val (.ref a1), .val (.long (0 : Int64)), .second, .val (.ref b10)] [])) _
        refine XS.aload X12.here hx rfl (hb hby d11_73) rfl (rfl) ?_
        show Steps p.tables e below (T12.setTop (mkF m 75 #[.val (.int p1), .val (.int p2), .val (.ref a1), .val (.long (0 : Int64)), .second, .val (.ref b10)] [(.ref b10)])) _
        refine XS.iloadN X12.here hx rfl (hb hby d11_75) rfl ?_
        show Steps p.tables e below (T12.setTop (mkF m 76 #[.val (.int p1), .val (.int p2), .val (.ref a1), .val (.long (0 : Int64)), .second, .val (.ref b10)] [(.int p2), (.ref b10)])) _
        refine XS.i2l X12.here hx rfl (hb hby d11_76) rfl ?_
        show Steps p.tables e below (T12.setTop (mkF m 77 #[.val (.int p1), .val (.int p2), .val (.ref a1), .val (.long (0 : Int64)), .second, .val (.ref b10)] [(.long (p2.toInt64)), (.ref b10)])) _
        refine st13 _ ?_
        show Steps p.tables e below (T13.setTop (mkF m 80 #[.val (.int p1), .val (.int p2), .val (.ref a1), .val (.long (0 : Int64)), .second, .val (.ref b10)] [])) _
        refine XS.aload X13.here hx rfl (hb hby d11_80) rfl (rfl) ?_
        show Steps p.tables e below (T13.setTop (mkF m 82 #[.val (.int p1), .val (.int p2), .val (.ref a1), .val (.long (0 : Int64)), .second, .val (.ref b10)] [(.ref b10)])) _
        refine XS.lloadN X13.here hx rfl (hb hby d11_82) rfl ?_
        show Steps p.tables e below (T13.setTop (mkF m 83 #[.val (.int p1), .val (.int p2), .val (.ref a1), .val (.long (0 : Int64)), .second, .val (.ref b10)] [(.long (0 : Int64)), (.ref b10)])) _
        refine st14 _ ?_
        show Steps p.tables e below (T14.setTop (mkF m 86 #[.val (.int p1), .val (.int p2), .val (.ref a1), .val (.long (0 : Int64)), .second, .val (.ref b10)] [])) _
        refine XS.aload X14.here hx rfl (hb hby d11_86) rfl (rfl) ?_
        show Steps p.tables e below (T14.setTop (mkF m 88 #[.val (.int p1), .val (.int p2), .val (.ref a1), .val (.long (0 : Int64)), .second, .val (.ref b10)] [(.ref b10)])) _
        exact k
      obtain ⟨fs, hr, hrun, hended, hW, hsame⟩ := X14.leave (v := some (.ref b10)) (fun h => by rw [Bd.returns] at h; cases h)
      refine ⟨_, _, pre15 _ ?_, hrun, hended, _, _, rfl, ?_, ⟨_, rfl⟩, hW, hsame.mono (by decide) (by decide)⟩
      · exact retOut X14 hx Bd.returns (by first | rfl | simp [narrow]) (Or.inr (Or.inr (Or.inr (Or.inr ⟨rfl, rfl, rfl⟩)))) (hb hby d11_88) hr
      · show Q_rmS01 Z p1 p2 a1 h0 n0 _ T14.heap _
        rw [e14]
        exact ⟨b10, rfl, N14, K14, g_b10, (((A10.wr W12).wr W13).wr W14), ((Fw12.other W13 (Or.inr (slot_ne (Or.inl (hw _ (List.mem_of_getElem? (i := 126) rfl))) (Or.inl (hw _ (List.mem_of_getElem? (i := 128) rfl))) (by decide) (t := .long) (t' := .long) (by decide) (by decide)))).other W14 (Or.inr (slot_ne (Or.inl (hw _ (List.mem_of_getElem? (i := 126) rfl))) (Or.inl (hw _ (List.mem_of_getElem? (i := 130) rfl))) (by decide) (t := .long) (t' := .long) (by decide) (by decide)))), (((F10_attributesSinceStart.other W12 (Or.inr (slot_ne (Or.inl (hw _ (List.mem_of_getElem? (i := 138) rfl))) (Or.inl (hw _ (List.mem_of_getElem? (i := 126) rfl))) (by decide) (t := .long) (t' := .long) (by decide) (by decide)))).other W13 (Or.inr (slot_ne (Or.inl (hw _ (List.mem_of_getElem? (i := 138) rfl))) (Or.inl (hw _ (List.mem_of_getElem? (i := 128) rfl))) (by decide) (t := .long) (t' := .long) (by decide) (by decide)))).other W14 (Or.inr (slot_ne (Or.inl (hw _ (List.mem_of_getElem? (i := 138) rfl))) (Or.inl (hw _ (List.mem_of_getElem? (i := 130) rfl))) (by decide) (t := .long) (t' := .long) (by decide) (by decide)))), (((F10_events.other W12 (Or.inr (slot_ne (Or.inl (hw _ (List.mem_of_getElem? (i := 140) rfl))) (Or.inl (hw _ (List.mem_of_getElem? (i := 126) rfl))) (by decide) (t := .long) (t' := .long) (by decide) (by decide)))).other W13 (Or.inr (slot_ne (Or.inl (hw _ (List.mem_of_getElem? (i := 140) rfl))) (Or.inl (hw _ (List.mem_of_getElem? (i := 128) rfl))) (by decide) (t := .long) (t' := .long) (by decide) (by decide)))).other W14 (Or.inr (slot_ne (Or.inl (hw _ (List.mem_of_getElem? (i := 140) rfl))) (Or.inl (hw _ (List.mem_of_getElem? (i := 130) rfl))) (by decide) (t := .long) (t' := .long) (by decide) (by decide)))), (Fw13.other W14 (Or.inr (slot_ne (Or.inl (hw _ (List.mem_of_getElem? (i := 128) rfl))) (Or.inl (hw _ (List.mem_of_getElem? (i := 130) rfl))) (by decide) (t := .long) (t' := .long) (by decide) (by decide)))), (((F10_eventAttributes.other W12 (Or.inr (slot_ne (Or.inl (hw _ (List.mem_of_getElem? (i := 144) rfl))) (Or.inl (hw _ (List.mem_of_getElem? (i := 126) rfl))) (by decide) (t := .long) (t' := .long) (by decide) (by decide)))).other W13 (Or.inr (slot_ne (Or.inl (hw _ (List.mem_of_getElem? (i := 144) rfl))) (Or.inl (hw _ (List.mem_of_getElem? (i := 128) rfl))) (by decide) (t := .long) (t' := .long) (by decide) (by decide)))).other W14 (Or.inr (slot_ne (Or.inl (hw _ (List.mem_of_getElem? (i := 144) rfl))) (Or.inl (hw _ (List.mem_of_getElem? (i := 130) rfl))) (by decide) (t := .long) (t' := .long) (by decide) (by decide)))), Fw14, (((F10_attributesElsewhere.other W12 (Or.inr (slot_ne (Or.inl (hw _ (List.mem_of_getElem? (i := 168) rfl))) (Or.inl (hw _ (List.mem_of_getElem? (i := 126) rfl))) (by decide) (t := .long) (t' := .long) (by decide) (by decide)))).other W13 (Or.inr (slot_ne (Or.inl (hw _ (List.mem_of_getElem? (i := 168) rfl))) (Or.inl (hw _ (List.mem_of_getElem? (i := 128) rfl))) (by decide) (t := .long) (t' := .long) (by decide) (by decide)))).other W14 (Or.inr (slot_ne (Or.inl (hw _ (List.mem_of_getElem? (i := 168) rfl))) (Or.inl (hw _ (List.mem_of_getElem? (i := 130) rfl))) (by decide) (t := .long) (t' := .long) (by decide) (by decide)))), (((F10_eventsElsewhere.other W12 (Or.inr (slot_ne (Or.inl (hw _ (List.mem_of_getElem? (i := 170) rfl))) (Or.inl (hw _ (List.mem_of_getElem? (i := 126) rfl))) (by decide) (t := .long) (t' := .long) (by decide) (by decide)))).other W13 (Or.inr (slot_ne (Or.inl (hw _ (List.mem_of_getElem? (i := 170) rfl))) (Or.inl (hw _ (List.mem_of_getElem? (i := 128) rfl))) (by decide) (t := .long) (t' := .long) (by decide) (by decide)))).other W14 (Or.inr (slot_ne (Or.inl (hw _ (List.mem_of_getElem? (i := 170) rfl))) (Or.inl (hw _ (List.mem_of_getElem? (i := 130) rfl))) (by decide) (t := .long) (t' := .long) (by decide) (by decide)))), (((F10_linksElsewhere.other W12 (Or.inr (slot_ne (Or.inl (hw _ (List.mem_of_getElem? (i := 172) rfl))) (Or.inl (hw _ (List.mem_of_getElem? (i := 126) rfl))) (by decide) (t := .long) (t' := .long) (by decide) (by decide)))).other W13 (Or.inr (slot_ne (Or.inl (hw _ (List.mem_of_getElem? (i := 172) rfl))) (Or.inl (hw _ (List.mem_of_getElem? (i := 128) rfl))) (by decide) (t := .long) (t' := .long) (by decide) (by decide)))).other W14 (Or.inr (slot_ne (Or.inl (hw _ (List.mem_of_getElem? (i := 172) rfl))) (Or.inl (hw _ (List.mem_of_getElem? (i := 130) rfl))) (by decide) (t := .long) (t' := .long) (by decide) (by decide))))⟩
    · skip
      have pre16 : ∀ t, Steps p.tables e below (T1.setTop (mkF m 54 #[.val (.int p1), .val (.int p2), .val (.ref a1), .val (.long (0 : Int64)), .second, .val .null] [(.int (lcmpW (0 : Int64) (0 : Int64)))])) t → Steps p.tables e below (s₁.setTop (entryFrame m #[(.int p1), (.int p2), (.ref a1)] 6)) t := by
        intro t k
        refine pre9 t ?_
        refine XS.ifNo X1.here hx rfl (hb hby d11_48) rfl ((if0 _ _).trans (flt h48).2.2.1) ?_
        show Steps p.tables e below (T1.setTop (mkF m 51 #[.val (.int p1), .val (.int p2), .val (.ref a1), .val (.long (0 : Int64)), .second, .val .null] [])) _
        refine XS.lloadN X1.here hx rfl (hb hby d11_51) rfl ?_
        show Steps p.tables e below (T1.setTop (mkF m 52 #[.val (.int p1), .val (.int p2), .val (.ref a1), .val (.long (0 : Int64)), .second, .val .null] [(.long (0 : Int64))])) _
        refine XS.lconst X1.here hx rfl (hb hby d11_52) ?_
        show Steps p.tables e below (T1.setTop (mkF m 53 #[.val (.int p1), .val (.int p2), .val (.ref a1), .val (.long (0 : Int64)), .second, .val .null] [(.long (0 : Int64)), (.long (0 : Int64))])) _
        refine XS.lcmp X1.here hx rfl (hb hby d11_53) rfl ?_
        show Steps p.tables e below (T1.setTop (mkF m 54 #[.val (.int p1), .val (.int p2), .val (.ref a1), .val (.long (0 : Int64)), .second, .val .null] [(.int (lcmpW (0 : Int64) (0 : Int64)))])) _
        exact k
      by_cases h54 : (0 : Int64) < (0 : Int64)
      · skip
        obtain ⟨T17, h17, X17, e17, E17, A17, D17, -, st17⟩ := newO X1 hx hZ hown (hw _ (List.mem_of_getElem? (i := 119) rfl)) (hw _ (List.mem_of_getElem? (i := 120) rfl)) (hw _ (List.mem_of_getElem? (i := 80) rfl)) hq1 (g := (mkF m 57 #[.val (.int p1), .val (.int p2), .val (.ref a1), .val (.long (0 : Int64)), .second, .val .null] [])) rfl (hb hby d11_57) (by decide) (by decide)
        obtain ⟨b17, g17⟩ : ∃ z, z = h0.size := ⟨_, rfl⟩
        rw [← g17] at A17 D17 st17
        have ne_a1_b17 : a1 ≠ b17 := Nat.ne_of_lt (Nat.lt_of_lt_of_le E1.lt (Nat.le_of_eq g17.symm))
        have F17_attributesBeforeStart : Fld Z h17 b17 "com/example/kiseki/kiseki/tracing/DroppedItems" "attributesBeforeStart" "J" (.long (0 : Int64)) := D17 (Or.inl (hw _ (List.mem_of_getElem? (i := 126) rfl))) (ty := .long) (by decide)
        have F17_links : Fld Z h17 b17 "com/example/kiseki/kiseki/tracing/DroppedItems" "links" "J" (.long (0 : Int64)) := D17 (Or.inl (hw _ (List.mem_of_getElem? (i := 128) rfl))) (ty := .long) (by decide)
        have F17_linkAttributes : Fld Z h17 b17 "com/example/kiseki/kiseki/tracing/DroppedItems" "linkAttributes" "J" (.long (0 : Int64)) := D17 (Or.inl (hw _ (List.mem_of_getElem? (i := 130) rfl))) (ty := .long) (by decide)
        have F17_attributesSinceStart : Fld Z h17 b17 "com/example/kiseki/kiseki/tracing/DroppedItems" "attributesSinceStart" "J" (.long (0 : Int64)) := D17 (Or.inl (hw _ (List.mem_of_getElem? (i := 138) rfl))) (ty := .long) (by decide)
        have F17_events : Fld Z h17 b17 "com/example/kiseki/kiseki/tracing/DroppedItems" "events" "J" (.long (0 : Int64)) := D17 (Or.inl (hw _ (List.mem_of_getElem? (i := 140) rfl))) (ty := .long) (by decide)
        have F17_eventAttributes : Fld Z h17 b17 "com/example/kiseki/kiseki/tracing/DroppedItems" "eventAttributes" "J" (.long (0 : Int64)) := D17 (Or.inl (hw _ (List.mem_of_getElem? (i := 144) rfl))) (ty := .long) (by decide)
        have F17_attributesElsewhere : Fld Z h17 b17 "com/example/kiseki/kiseki/tracing/DroppedItems" "attributesElsewhere" "J" (.long (0 : Int64)) := D17 (Or.inl (hw _ (List.mem_of_getElem? (i := 168) rfl))) (ty := .long) (by decide)
        have F17_eventsElsewhere : Fld Z h17 b17 "com/example/kiseki/kiseki/tracing/DroppedItems" "eventsElsewhere" "J" (.long (0 : Int64)) := D17 (Or.inl (hw _ (List.mem_of_getElem? (i := 170) rfl))) (ty := .long) (by decide)
        have F17_linksElsewhere : Fld Z h17 b17 "com/example/kiseki/kiseki/tracing/DroppedItems" "linksElsewhere" "J" (.long (0 : Int64)) := D17 (Or.inl (hw _ (List.mem_of_getElem? (i := 172) rfl))) (ty := .long) (by decide)
        have g_b17 : n0 ≤ b17 := Nat.le_trans Z0 (Nat.le_of_eq g17.symm)
        have sz_b17 : h0.size ≤ b17 := (Nat.le_trans (Keep.refl h0 []).1 (Nat.le_of_eq g17.symm))
        have K17 : Keep h0 h17 [] := (Keep.refl h0 []).ext E17
        obtain ⟨_, _, ⟨T18, L18, k18, n18⟩, -, X18, ⟨Lc18, hQ18, l18, y18, z18⟩, st18⟩ := X17.specialBack hx (y := (⟨"com/example/kiseki/kiseki/tracing/DroppedItems", "<init>", "()V"⟩ : MethodName)) rfl hown (mvT hZ (hw _ (List.mem_of_getElem? (i := 121) rfl))) (mvT hZ (hw _ (List.mem_of_getElem? (i := 122) rfl))) (mvT hZ (hw _ (List.mem_of_getElem? (i := 123) rfl))) (by decide) (backOf (W := 1) (rmDI l Z a0 hw [] b17  h17 n0 (Nat.le_trans Z0 E17.1) ) hZ (hw _ (List.mem_of_getElem? (i := 123) rfl)) (hw _ (List.mem_of_getElem? (i := 80) rfl)) (by decide) (by decide)) (g := (mkF m 61 #[.val (.int p1), .val (.int p2), .val (.ref a1), .val (.long (0 : Int64)), .second, .val .null] [(.ref b17), (.ref b17)])) rfl (by rw [hml]; rfl) (Steps.refl _) (a := b17) (argsL := []) (rest := [(.ref b17)]) (lenOf pd_0 rfl) rfl (by show 2 * 0 + _ ≤ _; exact Nat.le_of_eq rfl) (hb hby d11_61) (fun _ _ => ⟨rfl, e17, (by decide : 1 + 0 ≤ _), (by decide : 9 + 0 ≤ _)⟩)
        dsimp only [Pt.U, Pt.locs, Pt.cells, Pt.slots] at X18 l18 y18 z18 st18 hQ18
        subst l18 y18 z18
        obtain ⟨rfl, N18q, hq18⟩ := hQ18
        have N18 := Fr.app N1 N18q
        obtain ⟨T19, h19, X19, e19, W19, st19⟩ := putF X18 hx hZ hown (host := "") (Or.inl (hw _ (List.mem_of_getElem? (i := 125) rfl))) Via.refl hq18 F17_attributesBeforeStart A17 (Or.inl (hw _ (List.mem_of_getElem? (i := 126) rfl))) (hw _ (List.mem_of_getElem? (i := 120) rfl)) (ty := .long) (by decide) rfl rfl (g := (mkF m 70 #[.val (.int p1), .val (.int p2), .val (.ref a1), .val (.long (0 : Int64)), .second, .val (.ref b17)] [(.long (p1.toInt64)), (.ref b17)])) rfl rfl (hb hby d11_70)
        have Fw19 := F17_attributesBeforeStart.same W19
        have K19 : Keep h0 h19 [] := K17.wr W19 (Or.inr sz_b17)
        have N19 := Fr.snoc X19 N18 g_b17
        obtain ⟨T20, h20, X20, e20, W20, st20⟩ := putF X19 hx hZ hown (host := "") (Or.inl (hw _ (List.mem_of_getElem? (i := 127) rfl))) Via.refl e19 (F17_links.other W19 (Or.inr (slot_ne (Or.inl (hw _ (List.mem_of_getElem? (i := 128) rfl))) (Or.inl (hw _ (List.mem_of_getElem? (i := 126) rfl))) (by decide) (t := .long) (t' := .long) (by decide) (by decide)))) (A17.wr W19) (Or.inl (hw _ (List.mem_of_getElem? (i := 128) rfl))) (hw _ (List.mem_of_getElem? (i := 120) rfl)) (ty := .long) (by decide) rfl rfl (g := (mkF m 77 #[.val (.int p1), .val (.int p2), .val (.ref a1), .val (.long (0 : Int64)), .second, .val (.ref b17)] [(.long (p2.toInt64)), (.ref b17)])) rfl rfl (hb hby d11_77)
        have Fw20 := (F17_links.other W19 (Or.inr (slot_ne (Or.inl (hw _ (List.mem_of_getElem? (i := 128) rfl))) (Or.inl (hw _ (List.mem_of_getElem? (i := 126) rfl))) (by decide) (t := .long) (t' := .long) (by decide) (by decide)))).same W20
        have K20 : Keep h0 h20 [] := K19.wr W20 (Or.inr sz_b17)
        have N20 := Fr.snoc X20 N19 g_b17
        obtain ⟨T21, h21, X21, e21, W21, st21⟩ := putF X20 hx hZ hown (host := "") (Or.inl (hw _ (List.mem_of_getElem? (i := 129) rfl))) Via.refl e20 ((F17_linkAttributes.other W19 (Or.inr (slot_ne (Or.inl (hw _ (List.mem_of_getElem? (i := 130) rfl))) (Or.inl (hw _ (List.mem_of_getElem? (i := 126) rfl))) (by decide) (t := .long) (t' := .long) (by decide) (by decide)))).other W20 (Or.inr (slot_ne (Or.inl (hw _ (List.mem_of_getElem? (i := 130) rfl))) (Or.inl (hw _ (List.mem_of_getElem? (i := 128) rfl))) (by decide) (t := .long) (t' := .long) (by decide) (by decide)))) ((A17.wr W19).wr W20) (Or.inl (hw _ (List.mem_of_getElem? (i := 130) rfl))) (hw _ (List.mem_of_getElem? (i := 120) rfl)) (ty := .long) (by decide) rfl rfl (g := (mkF m 83 #[.val (.int p1), .val (.int p2), .val (.ref a1), .val (.long (0 : Int64)), .second, .val (.ref b17)] [(.long (0 : Int64)), (.ref b17)])) rfl rfl (hb hby d11_83)
        have Fw21 := ((F17_linkAttributes.other W19 (Or.inr (slot_ne (Or.inl (hw _ (List.mem_of_getElem? (i := 130) rfl))) (Or.inl (hw _ (List.mem_of_getElem? (i := 126) rfl))) (by decide) (t := .long) (t' := .long) (by decide) (by decide)))).other W20 (Or.inr (slot_ne (Or.inl (hw _ (List.mem_of_getElem? (i := 130) rfl))) (Or.inl (hw _ (List.mem_of_getElem? (i := 128) rfl))) (by decide) (t := .long) (t' := .long) (by decide) (by decide)))).same W21
        have K21 : Keep h0 h21 [] := K20.wr W21 (Or.inr sz_b17)
        have N21 := Fr.snoc X21 N20 g_b17
        have pre22 : ∀ t, Steps p.tables e below (T21.setTop (mkF m 88 #[.val (.int p1), .val (.int p2), .val (.ref a1), .val (.long (0 : Int64)), .second, .val (.ref b17)] [(.ref b17)])) t → Steps p.tables e below (s₁.setTop (entryFrame m #[(.int p1), (.int p2), (.ref a1)] 6)) t := by
          intro t k
          refine pre16 t ?_
          refine XS.ifNo X1.here hx rfl (hb hby d11_54) rfl ((if0 _ _).trans (tlt ((lw_gt (0 : Int64) (0 : Int64)).mpr h54)).2.2.2) ?_
          show Steps p.tables e below (T1.setTop (mkF m 57 #[.val (.int p1), .val (.int p2), .val (.ref a1), .val (.long (0 : Int64)), .second, .val .null] [])) _
          refine st17 _ ?_
          show Steps p.tables e below (T17.setTop (mkF m 60 #[.val (.int p1), .val (.int p2), .val (.ref a1), .val (.long (0 : Int64)), .second, .val .null] [(.ref b17)])) _
          refine XS.dup X17.here hx rfl (hb hby d11_60) rfl rfl ?_
          show Steps p.tables e below (T17.setTop (mkF m 61 #[.val (.int p1), .val (.int p2), .val (.ref a1), .val (.long (0 : Int64)), .second, .val .null] [(.ref b17), (.ref b17)])) _
          refine st18.trans ?_
          show Steps p.tables e below (T18.setTop (mkF m 64 #[.val (.int p1), .val (.int p2), .val (.ref a1), .val (.long (0 : Int64)), .second, .val .null] [(.ref b17)])) _
          refine XS.astore X18.here hx rfl (hb hby d11_64) rfl (rfl) (l' := #[.val (.int p1), .val (.int p2), .val (.ref a1), .val (.long (0 : Int64)), .second, .val (.ref b17)]) rfl ?_
          show Steps p.tables e below (T18.setTop (mkF m 66 #[.val (.int p1), .val (.int p2), .val (.ref a1), .val (.long (0 : Int64)), .second, .val (.ref b17)] [])) _
          refine XS.aload X18.here hx rfl (hb hby d11_66) rfl (rfl) ?_
          show Steps p.tables e below (T18.setTop (mkF m 68 #[.val (.int p1), .val (.int p2), .val (.ref a1), .val (.long (0 : Int64)), .second, .val (.ref b17)] [(.ref b17)])) _
          refine XS.iloadN X18.here hx rfl (hb hby d11_68) rfl ?_
          show Steps p.tables e below (T18.setTop (mkF m 69 #[.val (.int p1), .val (.int p2), .val (.ref a1), .val (.long (0 : Int64)), .second, .val (.ref b17)] [(.int p1), (.ref b17)])) _
          refine XS.i2l X18.here hx rfl (hb hby d11_69) rfl ?_
          show Steps p.tables e below (T18.setTop (mkF m 70 #[.val (.int p1), .val (.int p2), .val (.ref a1), .val (.long (0 : Int64)), .second, .val (.ref b17)] [(.long (p1.toInt64)), (.ref b17)])) _
          refine st19 _ ?_
          show Steps p.tables e below (T19.setTop (mkF m 73 #[.val (.int p1), .val (.int p2), .val (.ref a1), .val (.long (0 : Int64)), .second, .val (.ref b17)] [])) _
          refine XS.aload X19.here hx rfl (hb hby d11_73) rfl (rfl) ?_
          show Steps p.tables e below (T19.setTop (mkF m 75 #[.val (.int p1), .val (.int p2), .val (.ref a1), .val (.long (0 : Int64)), .second, .val (.ref b17)] [(.ref b17)])) _
          refine XS.iloadN X19.here hx rfl (hb hby d11_75) rfl ?_
          show Steps p.tables e below (T19.setTop (mkF m 76 #[.val (.int p1), .val (.int p2), .val (.ref a1), .val (.long (0 : Int64)), .second, .val (.ref b17)] [(.int p2), (.ref b17)])) _
          refine XS.i2l X19.here hx rfl (hb hby d11_76) rfl ?_
          show Steps p.tables e below (T19.setTop (mkF m 77 #[.val (.int p1), .val (.int p2), .val (.ref a1), .val (.long (0 : Int64)), .second, .val (.ref b17)] [(.long (p2.toInt64)), (.ref b17)])) _
          refine st20 _ ?_
          show Steps p.tables e below (T20.setTop (mkF m 80 #[.val (.int p1), .val (.int p2), .val (.ref a1), .val (.long (0 : Int64)), .second, .val (.ref b17)] [])) _
          refine XS.aload X20.here hx rfl (hb hby d11_80) rfl (rfl) ?_
          show Steps p.tables e below (T20.setTop (mkF m 82 #[.val (.int p1), .val (.int p2), .val (.ref a1), .val (.long (0 : Int64)), .second, .val (.ref b17)] [(.ref b17)])) _
          refine XS.lloadN X20.here hx rfl (hb hby d11_82) rfl ?_
          show Steps p.tables e below (T20.setTop (mkF m 83 #[.val (.int p1), .val (.int p2), .val (.ref a1), .val (.long (0 : Int64)), .second, .val (.ref b17)] [(.long (0 : Int64)), (.ref b17)])) _
          refine st21 _ ?_
          show Steps p.tables e below (T21.setTop (mkF m 86 #[.val (.int p1), .val (.int p2), .val (.ref a1), .val (.long (0 : Int64)), .second, .val (.ref b17)] [])) _
          refine XS.aload X21.here hx rfl (hb hby d11_86) rfl (rfl) ?_
          show Steps p.tables e below (T21.setTop (mkF m 88 #[.val (.int p1), .val (.int p2), .val (.ref a1), .val (.long (0 : Int64)), .second, .val (.ref b17)] [(.ref b17)])) _
          exact k
        obtain ⟨fs, hr, hrun, hended, hW, hsame⟩ := X21.leave (v := some (.ref b17)) (fun h => by rw [Bd.returns] at h; cases h)
        refine ⟨_, _, pre22 _ ?_, hrun, hended, _, _, rfl, ?_, ⟨_, rfl⟩, hW, hsame.mono (by decide) (by decide)⟩
        · exact retOut X21 hx Bd.returns (by first | rfl | simp [narrow]) (Or.inr (Or.inr (Or.inr (Or.inr ⟨rfl, rfl, rfl⟩)))) (hb hby d11_88) hr
        · show Q_rmS01 Z p1 p2 a1 h0 n0 _ T21.heap _
          rw [e21]
          exact ⟨b17, rfl, N21, K21, g_b17, (((A17.wr W19).wr W20).wr W21), ((Fw19.other W20 (Or.inr (slot_ne (Or.inl (hw _ (List.mem_of_getElem? (i := 126) rfl))) (Or.inl (hw _ (List.mem_of_getElem? (i := 128) rfl))) (by decide) (t := .long) (t' := .long) (by decide) (by decide)))).other W21 (Or.inr (slot_ne (Or.inl (hw _ (List.mem_of_getElem? (i := 126) rfl))) (Or.inl (hw _ (List.mem_of_getElem? (i := 130) rfl))) (by decide) (t := .long) (t' := .long) (by decide) (by decide)))), (((F17_attributesSinceStart.other W19 (Or.inr (slot_ne (Or.inl (hw _ (List.mem_of_getElem? (i := 138) rfl))) (Or.inl (hw _ (List.mem_of_getElem? (i := 126) rfl))) (by decide) (t := .long) (t' := .long) (by decide) (by decide)))).other W20 (Or.inr (slot_ne (Or.inl (hw _ (List.mem_of_getElem? (i := 138) rfl))) (Or.inl (hw _ (List.mem_of_getElem? (i := 128) rfl))) (by decide) (t := .long) (t' := .long) (by decide) (by decide)))).other W21 (Or.inr (slot_ne (Or.inl (hw _ (List.mem_of_getElem? (i := 138) rfl))) (Or.inl (hw _ (List.mem_of_getElem? (i := 130) rfl))) (by decide) (t := .long) (t' := .long) (by decide) (by decide)))), (((F17_events.other W19 (Or.inr (slot_ne (Or.inl (hw _ (List.mem_of_getElem? (i := 140) rfl))) (Or.inl (hw _ (List.mem_of_getElem? (i := 126) rfl))) (by decide) (t := .long) (t' := .long) (by decide) (by decide)))).other W20 (Or.inr (slot_ne (Or.inl (hw _ (List.mem_of_getElem? (i := 140) rfl))) (Or.inl (hw _ (List.mem_of_getElem? (i := 128) rfl))) (by decide) (t := .long) (t' := .long) (by decide) (by decide)))).other W21 (Or.inr (slot_ne (Or.inl (hw _ (List.mem_of_getElem? (i := 140) rfl))) (Or.inl (hw _ (List.mem_of_getElem? (i := 130) rfl))) (by decide) (t := .long) (t' := .long) (by decide) (by decide)))), (Fw20.other W21 (Or.inr (slot_ne (Or.inl (hw _ (List.mem_of_getElem? (i := 128) rfl))) (Or.inl (hw _ (List.mem_of_getElem? (i := 130) rfl))) (by decide) (t := .long) (t' := .long) (by decide) (by decide)))), (((F17_eventAttributes.other W19 (Or.inr (slot_ne (Or.inl (hw _ (List.mem_of_getElem? (i := 144) rfl))) (Or.inl (hw _ (List.mem_of_getElem? (i := 126) rfl))) (by decide) (t := .long) (t' := .long) (by decide) (by decide)))).other W20 (Or.inr (slot_ne (Or.inl (hw _ (List.mem_of_getElem? (i := 144) rfl))) (Or.inl (hw _ (List.mem_of_getElem? (i := 128) rfl))) (by decide) (t := .long) (t' := .long) (by decide) (by decide)))).other W21 (Or.inr (slot_ne (Or.inl (hw _ (List.mem_of_getElem? (i := 144) rfl))) (Or.inl (hw _ (List.mem_of_getElem? (i := 130) rfl))) (by decide) (t := .long) (t' := .long) (by decide) (by decide)))), Fw21, (((F17_attributesElsewhere.other W19 (Or.inr (slot_ne (Or.inl (hw _ (List.mem_of_getElem? (i := 168) rfl))) (Or.inl (hw _ (List.mem_of_getElem? (i := 126) rfl))) (by decide) (t := .long) (t' := .long) (by decide) (by decide)))).other W20 (Or.inr (slot_ne (Or.inl (hw _ (List.mem_of_getElem? (i := 168) rfl))) (Or.inl (hw _ (List.mem_of_getElem? (i := 128) rfl))) (by decide) (t := .long) (t' := .long) (by decide) (by decide)))).other W21 (Or.inr (slot_ne (Or.inl (hw _ (List.mem_of_getElem? (i := 168) rfl))) (Or.inl (hw _ (List.mem_of_getElem? (i := 130) rfl))) (by decide) (t := .long) (t' := .long) (by decide) (by decide)))), (((F17_eventsElsewhere.other W19 (Or.inr (slot_ne (Or.inl (hw _ (List.mem_of_getElem? (i := 170) rfl))) (Or.inl (hw _ (List.mem_of_getElem? (i := 126) rfl))) (by decide) (t := .long) (t' := .long) (by decide) (by decide)))).other W20 (Or.inr (slot_ne (Or.inl (hw _ (List.mem_of_getElem? (i := 170) rfl))) (Or.inl (hw _ (List.mem_of_getElem? (i := 128) rfl))) (by decide) (t := .long) (t' := .long) (by decide) (by decide)))).other W21 (Or.inr (slot_ne (Or.inl (hw _ (List.mem_of_getElem? (i := 170) rfl))) (Or.inl (hw _ (List.mem_of_getElem? (i := 130) rfl))) (by decide) (t := .long) (t' := .long) (by decide) (by decide)))), (((F17_linksElsewhere.other W19 (Or.inr (slot_ne (Or.inl (hw _ (List.mem_of_getElem? (i := 172) rfl))) (Or.inl (hw _ (List.mem_of_getElem? (i := 126) rfl))) (by decide) (t := .long) (t' := .long) (by decide) (by decide)))).other W20 (Or.inr (slot_ne (Or.inl (hw _ (List.mem_of_getElem? (i := 172) rfl))) (Or.inl (hw _ (List.mem_of_getElem? (i := 128) rfl))) (by decide) (t := .long) (t' := .long) (by decide) (by decide)))).other W21 (Or.inr (slot_ne (Or.inl (hw _ (List.mem_of_getElem? (i := 172) rfl))) (Or.inl (hw _ (List.mem_of_getElem? (i := 130) rfl))) (by decide) (t := .long) (t' := .long) (by decide) (by decide))))⟩
      · skip
        exact (hc.elim h44 (fun z => z.elim h48 h54)).elim
theorem ef_rmS10 (m : MethodId) (x0 : Int32) (x1 : Int32) (x2 : Addr) : entryFrame m #[(.int x0), (.int x1), (.ref x2)] 6 = mkF m 0 #[.val (.int x0), .val (.int x1), .val (.ref x2), .unset, .unset, .unset] [] := by first | (simp [entryFrame, mkF, argsToLocals, Value.category]; done) | rfl
theorem d11_16 : decode prog_46_method_2_code 16 = .ok (.lload_n 3, 1) := by decide +kernel
theorem d11_17 : decode prog_46_method_2_code 17 = .ok (.aload_n 2, 1) := by decide +kernel
theorem d11_18 : decode prog_46_method_2_code 18 = .ok (.iload 5, 2) := by decide +kernel
theorem d11_20 : decode prog_46_method_2_code 20 = .ok (.invokeinterface 13 2, 5) := by decide +kernel
theorem d11_25 : decode prog_46_method_2_code 25 = .ok (.checkcast 17, 3) := by decide +kernel
theorem d11_28 : decode prog_46_method_2_code 28 = .ok (.invokevirtual 19, 3) := by decide +kernel
theorem d11_31 : decode prog_46_method_2_code 31 = .ok (.i2l, 1) := by decide +kernel
theorem d11_32 : decode prog_46_method_2_code 32 = .ok (.ladd, 1) := by decide +kernel
theorem d11_33 : decode prog_46_method_2_code 33 = .ok (.lstore_n 3, 1) := by decide +kernel
theorem d11_34 : decode prog_46_method_2_code 34 = .ok (.iinc 5 1, 3) := by decide +kernel
theorem d11_37 : decode prog_46_method_2_code 37 = .ok (.goto (-32), 3) := by decide +kernel
def Q_rmS10 (Z : State) (p1 : Int32) (p2 : Int32) (a1 : Addr) (b : Addr) (cl : Cell) (a2 : Addr) (dd : Int32) (h0 : Heap) (n0 : Nat) (v : Option Value) (h : Heap) (L : List Loc) : Prop := v = some .null ∧ Fr n0 L ∧ h = h0
set_option maxRecDepth 65536 in
set_option maxHeartbeats 40000000 in
theorem rmS10 (l : Launch) (Z : State) (a0 : Array Value) (hw : ∀ d ∈ tables_1, d.before a0 Z = true) (ws : List Jvm.Cond) (p1 : Int32) (p2 : Int32) (a1 : Addr) (b : Addr) (cl : Cell) (a2 : Addr) (dd : Int32) (h0 : Heap) (n0 : Nat) (Z0 : n0 ≤ h0.size) (E1 : Exa Z h0 a1 "java/util/ArrayList") (F2 : Fld Z h0 a1 "java/util/ArrayList" "size" "I" (.int (1 : Int32))) (F1 : Fld Z h0 a1 "java/util/ArrayList" "elementData" "[Ljava/lang/Object;" (.ref b)) (Ab : Arr Z h0 b cl (.object "java/lang/Object")) (Sb : cl.slots.size = (10 : Int32).toNatClampNeg) (tb : cl.slots[0]? = some (.ref a2)) (E2 : Exa Z h0 a2 "com/example/kiseki/kiseki/span/LinkData") (Fd : Fld Z h0 a2 "com/example/kiseki/kiseki/span/LinkData" "droppedAttributesCount" "I" (.int dd)) (h1 : ¬ ((0 : Int32) < p1)) (h2 : ¬ ((0 : Int32) < p2)) (h3 : ¬ ((0 : Int64) < ((0 : Int64) + dd.toInt64))) :
    MetFree l (⟨"com/example/kiseki/kiseki/tracing/DroppedItems", "atStart", "(IILjava/util/List;)Lcom/example/kiseki/kiseki/tracing/DroppedItems;"⟩ : MethodName) (head1 (Jvm.Cond.code (⟨"com/example/kiseki/kiseki/tracing/DroppedItems", "atStart", "(IILjava/util/List;)Lcom/example/kiseki/kiseki/tracing/DroppedItems;"⟩ : MethodName) prog_46_method_2_code 6 (some (.object "com/example/kiseki/kiseki/tracing/DroppedItems")) :: ws) ({ frames := 3, cells := 0, slots := 0, locals := 60 } : Room)) (fun a U => a = #[(.int p1), (.int p2), (.ref a1)] ∧ Z.Warmed39 U.vm ∧ U.heap = h0) (fun _ _ _ _ _ => True) (fun _ U o U' => ∃ v L, o = .returned v ∧ Q_rmS10 Z p1 p2 a1 b cl a2 dd h0 n0 v U'.heap L ∧ FrameEnd U o U' L ({ frames := 3, cells := 0, slots := 0, locals := 60 } : Room).cells ({ frames := 3, cells := 0, slots := 0, locals := 60 } : Room).slots) := by
  refine MetFree.of_bodySF (plainFor_of_name pn_1) hisR ?_
  intro p e s m args below meth c s₁ Bd hml0 hP hK
  obtain ⟨rfl, hZ, hh⟩ := hP
  have hx := Bd.exec
  have hby := Bd.bytes
  have hml : c.maxLocals = 6 := hml0
  have hown : s.vm.findClass "com/example/kiseki/kiseki/tracing/DroppedItems" = some m.cls := (findClass_of_methodNamed Bd.named :)
  have hnm := (name_of_methodNamed Bd.named Bd.method).1
  have X0 : Stand p l e ({ frames := 3, cells := 0, slots := 0, locals := 60 } : Room) s m #[(.int p1), (.int p2), (.ref a1)] below meth c s₁ [] 0 0 := Stand.of_body Bd
  have e0 : s₁.heap = h0 := by rw [← hh, Bd.state]; rfl
  have N0 := Fr.nil n0
  have pre0 : ∀ t, Steps p.tables e below (s₁.setTop (mkF m 0 #[.val (.int p1), .val (.int p2), .val (.ref a1), .unset, .unset, .unset] [])) t → Steps p.tables e below (s₁.setTop (entryFrame m #[(.int p1), (.int p2), (.ref a1)] 6)) t := fun t k => castTop (ef_rmS10 m p1 p2 a1) k
  obtain ⟨cq1, kq1, q1a, q1b, q1c⟩ := isOf hZ e0 E1
  obtain ⟨_, _, ⟨T1, L1, k1, n1⟩, -, X1, ⟨Lc1, hQ1, l1, y1, z1⟩, st1⟩ := X0.interfaceBack hx (xi := (⟨"java/util/List", "size", "()I"⟩ : MethodName)) (y := (⟨"java/util/ArrayList", "size", "()I"⟩ : MethodName)) hown (mvT hZ (hw _ (List.mem_of_getElem? (i := 82) rfl))) (mvT hZ (hw _ (List.mem_of_getElem? (i := 83) rfl))) (mvT hZ (hw _ (List.mem_of_getElem? (i := 84) rfl))) (mvT hZ (hw _ (List.mem_of_getElem? (i := 85) rfl))) (mvT hZ (hw _ (List.mem_of_getElem? (i := 86) rfl))) (mvT hZ (hw _ (List.mem_of_getElem? (i := 87) rfl))) (mvT hZ (hw _ (List.mem_of_getElem? (i := 88) rfl))) (mvT hZ (hw _ (List.mem_of_getElem? (i := 89) rfl))) (by decide) (backOf (W := 1) (rmSz l Z a0 hw [] a1 (1 : Int32) h0 n0 Z0 F2) hZ (hw _ (List.mem_of_getElem? (i := 90) rfl)) (hw _ (List.mem_of_getElem? (i := 3) rfl)) (by decide) (by decide)) q1a q1b q1c (g := (mkF m 8 #[.val (.int p1), .val (.int p2), .val (.ref a1), .val (.long (0 : Int64)), .second, .val (.int (0 : Int32))] [(.ref a1), (.int (0 : Int32))])) rfl (by rw [hml]; rfl) (Steps.refl _) (argsL := []) (rest := [(.int (0 : Int32))]) (lenOf pd_7 rfl) rfl (by show 2 * 0 + _ ≤ _; exact Nat.le_of_eq rfl) (hb hby d11_8) (fun _ _ => ⟨rfl, e0, (by decide : 0 + 0 ≤ _), (by decide : 0 + 0 ≤ _)⟩)
  dsimp only [Pt.U, Pt.locs, Pt.cells, Pt.slots] at X1 l1 y1 z1 st1 hQ1
  subst l1 y1 z1
  obtain ⟨rfl, N1q, hq1⟩ := hQ1
  have N1 := Fr.app N0 N1q
  obtain ⟨cq2, kq2, q2a, q2b, q2c⟩ := isOf hZ hq1 E1
  obtain ⟨_, _, ⟨T2, L2, k2, n2⟩, -, X2, ⟨Lc2, hQ2, l2, y2, z2⟩, st2⟩ := X1.interfaceBack hx (xi := (⟨"java/util/List", "get", "(I)Ljava/lang/Object;"⟩ : MethodName)) (y := (⟨"java/util/ArrayList", "get", "(I)Ljava/lang/Object;"⟩ : MethodName)) hown (mvT hZ (hw _ (List.mem_of_getElem? (i := 91) rfl))) (mvT hZ (hw _ (List.mem_of_getElem? (i := 92) rfl))) (mvT hZ (hw _ (List.mem_of_getElem? (i := 93) rfl))) (mvT hZ (hw _ (List.mem_of_getElem? (i := 94) rfl))) (mvT hZ (hw _ (List.mem_of_getElem? (i := 95) rfl))) (mvT hZ (hw _ (List.mem_of_getElem? (i := 96) rfl))) (mvT hZ (hw _ (List.mem_of_getElem? (i := 97) rfl))) (mvT hZ (hw _ (List.mem_of_getElem? (i := 89) rfl))) (by decide) (backOf (W := 2) (rmGet l Z a0 hw [] a1 b cl a2 h0 n0 Z0 F1 Ab Sb tb F2 E1) hZ (hw _ (List.mem_of_getElem? (i := 98) rfl)) (hw _ (List.mem_of_getElem? (i := 3) rfl)) (by decide) (by decide)) q2a q2b q2c (g := (mkF m 20 #[.val (.int p1), .val (.int p2), .val (.ref a1), .val (.long (0 : Int64)), .second, .val (.int (0 : Int32))] [(.int (0 : Int32)), (.ref a1), (.long (0 : Int64))])) rfl (by rw [hml]; rfl) (Steps.refl _) (argsL := [(.int (0 : Int32))]) (rest := [(.long (0 : Int64))]) (lenOf pd_6 rfl) rfl (by show 2 * 0 + _ ≤ _; exact Nat.le_of_eq rfl) (hb hby d11_20) (fun _ _ => ⟨rfl, hq1, (by decide : 0 + 0 ≤ _), (by decide : 0 + 0 ≤ _)⟩)
  dsimp only [Pt.U, Pt.locs, Pt.cells, Pt.slots] at X2 l2 y2 z2 st2 hQ2
  subst l2 y2 z2
  obtain ⟨rfl, N2q, hq2⟩ := hQ2
  have N2 := Fr.app N1 N2q
  obtain ⟨T3, X3, e3, st3⟩ := castY X2 hx hZ hown (hw _ (List.mem_of_getElem? (i := 112) rfl)) hq2 (Ins.self E2) (g := (mkF m 25 #[.val (.int p1), .val (.int p2), .val (.ref a1), .val (.long (0 : Int64)), .second, .val (.int (0 : Int32))] [(.ref a2), (.long (0 : Int64))])) rfl rfl (hb hby d11_25)
  obtain ⟨cq4, kq4, q4a, q4b, q4c⟩ := isOf hZ e3 E2
  obtain ⟨_, _, ⟨T4, L4, k4, n4⟩, -, X4, ⟨Lc4, hQ4, l4, y4, z4⟩, st4⟩ := X3.virtualBack hx (y := (⟨"com/example/kiseki/kiseki/span/LinkData", "droppedAttributesCount", "()I"⟩ : MethodName)) (z := (⟨"com/example/kiseki/kiseki/span/LinkData", "droppedAttributesCount", "()I"⟩ : MethodName)) hown (mvT hZ (hw _ (List.mem_of_getElem? (i := 114) rfl))) (mvT hZ (hw _ (List.mem_of_getElem? (i := 115) rfl))) (notFace_of_selects (args := #[]) (mvT hZ (hw _ (List.mem_of_getElem? (i := 117) rfl)))) (mvT hZ (hw _ (List.mem_of_getElem? (i := 117) rfl))) (mvT hZ (hw _ (List.mem_of_getElem? (i := 116) rfl))) (by decide) (backOf (W := 2) (rmDC l Z a0 hw [] a2 dd h0 n0 Z0 Fd) hZ (hw _ (List.mem_of_getElem? (i := 118) rfl)) (hw _ (List.mem_of_getElem? (i := 29) rfl)) (by decide) (by decide)) q4a q4c (g := (mkF m 28 #[.val (.int p1), .val (.int p2), .val (.ref a1), .val (.long (0 : Int64)), .second, .val (.int (0 : Int32))] [(.ref a2), (.long (0 : Int64))])) rfl (by rw [hml]; rfl) (Steps.refl _) (argsL := []) (rest := [(.long (0 : Int64))]) (lenOf pd_7 rfl) rfl (by show 2 * 0 + _ ≤ _; exact Nat.le_of_eq rfl) (hb hby d11_28) (fun _ _ => ⟨rfl, e3, (by decide : 0 + 0 ≤ _), (by decide : 0 + 0 ≤ _)⟩)
  dsimp only [Pt.U, Pt.locs, Pt.cells, Pt.slots] at X4 l4 y4 z4 st4 hQ4
  subst l4 y4 z4
  obtain ⟨rfl, N4q, hq4⟩ := hQ4
  have N4 := Fr.app N2 N4q
  obtain ⟨cq5, kq5, q5a, q5b, q5c⟩ := isOf hZ hq4 E1
  obtain ⟨_, _, ⟨T5, L5, k5, n5⟩, -, X5, ⟨Lc5, hQ5, l5, y5, z5⟩, st5⟩ := X4.interfaceBack hx (xi := (⟨"java/util/List", "size", "()I"⟩ : MethodName)) (y := (⟨"java/util/ArrayList", "size", "()I"⟩ : MethodName)) hown (mvT hZ (hw _ (List.mem_of_getElem? (i := 82) rfl))) (mvT hZ (hw _ (List.mem_of_getElem? (i := 83) rfl))) (mvT hZ (hw _ (List.mem_of_getElem? (i := 84) rfl))) (mvT hZ (hw _ (List.mem_of_getElem? (i := 85) rfl))) (mvT hZ (hw _ (List.mem_of_getElem? (i := 86) rfl))) (mvT hZ (hw _ (List.mem_of_getElem? (i := 87) rfl))) (mvT hZ (hw _ (List.mem_of_getElem? (i := 88) rfl))) (mvT hZ (hw _ (List.mem_of_getElem? (i := 89) rfl))) (by decide) (backOf (W := 1) (rmSz l Z a0 hw [] a1 (1 : Int32) h0 n0 Z0 F2) hZ (hw _ (List.mem_of_getElem? (i := 90) rfl)) (hw _ (List.mem_of_getElem? (i := 3) rfl)) (by decide) (by decide)) q5a q5b q5c (g := (mkF m 8 #[.val (.int p1), .val (.int p2), .val (.ref a1), .val (.long ((0 : Int64) + (dd.toInt64))), .second, .val (.int (1 : Int32))] [(.ref a1), (.int (1 : Int32))])) rfl (by rw [hml]; rfl) (Steps.refl _) (argsL := []) (rest := [(.int (1 : Int32))]) (lenOf pd_7 rfl) rfl (by show 2 * 0 + _ ≤ _; exact Nat.le_of_eq rfl) (hb hby d11_8) (fun _ _ => ⟨rfl, hq4, (by decide : 0 + 0 ≤ _), (by decide : 0 + 0 ≤ _)⟩)
  dsimp only [Pt.U, Pt.locs, Pt.cells, Pt.slots] at X5 l5 y5 z5 st5 hQ5
  subst l5 y5 z5
  obtain ⟨rfl, N5q, hq5⟩ := hQ5
  have N5 := Fr.app N4 N5q
  have pre6 : ∀ t, Steps p.tables e below (T5.setTop (mkF m 88 #[.val (.int p1), .val (.int p2), .val (.ref a1), .val (.long ((0 : Int64) + (dd.toInt64))), .second, .val .null] [.null])) t → Steps p.tables e below (s₁.setTop (entryFrame m #[(.int p1), (.int p2), (.ref a1)] 6)) t := by
    intro t k
    refine pre0 t ?_
    show Steps p.tables e below (s₁.setTop (mkF m 0 #[.val (.int p1), .val (.int p2), .val (.ref a1), .unset, .unset, .unset] [])) _
    refine XS.lconst X0.here hx rfl (hb hby d11_0) ?_
    show Steps p.tables e below (s₁.setTop (mkF m 1 #[.val (.int p1), .val (.int p2), .val (.ref a1), .unset, .unset, .unset] [(.long (0 : Int64))])) _
    refine XS.lstoreN X0.here hx rfl (hb hby d11_1) rfl (l' := #[.val (.int p1), .val (.int p2), .val (.ref a1), .val (.long (0 : Int64)), .second, .unset]) rfl ?_
    show Steps p.tables e below (s₁.setTop (mkF m 2 #[.val (.int p1), .val (.int p2), .val (.ref a1), .val (.long (0 : Int64)), .second, .unset] [])) _
    refine XS.iconst X0.here hx rfl (hb hby d11_2) ?_
    show Steps p.tables e below (s₁.setTop (mkF m 3 #[.val (.int p1), .val (.int p2), .val (.ref a1), .val (.long (0 : Int64)), .second, .unset] [(.int (0 : Int32))])) _
    refine XS.istore X0.here hx rfl (hb hby d11_3) rfl (l' := #[.val (.int p1), .val (.int p2), .val (.ref a1), .val (.long (0 : Int64)), .second, .val (.int (0 : Int32))]) rfl ?_
    show Steps p.tables e below (s₁.setTop (mkF m 5 #[.val (.int p1), .val (.int p2), .val (.ref a1), .val (.long (0 : Int64)), .second, .val (.int (0 : Int32))] [])) _
    refine XS.iload X0.here hx rfl (hb hby d11_5) rfl ?_
    show Steps p.tables e below (s₁.setTop (mkF m 7 #[.val (.int p1), .val (.int p2), .val (.ref a1), .val (.long (0 : Int64)), .second, .val (.int (0 : Int32))] [(.int (0 : Int32))])) _
    refine XS.aloadN X0.here hx rfl (hb hby d11_7) rfl (rfl) ?_
    show Steps p.tables e below (s₁.setTop (mkF m 8 #[.val (.int p1), .val (.int p2), .val (.ref a1), .val (.long (0 : Int64)), .second, .val (.int (0 : Int32))] [(.ref a1), (.int (0 : Int32))])) _
    refine st1.trans ?_
    show Steps p.tables e below (T1.setTop (mkF m 13 #[.val (.int p1), .val (.int p2), .val (.ref a1), .val (.long (0 : Int64)), .second, .val (.int (0 : Int32))] [(.int (1 : Int32)), (.int (0 : Int32))])) _
    refine XS.icmpNo X1.here hx rfl (hb hby d11_13) rfl (tlt (by decide : (0 : Int32) < (1 : Int32))).2.1 ?_
    show Steps p.tables e below (T1.setTop (mkF m 16 #[.val (.int p1), .val (.int p2), .val (.ref a1), .val (.long (0 : Int64)), .second, .val (.int (0 : Int32))] [])) _
    refine XS.lloadN X1.here hx rfl (hb hby d11_16) rfl ?_
    show Steps p.tables e below (T1.setTop (mkF m 17 #[.val (.int p1), .val (.int p2), .val (.ref a1), .val (.long (0 : Int64)), .second, .val (.int (0 : Int32))] [(.long (0 : Int64))])) _
    refine XS.aloadN X1.here hx rfl (hb hby d11_17) rfl (rfl) ?_
    show Steps p.tables e below (T1.setTop (mkF m 18 #[.val (.int p1), .val (.int p2), .val (.ref a1), .val (.long (0 : Int64)), .second, .val (.int (0 : Int32))] [(.ref a1), (.long (0 : Int64))])) _
    refine XS.iload X1.here hx rfl (hb hby d11_18) rfl ?_
    show Steps p.tables e below (T1.setTop (mkF m 20 #[.val (.int p1), .val (.int p2), .val (.ref a1), .val (.long (0 : Int64)), .second, .val (.int (0 : Int32))] [(.int (0 : Int32)), (.ref a1), (.long (0 : Int64))])) _
    refine st2.trans ?_
    show Steps p.tables e below (T2.setTop (mkF m 25 #[.val (.int p1), .val (.int p2), .val (.ref a1), .val (.long (0 : Int64)), .second, .val (.int (0 : Int32))] [(.ref a2), (.long (0 : Int64))])) _
    refine st3 _ ?_
    show Steps p.tables e below (T3.setTop (mkF m 28 #[.val (.int p1), .val (.int p2), .val (.ref a1), .val (.long (0 : Int64)), .second, .val (.int (0 : Int32))] [(.ref a2), (.long (0 : Int64))])) _
    refine st4.trans ?_
    show Steps p.tables e below (T4.setTop (mkF m 31 #[.val (.int p1), .val (.int p2), .val (.ref a1), .val (.long (0 : Int64)), .second, .val (.int (0 : Int32))] [(.int dd), (.long (0 : Int64))])) _
    refine XS.i2l X4.here hx rfl (hb hby d11_31) rfl ?_
    show Steps p.tables e below (T4.setTop (mkF m 32 #[.val (.int p1), .val (.int p2), .val (.ref a1), .val (.long (0 : Int64)), .second, .val (.int (0 : Int32))] [(.long (dd.toInt64)), (.long (0 : Int64))])) _
    refine XS.ladd X4.here hx rfl (hb hby d11_32) rfl ?_
    show Steps p.tables e below (T4.setTop (mkF m 33 #[.val (.int p1), .val (.int p2), .val (.ref a1), .val (.long (0 : Int64)), .second, .val (.int (0 : Int32))] [(.long ((0 : Int64) + (dd.toInt64)))])) _
    refine XS.lstoreN X4.here hx rfl (hb hby d11_33) rfl (l' := #[.val (.int p1), .val (.int p2), .val (.ref a1), .val (.long ((0 : Int64) + (dd.toInt64))), .second, .val (.int (0 : Int32))]) rfl ?_
    show Steps p.tables e below (T4.setTop (mkF m 34 #[.val (.int p1), .val (.int p2), .val (.ref a1), .val (.long ((0 : Int64) + (dd.toInt64))), .second, .val (.int (0 : Int32))] [])) _
    refine XS.iinc X4.here hx rfl (hb hby d11_34) rfl (l' := #[.val (.int p1), .val (.int p2), .val (.ref a1), .val (.long ((0 : Int64) + (dd.toInt64))), .second, .val (.int (1 : Int32))]) rfl ?_
    show Steps p.tables e below (T4.setTop (mkF m 37 #[.val (.int p1), .val (.int p2), .val (.ref a1), .val (.long ((0 : Int64) + (dd.toInt64))), .second, .val (.int (1 : Int32))] [])) _
    refine XS.goto X4.here hx rfl (pc0 := 37) (pc' := 5) rfl (hb hby d11_37) (by decide) (by decide) ?_
    show Steps p.tables e below (T4.setTop (mkF m 5 #[.val (.int p1), .val (.int p2), .val (.ref a1), .val (.long ((0 : Int64) + (dd.toInt64))), .second, .val (.int (1 : Int32))] [])) _
    refine XS.iload X4.here hx rfl (hb hby d11_5) rfl ?_
    show Steps p.tables e below (T4.setTop (mkF m 7 #[.val (.int p1), .val (.int p2), .val (.ref a1), .val (.long ((0 : Int64) + (dd.toInt64))), .second, .val (.int (1 : Int32))] [(.int (1 : Int32))])) _
    refine XS.aloadN X4.here hx rfl (hb hby d11_7) rfl (rfl) ?_
    show Steps p.tables e below (T4.setTop (mkF m 8 #[.val (.int p1), .val (.int p2), .val (.ref a1), .val (.long ((0 : Int64) + (dd.toInt64))), .second, .val (.int (1 : Int32))] [(.ref a1), (.int (1 : Int32))])) _
    refine st5.trans ?_
    show Steps p.tables e below (T5.setTop (mkF m 13 #[.val (.int p1), .val (.int p2), .val (.ref a1), .val (.long ((0 : Int64) + (dd.toInt64))), .second, .val (.int (1 : Int32))] [(.int (1 : Int32)), (.int (1 : Int32))])) _
    refine XS.icmpYes X5.here hx rfl (pc0 := 13) (pc' := 40) rfl (hb hby d11_13) rfl (flt (by decide : ¬ ((1 : Int32) < (1 : Int32)))).2.1 (by decide) (by decide) ?_
    show Steps p.tables e below (T5.setTop (mkF m 40 #[.val (.int p1), .val (.int p2), .val (.ref a1), .val (.long ((0 : Int64) + (dd.toInt64))), .second, .val (.int (1 : Int32))] [])) _
    refine XS.aconstNull X5.here hx rfl (hb hby d11_40) ?_
    show Steps p.tables e below (T5.setTop (mkF m 41 #[.val (.int p1), .val (.int p2), .val (.ref a1), .val (.long ((0 : Int64) + (dd.toInt64))), .second, .val (.int (1 : Int32))] [.null])) _
    refine XS.astore X5.here hx rfl (hb hby d11_41) rfl (rfl) (l' := #[.val (.int p1), .val (.int p2), .val (.ref a1), .val (.long ((0 : Int64) + (dd.toInt64))), .second, .val .null]) rfl ?_
    show Steps p.tables e below (T5.setTop (mkF m 43 #[.val (.int p1), .val (.int p2), .val (.ref a1), .val (.long ((0 : Int64) + (dd.toInt64))), .second, .val .null] [])) _
    refine XS.iloadN X5.here hx rfl (hb hby d11_43) rfl ?_
    show Steps p.tables e below (T5.setTop (mkF m 44 #[.val (.int p1), .val (.int p2), .val (.ref a1), .val (.long ((0 : Int64) + (dd.toInt64))), .second, .val .null] [(.int p1)])) _
    refine XS.ifNo X5.here hx rfl (hb hby d11_44) rfl ((if0 _ _).trans (flt h1).2.2.1) ?_
    show Steps p.tables e below (T5.setTop (mkF m 47 #[.val (.int p1), .val (.int p2), .val (.ref a1), .val (.long ((0 : Int64) + (dd.toInt64))), .second, .val .null] [])) _
    refine XS.iloadN X5.here hx rfl (hb hby d11_47) rfl ?_
    show Steps p.tables e below (T5.setTop (mkF m 48 #[.val (.int p1), .val (.int p2), .val (.ref a1), .val (.long ((0 : Int64) + (dd.toInt64))), .second, .val .null] [(.int p2)])) _
    refine XS.ifNo X5.here hx rfl (hb hby d11_48) rfl ((if0 _ _).trans (flt h2).2.2.1) ?_
    show Steps p.tables e below (T5.setTop (mkF m 51 #[.val (.int p1), .val (.int p2), .val (.ref a1), .val (.long ((0 : Int64) + (dd.toInt64))), .second, .val .null] [])) _
    refine XS.lloadN X5.here hx rfl (hb hby d11_51) rfl ?_
    show Steps p.tables e below (T5.setTop (mkF m 52 #[.val (.int p1), .val (.int p2), .val (.ref a1), .val (.long ((0 : Int64) + (dd.toInt64))), .second, .val .null] [(.long ((0 : Int64) + (dd.toInt64)))])) _
    refine XS.lconst X5.here hx rfl (hb hby d11_52) ?_
    show Steps p.tables e below (T5.setTop (mkF m 53 #[.val (.int p1), .val (.int p2), .val (.ref a1), .val (.long ((0 : Int64) + (dd.toInt64))), .second, .val .null] [(.long (0 : Int64)), (.long ((0 : Int64) + (dd.toInt64)))])) _
    refine XS.lcmp X5.here hx rfl (hb hby d11_53) rfl ?_
    show Steps p.tables e below (T5.setTop (mkF m 54 #[.val (.int p1), .val (.int p2), .val (.ref a1), .val (.long ((0 : Int64) + (dd.toInt64))), .second, .val .null] [(.int (lcmpW ((0 : Int64) + (dd.toInt64)) (0 : Int64)))])) _
    refine XS.ifYes X5.here hx rfl (pc0 := 54) (pc' := 86) rfl (hb hby d11_54) rfl ((if0 _ _).trans (flt (mt (lw_gt ((0 : Int64) + (dd.toInt64)) (0 : Int64)).mp h3)).2.2.2) (by decide) (by decide) ?_
    show Steps p.tables e below (T5.setTop (mkF m 86 #[.val (.int p1), .val (.int p2), .val (.ref a1), .val (.long ((0 : Int64) + (dd.toInt64))), .second, .val .null] [])) _
    refine XS.aload X5.here hx rfl (hb hby d11_86) rfl (rfl) ?_
    show Steps p.tables e below (T5.setTop (mkF m 88 #[.val (.int p1), .val (.int p2), .val (.ref a1), .val (.long ((0 : Int64) + (dd.toInt64))), .second, .val .null] [.null])) _
    exact k
  obtain ⟨fs, hr, hrun, hended, hW, hsame⟩ := X5.leave (v := some .null) (fun h => by rw [Bd.returns] at h; cases h)
  refine ⟨_, _, pre6 _ ?_, hrun, hended, _, _, rfl, ?_, ⟨_, rfl⟩, hW, hsame.mono (by decide) (by decide)⟩
  · exact retOut X5 hx Bd.returns (by first | rfl | simp [narrow]) (Or.inr (Or.inr (Or.inr (Or.inr ⟨rfl, rfl, rfl⟩)))) (hb hby d11_88) hr
  · show Q_rmS10 Z p1 p2 a1 b cl a2 dd h0 n0 _ T5.heap _
    rw [hq5]
    exact ⟨rfl, N5, rfl⟩
theorem ef_rmS11 (m : MethodId) (x0 : Int32) (x1 : Int32) (x2 : Addr) : entryFrame m #[(.int x0), (.int x1), (.ref x2)] 6 = mkF m 0 #[.val (.int x0), .val (.int x1), .val (.ref x2), .unset, .unset, .unset] [] := by first | (simp [entryFrame, mkF, argsToLocals, Value.category]; done) | rfl
def Q_rmS11 (Z : State) (p1 : Int32) (p2 : Int32) (a1 : Addr) (b : Addr) (cl : Cell) (a2 : Addr) (dd : Int32) (h0 : Heap) (n0 : Nat) (v : Option Value) (h : Heap) (L : List Loc) : Prop := ∃ b0 : Addr, v = some (.ref b0) ∧ Fr n0 L ∧ Keep h0 h [] ∧ n0 ≤ b0 ∧ Exa Z h b0 "com/example/kiseki/kiseki/tracing/DroppedItems" ∧ Fld Z h b0 "com/example/kiseki/kiseki/tracing/DroppedItems" "attributesBeforeStart" "J" (.long p1.toInt64) ∧ Fld Z h b0 "com/example/kiseki/kiseki/tracing/DroppedItems" "attributesSinceStart" "J" (.long (0 : Int64)) ∧ Fld Z h b0 "com/example/kiseki/kiseki/tracing/DroppedItems" "events" "J" (.long (0 : Int64)) ∧ Fld Z h b0 "com/example/kiseki/kiseki/tracing/DroppedItems" "links" "J" (.long p2.toInt64) ∧ Fld Z h b0 "com/example/kiseki/kiseki/tracing/DroppedItems" "eventAttributes" "J" (.long (0 : Int64)) ∧ Fld Z h b0 "com/example/kiseki/kiseki/tracing/DroppedItems" "linkAttributes" "J" (.long ((0 : Int64) + dd.toInt64)) ∧ Fld Z h b0 "com/example/kiseki/kiseki/tracing/DroppedItems" "attributesElsewhere" "J" (.long (0 : Int64)) ∧ Fld Z h b0 "com/example/kiseki/kiseki/tracing/DroppedItems" "eventsElsewhere" "J" (.long (0 : Int64)) ∧ Fld Z h b0 "com/example/kiseki/kiseki/tracing/DroppedItems" "linksElsewhere" "J" (.long (0 : Int64))
set_option maxRecDepth 65536 in
set_option maxHeartbeats 40000000 in
theorem rmS11 (l : Launch) (Z : State) (a0 : Array Value) (hw : ∀ d ∈ tables_1, d.before a0 Z = true) (ws : List Jvm.Cond) (p1 : Int32) (p2 : Int32) (a1 : Addr) (b : Addr) (cl : Cell) (a2 : Addr) (dd : Int32) (h0 : Heap) (n0 : Nat) (Z0 : n0 ≤ h0.size) (E1 : Exa Z h0 a1 "java/util/ArrayList") (F2 : Fld Z h0 a1 "java/util/ArrayList" "size" "I" (.int (1 : Int32))) (F1 : Fld Z h0 a1 "java/util/ArrayList" "elementData" "[Ljava/lang/Object;" (.ref b)) (Ab : Arr Z h0 b cl (.object "java/lang/Object")) (Sb : cl.slots.size = (10 : Int32).toNatClampNeg) (tb : cl.slots[0]? = some (.ref a2)) (E2 : Exa Z h0 a2 "com/example/kiseki/kiseki/span/LinkData") (Fd : Fld Z h0 a2 "com/example/kiseki/kiseki/span/LinkData" "droppedAttributesCount" "I" (.int dd)) (hc : (0 : Int32) < p1 ∨ (0 : Int32) < p2 ∨ (0 : Int64) < ((0 : Int64) + dd.toInt64)) :
    MetFree l (⟨"com/example/kiseki/kiseki/tracing/DroppedItems", "atStart", "(IILjava/util/List;)Lcom/example/kiseki/kiseki/tracing/DroppedItems;"⟩ : MethodName) (head1 (Jvm.Cond.code (⟨"com/example/kiseki/kiseki/tracing/DroppedItems", "atStart", "(IILjava/util/List;)Lcom/example/kiseki/kiseki/tracing/DroppedItems;"⟩ : MethodName) prog_46_method_2_code 6 (some (.object "com/example/kiseki/kiseki/tracing/DroppedItems")) :: ws) ({ frames := 3, cells := 1, slots := 9, locals := 60 } : Room)) (fun a U => a = #[(.int p1), (.int p2), (.ref a1)] ∧ Z.Warmed39 U.vm ∧ U.heap = h0) (fun _ _ _ _ _ => True) (fun _ U o U' => ∃ v L, o = .returned v ∧ Q_rmS11 Z p1 p2 a1 b cl a2 dd h0 n0 v U'.heap L ∧ FrameEnd U o U' L ({ frames := 3, cells := 1, slots := 9, locals := 60 } : Room).cells ({ frames := 3, cells := 1, slots := 9, locals := 60 } : Room).slots) := by
  refine MetFree.of_bodySF (plainFor_of_name pn_1) hisR ?_
  intro p e s m args below meth c s₁ Bd hml0 hP hK
  obtain ⟨rfl, hZ, hh⟩ := hP
  have hx := Bd.exec
  have hby := Bd.bytes
  have hml : c.maxLocals = 6 := hml0
  have hown : s.vm.findClass "com/example/kiseki/kiseki/tracing/DroppedItems" = some m.cls := (findClass_of_methodNamed Bd.named :)
  have hnm := (name_of_methodNamed Bd.named Bd.method).1
  have X0 : Stand p l e ({ frames := 3, cells := 1, slots := 9, locals := 60 } : Room) s m #[(.int p1), (.int p2), (.ref a1)] below meth c s₁ [] 0 0 := Stand.of_body Bd
  have e0 : s₁.heap = h0 := by rw [← hh, Bd.state]; rfl
  have N0 := Fr.nil n0
  have pre0 : ∀ t, Steps p.tables e below (s₁.setTop (mkF m 0 #[.val (.int p1), .val (.int p2), .val (.ref a1), .unset, .unset, .unset] [])) t → Steps p.tables e below (s₁.setTop (entryFrame m #[(.int p1), (.int p2), (.ref a1)] 6)) t := fun t k => castTop (ef_rmS11 m p1 p2 a1) k
  obtain ⟨cq1, kq1, q1a, q1b, q1c⟩ := isOf hZ e0 E1
  obtain ⟨_, _, ⟨T1, L1, k1, n1⟩, -, X1, ⟨Lc1, hQ1, l1, y1, z1⟩, st1⟩ := X0.interfaceBack hx (xi := (⟨"java/util/List", "size", "()I"⟩ : MethodName)) (y := (⟨"java/util/ArrayList", "size", "()I"⟩ : MethodName)) hown (mvT hZ (hw _ (List.mem_of_getElem? (i := 82) rfl))) (mvT hZ (hw _ (List.mem_of_getElem? (i := 83) rfl))) (mvT hZ (hw _ (List.mem_of_getElem? (i := 84) rfl))) (mvT hZ (hw _ (List.mem_of_getElem? (i := 85) rfl))) (mvT hZ (hw _ (List.mem_of_getElem? (i := 86) rfl))) (mvT hZ (hw _ (List.mem_of_getElem? (i := 87) rfl))) (mvT hZ (hw _ (List.mem_of_getElem? (i := 88) rfl))) (mvT hZ (hw _ (List.mem_of_getElem? (i := 89) rfl))) (by decide) (backOf (W := 1) (rmSz l Z a0 hw [] a1 (1 : Int32) h0 n0 Z0 F2) hZ (hw _ (List.mem_of_getElem? (i := 90) rfl)) (hw _ (List.mem_of_getElem? (i := 3) rfl)) (by decide) (by decide)) q1a q1b q1c (g := (mkF m 8 #[.val (.int p1), .val (.int p2), .val (.ref a1), .val (.long (0 : Int64)), .second, .val (.int (0 : Int32))] [(.ref a1), (.int (0 : Int32))])) rfl (by rw [hml]; rfl) (Steps.refl _) (argsL := []) (rest := [(.int (0 : Int32))]) (lenOf pd_7 rfl) rfl (by show 2 * 0 + _ ≤ _; exact Nat.le_of_eq rfl) (hb hby d11_8) (fun _ _ => ⟨rfl, e0, (by decide : 0 + 0 ≤ _), (by decide : 0 + 0 ≤ _)⟩)
  dsimp only [Pt.U, Pt.locs, Pt.cells, Pt.slots] at X1 l1 y1 z1 st1 hQ1
  subst l1 y1 z1
  obtain ⟨rfl, N1q, hq1⟩ := hQ1
  have N1 := Fr.app N0 N1q
  obtain ⟨cq2, kq2, q2a, q2b, q2c⟩ := isOf hZ hq1 E1
  obtain ⟨_, _, ⟨T2, L2, k2, n2⟩, -, X2, ⟨Lc2, hQ2, l2, y2, z2⟩, st2⟩ := X1.interfaceBack hx (xi := (⟨"java/util/List", "get", "(I)Ljava/lang/Object;"⟩ : MethodName)) (y := (⟨"java/util/ArrayList", "get", "(I)Ljava/lang/Object;"⟩ : MethodName)) hown (mvT hZ (hw _ (List.mem_of_getElem? (i := 91) rfl))) (mvT hZ (hw _ (List.mem_of_getElem? (i := 92) rfl))) (mvT hZ (hw _ (List.mem_of_getElem? (i := 93) rfl))) (mvT hZ (hw _ (List.mem_of_getElem? (i := 94) rfl))) (mvT hZ (hw _ (List.mem_of_getElem? (i := 95) rfl))) (mvT hZ (hw _ (List.mem_of_getElem? (i := 96) rfl))) (mvT hZ (hw _ (List.mem_of_getElem? (i := 97) rfl))) (mvT hZ (hw _ (List.mem_of_getElem? (i := 89) rfl))) (by decide) (backOf (W := 2) (rmGet l Z a0 hw [] a1 b cl a2 h0 n0 Z0 F1 Ab Sb tb F2 E1) hZ (hw _ (List.mem_of_getElem? (i := 98) rfl)) (hw _ (List.mem_of_getElem? (i := 3) rfl)) (by decide) (by decide)) q2a q2b q2c (g := (mkF m 20 #[.val (.int p1), .val (.int p2), .val (.ref a1), .val (.long (0 : Int64)), .second, .val (.int (0 : Int32))] [(.int (0 : Int32)), (.ref a1), (.long (0 : Int64))])) rfl (by rw [hml]; rfl) (Steps.refl _) (argsL := [(.int (0 : Int32))]) (rest := [(.long (0 : Int64))]) (lenOf pd_6 rfl) rfl (by show 2 * 0 + _ ≤ _; exact Nat.le_of_eq rfl) (hb hby d11_20) (fun _ _ => ⟨rfl, hq1, (by decide : 0 + 0 ≤ _), (by decide : 0 + 0 ≤ _)⟩)
  dsimp only [Pt.U, Pt.locs, Pt.cells, Pt.slots] at X2 l2 y2 z2 st2 hQ2
  subst l2 y2 z2
  obtain ⟨rfl, N2q, hq2⟩ := hQ2
  have N2 := Fr.app N1 N2q
  obtain ⟨T3, X3, e3, st3⟩ := castY X2 hx hZ hown (hw _ (List.mem_of_getElem? (i := 112) rfl)) hq2 (Ins.self E2) (g := (mkF m 25 #[.val (.int p1), .val (.int p2), .val (.ref a1), .val (.long (0 : Int64)), .second, .val (.int (0 : Int32))] [(.ref a2), (.long (0 : Int64))])) rfl rfl (hb hby d11_25)
  obtain ⟨cq4, kq4, q4a, q4b, q4c⟩ := isOf hZ e3 E2
  obtain ⟨_, _, ⟨T4, L4, k4, n4⟩, -, X4, ⟨Lc4, hQ4, l4, y4, z4⟩, st4⟩ := X3.virtualBack hx (y := (⟨"com/example/kiseki/kiseki/span/LinkData", "droppedAttributesCount", "()I"⟩ : MethodName)) (z := (⟨"com/example/kiseki/kiseki/span/LinkData", "droppedAttributesCount", "()I"⟩ : MethodName)) hown (mvT hZ (hw _ (List.mem_of_getElem? (i := 114) rfl))) (mvT hZ (hw _ (List.mem_of_getElem? (i := 115) rfl))) (notFace_of_selects (args := #[]) (mvT hZ (hw _ (List.mem_of_getElem? (i := 117) rfl)))) (mvT hZ (hw _ (List.mem_of_getElem? (i := 117) rfl))) (mvT hZ (hw _ (List.mem_of_getElem? (i := 116) rfl))) (by decide) (backOf (W := 2) (rmDC l Z a0 hw [] a2 dd h0 n0 Z0 Fd) hZ (hw _ (List.mem_of_getElem? (i := 118) rfl)) (hw _ (List.mem_of_getElem? (i := 29) rfl)) (by decide) (by decide)) q4a q4c (g := (mkF m 28 #[.val (.int p1), .val (.int p2), .val (.ref a1), .val (.long (0 : Int64)), .second, .val (.int (0 : Int32))] [(.ref a2), (.long (0 : Int64))])) rfl (by rw [hml]; rfl) (Steps.refl _) (argsL := []) (rest := [(.long (0 : Int64))]) (lenOf pd_7 rfl) rfl (by show 2 * 0 + _ ≤ _; exact Nat.le_of_eq rfl) (hb hby d11_28) (fun _ _ => ⟨rfl, e3, (by decide : 0 + 0 ≤ _), (by decide : 0 + 0 ≤ _)⟩)
  dsimp only [Pt.U, Pt.locs, Pt.cells, Pt.slots] at X4 l4 y4 z4 st4 hQ4
  subst l4 y4 z4
  obtain ⟨rfl, N4q, hq4⟩ := hQ4
  have N4 := Fr.app N2 N4q
  obtain ⟨cq5, kq5, q5a, q5b, q5c⟩ := isOf hZ hq4 E1
  obtain ⟨_, _, ⟨T5, L5, k5, n5⟩, -, X5, ⟨Lc5, hQ5, l5, y5, z5⟩, st5⟩ := X4.interfaceBack hx (xi := (⟨"java/util/List", "size", "()I"⟩ : MethodName)) (y := (⟨"java/util/ArrayList", "size", "()I"⟩ : MethodName)) hown (mvT hZ (hw _ (List.mem_of_getElem? (i := 82) rfl))) (mvT hZ (hw _ (List.mem_of_getElem? (i := 83) rfl))) (mvT hZ (hw _ (List.mem_of_getElem? (i := 84) rfl))) (mvT hZ (hw _ (List.mem_of_getElem? (i := 85) rfl))) (mvT hZ (hw _ (List.mem_of_getElem? (i := 86) rfl))) (mvT hZ (hw _ (List.mem_of_getElem? (i := 87) rfl))) (mvT hZ (hw _ (List.mem_of_getElem? (i := 88) rfl))) (mvT hZ (hw _ (List.mem_of_getElem? (i := 89) rfl))) (by decide) (backOf (W := 1) (rmSz l Z a0 hw [] a1 (1 : Int32) h0 n0 Z0 F2) hZ (hw _ (List.mem_of_getElem? (i := 90) rfl)) (hw _ (List.mem_of_getElem? (i := 3) rfl)) (by decide) (by decide)) q5a q5b q5c (g := (mkF m 8 #[.val (.int p1), .val (.int p2), .val (.ref a1), .val (.long ((0 : Int64) + (dd.toInt64))), .second, .val (.int (1 : Int32))] [(.ref a1), (.int (1 : Int32))])) rfl (by rw [hml]; rfl) (Steps.refl _) (argsL := []) (rest := [(.int (1 : Int32))]) (lenOf pd_7 rfl) rfl (by show 2 * 0 + _ ≤ _; exact Nat.le_of_eq rfl) (hb hby d11_8) (fun _ _ => ⟨rfl, hq4, (by decide : 0 + 0 ≤ _), (by decide : 0 + 0 ≤ _)⟩)
  dsimp only [Pt.U, Pt.locs, Pt.cells, Pt.slots] at X5 l5 y5 z5 st5 hQ5
  subst l5 y5 z5
  obtain ⟨rfl, N5q, hq5⟩ := hQ5
  have N5 := Fr.app N4 N5q
  have pre6 : ∀ t, Steps p.tables e below (T5.setTop (mkF m 44 #[.val (.int p1), .val (.int p2), .val (.ref a1), .val (.long ((0 : Int64) + (dd.toInt64))), .second, .val .null] [(.int p1)])) t → Steps p.tables e below (s₁.setTop (entryFrame m #[(.int p1), (.int p2), (.ref a1)] 6)) t := by
    intro t k
    refine pre0 t ?_
    show Steps p.tables e below (s₁.setTop (mkF m 0 #[.val (.int p1), .val (.int p2), .val (.ref a1), .unset, .unset, .unset] [])) _
    refine XS.lconst X0.here hx rfl (hb hby d11_0) ?_
    show Steps p.tables e below (s₁.setTop (mkF m 1 #[.val (.int p1), .val (.int p2), .val (.ref a1), .unset, .unset, .unset] [(.long (0 : Int64))])) _
    refine XS.lstoreN X0.here hx rfl (hb hby d11_1) rfl (l' := #[.val (.int p1), .val (.int p2), .val (.ref a1), .val (.long (0 : Int64)), .second, .unset]) rfl ?_
    show Steps p.tables e below (s₁.setTop (mkF m 2 #[.val (.int p1), .val (.int p2), .val (.ref a1), .val (.long (0 : Int64)), .second, .unset] [])) _
    refine XS.iconst X0.here hx rfl (hb hby d11_2) ?_
    show Steps p.tables e below (s₁.setTop (mkF m 3 #[.val (.int p1), .val (.int p2), .val (.ref a1), .val (.long (0 : Int64)), .second, .unset] [(.int (0 : Int32))])) _
    refine XS.istore X0.here hx rfl (hb hby d11_3) rfl (l' := #[.val (.int p1), .val (.int p2), .val (.ref a1), .val (.long (0 : Int64)), .second, .val (.int (0 : Int32))]) rfl ?_
    show Steps p.tables e below (s₁.setTop (mkF m 5 #[.val (.int p1), .val (.int p2), .val (.ref a1), .val (.long (0 : Int64)), .second, .val (.int (0 : Int32))] [])) _
    refine XS.iload X0.here hx rfl (hb hby d11_5) rfl ?_
    show Steps p.tables e below (s₁.setTop (mkF m 7 #[.val (.int p1), .val (.int p2), .val (.ref a1), .val (.long (0 : Int64)), .second, .val (.int (0 : Int32))] [(.int (0 : Int32))])) _
    refine XS.aloadN X0.here hx rfl (hb hby d11_7) rfl (rfl) ?_
    show Steps p.tables e below (s₁.setTop (mkF m 8 #[.val (.int p1), .val (.int p2), .val (.ref a1), .val (.long (0 : Int64)), .second, .val (.int (0 : Int32))] [(.ref a1), (.int (0 : Int32))])) _
    refine st1.trans ?_
    show Steps p.tables e below (T1.setTop (mkF m 13 #[.val (.int p1), .val (.int p2), .val (.ref a1), .val (.long (0 : Int64)), .second, .val (.int (0 : Int32))] [(.int (1 : Int32)), (.int (0 : Int32))])) _
    refine XS.icmpNo X1.here hx rfl (hb hby d11_13) rfl (tlt (by decide : (0 : Int32) < (1 : Int32))).2.1 ?_
    show Steps p.tables e below (T1.setTop (mkF m 16 #[.val (.int p1), .val (.int p2), .val (.ref a1), .val (.long (0 : Int64)), .second, .val (.int (0 : Int32))] [])) _
    refine XS.lloadN X1.here hx rfl (hb hby d11_16) rfl ?_
    show Steps p.tables e below (T1.setTop (mkF m 17 #[.val (.int p1), .val (.int p2), .val (.ref a1), .val (.long (0 : Int64)), .second, .val (.int (0 : Int32))] [(.long (0 : Int64))])) _
    refine XS.aloadN X1.here hx rfl (hb hby d11_17) rfl (rfl) ?_
    show Steps p.tables e below (T1.setTop (mkF m 18 #[.val (.int p1), .val (.int p2), .val (.ref a1), .val (.long (0 : Int64)), .second, .val (.int (0 : Int32))] [(.ref a1), (.long (0 : Int64))])) _
    refine XS.iload X1.here hx rfl (hb hby d11_18) rfl ?_
    show Steps p.tables e below (T1.setTop (mkF m 20 #[.val (.int p1), .val (.int p2), .val (.ref a1), .val (.long (0 : Int64)), .second, .val (.int (0 : Int32))] [(.int (0 : Int32)), (.ref a1), (.long (0 : Int64))])) _
    refine st2.trans ?_
    show Steps p.tables e below (T2.setTop (mkF m 25 #[.val (.int p1), .val (.int p2), .val (.ref a1), .val (.long (0 : Int64)), .second, .val (.int (0 : Int32))] [(.ref a2), (.long (0 : Int64))])) _
    refine st3 _ ?_
    show Steps p.tables e below (T3.setTop (mkF m 28 #[.val (.int p1), .val (.int p2), .val (.ref a1), .val (.long (0 : Int64)), .second, .val (.int (0 : Int32))] [(.ref a2), (.long (0 : Int64))])) _
    refine st4.trans ?_
    show Steps p.tables e below (T4.setTop (mkF m 31 #[.val (.int p1), .val (.int p2), .val (.ref a1), .val (.long (0 : Int64)), .second, .val (.int (0 : Int32))] [(.int dd), (.long (0 : Int64))])) _
    refine XS.i2l X4.here hx rfl (hb hby d11_31) rfl ?_
    show Steps p.tables e below (T4.setTop (mkF m 32 #[.val (.int p1), .val (.int p2), .val (.ref a1), .val (.long (0 : Int64)), .second, .val (.int (0 : Int32))] [(.long (dd.toInt64)), (.long (0 : Int64))])) _
    refine XS.ladd X4.here hx rfl (hb hby d11_32) rfl ?_
    show Steps p.tables e below (T4.setTop (mkF m 33 #[.val (.int p1), .val (.int p2), .val (.ref a1), .val (.long (0 : Int64)), .second, .val (.int (0 : Int32))] [(.long ((0 : Int64) + (dd.toInt64)))])) _
    refine XS.lstoreN X4.here hx rfl (hb hby d11_33) rfl (l' := #[.val (.int p1), .val (.int p2), .val (.ref a1), .val (.long ((0 : Int64) + (dd.toInt64))), .second, .val (.int (0 : Int32))]) rfl ?_
    show Steps p.tables e below (T4.setTop (mkF m 34 #[.val (.int p1), .val (.int p2), .val (.ref a1), .val (.long ((0 : Int64) + (dd.toInt64))), .second, .val (.int (0 : Int32))] [])) _
    refine XS.iinc X4.here hx rfl (hb hby d11_34) rfl (l' := #[.val (.int p1), .val (.int p2), .val (.ref a1), .val (.long ((0 : Int64) + (dd.toInt64))), .second, .val (.int (1 : Int32))]) rfl ?_
    show Steps p.tables e below (T4.setTop (mkF m 37 #[.val (.int p1), .val (.int p2), .val (.ref a1), .val (.long ((0 : Int64) + (dd.toInt64))), .second, .val (.int (1 : Int32))] [])) _
    refine XS.goto X4.here hx rfl (pc0 := 37) (pc' := 5) rfl (hb hby d11_37) (by decide) (by decide) ?_
    show Steps p.tables e below (T4.setTop (mkF m 5 #[.val (.int p1), .val (.int p2), .val (.ref a1), .val (.long ((0 : Int64) + (dd.toInt64))), .second, .val (.int (1 : Int32))] [])) _
    refine XS.iload X4.here hx rfl (hb hby d11_5) rfl ?_
    show Steps p.tables e below (T4.setTop (mkF m 7 #[.val (.int p1), .val (.int p2), .val (.ref a1), .val (.long ((0 : Int64) + (dd.toInt64))), .second, .val (.int (1 : Int32))] [(.int (1 : Int32))])) _
    refine XS.aloadN X4.here hx rfl (hb hby d11_7) rfl (rfl) ?_
    show Steps p.tables e below (T4.setTop (mkF m 8 #[.val (.int p1), .val (.int p2), .val (.ref a1), .val (.long ((0 : Int64) + (dd.toInt64))), .second, .val (.int (1 : Int32))] [(.ref a1), (.int (1 : Int32))])) _
    refine st5.trans ?_
    show Steps p.tables e below (T5.setTop (mkF m 13 #[.val (.int p1), .val (.int p2), .val (.ref a1), .val (.long ((0 : Int64) + (dd.toInt64))), .second, .val (.int (1 : Int32))] [(.int (1 : Int32)), (.int (1 : Int32))])) _
    refine XS.icmpYes X5.here hx rfl (pc0 := 13) (pc' := 40) rfl (hb hby d11_13) rfl (flt (by decide : ¬ ((1 : Int32) < (1 : Int32)))).2.1 (by decide) (by decide) ?_
    show Steps p.tables e below (T5.setTop (mkF m 40 #[.val (.int p1), .val (.int p2), .val (.ref a1), .val (.long ((0 : Int64) + (dd.toInt64))), .second, .val (.int (1 : Int32))] [])) _
    refine XS.aconstNull X5.here hx rfl (hb hby d11_40) ?_
    show Steps p.tables e below (T5.setTop (mkF m 41 #[.val (.int p1), .val (.int p2), .val (.ref a1), .val (.long ((0 : Int64) + (dd.toInt64))), .second, .val (.int (1 : Int32))] [.null])) _
    refine XS.astore X5.here hx rfl (hb hby d11_41) rfl (rfl) (l' := #[.val (.int p1), .val (.int p2), .val (.ref a1), .val (.long ((0 : Int64) + (dd.toInt64))), .second, .val .null]) rfl ?_
    show Steps p.tables e below (T5.setTop (mkF m 43 #[.val (.int p1), .val (.int p2), .val (.ref a1), .val (.long ((0 : Int64) + (dd.toInt64))), .second, .val .null] [])) _
    refine XS.iloadN X5.here hx rfl (hb hby d11_43) rfl ?_
    show Steps p.tables e below (T5.setTop (mkF m 44 #[.val (.int p1), .val (.int p2), .val (.ref a1), .val (.long ((0 : Int64) + (dd.toInt64))), .second, .val .null] [(.int p1)])) _
    exact k
  by_cases h44 : (0 : Int32) < p1
  · skip
    obtain ⟨T7, h7, X7, e7, E7, A7, D7, -, st7⟩ := newO X5 hx hZ hown (hw _ (List.mem_of_getElem? (i := 119) rfl)) (hw _ (List.mem_of_getElem? (i := 120) rfl)) (hw _ (List.mem_of_getElem? (i := 80) rfl)) hq5 (g := (mkF m 57 #[.val (.int p1), .val (.int p2), .val (.ref a1), .val (.long ((0 : Int64) + (dd.toInt64))), .second, .val .null] [])) rfl (hb hby d11_57) (by decide) (by decide)
    obtain ⟨b7, g7⟩ : ∃ z, z = h0.size := ⟨_, rfl⟩
    rw [← g7] at A7 D7 st7
    have ne_a1_b7 : a1 ≠ b7 := Nat.ne_of_lt (Nat.lt_of_lt_of_le E1.lt (Nat.le_of_eq g7.symm))
    have ne_a2_b7 : a2 ≠ b7 := Nat.ne_of_lt (Nat.lt_of_lt_of_le E2.lt (Nat.le_of_eq g7.symm))
    have F7_attributesBeforeStart : Fld Z h7 b7 "com/example/kiseki/kiseki/tracing/DroppedItems" "attributesBeforeStart" "J" (.long (0 : Int64)) := D7 (Or.inl (hw _ (List.mem_of_getElem? (i := 126) rfl))) (ty := .long) (by decide)
    have F7_links : Fld Z h7 b7 "com/example/kiseki/kiseki/tracing/DroppedItems" "links" "J" (.long (0 : Int64)) := D7 (Or.inl (hw _ (List.mem_of_getElem? (i := 128) rfl))) (ty := .long) (by decide)
    have F7_linkAttributes : Fld Z h7 b7 "com/example/kiseki/kiseki/tracing/DroppedItems" "linkAttributes" "J" (.long (0 : Int64)) := D7 (Or.inl (hw _ (List.mem_of_getElem? (i := 130) rfl))) (ty := .long) (by decide)
    have F7_attributesSinceStart : Fld Z h7 b7 "com/example/kiseki/kiseki/tracing/DroppedItems" "attributesSinceStart" "J" (.long (0 : Int64)) := D7 (Or.inl (hw _ (List.mem_of_getElem? (i := 138) rfl))) (ty := .long) (by decide)
    have F7_events : Fld Z h7 b7 "com/example/kiseki/kiseki/tracing/DroppedItems" "events" "J" (.long (0 : Int64)) := D7 (Or.inl (hw _ (List.mem_of_getElem? (i := 140) rfl))) (ty := .long) (by decide)
    have F7_eventAttributes : Fld Z h7 b7 "com/example/kiseki/kiseki/tracing/DroppedItems" "eventAttributes" "J" (.long (0 : Int64)) := D7 (Or.inl (hw _ (List.mem_of_getElem? (i := 144) rfl))) (ty := .long) (by decide)
    have F7_attributesElsewhere : Fld Z h7 b7 "com/example/kiseki/kiseki/tracing/DroppedItems" "attributesElsewhere" "J" (.long (0 : Int64)) := D7 (Or.inl (hw _ (List.mem_of_getElem? (i := 168) rfl))) (ty := .long) (by decide)
    have F7_eventsElsewhere : Fld Z h7 b7 "com/example/kiseki/kiseki/tracing/DroppedItems" "eventsElsewhere" "J" (.long (0 : Int64)) := D7 (Or.inl (hw _ (List.mem_of_getElem? (i := 170) rfl))) (ty := .long) (by decide)
    have F7_linksElsewhere : Fld Z h7 b7 "com/example/kiseki/kiseki/tracing/DroppedItems" "linksElsewhere" "J" (.long (0 : Int64)) := D7 (Or.inl (hw _ (List.mem_of_getElem? (i := 172) rfl))) (ty := .long) (by decide)
    have g_b7 : n0 ≤ b7 := Nat.le_trans Z0 (Nat.le_of_eq g7.symm)
    have sz_b7 : h0.size ≤ b7 := (Nat.le_trans (Keep.refl h0 []).1 (Nat.le_of_eq g7.symm))
    have K7 : Keep h0 h7 [] := (Keep.refl h0 []).ext E7
    obtain ⟨_, _, ⟨T8, L8, k8, n8⟩, -, X8, ⟨Lc8, hQ8, l8, y8, z8⟩, st8⟩ := X7.specialBack hx (y := (⟨"com/example/kiseki/kiseki/tracing/DroppedItems", "<init>", "()V"⟩ : MethodName)) rfl hown (mvT hZ (hw _ (List.mem_of_getElem? (i := 121) rfl))) (mvT hZ (hw _ (List.mem_of_getElem? (i := 122) rfl))) (mvT hZ (hw _ (List.mem_of_getElem? (i := 123) rfl))) (by decide) (backOf (W := 1) (rmDI l Z a0 hw [] b7  h7 n0 (Nat.le_trans Z0 E7.1) ) hZ (hw _ (List.mem_of_getElem? (i := 123) rfl)) (hw _ (List.mem_of_getElem? (i := 80) rfl)) (by decide) (by decide)) (g := (mkF m 61 #[.val (.int p1), .val (.int p2), .val (.ref a1), .val (.long ((0 : Int64) + (dd.toInt64))), .second, .val .null] [(.ref b7), (.ref b7)])) rfl (by rw [hml]; rfl) (Steps.refl _) (a := b7) (argsL := []) (rest := [(.ref b7)]) (lenOf pd_0 rfl) rfl (by show 2 * 0 + _ ≤ _; exact Nat.le_of_eq rfl) (hb hby d11_61) (fun _ _ => ⟨rfl, e7, (by decide : 1 + 0 ≤ _), (by decide : 9 + 0 ≤ _)⟩)
    dsimp only [Pt.U, Pt.locs, Pt.cells, Pt.slots] at X8 l8 y8 z8 st8 hQ8
    subst l8 y8 z8
    obtain ⟨rfl, N8q, hq8⟩ := hQ8
    have N8 := Fr.app N5 N8q
    obtain ⟨T9, h9, X9, e9, W9, st9⟩ := putF X8 hx hZ hown (host := "") (Or.inl (hw _ (List.mem_of_getElem? (i := 125) rfl))) Via.refl hq8 F7_attributesBeforeStart A7 (Or.inl (hw _ (List.mem_of_getElem? (i := 126) rfl))) (hw _ (List.mem_of_getElem? (i := 120) rfl)) (ty := .long) (by decide) rfl rfl (g := (mkF m 70 #[.val (.int p1), .val (.int p2), .val (.ref a1), .val (.long ((0 : Int64) + (dd.toInt64))), .second, .val (.ref b7)] [(.long (p1.toInt64)), (.ref b7)])) rfl rfl (hb hby d11_70)
    have Fw9 := F7_attributesBeforeStart.same W9
    have K9 : Keep h0 h9 [] := K7.wr W9 (Or.inr sz_b7)
    have N9 := Fr.snoc X9 N8 g_b7
    obtain ⟨T10, h10, X10, e10, W10, st10⟩ := putF X9 hx hZ hown (host := "") (Or.inl (hw _ (List.mem_of_getElem? (i := 127) rfl))) Via.refl e9 (F7_links.other W9 (Or.inr (slot_ne (Or.inl (hw _ (List.mem_of_getElem? (i := 128) rfl))) (Or.inl (hw _ (List.mem_of_getElem? (i := 126) rfl))) (by decide) (t := .long) (t' := .long) (by decide) (by decide)))) (A7.wr W9) (Or.inl (hw _ (List.mem_of_getElem? (i := 128) rfl))) (hw _ (List.mem_of_getElem? (i := 120) rfl)) (ty := .long) (by decide) rfl rfl (g := (mkF m 77 #[.val (.int p1), .val (.int p2), .val (.ref a1), .val (.long ((0 : Int64) + (dd.toInt64))), .second, .val (.ref b7)] [(.long (p2.toInt64)), (.ref b7)])) rfl rfl (hb hby d11_77)
    have Fw10 := (F7_links.other W9 (Or.inr (slot_ne (Or.inl (hw _ (List.mem_of_getElem? (i := 128) rfl))) (Or.inl (hw _ (List.mem_of_getElem? (i := 126) rfl))) (by decide) (t := .long) (t' := .long) (by decide) (by decide)))).same W10
    have K10 : Keep h0 h10 [] := K9.wr W10 (Or.inr sz_b7)
    have N10 := Fr.snoc X10 N9 g_b7
    obtain ⟨T11, h11, X11, e11, W11, st11⟩ := putF X10 hx hZ hown (host := "") (Or.inl (hw _ (List.mem_of_getElem? (i := 129) rfl))) Via.refl e10 ((F7_linkAttributes.other W9 (Or.inr (slot_ne (Or.inl (hw _ (List.mem_of_getElem? (i := 130) rfl))) (Or.inl (hw _ (List.mem_of_getElem? (i := 126) rfl))) (by decide) (t := .long) (t' := .long) (by decide) (by decide)))).other W10 (Or.inr (slot_ne (Or.inl (hw _ (List.mem_of_getElem? (i := 130) rfl))) (Or.inl (hw _ (List.mem_of_getElem? (i := 128) rfl))) (by decide) (t := .long) (t' := .long) (by decide) (by decide)))) ((A7.wr W9).wr W10) (Or.inl (hw _ (List.mem_of_getElem? (i := 130) rfl))) (hw _ (List.mem_of_getElem? (i := 120) rfl)) (ty := .long) (by decide) rfl rfl (g := (mkF m 83 #[.val (.int p1), .val (.int p2), .val (.ref a1), .val (.long ((0 : Int64) + (dd.toInt64))), .second, .val (.ref b7)] [(.long ((0 : Int64) + (dd.toInt64))), (.ref b7)])) rfl rfl (hb hby d11_83)
    have Fw11 := ((F7_linkAttributes.other W9 (Or.inr (slot_ne (Or.inl (hw _ (List.mem_of_getElem? (i := 130) rfl))) (Or.inl (hw _ (List.mem_of_getElem? (i := 126) rfl))) (by decide) (t := .long) (t' := .long) (by decide) (by decide)))).other W10 (Or.inr (slot_ne (Or.inl (hw _ (List.mem_of_getElem? (i := 130) rfl))) (Or.inl (hw _ (List.mem_of_getElem? (i := 128) rfl))) (by decide) (t := .long) (t' := .long) (by decide) (by decide)))).same W11
    have K11 : Keep h0 h11 [] := K10.wr W11 (Or.inr sz_b7)
    have N11 := Fr.snoc X11 N10 g_b7
    have pre12 : ∀ t, Steps p.tables e below (T11.setTop (mkF m 88 #[.val (.int p1), .val (.int p2), .val (.ref a1), .val (.long ((0 : Int64) + (dd.toInt64))), .second, .val (.ref b7)] [(.ref b7)])) t → Steps p.tables e below (s₁.setTop (entryFrame m #[(.int p1), (.int p2), (.ref a1)] 6)) t := by
      intro t k
      refine pre6 t ?_
      refine XS.ifYes X5.here hx rfl (pc0 := 44) (pc' := 57) rfl (hb hby d11_44) rfl ((if0 _ _).trans (tlt h44).2.2.1) (by decide) (by decide) ?_
      show Steps p.tables e below (T5.setTop (mkF m 57 #[.val (.int p1), .val (.int p2), .val (.ref a1), .val (.long ((0 : Int64) + (dd.toInt64))), .second, .val .null] [])) _
      refine st7 _ ?_
      show Steps p.tables e below (T7.setTop (mkF m 60 #[.val (.int p1), .val (.int p2), .val (.ref a1), .val (.long ((0 : Int64) + (dd.toInt64))), .second, .val .null] [(.ref b7)])) _
      refine XS.dup X7.here hx rfl (hb hby d11_60) rfl rfl ?_
      show Steps p.tables e below (T7.setTop (mkF m 61 #[.val (.int p1), .val (.int p2), .val (.ref a1), .val (.long ((0 : Int64) + (dd.toInt64))), .second, .val .null] [(.ref b7), (.ref b7)])) _
      refine st8.trans ?_
      show Steps p.tables e below (T8.setTop (mkF m 64 #[.val (.int p1), .val (.int p2), .val (.ref a1), .val (.long ((0 : Int64) + (dd.toInt64))), .second, .val .null] [(.ref b7)])) _
      refine XS.astore X8.here hx rfl (hb hby d11_64) rfl (rfl) (l' := #[.val (.int p1), .val (.int p2), .val (.ref a1), .val (.long ((0 : Int64) + (dd.toInt64))), .second, .val (.ref b7)]) rfl ?_
      show Steps p.tables e below (T8.setTop (mkF m 66 #[.val (.int p1), .val (.int p2), .val (.ref a1), .val (.long ((0 : Int64) + (dd.toInt64))), .second, .val (.ref b7)] [])) _
      refine XS.aload X8.here hx rfl (hb hby d11_66) rfl (rfl) ?_
      show Steps p.tables e below (T8.setTop (mkF m 68 #[.val (.int p1), .val (.int p2), .val (.ref a1), .val (.long ((0 : Int64) + (dd.toInt64))), .second, .val (.ref b7)] [(.ref b7)])) _
      refine XS.iloadN X8.here hx rfl (hb hby d11_68) rfl ?_
      show Steps p.tables e below (T8.setTop (mkF m 69 #[.val (.int p1), .val (.int p2), .val (.ref a1), .val (.long ((0 : Int64) + (dd.toInt64))), .second, .val (.ref b7)] [(.int p1), (.ref b7)])) _
      refine XS.i2l X8.here hx rfl (hb hby d11_69) rfl ?_
      show Steps p.tables e below (T8.setTop (mkF m 70 #[.val (.int p1), .val (.int p2), .val (.ref a1), .val (.long ((0 : Int64) + (dd.toInt64))), .second, .val (.ref b7)] [(.long (p1.toInt64)), (.ref b7)])) _
      refine st9 _ ?_
      show Steps p.tables e below (T9.setTop (mkF m 73 #[.val (.int p1), .val (.int p2), .val (.ref a1), .val (.long ((0 : Int64) + (dd.toInt64))), .second, .val (.ref b7)] [])) _
      refine XS.aload X9.here hx rfl (hb hby d11_73) rfl (rfl) ?_
      show Steps p.tables e below (T9.setTop (mkF m 75 #[.val (.int p1), .val (.int p2), .val (.ref a1), .val (.long ((0 : Int64) + (dd.toInt64))), .second, .val (.ref b7)] [(.ref b7)])) _
      refine XS.iloadN X9.here hx rfl (hb hby d11_75) rfl ?_
      show Steps p.tables e below (T9.setTop (mkF m 76 #[.val (.int p1), .val (.int p2), .val (.ref a1), .val (.long ((0 : Int64) + (dd.toInt64))), .second, .val (.ref b7)] [(.int p2), (.ref b7)])) _
      refine XS.i2l X9.here hx rfl (hb hby d11_76) rfl ?_
      show Steps p.tables e below (T9.setTop (mkF m 77 #[.val (.int p1), .val (.int p2), .val (.ref a1), .val (.long ((0 : Int64) + (dd.toInt64))), .second, .val (.ref b7)] [(.long (p2.toInt64)), (.ref b7)])) _
      refine st10 _ ?_
      show Steps p.tables e below (T10.setTop (mkF m 80 #[.val (.int p1), .val (.int p2), .val (.ref a1), .val (.long ((0 : Int64) + (dd.toInt64))), .second, .val (.ref b7)] [])) _
      refine XS.aload X10.here hx rfl (hb hby d11_80) rfl (rfl) ?_
      show Steps p.tables e below (T10.setTop (mkF m 82 #[.val (.int p1), .val (.int p2), .val (.ref a1), .val (.long ((0 : Int64) + (dd.toInt64))), .second, .val (.ref b7)] [(.ref b7)])) _
      refine XS.lloadN X10.here hx rfl (hb hby d11_82) rfl ?_
      show Steps p.tables e below (T10.setTop (mkF m 83 #[.val (.int p1), .val (.int p2), .val (.ref a1), .val (.long ((0 : Int64) + (dd.toInt64))), .second, .val (.ref b7)] [(.long ((0 : Int64) + (dd.toInt64))), (.ref b7)])) _
      refine st11 _ ?_
      show Steps p.tables e below (T11.setTop (mkF m 86 #[.val (.int p1), .val (.int p2), .val (.ref a1), .val (.long ((0 : Int64) + (dd.toInt64))), .second, .val (.ref b7)] [])) _
      refine XS.aload X11.here hx rfl (hb hby d11_86) rfl (rfl) ?_
      show Steps p.tables e below (T11.setTop (mkF m 88 #[.val (.int p1), .val (.int p2), .val (.ref a1), .val (.long ((0 : Int64) + (dd.toInt64))), .second, .val (.ref b7)] [(.ref b7)])) _
      exact k
    obtain ⟨fs, hr, hrun, hended, hW, hsame⟩ := X11.leave (v := some (.ref b7)) (fun h => by rw [Bd.returns] at h; cases h)
    refine ⟨_, _, pre12 _ ?_, hrun, hended, _, _, rfl, ?_, ⟨_, rfl⟩, hW, hsame.mono (by decide) (by decide)⟩
    · exact retOut X11 hx Bd.returns (by first | rfl | simp [narrow]) (Or.inr (Or.inr (Or.inr (Or.inr ⟨rfl, rfl, rfl⟩)))) (hb hby d11_88) hr
    · show Q_rmS11 Z p1 p2 a1 b cl a2 dd h0 n0 _ T11.heap _
      rw [e11]
      exact ⟨b7, rfl, N11, K11, g_b7, (((A7.wr W9).wr W10).wr W11), ((Fw9.other W10 (Or.inr (slot_ne (Or.inl (hw _ (List.mem_of_getElem? (i := 126) rfl))) (Or.inl (hw _ (List.mem_of_getElem? (i := 128) rfl))) (by decide) (t := .long) (t' := .long) (by decide) (by decide)))).other W11 (Or.inr (slot_ne (Or.inl (hw _ (List.mem_of_getElem? (i := 126) rfl))) (Or.inl (hw _ (List.mem_of_getElem? (i := 130) rfl))) (by decide) (t := .long) (t' := .long) (by decide) (by decide)))), (((F7_attributesSinceStart.other W9 (Or.inr (slot_ne (Or.inl (hw _ (List.mem_of_getElem? (i := 138) rfl))) (Or.inl (hw _ (List.mem_of_getElem? (i := 126) rfl))) (by decide) (t := .long) (t' := .long) (by decide) (by decide)))).other W10 (Or.inr (slot_ne (Or.inl (hw _ (List.mem_of_getElem? (i := 138) rfl))) (Or.inl (hw _ (List.mem_of_getElem? (i := 128) rfl))) (by decide) (t := .long) (t' := .long) (by decide) (by decide)))).other W11 (Or.inr (slot_ne (Or.inl (hw _ (List.mem_of_getElem? (i := 138) rfl))) (Or.inl (hw _ (List.mem_of_getElem? (i := 130) rfl))) (by decide) (t := .long) (t' := .long) (by decide) (by decide)))), (((F7_events.other W9 (Or.inr (slot_ne (Or.inl (hw _ (List.mem_of_getElem? (i := 140) rfl))) (Or.inl (hw _ (List.mem_of_getElem? (i := 126) rfl))) (by decide) (t := .long) (t' := .long) (by decide) (by decide)))).other W10 (Or.inr (slot_ne (Or.inl (hw _ (List.mem_of_getElem? (i := 140) rfl))) (Or.inl (hw _ (List.mem_of_getElem? (i := 128) rfl))) (by decide) (t := .long) (t' := .long) (by decide) (by decide)))).other W11 (Or.inr (slot_ne (Or.inl (hw _ (List.mem_of_getElem? (i := 140) rfl))) (Or.inl (hw _ (List.mem_of_getElem? (i := 130) rfl))) (by decide) (t := .long) (t' := .long) (by decide) (by decide)))), (Fw10.other W11 (Or.inr (slot_ne (Or.inl (hw _ (List.mem_of_getElem? (i := 128) rfl))) (Or.inl (hw _ (List.mem_of_getElem? (i := 130) rfl))) (by decide) (t := .long) (t' := .long) (by decide) (by decide)))), (((F7_eventAttributes.other W9 (Or.inr (slot_ne (Or.inl (hw _ (List.mem_of_getElem? (i := 144) rfl))) (Or.inl (hw _ (List.mem_of_getElem? (i := 126) rfl))) (by decide) (t := .long) (t' := .long) (by decide) (by decide)))).other W10 (Or.inr (slot_ne (Or.inl (hw _ (List.mem_of_getElem? (i := 144) rfl))) (Or.inl (hw _ (List.mem_of_getElem? (i := 128) rfl))) (by decide) (t := .long) (t' := .long) (by decide) (by decide)))).other W11 (Or.inr (slot_ne (Or.inl (hw _ (List.mem_of_getElem? (i := 144) rfl))) (Or.inl (hw _ (List.mem_of_getElem? (i := 130) rfl))) (by decide) (t := .long) (t' := .long) (by decide) (by decide)))), Fw11, (((F7_attributesElsewhere.other W9 (Or.inr (slot_ne (Or.inl (hw _ (List.mem_of_getElem? (i := 168) rfl))) (Or.inl (hw _ (List.mem_of_getElem? (i := 126) rfl))) (by decide) (t := .long) (t' := .long) (by decide) (by decide)))).other W10 (Or.inr (slot_ne (Or.inl (hw _ (List.mem_of_getElem? (i := 168) rfl))) (Or.inl (hw _ (List.mem_of_getElem? (i := 128) rfl))) (by decide) (t := .long) (t' := .long) (by decide) (by decide)))).other W11 (Or.inr (slot_ne (Or.inl (hw _ (List.mem_of_getElem? (i := 168) rfl))) (Or.inl (hw _ (List.mem_of_getElem? (i := 130) rfl))) (by decide) (t := .long) (t' := .long) (by decide) (by decide)))), (((F7_eventsElsewhere.other W9 (Or.inr (slot_ne (Or.inl (hw _ (List.mem_of_getElem? (i := 170) rfl))) (Or.inl (hw _ (List.mem_of_getElem? (i := 126) rfl))) (by decide) (t := .long) (t' := .long) (by decide) (by decide)))).other W10 (Or.inr (slot_ne (Or.inl (hw _ (List.mem_of_getElem? (i := 170) rfl))) (Or.inl (hw _ (List.mem_of_getElem? (i := 128) rfl))) (by decide) (t := .long) (t' := .long) (by decide) (by decide)))).other W11 (Or.inr (slot_ne (Or.inl (hw _ (List.mem_of_getElem? (i := 170) rfl))) (Or.inl (hw _ (List.mem_of_getElem? (i := 130) rfl))) (by decide) (t := .long) (t' := .long) (by decide) (by decide)))), (((F7_linksElsewhere.other W9 (Or.inr (slot_ne (Or.inl (hw _ (List.mem_of_getElem? (i := 172) rfl))) (Or.inl (hw _ (List.mem_of_getElem? (i := 126) rfl))) (by decide) (t := .long) (t' := .long) (by decide) (by decide)))).other W10 (Or.inr (slot_ne (Or.inl (hw _ (List.mem_of_getElem? (i := 172) rfl))) (Or.inl (hw _ (List.mem_of_getElem? (i := 128) rfl))) (by decide) (t := .long) (t' := .long) (by decide) (by decide)))).other W11 (Or.inr (slot_ne (Or.inl (hw _ (List.mem_of_getElem? (i := 172) rfl))) (Or.inl (hw _ (List.mem_of_getElem? (i := 130) rfl))) (by decide) (t := .long) (t' := .long) (by decide) (by decide))))⟩
  · skip
    have pre13 : ∀ t, Steps p.tables e below (T5.setTop (mkF m 48 #[.val (.int p1), .val (.int p2), .val (.ref a1), .val (.long ((0 : Int64) + (dd.toInt64))), .second, .val .null] [(.int p2)])) t → Steps p.tables e below (s₁.setTop (entryFrame m #[(.int p1), (.int p2), (.ref a1)] 6)) t := by
      intro t k
      refine pre6 t ?_
      refine XS.ifNo X5.here hx rfl (hb hby d11_44) rfl ((if0 _ _).trans (flt h44).2.2.1) ?_
      show Steps p.tables e below (T5.setTop (mkF m 47 #[.val (.int p1), .val (.int p2), .val (.ref a1), .val (.long ((0 : Int64) + (dd.toInt64))), .second, .val .null] [])) _
      refine XS.iloadN X5.here hx rfl (hb hby d11_47) rfl ?_
      show Steps p.tables e below (T5.setTop (mkF m 48 #[.val (.int p1), .val (.int p2), .val (.ref a1), .val (.long ((0 : Int64) + (dd.toInt64))), .second, .val .null] [(.int p2)])) _
      exact k
    by_cases h48 : (0 : Int32) < p2
    · skip
      obtain ⟨T14, h14, X14, e14, E14, A14, D14, -, st14⟩ := newO X5 hx hZ hown (hw _ (List.mem_of_getElem? (i := 119) rfl)) (hw _ (List.mem_of_getElem? (i := 120) rfl)) (hw _ (List.mem_of_getElem? (i := 80) rfl)) hq5 (g := (mkF m 57 #[.val (.int p1), .val (.int p2), .val (.ref a1), .val (.long ((0 : Int64) + (dd.toInt64))), .second, .val .null] [])) rfl (hb hby d11_57) (by decide) (by decide)
      obtain ⟨b14, g14⟩ : ∃ z, z = h0.size := ⟨_, rfl⟩
      rw [← g14] at A14 D14 st14
      have ne_a1_b14 : a1 ≠ b14 := Nat.ne_of_lt (Nat.lt_of_lt_of_le E1.lt (Nat.le_of_eq g14.symm))
      have ne_a2_b14 : a2 ≠ b14 := Nat.ne_of_lt (Nat.lt_of_lt_of_le E2.lt (Nat.le_of_eq g14.symm))
      have F14_attributesBeforeStart : Fld Z h14 b14 "com/example/kiseki/kiseki/tracing/DroppedItems" "attributesBeforeStart" "J" (.long (0 : Int64)) := D14 (Or.inl (hw _ (List.mem_of_getElem? (i := 126) rfl))) (ty := .long) (by decide)
      have F14_links : Fld Z h14 b14 "com/example/kiseki/kiseki/tracing/DroppedItems" "links" "J" (.long (0 : Int64)) := D14 (Or.inl (hw _ (List.mem_of_getElem? (i := 128) rfl))) (ty := .long) (by decide)
      have F14_linkAttributes : Fld Z h14 b14 "com/example/kiseki/kiseki/tracing/DroppedItems" "linkAttributes" "J" (.long (0 : Int64)) := D14 (Or.inl (hw _ (List.mem_of_getElem? (i := 130) rfl))) (ty := .long) (by decide)
      have F14_attributesSinceStart : Fld Z h14 b14 "com/example/kiseki/kiseki/tracing/DroppedItems" "attributesSinceStart" "J" (.long (0 : Int64)) := D14 (Or.inl (hw _ (List.mem_of_getElem? (i := 138) rfl))) (ty := .long) (by decide)
      have F14_events : Fld Z h14 b14 "com/example/kiseki/kiseki/tracing/DroppedItems" "events" "J" (.long (0 : Int64)) := D14 (Or.inl (hw _ (List.mem_of_getElem? (i := 140) rfl))) (ty := .long) (by decide)
      have F14_eventAttributes : Fld Z h14 b14 "com/example/kiseki/kiseki/tracing/DroppedItems" "eventAttributes" "J" (.long (0 : Int64)) := D14 (Or.inl (hw _ (List.mem_of_getElem? (i := 144) rfl))) (ty := .long) (by decide)
      have F14_attributesElsewhere : Fld Z h14 b14 "com/example/kiseki/kiseki/tracing/DroppedItems" "attributesElsewhere" "J" (.long (0 : Int64)) := D14 (Or.inl (hw _ (List.mem_of_getElem? (i := 168) rfl))) (ty := .long) (by decide)
      have F14_eventsElsewhere : Fld Z h14 b14 "com/example/kiseki/kiseki/tracing/DroppedItems" "eventsElsewhere" "J" (.long (0 : Int64)) := D14 (Or.inl (hw _ (List.mem_of_getElem? (i := 170) rfl))) (ty := .long) (by decide)
      have F14_linksElsewhere : Fld Z h14 b14 "com/example/kiseki/kiseki/tracing/DroppedItems" "linksElsewhere" "J" (.long (0 : Int64)) := D14 (Or.inl (hw _ (List.mem_of_getElem? (i := 172) rfl))) (ty := .long) (by decide)
      have g_b14 : n0 ≤ b14 := Nat.le_trans Z0 (Nat.le_of_eq g14.symm)
      have sz_b14 : h0.size ≤ b14 := (Nat.le_trans (Keep.refl h0 []).1 (Nat.le_of_eq g14.symm))
      have K14 : Keep h0 h14 [] := (Keep.refl h0 []).ext E14
      obtain ⟨_, _, ⟨T15, L15, k15, n15⟩, -, X15, ⟨Lc15, hQ15, l15, y15, z15⟩, st15⟩ := X14.specialBack hx (y := (⟨"com/example/kiseki/kiseki/tracing/DroppedItems", "<init>", "()V"⟩ : MethodName)) rfl hown (mvT hZ (hw _ (List.mem_of_getElem? (i := 121) rfl))) (mvT hZ (hw _ (List.mem_of_getElem? (i := 122) rfl))) (mvT hZ (hw _ (List.mem_of_getElem? (i := 123) rfl))) (by decide) (backOf (W := 1) (rmDI l Z a0 hw [] b14  h14 n0 (Nat.le_trans Z0 E14.1) ) hZ (hw _ (List.mem_of_getElem? (i := 123) rfl)) (hw _ (List.mem_of_getElem? (i := 80) rfl)) (by decide) (by decide)) (g := (mkF m 61 #[.val (.int p1), .val (.int p2), .val (.ref a1), .val (.long ((0 : Int64) + (dd.toInt64))), .second, .val .null] [(.ref b14), (.ref b14)])) rfl (by rw [hml]; rfl) (Steps.refl _) (a := b14) (argsL := []) (rest := [(.ref b14)]) (lenOf pd_0 rfl) rfl (by show 2 * 0 + _ ≤ _; exact Nat.le_of_eq rfl) (hb hby d11_61) (fun _ _ => ⟨rfl, e14, (by decide : 1 + 0 ≤ _), (by decide : 9 + 0 ≤ _)⟩)
      dsimp only [Pt.U, Pt.locs, Pt.cells, Pt.slots] at X15 l15 y15 z15 st15 hQ15
      subst l15 y15 z15
      obtain ⟨rfl, N15q, hq15⟩ := hQ15
      have N15 := Fr.app N5 N15q
      obtain ⟨T16, h16, X16, e16, W16, st16⟩ := putF X15 hx hZ hown (host := "") (Or.inl (hw _ (List.mem_of_getElem? (i := 125) rfl))) Via.refl hq15 F14_attributesBeforeStart A14 (Or.inl (hw _ (List.mem_of_getElem? (i := 126) rfl))) (hw _ (List.mem_of_getElem? (i := 120) rfl)) (ty := .long) (by decide) rfl rfl (g := (mkF m 70 #[.val (.int p1), .val (.int p2), .val (.ref a1), .val (.long ((0 : Int64) + (dd.toInt64))), .second, .val (.ref b14)] [(.long (p1.toInt64)), (.ref b14)])) rfl rfl (hb hby d11_70)
      have Fw16 := F14_attributesBeforeStart.same W16
      have K16 : Keep h0 h16 [] := K14.wr W16 (Or.inr sz_b14)
      have N16 := Fr.snoc X16 N15 g_b14
      obtain ⟨T17, h17, X17, e17, W17, st17⟩ := putF X16 hx hZ hown (host := "") (Or.inl (hw _ (List.mem_of_getElem? (i := 127) rfl))) Via.refl e16 (F14_links.other W16 (Or.inr (slot_ne (Or.inl (hw _ (List.mem_of_getElem? (i := 128) rfl))) (Or.inl (hw _ (List.mem_of_getElem? (i := 126) rfl))) (by decide) (t := .long) (t' := .long) (by decide) (by decide)))) (A14.wr W16) (Or.inl (hw _ (List.mem_of_getElem? (i := 128) rfl))) (hw _ (List.mem_of_getElem? (i := 120) rfl)) (ty := .long) (by decide) rfl rfl (g := (mkF m 77 #[.val (.int p1), .val (.int p2), .val (.ref a1), .val (.long ((0 : Int64) + (dd.toInt64))), .second, .val (.ref b14)] [(.long (p2.toInt64)), (.ref b14)])) rfl rfl (hb hby d11_77)
      have Fw17 := (F14_links.other W16 (Or.inr (slot_ne (Or.inl (hw _ (List.mem_of_getElem? (i := 128) rfl))) (Or.inl (hw _ (List.mem_of_getElem? (i := 126) rfl))) (by decide) (t := .long) (t' := .long) (by decide) (by decide)))).same W17
      have K17 : Keep h0 h17 [] := K16.wr W17 (Or.inr sz_b14)
      have N17 := Fr.snoc X17 N16 g_b14
      obtain ⟨T18, h18, X18, e18, W18, st18⟩ := putF X17 hx hZ hown (host := "") (Or.inl (hw _ (List.mem_of_getElem? (i := 129) rfl))) Via.refl e17 ((F14_linkAttributes.other W16 (Or.inr (slot_ne (Or.inl (hw _ (List.mem_of_getElem? (i := 130) rfl))) (Or.inl (hw _ (List.mem_of_getElem? (i := 126) rfl))) (by decide) (t := .long) (t' := .long) (by decide) (by decide)))).other W17 (Or.inr (slot_ne (Or.inl (hw _ (List.mem_of_getElem? (i := 130) rfl))) (Or.inl (hw _ (List.mem_of_getElem? (i := 128) rfl))) (by decide) (t := .long) (t' := .long) (by decide) (by decide)))) ((A14.wr W16).wr W17) (Or.inl (hw _ (List.mem_of_getElem? (i := 130) rfl))) (hw _ (List.mem_of_getElem? (i := 120) rfl)) (ty := .long) (by decide) rfl rfl (g := (mkF m 83 #[.val (.int p1), .val (.int p2), .val (.ref a1), .val (.long ((0 : Int64) + (dd.toInt64))), .second, .val (.ref b14)] [(.long ((0 : Int64) + (dd.toInt64))), (.ref b14)])) rfl rfl (hb hby d11_83)
      have Fw18 := ((F14_linkAttributes.other W16 (Or.inr (slot_ne (Or.inl (hw _ (List.mem_of_getElem? (i := 130) rfl))) (Or.inl (hw _ (List.mem_of_getElem? (i := 126) rfl))) (by decide) (t := .long) (t' := .long) (by decide) (by decide)))).other W17 (Or.inr (slot_ne (Or.inl (hw _ (List.mem_of_getElem? (i := 130) rfl))) (Or.inl (hw _ (List.mem_of_getElem? (i := 128) rfl))) (by decide) (t := .long) (t' := .long) (by decide) (by decide)))).same W18
      have K18 : Keep h0 h18 [] := K17.wr W18 (Or.inr sz_b14)
      have N18 := Fr.snoc X18 N17 g_b14
      have pre19 : ∀ t, Steps p.tables e below (T18.setTop (mkF m 88 #[.val (.int p1), .val (.int p2), .val (.ref a1), .val (.long ((0 : Int64) + (dd.toInt64))), .second, .val (.ref b14)] [(.ref b14)])) t → Steps p.tables e below (s₁.setTop (entryFrame m #[(.int p1), (.int p2), (.ref a1)] 6)) t := by
        intro t k
        refine pre13 t ?_
        refine XS.ifYes X5.here hx rfl (pc0 := 48) (pc' := 57) rfl (hb hby d11_48) rfl ((if0 _ _).trans (tlt h48).2.2.1) (by decide) (by decide) ?_
        show Steps p.tables e below (T5.setTop (mkF m 57 #[.val (.int p1), .val (.int p2), .val (.ref a1), .val (.long ((0 : Int64) + (dd.toInt64))), .second, .val .null] [])) _
        refine st14 _ ?_
        show Steps p.tables e below (T14.setTop (mkF m 60 #[.val (.int p1), .val (.int p2), .val (.ref a1), .val (.long ((0 : Int64) + (dd.toInt64))), .second, .val .null] [(.ref b14)])) _
        refine XS.dup X14.here hx rfl (hb hby d11_60) rfl rfl ?_
        show Steps p.tables e below (T14.setTop (mkF m 61 #[.val (.int p1), .val (.int p2), .val (.ref a1), .val (.long ((0 : Int64) + (dd.toInt64))), .second, .val .null] [(.ref b14), (.ref b14)])) _
        refine st15.trans ?_
        show Steps p.tables e below (T15.setTop (mkF m 64 #[.val (.int p1), .val (.int p2), .val (.ref a1), .val (.long ((0 : Int64) + (dd.toInt64))), .second, .val .null] [(.ref b14)])) _
        refine XS.astore X15.here hx rfl (hb hby d11_64) rfl (rfl) (l' := #[.val (.int p1), .val (.int p2), .val (.ref a1), .val (.long ((0 : Int64) + (dd.toInt64))), .second, .val (.ref b14)]) rfl ?_
        show Steps p.tables e below (T15.setTop (mkF m 66 #[.val (.int p1), .val (.int p2), .val (.ref a1), .val (.long ((0 : Int64) + (dd.toInt64))), .second, .val (.ref b14)] [])) _
        refine XS.aload X15.here hx rfl (hb hby d11_66) rfl (rfl) ?_
        show Steps p.tables e below (T15.setTop (mkF m 68 #[.val (.int p1), .val (.int p2), .val (.ref a1), .val (.long ((0 : Int64) + (dd.toInt64))), .second, .val (.ref b14)] [(.ref b14)])) _
        refine XS.iloadN X15.here hx rfl (hb hby d11_68) rfl ?_
        show Steps p.tables e below (T15.setTop (mkF m 69 #[.val (.int p1), .val (.int p2), .val (.ref a1), .val (.long ((0 : Int64) + (dd.toInt64))), .second, .val (.ref b14)] [(.int p1), (.ref b14)])) _
        refine XS.i2l X15.here hx rfl (hb hby d11_69) rfl ?_
        show Steps p.tables e below (T15.setTop (mkF m 70 #[.val (.int p1), .val (.int p2), .val (.ref a1), .val (.long ((0 : Int64) + (dd.toInt64))), .second, .val (.ref b14)] [(.long (p1.toInt64)), (.ref b14)])) _
        refine st16 _ ?_
        show Steps p.tables e below (T16.setTop (mkF m 73 #[.val (.int p1), .val (.int p2), .val (.ref a1), .val (.long ((0 : Int64) + (dd.toInt64))), .second, .val (.ref b14)] [])) _
        refine XS.aload X16.here hx rfl (hb hby d11_73) rfl (rfl) ?_
        show Steps p.tables e below (T16.setTop (mkF m 75 #[.val (.int p1), .val (.int p2), .val (.ref a1), .val (.long ((0 : Int64) + (dd.toInt64))), .second, .val (.ref b14)] [(.ref b14)])) _
        refine XS.iloadN X16.here hx rfl (hb hby d11_75) rfl ?_
        show Steps p.tables e below (T16.setTop (mkF m 76 #[.val (.int p1), .val (.int p2), .val (.ref a1), .val (.long ((0 : Int64) + (dd.toInt64))), .second, .val (.ref b14)] [(.int p2), (.ref b14)])) _
        refine XS.i2l X16.here hx rfl (hb hby d11_76) rfl ?_
        show Steps p.tables e below (T16.setTop (mkF m 77 #[.val (.int p1), .val (.int p2), .val (.ref a1), .val (.long ((0 : Int64) + (dd.toInt64))), .second, .val (.ref b14)] [(.long (p2.toInt64)), (.ref b14)])) _
        refine st17 _ ?_
        show Steps p.tables e below (T17.setTop (mkF m 80 #[.val (.int p1), .val (.int p2), .val (.ref a1), .val (.long ((0 : Int64) + (dd.toInt64))), .second, .val (.ref b14)] [])) _
        refine XS.aload X17.here hx rfl (hb hby d11_80) rfl (rfl) ?_
        show Steps p.tables e below (T17.setTop (mkF m 82 #[.val (.int p1), .val (.int p2), .val (.ref a1), .val (.long ((0 : Int64) + (dd.toInt64))), .second, .val (.ref b14)] [(.ref b14)])) _
        refine XS.lloadN X17.here hx rfl (hb hby d11_82) rfl ?_
        show Steps p.tables e below (T17.setTop (mkF m 83 #[.val (.int p1), .val (.int p2), .val (.ref a1), .val (.long ((0 : Int64) + (dd.toInt64))), .second, .val (.ref b14)] [(.long ((0 : Int64) + (dd.toInt64))), (.ref b14)])) _
        refine st18 _ ?_
        show Steps p.tables e below (T18.setTop (mkF m 86 #[.val (.int p1), .val (.int p2), .val (.ref a1), .val (.long ((0 : Int64) + (dd.toInt64))), .second, .val (.ref b14)] [])) _
        refine XS.aload X18.here hx rfl (hb hby d11_86) rfl (rfl) ?_
        show Steps p.tables e below (T18.setTop (mkF m 88 #[.val (.int p1), .val (.int p2), .val (.ref a1), .val (.long ((0 : Int64) + (dd.toInt64))), .second, .val (.ref b14)] [(.ref b14)])) _
        exact k
      obtain ⟨fs, hr, hrun, hended, hW, hsame⟩ := X18.leave (v := some (.ref b14)) (fun h => by rw [Bd.returns] at h; cases h)
      refine ⟨_, _, pre19 _ ?_, hrun, hended, _, _, rfl, ?_, ⟨_, rfl⟩, hW, hsame.mono (by decide) (by decide)⟩
      · exact retOut X18 hx Bd.returns (by first | rfl | simp [narrow]) (Or.inr (Or.inr (Or.inr (Or.inr ⟨rfl, rfl, rfl⟩)))) (hb hby d11_88) hr
      · show Q_rmS11 Z p1 p2 a1 b cl a2 dd h0 n0 _ T18.heap _
        rw [e18]
        exact ⟨b14, rfl, N18, K18, g_b14, (((A14.wr W16).wr W17).wr W18), ((Fw16.other W17 (Or.inr (slot_ne (Or.inl (hw _ (List.mem_of_getElem? (i := 126) rfl))) (Or.inl (hw _ (List.mem_of_getElem? (i := 128) rfl))) (by decide) (t := .long) (t' := .long) (by decide) (by decide)))).other W18 (Or.inr (slot_ne (Or.inl (hw _ (List.mem_of_getElem? (i := 126) rfl))) (Or.inl (hw _ (List.mem_of_getElem? (i := 130) rfl))) (by decide) (t := .long) (t' := .long) (by decide) (by decide)))), (((F14_attributesSinceStart.other W16 (Or.inr (slot_ne (Or.inl (hw _ (List.mem_of_getElem? (i := 138) rfl))) (Or.inl (hw _ (List.mem_of_getElem? (i := 126) rfl))) (by decide) (t := .long) (t' := .long) (by decide) (by decide)))).other W17 (Or.inr (slot_ne (Or.inl (hw _ (List.mem_of_getElem? (i := 138) rfl))) (Or.inl (hw _ (List.mem_of_getElem? (i := 128) rfl))) (by decide) (t := .long) (t' := .long) (by decide) (by decide)))).other W18 (Or.inr (slot_ne (Or.inl (hw _ (List.mem_of_getElem? (i := 138) rfl))) (Or.inl (hw _ (List.mem_of_getElem? (i := 130) rfl))) (by decide) (t := .long) (t' := .long) (by decide) (by decide)))), (((F14_events.other W16 (Or.inr (slot_ne (Or.inl (hw _ (List.mem_of_getElem? (i := 140) rfl))) (Or.inl (hw _ (List.mem_of_getElem? (i := 126) rfl))) (by decide) (t := .long) (t' := .long) (by decide) (by decide)))).other W17 (Or.inr (slot_ne (Or.inl (hw _ (List.mem_of_getElem? (i := 140) rfl))) (Or.inl (hw _ (List.mem_of_getElem? (i := 128) rfl))) (by decide) (t := .long) (t' := .long) (by decide) (by decide)))).other W18 (Or.inr (slot_ne (Or.inl (hw _ (List.mem_of_getElem? (i := 140) rfl))) (Or.inl (hw _ (List.mem_of_getElem? (i := 130) rfl))) (by decide) (t := .long) (t' := .long) (by decide) (by decide)))), (Fw17.other W18 (Or.inr (slot_ne (Or.inl (hw _ (List.mem_of_getElem? (i := 128) rfl))) (Or.inl (hw _ (List.mem_of_getElem? (i := 130) rfl))) (by decide) (t := .long) (t' := .long) (by decide) (by decide)))), (((F14_eventAttributes.other W16 (Or.inr (slot_ne (Or.inl (hw _ (List.mem_of_getElem? (i := 144) rfl))) (Or.inl (hw _ (List.mem_of_getElem? (i := 126) rfl))) (by decide) (t := .long) (t' := .long) (by decide) (by decide)))).other W17 (Or.inr (slot_ne (Or.inl (hw _ (List.mem_of_getElem? (i := 144) rfl))) (Or.inl (hw _ (List.mem_of_getElem? (i := 128) rfl))) (by decide) (t := .long) (t' := .long) (by decide) (by decide)))).other W18 (Or.inr (slot_ne (Or.inl (hw _ (List.mem_of_getElem? (i := 144) rfl))) (Or.inl (hw _ (List.mem_of_getElem? (i := 130) rfl))) (by decide) (t := .long) (t' := .long) (by decide) (by decide)))), Fw18, (((F14_attributesElsewhere.other W16 (Or.inr (slot_ne (Or.inl (hw _ (List.mem_of_getElem? (i := 168) rfl))) (Or.inl (hw _ (List.mem_of_getElem? (i := 126) rfl))) (by decide) (t := .long) (t' := .long) (by decide) (by decide)))).other W17 (Or.inr (slot_ne (Or.inl (hw _ (List.mem_of_getElem? (i := 168) rfl))) (Or.inl (hw _ (List.mem_of_getElem? (i := 128) rfl))) (by decide) (t := .long) (t' := .long) (by decide) (by decide)))).other W18 (Or.inr (slot_ne (Or.inl (hw _ (List.mem_of_getElem? (i := 168) rfl))) (Or.inl (hw _ (List.mem_of_getElem? (i := 130) rfl))) (by decide) (t := .long) (t' := .long) (by decide) (by decide)))), (((F14_eventsElsewhere.other W16 (Or.inr (slot_ne (Or.inl (hw _ (List.mem_of_getElem? (i := 170) rfl))) (Or.inl (hw _ (List.mem_of_getElem? (i := 126) rfl))) (by decide) (t := .long) (t' := .long) (by decide) (by decide)))).other W17 (Or.inr (slot_ne (Or.inl (hw _ (List.mem_of_getElem? (i := 170) rfl))) (Or.inl (hw _ (List.mem_of_getElem? (i := 128) rfl))) (by decide) (t := .long) (t' := .long) (by decide) (by decide)))).other W18 (Or.inr (slot_ne (Or.inl (hw _ (List.mem_of_getElem? (i := 170) rfl))) (Or.inl (hw _ (List.mem_of_getElem? (i := 130) rfl))) (by decide) (t := .long) (t' := .long) (by decide) (by decide)))), (((F14_linksElsewhere.other W16 (Or.inr (slot_ne (Or.inl (hw _ (List.mem_of_getElem? (i := 172) rfl))) (Or.inl (hw _ (List.mem_of_getElem? (i := 126) rfl))) (by decide) (t := .long) (t' := .long) (by decide) (by decide)))).other W17 (Or.inr (slot_ne (Or.inl (hw _ (List.mem_of_getElem? (i := 172) rfl))) (Or.inl (hw _ (List.mem_of_getElem? (i := 128) rfl))) (by decide) (t := .long) (t' := .long) (by decide) (by decide)))).other W18 (Or.inr (slot_ne (Or.inl (hw _ (List.mem_of_getElem? (i := 172) rfl))) (Or.inl (hw _ (List.mem_of_getElem? (i := 130) rfl))) (by decide) (t := .long) (t' := .long) (by decide) (by decide))))⟩
    · skip
      have pre20 : ∀ t, Steps p.tables e below (T5.setTop (mkF m 54 #[.val (.int p1), .val (.int p2), .val (.ref a1), .val (.long ((0 : Int64) + (dd.toInt64))), .second, .val .null] [(.int (lcmpW ((0 : Int64) + (dd.toInt64)) (0 : Int64)))])) t → Steps p.tables e below (s₁.setTop (entryFrame m #[(.int p1), (.int p2), (.ref a1)] 6)) t := by
        intro t k
        refine pre13 t ?_
        refine XS.ifNo X5.here hx rfl (hb hby d11_48) rfl ((if0 _ _).trans (flt h48).2.2.1) ?_
        show Steps p.tables e below (T5.setTop (mkF m 51 #[.val (.int p1), .val (.int p2), .val (.ref a1), .val (.long ((0 : Int64) + (dd.toInt64))), .second, .val .null] [])) _
        refine XS.lloadN X5.here hx rfl (hb hby d11_51) rfl ?_
        show Steps p.tables e below (T5.setTop (mkF m 52 #[.val (.int p1), .val (.int p2), .val (.ref a1), .val (.long ((0 : Int64) + (dd.toInt64))), .second, .val .null] [(.long ((0 : Int64) + (dd.toInt64)))])) _
        refine XS.lconst X5.here hx rfl (hb hby d11_52) ?_
        show Steps p.tables e below (T5.setTop (mkF m 53 #[.val (.int p1), .val (.int p2), .val (.ref a1), .val (.long ((0 : Int64) + (dd.toInt64))), .second, .val .null] [(.long (0 : Int64)), (.long ((0 : Int64) + (dd.toInt64)))])) _
        refine XS.lcmp X5.here hx rfl (hb hby d11_53) rfl ?_
        show Steps p.tables e below (T5.setTop (mkF m 54 #[.val (.int p1), .val (.int p2), .val (.ref a1), .val (.long ((0 : Int64) + (dd.toInt64))), .second, .val .null] [(.int (lcmpW ((0 : Int64) + (dd.toInt64)) (0 : Int64)))])) _
        exact k
      by_cases h54 : (0 : Int64) < ((0 : Int64) + (dd.toInt64))
      · skip
        obtain ⟨T21, h21, X21, e21, E21, A21, D21, -, st21⟩ := newO X5 hx hZ hown (hw _ (List.mem_of_getElem? (i := 119) rfl)) (hw _ (List.mem_of_getElem? (i := 120) rfl)) (hw _ (List.mem_of_getElem? (i := 80) rfl)) hq5 (g := (mkF m 57 #[.val (.int p1), .val (.int p2), .val (.ref a1), .val (.long ((0 : Int64) + (dd.toInt64))), .second, .val .null] [])) rfl (hb hby d11_57) (by decide) (by decide)
        obtain ⟨b21, g21⟩ : ∃ z, z = h0.size := ⟨_, rfl⟩
        rw [← g21] at A21 D21 st21
        have ne_a1_b21 : a1 ≠ b21 := Nat.ne_of_lt (Nat.lt_of_lt_of_le E1.lt (Nat.le_of_eq g21.symm))
        have ne_a2_b21 : a2 ≠ b21 := Nat.ne_of_lt (Nat.lt_of_lt_of_le E2.lt (Nat.le_of_eq g21.symm))
        have F21_attributesBeforeStart : Fld Z h21 b21 "com/example/kiseki/kiseki/tracing/DroppedItems" "attributesBeforeStart" "J" (.long (0 : Int64)) := D21 (Or.inl (hw _ (List.mem_of_getElem? (i := 126) rfl))) (ty := .long) (by decide)
        have F21_links : Fld Z h21 b21 "com/example/kiseki/kiseki/tracing/DroppedItems" "links" "J" (.long (0 : Int64)) := D21 (Or.inl (hw _ (List.mem_of_getElem? (i := 128) rfl))) (ty := .long) (by decide)
        have F21_linkAttributes : Fld Z h21 b21 "com/example/kiseki/kiseki/tracing/DroppedItems" "linkAttributes" "J" (.long (0 : Int64)) := D21 (Or.inl (hw _ (List.mem_of_getElem? (i := 130) rfl))) (ty := .long) (by decide)
        have F21_attributesSinceStart : Fld Z h21 b21 "com/example/kiseki/kiseki/tracing/DroppedItems" "attributesSinceStart" "J" (.long (0 : Int64)) := D21 (Or.inl (hw _ (List.mem_of_getElem? (i := 138) rfl))) (ty := .long) (by decide)
        have F21_events : Fld Z h21 b21 "com/example/kiseki/kiseki/tracing/DroppedItems" "events" "J" (.long (0 : Int64)) := D21 (Or.inl (hw _ (List.mem_of_getElem? (i := 140) rfl))) (ty := .long) (by decide)
        have F21_eventAttributes : Fld Z h21 b21 "com/example/kiseki/kiseki/tracing/DroppedItems" "eventAttributes" "J" (.long (0 : Int64)) := D21 (Or.inl (hw _ (List.mem_of_getElem? (i := 144) rfl))) (ty := .long) (by decide)
        have F21_attributesElsewhere : Fld Z h21 b21 "com/example/kiseki/kiseki/tracing/DroppedItems" "attributesElsewhere" "J" (.long (0 : Int64)) := D21 (Or.inl (hw _ (List.mem_of_getElem? (i := 168) rfl))) (ty := .long) (by decide)
        have F21_eventsElsewhere : Fld Z h21 b21 "com/example/kiseki/kiseki/tracing/DroppedItems" "eventsElsewhere" "J" (.long (0 : Int64)) := D21 (Or.inl (hw _ (List.mem_of_getElem? (i := 170) rfl))) (ty := .long) (by decide)
        have F21_linksElsewhere : Fld Z h21 b21 "com/example/kiseki/kiseki/tracing/DroppedItems" "linksElsewhere" "J" (.long (0 : Int64)) := D21 (Or.inl (hw _ (List.mem_of_getElem? (i := 172) rfl))) (ty := .long) (by decide)
        have g_b21 : n0 ≤ b21 := Nat.le_trans Z0 (Nat.le_of_eq g21.symm)
        have sz_b21 : h0.size ≤ b21 := (Nat.le_trans (Keep.refl h0 []).1 (Nat.le_of_eq g21.symm))
        have K21 : Keep h0 h21 [] := (Keep.refl h0 []).ext E21
        obtain ⟨_, _, ⟨T22, L22, k22, n22⟩, -, X22, ⟨Lc22, hQ22, l22, y22, z22⟩, st22⟩ := X21.specialBack hx (y := (⟨"com/example/kiseki/kiseki/tracing/DroppedItems", "<init>", "()V"⟩ : MethodName)) rfl hown (mvT hZ (hw _ (List.mem_of_getElem? (i := 121) rfl))) (mvT hZ (hw _ (List.mem_of_getElem? (i := 122) rfl))) (mvT hZ (hw _ (List.mem_of_getElem? (i := 123) rfl))) (by decide) (backOf (W := 1) (rmDI l Z a0 hw [] b21  h21 n0 (Nat.le_trans Z0 E21.1) ) hZ (hw _ (List.mem_of_getElem? (i := 123) rfl)) (hw _ (List.mem_of_getElem? (i := 80) rfl)) (by decide) (by decide)) (g := (mkF m 61 #[.val (.int p1), .val (.int p2), .val (.ref a1), .val (.long ((0 : Int64) + (dd.toInt64))), .second, .val .null] [(.ref b21), (.ref b21)])) rfl (by rw [hml]; rfl) (Steps.refl _) (a := b21) (argsL := []) (rest := [(.ref b21)]) (lenOf pd_0 rfl) rfl (by show 2 * 0 + _ ≤ _; exact Nat.le_of_eq rfl) (hb hby d11_61) (fun _ _ => ⟨rfl, e21, (by decide : 1 + 0 ≤ _), (by decide : 9 + 0 ≤ _)⟩)
        dsimp only [Pt.U, Pt.locs, Pt.cells, Pt.slots] at X22 l22 y22 z22 st22 hQ22
        subst l22 y22 z22
        obtain ⟨rfl, N22q, hq22⟩ := hQ22
        have N22 := Fr.app N5 N22q
        obtain ⟨T23, h23, X23, e23, W23, st23⟩ := putF X22 hx hZ hown (host := "") (Or.inl (hw _ (List.mem_of_getElem? (i := 125) rfl))) Via.refl hq22 F21_attributesBeforeStart A21 (Or.inl (hw _ (List.mem_of_getElem? (i := 126) rfl))) (hw _ (List.mem_of_getElem? (i := 120) rfl)) (ty := .long) (by decide) rfl rfl (g := (mkF m 70 #[.val (.int p1), .val (.int p2), .val (.ref a1), .val (.long ((0 : Int64) + (dd.toInt64))), .second, .val (.ref b21)] [(.long (p1.toInt64)), (.ref b21)])) rfl rfl (hb hby d11_70)
        have Fw23 := F21_attributesBeforeStart.same W23
        have K23 : Keep h0 h23 [] := K21.wr W23 (Or.inr sz_b21)
        have N23 := Fr.snoc X23 N22 g_b21
        obtain ⟨T24, h24, X24, e24, W24, st24⟩ := putF X23 hx hZ hown (host := "") (Or.inl (hw _ (List.mem_of_getElem? (i := 127) rfl))) Via.refl e23 (F21_links.other W23 (Or.inr (slot_ne (Or.inl (hw _ (List.mem_of_getElem? (i := 128) rfl))) (Or.inl (hw _ (List.mem_of_getElem? (i := 126) rfl))) (by decide) (t := .long) (t' := .long) (by decide) (by decide)))) (A21.wr W23) (Or.inl (hw _ (List.mem_of_getElem? (i := 128) rfl))) (hw _ (List.mem_of_getElem? (i := 120) rfl)) (ty := .long) (by decide) rfl rfl (g := (mkF m 77 #[.val (.int p1), .val (.int p2), .val (.ref a1), .val (.long ((0 : Int64) + (dd.toInt64))), .second, .val (.ref b21)] [(.long (p2.toInt64)), (.ref b21)])) rfl rfl (hb hby d11_77)
        have Fw24 := (F21_links.other W23 (Or.inr (slot_ne (Or.inl (hw _ (List.mem_of_getElem? (i := 128) rfl))) (Or.inl (hw _ (List.mem_of_getElem? (i := 126) rfl))) (by decide) (t := .long) (t' := .long) (by decide) (by decide)))).same W24
        have K24 : Keep h0 h24 [] := K23.wr W24 (Or.inr sz_b21)
        have N24 := Fr.snoc X24 N23 g_b21
        obtain ⟨T25, h25, X25, e25, W25, st25⟩ := putF X24 hx hZ hown (host := "") (Or.inl (hw _ (List.mem_of_getElem? (i := 129) rfl))) Via.refl e24 ((F21_linkAttributes.other W23 (Or.inr (slot_ne (Or.inl (hw _ (List.mem_of_getElem? (i := 130) rfl))) (Or.inl (hw _ (List.mem_of_getElem? (i := 126) rfl))) (by decide) (t := .long) (t' := .long) (by decide) (by decide)))).other W24 (Or.inr (slot_ne (Or.inl (hw _ (List.mem_of_getElem? (i := 130) rfl))) (Or.inl (hw _ (List.mem_of_getElem? (i := 128) rfl))) (by decide) (t := .long) (t' := .long) (by decide) (by decide)))) ((A21.wr W23).wr W24) (Or.inl (hw _ (List.mem_of_getElem? (i := 130) rfl))) (hw _ (List.mem_of_getElem? (i := 120) rfl)) (ty := .long) (by decide) rfl rfl (g := (mkF m 83 #[.val (.int p1), .val (.int p2), .val (.ref a1), .val (.long ((0 : Int64) + (dd.toInt64))), .second, .val (.ref b21)] [(.long ((0 : Int64) + (dd.toInt64))), (.ref b21)])) rfl rfl (hb hby d11_83)
        have Fw25 := ((F21_linkAttributes.other W23 (Or.inr (slot_ne (Or.inl (hw _ (List.mem_of_getElem? (i := 130) rfl))) (Or.inl (hw _ (List.mem_of_getElem? (i := 126) rfl))) (by decide) (t := .long) (t' := .long) (by decide) (by decide)))).other W24 (Or.inr (slot_ne (Or.inl (hw _ (List.mem_of_getElem? (i := 130) rfl))) (Or.inl (hw _ (List.mem_of_getElem? (i := 128) rfl))) (by decide) (t := .long) (t' := .long) (by decide) (by decide)))).same W25
        have K25 : Keep h0 h25 [] := K24.wr W25 (Or.inr sz_b21)
        have N25 := Fr.snoc X25 N24 g_b21
        have pre26 : ∀ t, Steps p.tables e below (T25.setTop (mkF m 88 #[.val (.int p1), .val (.int p2), .val (.ref a1), .val (.long ((0 : Int64) + (dd.toInt64))), .second, .val (.ref b21)] [(.ref b21)])) t → Steps p.tables e below (s₁.setTop (entryFrame m #[(.int p1), (.int p2), (.ref a1)] 6)) t := by
          intro t k
          refine pre20 t ?_
          refine XS.ifNo X5.here hx rfl (hb hby d11_54) rfl ((if0 _ _).trans (tlt ((lw_gt ((0 : Int64) + (dd.toInt64)) (0 : Int64)).mpr h54)).2.2.2) ?_
          show Steps p.tables e below (T5.setTop (mkF m 57 #[.val (.int p1), .val (.int p2), .val (.ref a1), .val (.long ((0 : Int64) + (dd.toInt64))), .second, .val .null] [])) _
          refine st21 _ ?_
          show Steps p.tables e below (T21.setTop (mkF m 60 #[.val (.int p1), .val (.int p2), .val (.ref a1), .val (.long ((0 : Int64) + (dd.toInt64))), .second, .val .null] [(.ref b21)])) _
          refine XS.dup X21.here hx rfl (hb hby d11_60) rfl rfl ?_
          show Steps p.tables e below (T21.setTop (mkF m 61 #[.val (.int p1), .val (.int p2), .val (.ref a1), .val (.long ((0 : Int64) + (dd.toInt64))), .second, .val .null] [(.ref b21), (.ref b21)])) _
          refine st22.trans ?_
          show Steps p.tables e below (T22.setTop (mkF m 64 #[.val (.int p1), .val (.int p2), .val (.ref a1), .val (.long ((0 : Int64) + (dd.toInt64))), .second, .val .null] [(.ref b21)])) _
          refine XS.astore X22.here hx rfl (hb hby d11_64) rfl (rfl) (l' := #[.val (.int p1), .val (.int p2), .val (.ref a1), .val (.long ((0 : Int64) + (dd.toInt64))), .second, .val (.ref b21)]) rfl ?_
          show Steps p.tables e below (T22.setTop (mkF m 66 #[.val (.int p1), .val (.int p2), .val (.ref a1), .val (.long ((0 : Int64) + (dd.toInt64))), .second, .val (.ref b21)] [])) _
          refine XS.aload X22.here hx rfl (hb hby d11_66) rfl (rfl) ?_
          show Steps p.tables e below (T22.setTop (mkF m 68 #[.val (.int p1), .val (.int p2), .val (.ref a1), .val (.long ((0 : Int64) + (dd.toInt64))), .second, .val (.ref b21)] [(.ref b21)])) _
          refine XS.iloadN X22.here hx rfl (hb hby d11_68) rfl ?_
          show Steps p.tables e below (T22.setTop (mkF m 69 #[.val (.int p1), .val (.int p2), .val (.ref a1), .val (.long ((0 : Int64) + (dd.toInt64))), .second, .val (.ref b21)] [(.int p1), (.ref b21)])) _
          refine XS.i2l X22.here hx rfl (hb hby d11_69) rfl ?_
          show Steps p.tables e below (T22.setTop (mkF m 70 #[.val (.int p1), .val (.int p2), .val (.ref a1), .val (.long ((0 : Int64) + (dd.toInt64))), .second, .val (.ref b21)] [(.long (p1.toInt64)), (.ref b21)])) _
          refine st23 _ ?_
          show Steps p.tables e below (T23.setTop (mkF m 73 #[.val (.int p1), .val (.int p2), .val (.ref a1), .val (.long ((0 : Int64) + (dd.toInt64))), .second, .val (.ref b21)] [])) _
          refine XS.aload X23.here hx rfl (hb hby d11_73) rfl (rfl) ?_
          show Steps p.tables e below (T23.setTop (mkF m 75 #[.val (.int p1), .val (.int p2), .val (.ref a1), .val (.long ((0 : Int64) + (dd.toInt64))), .second, .val (.ref b21)] [(.ref b21)])) _
          refine XS.iloadN X23.here hx rfl (hb hby d11_75) rfl ?_
          show Steps p.tables e below (T23.setTop (mkF m 76 #[.val (.int p1), .val (.int p2), .val (.ref a1), .val (.long ((0 : Int64) + (dd.toInt64))), .second, .val (.ref b21)] [(.int p2), (.ref b21)])) _
          refine XS.i2l X23.here hx rfl (hb hby d11_76) rfl ?_
          show Steps p.tables e below (T23.setTop (mkF m 77 #[.val (.int p1), .val (.int p2), .val (.ref a1), .val (.long ((0 : Int64) + (dd.toInt64))), .second, .val (.ref b21)] [(.long (p2.toInt64)), (.ref b21)])) _
          refine st24 _ ?_
          show Steps p.tables e below (T24.setTop (mkF m 80 #[.val (.int p1), .val (.int p2), .val (.ref a1), .val (.long ((0 : Int64) + (dd.toInt64))), .second, .val (.ref b21)] [])) _
          refine XS.aload X24.here hx rfl (hb hby d11_80) rfl (rfl) ?_
          show Steps p.tables e below (T24.setTop (mkF m 82 #[.val (.int p1), .val (.int p2), .val (.ref a1), .val (.long ((0 : Int64) + (dd.toInt64))), .second, .val (.ref b21)] [(.ref b21)])) _
          refine XS.lloadN X24.here hx rfl (hb hby d11_82) rfl ?_
          show Steps p.tables e below (T24.setTop (mkF m 83 #[.val (.int p1), .val (.int p2), .val (.ref a1), .val (.long ((0 : Int64) + (dd.toInt64))), .second, .val (.ref b21)] [(.long ((0 : Int64) + (dd.toInt64))), (.ref b21)])) _
          refine st25 _ ?_
          show Steps p.tables e below (T25.setTop (mkF m 86 #[.val (.int p1), .val (.int p2), .val (.ref a1), .val (.long ((0 : Int64) + (dd.toInt64))), .second, .val (.ref b21)] [])) _
          refine XS.aload X25.here hx rfl (hb hby d11_86) rfl (rfl) ?_
          show Steps p.tables e below (T25.setTop (mkF m 88 #[.val (.int p1), .val (.int p2), .val (.ref a1), .val (.long ((0 : Int64) + (dd.toInt64))), .second, .val (.ref b21)] [(.ref b21)])) _
          exact k
        obtain ⟨fs, hr, hrun, hended, hW, hsame⟩ := X25.leave (v := some (.ref b21)) (fun h => by rw [Bd.returns] at h; cases h)
        refine ⟨_, _, pre26 _ ?_, hrun, hended, _, _, rfl, ?_, ⟨_, rfl⟩, hW, hsame.mono (by decide) (by decide)⟩
        · exact retOut X25 hx Bd.returns (by first | rfl | simp [narrow]) (Or.inr (Or.inr (Or.inr (Or.inr ⟨rfl, rfl, rfl⟩)))) (hb hby d11_88) hr
        · show Q_rmS11 Z p1 p2 a1 b cl a2 dd h0 n0 _ T25.heap _
          rw [e25]
          exact ⟨b21, rfl, N25, K25, g_b21, (((A21.wr W23).wr W24).wr W25), ((Fw23.other W24 (Or.inr (slot_ne (Or.inl (hw _ (List.mem_of_getElem? (i := 126) rfl))) (Or.inl (hw _ (List.mem_of_getElem? (i := 128) rfl))) (by decide) (t := .long) (t' := .long) (by decide) (by decide)))).other W25 (Or.inr (slot_ne (Or.inl (hw _ (List.mem_of_getElem? (i := 126) rfl))) (Or.inl (hw _ (List.mem_of_getElem? (i := 130) rfl))) (by decide) (t := .long) (t' := .long) (by decide) (by decide)))), (((F21_attributesSinceStart.other W23 (Or.inr (slot_ne (Or.inl (hw _ (List.mem_of_getElem? (i := 138) rfl))) (Or.inl (hw _ (List.mem_of_getElem? (i := 126) rfl))) (by decide) (t := .long) (t' := .long) (by decide) (by decide)))).other W24 (Or.inr (slot_ne (Or.inl (hw _ (List.mem_of_getElem? (i := 138) rfl))) (Or.inl (hw _ (List.mem_of_getElem? (i := 128) rfl))) (by decide) (t := .long) (t' := .long) (by decide) (by decide)))).other W25 (Or.inr (slot_ne (Or.inl (hw _ (List.mem_of_getElem? (i := 138) rfl))) (Or.inl (hw _ (List.mem_of_getElem? (i := 130) rfl))) (by decide) (t := .long) (t' := .long) (by decide) (by decide)))), (((F21_events.other W23 (Or.inr (slot_ne (Or.inl (hw _ (List.mem_of_getElem? (i := 140) rfl))) (Or.inl (hw _ (List.mem_of_getElem? (i := 126) rfl))) (by decide) (t := .long) (t' := .long) (by decide) (by decide)))).other W24 (Or.inr (slot_ne (Or.inl (hw _ (List.mem_of_getElem? (i := 140) rfl))) (Or.inl (hw _ (List.mem_of_getElem? (i := 128) rfl))) (by decide) (t := .long) (t' := .long) (by decide) (by decide)))).other W25 (Or.inr (slot_ne (Or.inl (hw _ (List.mem_of_getElem? (i := 140) rfl))) (Or.inl (hw _ (List.mem_of_getElem? (i := 130) rfl))) (by decide) (t := .long) (t' := .long) (by decide) (by decide)))), (Fw24.other W25 (Or.inr (slot_ne (Or.inl (hw _ (List.mem_of_getElem? (i := 128) rfl))) (Or.inl (hw _ (List.mem_of_getElem? (i := 130) rfl))) (by decide) (t := .long) (t' := .long) (by decide) (by decide)))), (((F21_eventAttributes.other W23 (Or.inr (slot_ne (Or.inl (hw _ (List.mem_of_getElem? (i := 144) rfl))) (Or.inl (hw _ (List.mem_of_getElem? (i := 126) rfl))) (by decide) (t := .long) (t' := .long) (by decide) (by decide)))).other W24 (Or.inr (slot_ne (Or.inl (hw _ (List.mem_of_getElem? (i := 144) rfl))) (Or.inl (hw _ (List.mem_of_getElem? (i := 128) rfl))) (by decide) (t := .long) (t' := .long) (by decide) (by decide)))).other W25 (Or.inr (slot_ne (Or.inl (hw _ (List.mem_of_getElem? (i := 144) rfl))) (Or.inl (hw _ (List.mem_of_getElem? (i := 130) rfl))) (by decide) (t := .long) (t' := .long) (by decide) (by decide)))), Fw25, (((F21_attributesElsewhere.other W23 (Or.inr (slot_ne (Or.inl (hw _ (List.mem_of_getElem? (i := 168) rfl))) (Or.inl (hw _ (List.mem_of_getElem? (i := 126) rfl))) (by decide) (t := .long) (t' := .long) (by decide) (by decide)))).other W24 (Or.inr (slot_ne (Or.inl (hw _ (List.mem_of_getElem? (i := 168) rfl))) (Or.inl (hw _ (List.mem_of_getElem? (i := 128) rfl))) (by decide) (t := .long) (t' := .long) (by decide) (by decide)))).other W25 (Or.inr (slot_ne (Or.inl (hw _ (List.mem_of_getElem? (i := 168) rfl))) (Or.inl (hw _ (List.mem_of_getElem? (i := 130) rfl))) (by decide) (t := .long) (t' := .long) (by decide) (by decide)))), (((F21_eventsElsewhere.other W23 (Or.inr (slot_ne (Or.inl (hw _ (List.mem_of_getElem? (i := 170) rfl))) (Or.inl (hw _ (List.mem_of_getElem? (i := 126) rfl))) (by decide) (t := .long) (t' := .long) (by decide) (by decide)))).other W24 (Or.inr (slot_ne (Or.inl (hw _ (List.mem_of_getElem? (i := 170) rfl))) (Or.inl (hw _ (List.mem_of_getElem? (i := 128) rfl))) (by decide) (t := .long) (t' := .long) (by decide) (by decide)))).other W25 (Or.inr (slot_ne (Or.inl (hw _ (List.mem_of_getElem? (i := 170) rfl))) (Or.inl (hw _ (List.mem_of_getElem? (i := 130) rfl))) (by decide) (t := .long) (t' := .long) (by decide) (by decide)))), (((F21_linksElsewhere.other W23 (Or.inr (slot_ne (Or.inl (hw _ (List.mem_of_getElem? (i := 172) rfl))) (Or.inl (hw _ (List.mem_of_getElem? (i := 126) rfl))) (by decide) (t := .long) (t' := .long) (by decide) (by decide)))).other W24 (Or.inr (slot_ne (Or.inl (hw _ (List.mem_of_getElem? (i := 172) rfl))) (Or.inl (hw _ (List.mem_of_getElem? (i := 128) rfl))) (by decide) (t := .long) (t' := .long) (by decide) (by decide)))).other W25 (Or.inr (slot_ne (Or.inl (hw _ (List.mem_of_getElem? (i := 172) rfl))) (Or.inl (hw _ (List.mem_of_getElem? (i := 130) rfl))) (by decide) (t := .long) (t' := .long) (by decide) (by decide))))⟩
      · skip
        exact (hc.elim h44 (fun z => z.elim h48 h54)).elim
theorem ef_rmSS (m : MethodId) (x0 : Addr) (x1 : Int32) : entryFrame m #[(.ref x0), (.int x1)] 2 = mkF m 0 #[.val (.ref x0), .val (.int x1)] [] := by first | (simp [entryFrame, mkF, argsToLocals, Value.category]; done) | rfl
theorem d20_0 : decode prog_46_method_4_code 0 = .ok (.aload_n 0, 1) := by decide +kernel
theorem d20_1 : decode prog_46_method_4_code 1 = .ok (.iload_n 1, 1) := by decide +kernel
theorem d20_2 : decode prog_46_method_4_code 2 = .ok (.i2l, 1) := by decide +kernel
theorem d20_3 : decode prog_46_method_4_code 3 = .ok (.putfield 54, 3) := by decide +kernel
theorem d20_6 : decode prog_46_method_4_code 6 = .ok (.return_, 1) := by decide +kernel
def Q_rmSS (Z : State) (a1 : Addr) (p1 : Int32) (va : Int64) (vs : Int64) (ve : Int64) (vl : Int64) (vv : Int64) (vk : Int64) (x1 : Int64) (x2 : Int64) (x3 : Int64) (h0 : Heap) (n0 : Nat) (v : Option Value) (h : Heap) (L : List Loc) : Prop := v = none ∧ Fr n0 L ∧ Keep h0 h [a1] ∧ Exa Z h a1 "com/example/kiseki/kiseki/tracing/DroppedItems" ∧ Fld Z h a1 "com/example/kiseki/kiseki/tracing/DroppedItems" "attributesBeforeStart" "J" (.long va) ∧ Fld Z h a1 "com/example/kiseki/kiseki/tracing/DroppedItems" "attributesSinceStart" "J" (.long p1.toInt64) ∧ Fld Z h a1 "com/example/kiseki/kiseki/tracing/DroppedItems" "events" "J" (.long ve) ∧ Fld Z h a1 "com/example/kiseki/kiseki/tracing/DroppedItems" "links" "J" (.long vl) ∧ Fld Z h a1 "com/example/kiseki/kiseki/tracing/DroppedItems" "eventAttributes" "J" (.long vv) ∧ Fld Z h a1 "com/example/kiseki/kiseki/tracing/DroppedItems" "linkAttributes" "J" (.long vk) ∧ Fld Z h a1 "com/example/kiseki/kiseki/tracing/DroppedItems" "attributesElsewhere" "J" (.long x1) ∧ Fld Z h a1 "com/example/kiseki/kiseki/tracing/DroppedItems" "eventsElsewhere" "J" (.long x2) ∧ Fld Z h a1 "com/example/kiseki/kiseki/tracing/DroppedItems" "linksElsewhere" "J" (.long x3)
set_option maxRecDepth 65536 in
set_option maxHeartbeats 40000000 in
theorem rmSS (l : Launch) (Z : State) (a0 : Array Value) (hw : ∀ d ∈ tables_1, d.before a0 Z = true) (ws : List Jvm.Cond) (a1 : Addr) (p1 : Int32) (va : Int64) (vs : Int64) (ve : Int64) (vl : Int64) (vv : Int64) (vk : Int64) (x1 : Int64) (x2 : Int64) (x3 : Int64) (h0 : Heap) (n0 : Nat) (Z0 : n0 ≤ h0.size) (E1 : Exa Z h0 a1 "com/example/kiseki/kiseki/tracing/DroppedItems") (F0 : Fld Z h0 a1 "com/example/kiseki/kiseki/tracing/DroppedItems" "attributesBeforeStart" "J" (.long va)) (F1 : Fld Z h0 a1 "com/example/kiseki/kiseki/tracing/DroppedItems" "attributesSinceStart" "J" (.long vs)) (F2 : Fld Z h0 a1 "com/example/kiseki/kiseki/tracing/DroppedItems" "events" "J" (.long ve)) (F3 : Fld Z h0 a1 "com/example/kiseki/kiseki/tracing/DroppedItems" "links" "J" (.long vl)) (F4 : Fld Z h0 a1 "com/example/kiseki/kiseki/tracing/DroppedItems" "eventAttributes" "J" (.long vv)) (F5 : Fld Z h0 a1 "com/example/kiseki/kiseki/tracing/DroppedItems" "linkAttributes" "J" (.long vk)) (F6 : Fld Z h0 a1 "com/example/kiseki/kiseki/tracing/DroppedItems" "attributesElsewhere" "J" (.long x1)) (F7 : Fld Z h0 a1 "com/example/kiseki/kiseki/tracing/DroppedItems" "eventsElsewhere" "J" (.long x2)) (F8 : Fld Z h0 a1 "com/example/kiseki/kiseki/tracing/DroppedItems" "linksElsewhere" "J" (.long x3)) (g_a1 : n0 ≤ a1) :
    MetFree l (⟨"com/example/kiseki/kiseki/tracing/DroppedItems", "setAttributesDroppedSinceStart", "(I)V"⟩ : MethodName) (head1 (Jvm.Cond.code (⟨"com/example/kiseki/kiseki/tracing/DroppedItems", "setAttributesDroppedSinceStart", "(I)V"⟩ : MethodName) prog_46_method_4_code 2 none :: ws) ({ frames := 0, cells := 0, slots := 0, locals := 0 } : Room)) (fun a U => a = #[(.ref a1), (.int p1)] ∧ Z.Warmed39 U.vm ∧ U.heap = h0) (fun _ _ _ _ _ => True) (fun _ U o U' => ∃ v L, o = .returned v ∧ Q_rmSS Z a1 p1 va vs ve vl vv vk x1 x2 x3 h0 n0 v U'.heap L ∧ FrameEnd U o U' L ({ frames := 0, cells := 0, slots := 0, locals := 0 } : Room).cells ({ frames := 0, cells := 0, slots := 0, locals := 0 } : Room).slots) := by
  refine MetFree.of_bodySF (plainFor_of_name pn_1) hisR ?_
  intro p e s m args below meth c s₁ Bd hml0 hP hK
  obtain ⟨rfl, hZ, hh⟩ := hP
  have hx := Bd.exec
  have hby := Bd.bytes
  have hml : c.maxLocals = 2 := hml0
  have hown : s.vm.findClass "com/example/kiseki/kiseki/tracing/DroppedItems" = some m.cls := (findClass_of_methodNamed Bd.named :)
  have hnm := (name_of_methodNamed Bd.named Bd.method).1
  have X0 : Stand p l e ({ frames := 0, cells := 0, slots := 0, locals := 0 } : Room) s m #[(.ref a1), (.int p1)] below meth c s₁ [] 0 0 := Stand.of_body Bd
  have e0 : s₁.heap = h0 := by rw [← hh, Bd.state]; rfl
  have N0 := Fr.nil n0
  have pre0 : ∀ t, Steps p.tables e below (s₁.setTop (mkF m 0 #[.val (.ref a1), .val (.int p1)] [])) t → Steps p.tables e below (s₁.setTop (entryFrame m #[(.ref a1), (.int p1)] 2)) t := fun t k => castTop (ef_rmSS m a1 p1) k
  obtain ⟨T1, h1, X1, e1, W1, st1⟩ := putF X0 hx hZ hown (host := "") (Or.inl (hw _ (List.mem_of_getElem? (i := 137) rfl))) Via.refl e0 F1 E1 (Or.inl (hw _ (List.mem_of_getElem? (i := 138) rfl))) (hw _ (List.mem_of_getElem? (i := 120) rfl)) (ty := .long) (by decide) rfl rfl (g := (mkF m 3 #[.val (.ref a1), .val (.int p1)] [(.long (p1.toInt64)), (.ref a1)])) rfl rfl (hb hby d20_3)
  have Fw1 := F1.same W1
  have K1 : Keep h0 h1 [a1] := (Keep.refl h0 [a1]).wr W1 (Or.inl (List.mem_of_getElem? (i := 0) rfl))
  have N1 := Fr.snoc X1 N0 g_a1
  have pre2 : ∀ t, Steps p.tables e below (T1.setTop (mkF m 6 #[.val (.ref a1), .val (.int p1)] [])) t → Steps p.tables e below (s₁.setTop (entryFrame m #[(.ref a1), (.int p1)] 2)) t := by
    intro t k
    refine pre0 t ?_
    show Steps p.tables e below (s₁.setTop (mkF m 0 #[.val (.ref a1), .val (.int p1)] [])) _
    refine XS.aloadN X0.here hx rfl (hb hby d20_0) rfl (rfl) ?_
    show Steps p.tables e below (s₁.setTop (mkF m 1 #[.val (.ref a1), .val (.int p1)] [(.ref a1)])) _
    refine XS.iloadN X0.here hx rfl (hb hby d20_1) rfl ?_
    show Steps p.tables e below (s₁.setTop (mkF m 2 #[.val (.ref a1), .val (.int p1)] [(.int p1), (.ref a1)])) _
    refine XS.i2l X0.here hx rfl (hb hby d20_2) rfl ?_
    show Steps p.tables e below (s₁.setTop (mkF m 3 #[.val (.ref a1), .val (.int p1)] [(.long (p1.toInt64)), (.ref a1)])) _
    refine st1 _ ?_
    show Steps p.tables e below (T1.setTop (mkF m 6 #[.val (.ref a1), .val (.int p1)] [])) _
    exact k
  obtain ⟨fs, hr, hrun, hended, hW, hsame⟩ := X1.leave (v := none) (fun _ => rfl)
  refine ⟨_, _, pre2 _ ?_, hrun, hended, _, _, rfl, ?_, ⟨_, rfl⟩, hW, hsame.mono (by decide) (by decide)⟩
  · exact X1.returnOut hx Bd.returns (hb hby d20_6) hr
  · show Q_rmSS Z a1 p1 va vs ve vl vv vk x1 x2 x3 h0 n0 _ T1.heap _
    rw [e1]
    exact ⟨rfl, N1, K1, (E1.wr W1), (F0.other W1 (Or.inr (slot_ne (Or.inl (hw _ (List.mem_of_getElem? (i := 126) rfl))) (Or.inl (hw _ (List.mem_of_getElem? (i := 138) rfl))) (by decide) (t := .long) (t' := .long) (by decide) (by decide)))), Fw1, (F2.other W1 (Or.inr (slot_ne (Or.inl (hw _ (List.mem_of_getElem? (i := 140) rfl))) (Or.inl (hw _ (List.mem_of_getElem? (i := 138) rfl))) (by decide) (t := .long) (t' := .long) (by decide) (by decide)))), (F3.other W1 (Or.inr (slot_ne (Or.inl (hw _ (List.mem_of_getElem? (i := 128) rfl))) (Or.inl (hw _ (List.mem_of_getElem? (i := 138) rfl))) (by decide) (t := .long) (t' := .long) (by decide) (by decide)))), (F4.other W1 (Or.inr (slot_ne (Or.inl (hw _ (List.mem_of_getElem? (i := 144) rfl))) (Or.inl (hw _ (List.mem_of_getElem? (i := 138) rfl))) (by decide) (t := .long) (t' := .long) (by decide) (by decide)))), (F5.other W1 (Or.inr (slot_ne (Or.inl (hw _ (List.mem_of_getElem? (i := 130) rfl))) (Or.inl (hw _ (List.mem_of_getElem? (i := 138) rfl))) (by decide) (t := .long) (t' := .long) (by decide) (by decide)))), (F6.other W1 (Or.inr (slot_ne (Or.inl (hw _ (List.mem_of_getElem? (i := 168) rfl))) (Or.inl (hw _ (List.mem_of_getElem? (i := 138) rfl))) (by decide) (t := .long) (t' := .long) (by decide) (by decide)))), (F7.other W1 (Or.inr (slot_ne (Or.inl (hw _ (List.mem_of_getElem? (i := 170) rfl))) (Or.inl (hw _ (List.mem_of_getElem? (i := 138) rfl))) (by decide) (t := .long) (t' := .long) (by decide) (by decide)))), (F8.other W1 (Or.inr (slot_ne (Or.inl (hw _ (List.mem_of_getElem? (i := 172) rfl))) (Or.inl (hw _ (List.mem_of_getElem? (i := 138) rfl))) (by decide) (t := .long) (t' := .long) (by decide) (by decide))))⟩
theorem ef_rmCE (m : MethodId) (x0 : Addr) : entryFrame m #[(.ref x0)] 1 = mkF m 0 #[.val (.ref x0)] [] := by first | (simp [entryFrame, mkF, argsToLocals, Value.category]; done) | rfl
theorem d21_0 : decode prog_46_method_5_code 0 = .ok (.aload_n 0, 1) := by decide +kernel
theorem d21_1 : decode prog_46_method_5_code 1 = .ok (.dup, 1) := by decide +kernel
theorem d21_2 : decode prog_46_method_5_code 2 = .ok (.getfield 57, 3) := by decide +kernel
theorem d21_5 : decode prog_46_method_5_code 5 = .ok (.lconst 1, 1) := by decide +kernel
theorem d21_6 : decode prog_46_method_5_code 6 = .ok (.ladd, 1) := by decide +kernel
theorem d21_7 : decode prog_46_method_5_code 7 = .ok (.putfield 57, 3) := by decide +kernel
theorem d21_10 : decode prog_46_method_5_code 10 = .ok (.return_, 1) := by decide +kernel
def Q_rmCE (Z : State) (a1 : Addr) (va : Int64) (vs : Int64) (ve : Int64) (vl : Int64) (vv : Int64) (vk : Int64) (x1 : Int64) (x2 : Int64) (x3 : Int64) (h0 : Heap) (n0 : Nat) (v : Option Value) (h : Heap) (L : List Loc) : Prop := v = none ∧ Fr n0 L ∧ Keep h0 h [a1] ∧ Exa Z h a1 "com/example/kiseki/kiseki/tracing/DroppedItems" ∧ Fld Z h a1 "com/example/kiseki/kiseki/tracing/DroppedItems" "attributesBeforeStart" "J" (.long va) ∧ Fld Z h a1 "com/example/kiseki/kiseki/tracing/DroppedItems" "attributesSinceStart" "J" (.long vs) ∧ Fld Z h a1 "com/example/kiseki/kiseki/tracing/DroppedItems" "events" "J" (.long (ve + (1 : Int64))) ∧ Fld Z h a1 "com/example/kiseki/kiseki/tracing/DroppedItems" "links" "J" (.long vl) ∧ Fld Z h a1 "com/example/kiseki/kiseki/tracing/DroppedItems" "eventAttributes" "J" (.long vv) ∧ Fld Z h a1 "com/example/kiseki/kiseki/tracing/DroppedItems" "linkAttributes" "J" (.long vk) ∧ Fld Z h a1 "com/example/kiseki/kiseki/tracing/DroppedItems" "attributesElsewhere" "J" (.long x1) ∧ Fld Z h a1 "com/example/kiseki/kiseki/tracing/DroppedItems" "eventsElsewhere" "J" (.long x2) ∧ Fld Z h a1 "com/example/kiseki/kiseki/tracing/DroppedItems" "linksElsewhere" "J" (.long x3)
set_option maxRecDepth 65536 in
set_option maxHeartbeats 40000000 in
theorem rmCE (l : Launch) (Z : State) (a0 : Array Value) (hw : ∀ d ∈ tables_1, d.before a0 Z = true) (ws : List Jvm.Cond) (a1 : Addr) (va : Int64) (vs : Int64) (ve : Int64) (vl : Int64) (vv : Int64) (vk : Int64) (x1 : Int64) (x2 : Int64) (x3 : Int64) (h0 : Heap) (n0 : Nat) (Z0 : n0 ≤ h0.size) (E1 : Exa Z h0 a1 "com/example/kiseki/kiseki/tracing/DroppedItems") (F0 : Fld Z h0 a1 "com/example/kiseki/kiseki/tracing/DroppedItems" "attributesBeforeStart" "J" (.long va)) (F1 : Fld Z h0 a1 "com/example/kiseki/kiseki/tracing/DroppedItems" "attributesSinceStart" "J" (.long vs)) (F2 : Fld Z h0 a1 "com/example/kiseki/kiseki/tracing/DroppedItems" "events" "J" (.long ve)) (F3 : Fld Z h0 a1 "com/example/kiseki/kiseki/tracing/DroppedItems" "links" "J" (.long vl)) (F4 : Fld Z h0 a1 "com/example/kiseki/kiseki/tracing/DroppedItems" "eventAttributes" "J" (.long vv)) (F5 : Fld Z h0 a1 "com/example/kiseki/kiseki/tracing/DroppedItems" "linkAttributes" "J" (.long vk)) (F6 : Fld Z h0 a1 "com/example/kiseki/kiseki/tracing/DroppedItems" "attributesElsewhere" "J" (.long x1)) (F7 : Fld Z h0 a1 "com/example/kiseki/kiseki/tracing/DroppedItems" "eventsElsewhere" "J" (.long x2)) (F8 : Fld Z h0 a1 "com/example/kiseki/kiseki/tracing/DroppedItems" "linksElsewhere" "J" (.long x3)) (g_a1 : n0 ≤ a1) :
    MetFree l (⟨"com/example/kiseki/kiseki/tracing/DroppedItems", "countEvent", "()V"⟩ : MethodName) (head1 (Jvm.Cond.code (⟨"com/example/kiseki/kiseki/tracing/DroppedItems", "countEvent", "()V"⟩ : MethodName) prog_46_method_5_code 1 none :: ws) ({ frames := 0, cells := 0, slots := 0, locals := 0 } : Room)) (fun a U => a = #[(.ref a1)] ∧ Z.Warmed39 U.vm ∧ U.heap = h0) (fun _ _ _ _ _ => True) (fun _ U o U' => ∃ v L, o = .returned v ∧ Q_rmCE Z a1 va vs ve vl vv vk x1 x2 x3 h0 n0 v U'.heap L ∧ FrameEnd U o U' L ({ frames := 0, cells := 0, slots := 0, locals := 0 } : Room).cells ({ frames := 0, cells := 0, slots := 0, locals := 0 } : Room).slots) := by
  refine MetFree.of_bodySF (plainFor_of_name pn_1) hisR ?_
  intro p e s m args below meth c s₁ Bd hml0 hP hK
  obtain ⟨rfl, hZ, hh⟩ := hP
  have hx := Bd.exec
  have hby := Bd.bytes
  have hml : c.maxLocals = 1 := hml0
  have hown : s.vm.findClass "com/example/kiseki/kiseki/tracing/DroppedItems" = some m.cls := (findClass_of_methodNamed Bd.named :)
  have hnm := (name_of_methodNamed Bd.named Bd.method).1
  have X0 : Stand p l e ({ frames := 0, cells := 0, slots := 0, locals := 0 } : Room) s m #[(.ref a1)] below meth c s₁ [] 0 0 := Stand.of_body Bd
  have e0 : s₁.heap = h0 := by rw [← hh, Bd.state]; rfl
  have N0 := Fr.nil n0
  have pre0 : ∀ t, Steps p.tables e below (s₁.setTop (mkF m 0 #[.val (.ref a1)] [])) t → Steps p.tables e below (s₁.setTop (entryFrame m #[(.ref a1)] 1)) t := fun t k => castTop (ef_rmCE m a1) k
  obtain ⟨T1, X1, e1, st1⟩ := getF X0 hx hZ hown (host := "") (Or.inl (hw _ (List.mem_of_getElem? (i := 139) rfl))) Via.refl e0 F2 (g := (mkF m 2 #[.val (.ref a1)] [(.ref a1), (.ref a1)])) rfl rfl (hb hby d21_2)
  obtain ⟨T2, h2, X2, e2, W2, st2⟩ := putF X1 hx hZ hown (host := "") (Or.inl (hw _ (List.mem_of_getElem? (i := 139) rfl))) Via.refl e1 F2 E1 (Or.inl (hw _ (List.mem_of_getElem? (i := 140) rfl))) (hw _ (List.mem_of_getElem? (i := 120) rfl)) (ty := .long) (by decide) rfl rfl (g := (mkF m 7 #[.val (.ref a1)] [(.long (ve + (1 : Int64))), (.ref a1)])) rfl rfl (hb hby d21_7)
  have Fw2 := F2.same W2
  have K2 : Keep h0 h2 [a1] := (Keep.refl h0 [a1]).wr W2 (Or.inl (List.mem_of_getElem? (i := 0) rfl))
  have N2 := Fr.snoc X2 N0 g_a1
  have pre3 : ∀ t, Steps p.tables e below (T2.setTop (mkF m 10 #[.val (.ref a1)] [])) t → Steps p.tables e below (s₁.setTop (entryFrame m #[(.ref a1)] 1)) t := by
    intro t k
    refine pre0 t ?_
    show Steps p.tables e below (s₁.setTop (mkF m 0 #[.val (.ref a1)] [])) _
    refine XS.aloadN X0.here hx rfl (hb hby d21_0) rfl (rfl) ?_
    show Steps p.tables e below (s₁.setTop (mkF m 1 #[.val (.ref a1)] [(.ref a1)])) _
    refine XS.dup X0.here hx rfl (hb hby d21_1) rfl rfl ?_
    show Steps p.tables e below (s₁.setTop (mkF m 2 #[.val (.ref a1)] [(.ref a1), (.ref a1)])) _
    refine st1 _ ?_
    show Steps p.tables e below (T1.setTop (mkF m 5 #[.val (.ref a1)] [(.long ve), (.ref a1)])) _
    refine XS.lconst X1.here hx rfl (hb hby d21_5) ?_
    show Steps p.tables e below (T1.setTop (mkF m 6 #[.val (.ref a1)] [(.long (1 : Int64)), (.long ve), (.ref a1)])) _
    refine XS.ladd X1.here hx rfl (hb hby d21_6) rfl ?_
    show Steps p.tables e below (T1.setTop (mkF m 7 #[.val (.ref a1)] [(.long (ve + (1 : Int64))), (.ref a1)])) _
    refine st2 _ ?_
    show Steps p.tables e below (T2.setTop (mkF m 10 #[.val (.ref a1)] [])) _
    exact k
  obtain ⟨fs, hr, hrun, hended, hW, hsame⟩ := X2.leave (v := none) (fun _ => rfl)
  refine ⟨_, _, pre3 _ ?_, hrun, hended, _, _, rfl, ?_, ⟨_, rfl⟩, hW, hsame.mono (by decide) (by decide)⟩
  · exact X2.returnOut hx Bd.returns (hb hby d21_10) hr
  · show Q_rmCE Z a1 va vs ve vl vv vk x1 x2 x3 h0 n0 _ T2.heap _
    rw [e2]
    exact ⟨rfl, N2, K2, (E1.wr W2), (F0.other W2 (Or.inr (slot_ne (Or.inl (hw _ (List.mem_of_getElem? (i := 126) rfl))) (Or.inl (hw _ (List.mem_of_getElem? (i := 140) rfl))) (by decide) (t := .long) (t' := .long) (by decide) (by decide)))), (F1.other W2 (Or.inr (slot_ne (Or.inl (hw _ (List.mem_of_getElem? (i := 138) rfl))) (Or.inl (hw _ (List.mem_of_getElem? (i := 140) rfl))) (by decide) (t := .long) (t' := .long) (by decide) (by decide)))), Fw2, (F3.other W2 (Or.inr (slot_ne (Or.inl (hw _ (List.mem_of_getElem? (i := 128) rfl))) (Or.inl (hw _ (List.mem_of_getElem? (i := 140) rfl))) (by decide) (t := .long) (t' := .long) (by decide) (by decide)))), (F4.other W2 (Or.inr (slot_ne (Or.inl (hw _ (List.mem_of_getElem? (i := 144) rfl))) (Or.inl (hw _ (List.mem_of_getElem? (i := 140) rfl))) (by decide) (t := .long) (t' := .long) (by decide) (by decide)))), (F5.other W2 (Or.inr (slot_ne (Or.inl (hw _ (List.mem_of_getElem? (i := 130) rfl))) (Or.inl (hw _ (List.mem_of_getElem? (i := 140) rfl))) (by decide) (t := .long) (t' := .long) (by decide) (by decide)))), (F6.other W2 (Or.inr (slot_ne (Or.inl (hw _ (List.mem_of_getElem? (i := 168) rfl))) (Or.inl (hw _ (List.mem_of_getElem? (i := 140) rfl))) (by decide) (t := .long) (t' := .long) (by decide) (by decide)))), (F7.other W2 (Or.inr (slot_ne (Or.inl (hw _ (List.mem_of_getElem? (i := 170) rfl))) (Or.inl (hw _ (List.mem_of_getElem? (i := 140) rfl))) (by decide) (t := .long) (t' := .long) (by decide) (by decide)))), (F8.other W2 (Or.inr (slot_ne (Or.inl (hw _ (List.mem_of_getElem? (i := 172) rfl))) (Or.inl (hw _ (List.mem_of_getElem? (i := 140) rfl))) (by decide) (t := .long) (t' := .long) (by decide) (by decide))))⟩
theorem ef_rmCA (m : MethodId) (x0 : Addr) (x1 : Int32) : entryFrame m #[(.ref x0), (.int x1)] 2 = mkF m 0 #[.val (.ref x0), .val (.int x1)] [] := by first | (simp [entryFrame, mkF, argsToLocals, Value.category]; done) | rfl
theorem d22_0 : decode prog_46_method_6_code 0 = .ok (.aload_n 0, 1) := by decide +kernel
theorem d22_1 : decode prog_46_method_6_code 1 = .ok (.dup, 1) := by decide +kernel
theorem d22_2 : decode prog_46_method_6_code 2 = .ok (.getfield 60, 3) := by decide +kernel
theorem d22_5 : decode prog_46_method_6_code 5 = .ok (.iload_n 1, 1) := by decide +kernel
theorem d22_6 : decode prog_46_method_6_code 6 = .ok (.i2l, 1) := by decide +kernel
theorem d22_7 : decode prog_46_method_6_code 7 = .ok (.ladd, 1) := by decide +kernel
theorem d22_8 : decode prog_46_method_6_code 8 = .ok (.putfield 60, 3) := by decide +kernel
theorem d22_11 : decode prog_46_method_6_code 11 = .ok (.return_, 1) := by decide +kernel
def Q_rmCA (Z : State) (a1 : Addr) (p1 : Int32) (va : Int64) (vs : Int64) (ve : Int64) (vl : Int64) (vv : Int64) (vk : Int64) (x1 : Int64) (x2 : Int64) (x3 : Int64) (h0 : Heap) (n0 : Nat) (v : Option Value) (h : Heap) (L : List Loc) : Prop := v = none ∧ Fr n0 L ∧ Keep h0 h [a1] ∧ Exa Z h a1 "com/example/kiseki/kiseki/tracing/DroppedItems" ∧ Fld Z h a1 "com/example/kiseki/kiseki/tracing/DroppedItems" "attributesBeforeStart" "J" (.long va) ∧ Fld Z h a1 "com/example/kiseki/kiseki/tracing/DroppedItems" "attributesSinceStart" "J" (.long vs) ∧ Fld Z h a1 "com/example/kiseki/kiseki/tracing/DroppedItems" "events" "J" (.long ve) ∧ Fld Z h a1 "com/example/kiseki/kiseki/tracing/DroppedItems" "links" "J" (.long vl) ∧ Fld Z h a1 "com/example/kiseki/kiseki/tracing/DroppedItems" "eventAttributes" "J" (.long (vv + p1.toInt64)) ∧ Fld Z h a1 "com/example/kiseki/kiseki/tracing/DroppedItems" "linkAttributes" "J" (.long vk) ∧ Fld Z h a1 "com/example/kiseki/kiseki/tracing/DroppedItems" "attributesElsewhere" "J" (.long x1) ∧ Fld Z h a1 "com/example/kiseki/kiseki/tracing/DroppedItems" "eventsElsewhere" "J" (.long x2) ∧ Fld Z h a1 "com/example/kiseki/kiseki/tracing/DroppedItems" "linksElsewhere" "J" (.long x3)
set_option maxRecDepth 65536 in
set_option maxHeartbeats 40000000 in
theorem rmCA (l : Launch) (Z : State) (a0 : Array Value) (hw : ∀ d ∈ tables_1, d.before a0 Z = true) (ws : List Jvm.Cond) (a1 : Addr) (p1 : Int32) (va : Int64) (vs : Int64) (ve : Int64) (vl : Int64) (vv : Int64) (vk : Int64) (x1 : Int64) (x2 : Int64) (x3 : Int64) (h0 : Heap) (n0 : Nat) (Z0 : n0 ≤ h0.size) (E1 : Exa Z h0 a1 "com/example/kiseki/kiseki/tracing/DroppedItems") (F0 : Fld Z h0 a1 "com/example/kiseki/kiseki/tracing/DroppedItems" "attributesBeforeStart" "J" (.long va)) (F1 : Fld Z h0 a1 "com/example/kiseki/kiseki/tracing/DroppedItems" "attributesSinceStart" "J" (.long vs)) (F2 : Fld Z h0 a1 "com/example/kiseki/kiseki/tracing/DroppedItems" "events" "J" (.long ve)) (F3 : Fld Z h0 a1 "com/example/kiseki/kiseki/tracing/DroppedItems" "links" "J" (.long vl)) (F4 : Fld Z h0 a1 "com/example/kiseki/kiseki/tracing/DroppedItems" "eventAttributes" "J" (.long vv)) (F5 : Fld Z h0 a1 "com/example/kiseki/kiseki/tracing/DroppedItems" "linkAttributes" "J" (.long vk)) (F6 : Fld Z h0 a1 "com/example/kiseki/kiseki/tracing/DroppedItems" "attributesElsewhere" "J" (.long x1)) (F7 : Fld Z h0 a1 "com/example/kiseki/kiseki/tracing/DroppedItems" "eventsElsewhere" "J" (.long x2)) (F8 : Fld Z h0 a1 "com/example/kiseki/kiseki/tracing/DroppedItems" "linksElsewhere" "J" (.long x3)) (g_a1 : n0 ≤ a1) :
    MetFree l (⟨"com/example/kiseki/kiseki/tracing/DroppedItems", "countEventAttributes", "(I)V"⟩ : MethodName) (head1 (Jvm.Cond.code (⟨"com/example/kiseki/kiseki/tracing/DroppedItems", "countEventAttributes", "(I)V"⟩ : MethodName) prog_46_method_6_code 2 none :: ws) ({ frames := 0, cells := 0, slots := 0, locals := 0 } : Room)) (fun a U => a = #[(.ref a1), (.int p1)] ∧ Z.Warmed39 U.vm ∧ U.heap = h0) (fun _ _ _ _ _ => True) (fun _ U o U' => ∃ v L, o = .returned v ∧ Q_rmCA Z a1 p1 va vs ve vl vv vk x1 x2 x3 h0 n0 v U'.heap L ∧ FrameEnd U o U' L ({ frames := 0, cells := 0, slots := 0, locals := 0 } : Room).cells ({ frames := 0, cells := 0, slots := 0, locals := 0 } : Room).slots) := by
  refine MetFree.of_bodySF (plainFor_of_name pn_1) hisR ?_
  intro p e s m args below meth c s₁ Bd hml0 hP hK
  obtain ⟨rfl, hZ, hh⟩ := hP
  have hx := Bd.exec
  have hby := Bd.bytes
  have hml : c.maxLocals = 2 := hml0
  have hown : s.vm.findClass "com/example/kiseki/kiseki/tracing/DroppedItems" = some m.cls := (findClass_of_methodNamed Bd.named :)
  have hnm := (name_of_methodNamed Bd.named Bd.method).1
  have X0 : Stand p l e ({ frames := 0, cells := 0, slots := 0, locals := 0 } : Room) s m #[(.ref a1), (.int p1)] below meth c s₁ [] 0 0 := Stand.of_body Bd
  have e0 : s₁.heap = h0 := by rw [← hh, Bd.state]; rfl
  have N0 := Fr.nil n0
  have pre0 : ∀ t, Steps p.tables e below (s₁.setTop (mkF m 0 #[.val (.ref a1), .val (.int p1)] [])) t → Steps p.tables e below (s₁.setTop (entryFrame m #[(.ref a1), (.int p1)] 2)) t := fun t k => castTop (ef_rmCA m a1 p1) k
  obtain ⟨T1, X1, e1, st1⟩ := getF X0 hx hZ hown (host := "") (Or.inl (hw _ (List.mem_of_getElem? (i := 143) rfl))) Via.refl e0 F4 (g := (mkF m 2 #[.val (.ref a1), .val (.int p1)] [(.ref a1), (.ref a1)])) rfl rfl (hb hby d22_2)
  obtain ⟨T2, h2, X2, e2, W2, st2⟩ := putF X1 hx hZ hown (host := "") (Or.inl (hw _ (List.mem_of_getElem? (i := 143) rfl))) Via.refl e1 F4 E1 (Or.inl (hw _ (List.mem_of_getElem? (i := 144) rfl))) (hw _ (List.mem_of_getElem? (i := 120) rfl)) (ty := .long) (by decide) rfl rfl (g := (mkF m 8 #[.val (.ref a1), .val (.int p1)] [(.long (vv + (p1.toInt64))), (.ref a1)])) rfl rfl (hb hby d22_8)
  have Fw2 := F4.same W2
  have K2 : Keep h0 h2 [a1] := (Keep.refl h0 [a1]).wr W2 (Or.inl (List.mem_of_getElem? (i := 0) rfl))
  have N2 := Fr.snoc X2 N0 g_a1
  have pre3 : ∀ t, Steps p.tables e below (T2.setTop (mkF m 11 #[.val (.ref a1), .val (.int p1)] [])) t → Steps p.tables e below (s₁.setTop (entryFrame m #[(.ref a1), (.int p1)] 2)) t := by
    intro t k
    refine pre0 t ?_
    show Steps p.tables e below (s₁.setTop (mkF m 0 #[.val (.ref a1), .val (.int p1)] [])) _
    refine XS.aloadN X0.here hx rfl (hb hby d22_0) rfl (rfl) ?_
    show Steps p.tables e below (s₁.setTop (mkF m 1 #[.val (.ref a1), .val (.int p1)] [(.ref a1)])) _
    refine XS.dup X0.here hx rfl (hb hby d22_1) rfl rfl ?_
    show Steps p.tables e below (s₁.setTop (mkF m 2 #[.val (.ref a1), .val (.int p1)] [(.ref a1), (.ref a1)])) _
    refine st1 _ ?_
    show Steps p.tables e below (T1.setTop (mkF m 5 #[.val (.ref a1), .val (.int p1)] [(.long vv), (.ref a1)])) _
    refine XS.iloadN X1.here hx rfl (hb hby d22_5) rfl ?_
    show Steps p.tables e below (T1.setTop (mkF m 6 #[.val (.ref a1), .val (.int p1)] [(.int p1), (.long vv), (.ref a1)])) _
    refine XS.i2l X1.here hx rfl (hb hby d22_6) rfl ?_
    show Steps p.tables e below (T1.setTop (mkF m 7 #[.val (.ref a1), .val (.int p1)] [(.long (p1.toInt64)), (.long vv), (.ref a1)])) _
    refine XS.ladd X1.here hx rfl (hb hby d22_7) rfl ?_
    show Steps p.tables e below (T1.setTop (mkF m 8 #[.val (.ref a1), .val (.int p1)] [(.long (vv + (p1.toInt64))), (.ref a1)])) _
    refine st2 _ ?_
    show Steps p.tables e below (T2.setTop (mkF m 11 #[.val (.ref a1), .val (.int p1)] [])) _
    exact k
  obtain ⟨fs, hr, hrun, hended, hW, hsame⟩ := X2.leave (v := none) (fun _ => rfl)
  refine ⟨_, _, pre3 _ ?_, hrun, hended, _, _, rfl, ?_, ⟨_, rfl⟩, hW, hsame.mono (by decide) (by decide)⟩
  · exact X2.returnOut hx Bd.returns (hb hby d22_11) hr
  · show Q_rmCA Z a1 p1 va vs ve vl vv vk x1 x2 x3 h0 n0 _ T2.heap _
    rw [e2]
    exact ⟨rfl, N2, K2, (E1.wr W2), (F0.other W2 (Or.inr (slot_ne (Or.inl (hw _ (List.mem_of_getElem? (i := 126) rfl))) (Or.inl (hw _ (List.mem_of_getElem? (i := 144) rfl))) (by decide) (t := .long) (t' := .long) (by decide) (by decide)))), (F1.other W2 (Or.inr (slot_ne (Or.inl (hw _ (List.mem_of_getElem? (i := 138) rfl))) (Or.inl (hw _ (List.mem_of_getElem? (i := 144) rfl))) (by decide) (t := .long) (t' := .long) (by decide) (by decide)))), (F2.other W2 (Or.inr (slot_ne (Or.inl (hw _ (List.mem_of_getElem? (i := 140) rfl))) (Or.inl (hw _ (List.mem_of_getElem? (i := 144) rfl))) (by decide) (t := .long) (t' := .long) (by decide) (by decide)))), (F3.other W2 (Or.inr (slot_ne (Or.inl (hw _ (List.mem_of_getElem? (i := 128) rfl))) (Or.inl (hw _ (List.mem_of_getElem? (i := 144) rfl))) (by decide) (t := .long) (t' := .long) (by decide) (by decide)))), Fw2, (F5.other W2 (Or.inr (slot_ne (Or.inl (hw _ (List.mem_of_getElem? (i := 130) rfl))) (Or.inl (hw _ (List.mem_of_getElem? (i := 144) rfl))) (by decide) (t := .long) (t' := .long) (by decide) (by decide)))), (F6.other W2 (Or.inr (slot_ne (Or.inl (hw _ (List.mem_of_getElem? (i := 168) rfl))) (Or.inl (hw _ (List.mem_of_getElem? (i := 144) rfl))) (by decide) (t := .long) (t' := .long) (by decide) (by decide)))), (F7.other W2 (Or.inr (slot_ne (Or.inl (hw _ (List.mem_of_getElem? (i := 170) rfl))) (Or.inl (hw _ (List.mem_of_getElem? (i := 144) rfl))) (by decide) (t := .long) (t' := .long) (by decide) (by decide)))), (F8.other W2 (Or.inr (slot_ne (Or.inl (hw _ (List.mem_of_getElem? (i := 172) rfl))) (Or.inl (hw _ (List.mem_of_getElem? (i := 144) rfl))) (by decide) (t := .long) (t' := .long) (by decide) (by decide))))⟩
theorem ef_rmWE (m : MethodId) (x0 : Addr) (x1 : Int64) (x2 : Int64) (x3 : Int64) : entryFrame m #[(.ref x0), (.long x1), (.long x2), (.long x3)] 8 = mkF m 0 #[.val (.ref x0), .val (.long x1), .second, .val (.long x2), .second, .val (.long x3), .second, .unset] [] := by first | (simp [entryFrame, mkF, argsToLocals, Value.category]; done) | rfl
theorem d23_0 : decode prog_46_method_3_code 0 = .ok (.lload_n 1, 1) := by decide +kernel
theorem d23_1 : decode prog_46_method_3_code 1 = .ok (.lconst 0, 1) := by decide +kernel
theorem d23_2 : decode prog_46_method_3_code 2 = .ok (.lcmp, 1) := by decide +kernel
theorem d23_3 : decode prog_46_method_3_code 3 = .ok (.ifCond .ne 18, 3) := by decide +kernel
theorem d23_6 : decode prog_46_method_3_code 6 = .ok (.lload_n 3, 1) := by decide +kernel
theorem d23_7 : decode prog_46_method_3_code 7 = .ok (.lconst 0, 1) := by decide +kernel
theorem d23_8 : decode prog_46_method_3_code 8 = .ok (.lcmp, 1) := by decide +kernel
theorem d23_9 : decode prog_46_method_3_code 9 = .ok (.ifCond .ne 12, 3) := by decide +kernel
theorem d23_12 : decode prog_46_method_3_code 12 = .ok (.lload 5, 2) := by decide +kernel
theorem d23_14 : decode prog_46_method_3_code 14 = .ok (.lconst 0, 1) := by decide +kernel
theorem d23_15 : decode prog_46_method_3_code 15 = .ok (.lcmp, 1) := by decide +kernel
theorem d23_16 : decode prog_46_method_3_code 16 = .ok (.ifCond .ne 5, 3) := by decide +kernel
theorem d23_19 : decode prog_46_method_3_code 19 = .ok (.aload_n 0, 1) := by decide +kernel
theorem d23_20 : decode prog_46_method_3_code 20 = .ok (.areturn, 1) := by decide +kernel
theorem d23_21 : decode prog_46_method_3_code 21 = .ok (.aload_n 0, 1) := by decide +kernel
theorem d23_22 : decode prog_46_method_3_code 22 = .ok (.ifnonnull 13, 3) := by decide +kernel
theorem d23_35 : decode prog_46_method_3_code 35 = .ok (.aload_n 0, 1) := by decide +kernel
theorem d23_36 : decode prog_46_method_3_code 36 = .ok (.astore 7, 2) := by decide +kernel
theorem d23_38 : decode prog_46_method_3_code 38 = .ok (.aload 7, 2) := by decide +kernel
theorem d23_40 : decode prog_46_method_3_code 40 = .ok (.lload_n 1, 1) := by decide +kernel
theorem d23_41 : decode prog_46_method_3_code 41 = .ok (.ldc2_w 37, 3) := by decide +kernel
theorem d23_44 : decode prog_46_method_3_code 44 = .ok (.invokestatic 39, 3) := by decide +kernel
theorem pd_8 : parseMethodDescriptor "(JJ)J" = some ⟨[.long, .long], some .long⟩ := by decide +kernel
theorem d23_47 : decode prog_46_method_3_code 47 = .ok (.putfield 45, 3) := by decide +kernel
theorem d23_50 : decode prog_46_method_3_code 50 = .ok (.aload 7, 2) := by decide +kernel
theorem d23_52 : decode prog_46_method_3_code 52 = .ok (.lload_n 3, 1) := by decide +kernel
theorem d23_53 : decode prog_46_method_3_code 53 = .ok (.ldc2_w 37, 3) := by decide +kernel
theorem d23_56 : decode prog_46_method_3_code 56 = .ok (.invokestatic 39, 3) := by decide +kernel
theorem d23_59 : decode prog_46_method_3_code 59 = .ok (.putfield 48, 3) := by decide +kernel
theorem d23_62 : decode prog_46_method_3_code 62 = .ok (.aload 7, 2) := by decide +kernel
theorem d23_64 : decode prog_46_method_3_code 64 = .ok (.lload 5, 2) := by decide +kernel
theorem d23_66 : decode prog_46_method_3_code 66 = .ok (.ldc2_w 37, 3) := by decide +kernel
theorem d23_69 : decode prog_46_method_3_code 69 = .ok (.invokestatic 39, 3) := by decide +kernel
theorem d23_72 : decode prog_46_method_3_code 72 = .ok (.putfield 51, 3) := by decide +kernel
theorem d23_75 : decode prog_46_method_3_code 75 = .ok (.aload 7, 2) := by decide +kernel
theorem d23_77 : decode prog_46_method_3_code 77 = .ok (.areturn, 1) := by decide +kernel
def Q_rmWE (Z : State) (a1 : Addr) (q1 : Int64) (q2 : Int64) (q3 : Int64) (va : Int64) (vs : Int64) (ve : Int64) (vl : Int64) (vv : Int64) (vk : Int64) (x1 : Int64) (x2 : Int64) (x3 : Int64) (h0 : Heap) (n0 : Nat) (v : Option Value) (h : Heap) (L : List Loc) : Prop := v = some (.ref a1) ∧ Fr n0 L ∧ Keep h0 h [a1] ∧ Exa Z h a1 "com/example/kiseki/kiseki/tracing/DroppedItems" ∧ Fld Z h a1 "com/example/kiseki/kiseki/tracing/DroppedItems" "attributesBeforeStart" "J" (.long va) ∧ Fld Z h a1 "com/example/kiseki/kiseki/tracing/DroppedItems" "attributesSinceStart" "J" (.long vs) ∧ Fld Z h a1 "com/example/kiseki/kiseki/tracing/DroppedItems" "events" "J" (.long ve) ∧ Fld Z h a1 "com/example/kiseki/kiseki/tracing/DroppedItems" "links" "J" (.long vl) ∧ Fld Z h a1 "com/example/kiseki/kiseki/tracing/DroppedItems" "eventAttributes" "J" (.long vv) ∧ Fld Z h a1 "com/example/kiseki/kiseki/tracing/DroppedItems" "linkAttributes" "J" (.long vk)
set_option maxRecDepth 65536 in
set_option maxHeartbeats 40000000 in
theorem rmWE (l : Launch) (Z : State) (a0 : Array Value) (hw : ∀ d ∈ tables_1, d.before a0 Z = true) (ws : List Jvm.Cond) (a1 : Addr) (q1 : Int64) (q2 : Int64) (q3 : Int64) (va : Int64) (vs : Int64) (ve : Int64) (vl : Int64) (vv : Int64) (vk : Int64) (x1 : Int64) (x2 : Int64) (x3 : Int64) (h0 : Heap) (n0 : Nat) (Z0 : n0 ≤ h0.size) (E1 : Exa Z h0 a1 "com/example/kiseki/kiseki/tracing/DroppedItems") (F0 : Fld Z h0 a1 "com/example/kiseki/kiseki/tracing/DroppedItems" "attributesBeforeStart" "J" (.long va)) (F1 : Fld Z h0 a1 "com/example/kiseki/kiseki/tracing/DroppedItems" "attributesSinceStart" "J" (.long vs)) (F2 : Fld Z h0 a1 "com/example/kiseki/kiseki/tracing/DroppedItems" "events" "J" (.long ve)) (F3 : Fld Z h0 a1 "com/example/kiseki/kiseki/tracing/DroppedItems" "links" "J" (.long vl)) (F4 : Fld Z h0 a1 "com/example/kiseki/kiseki/tracing/DroppedItems" "eventAttributes" "J" (.long vv)) (F5 : Fld Z h0 a1 "com/example/kiseki/kiseki/tracing/DroppedItems" "linkAttributes" "J" (.long vk)) (F6 : Fld Z h0 a1 "com/example/kiseki/kiseki/tracing/DroppedItems" "attributesElsewhere" "J" (.long x1)) (F7 : Fld Z h0 a1 "com/example/kiseki/kiseki/tracing/DroppedItems" "eventsElsewhere" "J" (.long x2)) (F8 : Fld Z h0 a1 "com/example/kiseki/kiseki/tracing/DroppedItems" "linksElsewhere" "J" (.long x3)) (g_a1 : n0 ≤ a1) :
    MetFree l (⟨"com/example/kiseki/kiseki/tracing/DroppedItems", "withDroppedElsewhere", "(Lcom/example/kiseki/kiseki/tracing/DroppedItems;JJJ)Lcom/example/kiseki/kiseki/tracing/DroppedItems;"⟩ : MethodName) (head1 (Jvm.Cond.code (⟨"com/example/kiseki/kiseki/tracing/DroppedItems", "withDroppedElsewhere", "(Lcom/example/kiseki/kiseki/tracing/DroppedItems;JJJ)Lcom/example/kiseki/kiseki/tracing/DroppedItems;"⟩ : MethodName) prog_46_method_3_code 8 (some (.object "com/example/kiseki/kiseki/tracing/DroppedItems")) :: ws) ({ frames := 1, cells := 0, slots := 0, locals := 40 } : Room)) (fun a U => a = #[(.ref a1), (.long q1), (.long q2), (.long q3)] ∧ Z.Warmed39 U.vm ∧ U.heap = h0) (fun _ _ _ _ _ => True) (fun _ U o U' => ∃ v L, o = .returned v ∧ Q_rmWE Z a1 q1 q2 q3 va vs ve vl vv vk x1 x2 x3 h0 n0 v U'.heap L ∧ FrameEnd U o U' L ({ frames := 1, cells := 0, slots := 0, locals := 40 } : Room).cells ({ frames := 1, cells := 0, slots := 0, locals := 40 } : Room).slots) := by
  refine MetFree.of_bodySF (plainFor_of_name pn_1) hisR ?_
  intro p e s m args below meth c s₁ Bd hml0 hP hK
  obtain ⟨rfl, hZ, hh⟩ := hP
  have hx := Bd.exec
  have hby := Bd.bytes
  have hml : c.maxLocals = 8 := hml0
  have hown : s.vm.findClass "com/example/kiseki/kiseki/tracing/DroppedItems" = some m.cls := (findClass_of_methodNamed Bd.named :)
  have hnm := (name_of_methodNamed Bd.named Bd.method).1
  have X0 : Stand p l e ({ frames := 1, cells := 0, slots := 0, locals := 40 } : Room) s m #[(.ref a1), (.long q1), (.long q2), (.long q3)] below meth c s₁ [] 0 0 := Stand.of_body Bd
  have e0 : s₁.heap = h0 := by rw [← hh, Bd.state]; rfl
  have N0 := Fr.nil n0
  have pre0 : ∀ t, Steps p.tables e below (s₁.setTop (mkF m 0 #[.val (.ref a1), .val (.long q1), .second, .val (.long q2), .second, .val (.long q3), .second, .unset] [])) t → Steps p.tables e below (s₁.setTop (entryFrame m #[(.ref a1), (.long q1), (.long q2), (.long q3)] 8)) t := fun t k => castTop (ef_rmWE m a1 q1 q2 q3) k
  have pre1 : ∀ t, Steps p.tables e below (s₁.setTop (mkF m 3 #[.val (.ref a1), .val (.long q1), .second, .val (.long q2), .second, .val (.long q3), .second, .unset] [(.int (lcmpW q1 (0 : Int64)))])) t → Steps p.tables e below (s₁.setTop (entryFrame m #[(.ref a1), (.long q1), (.long q2), (.long q3)] 8)) t := by
    intro t k
    refine pre0 t ?_
    show Steps p.tables e below (s₁.setTop (mkF m 0 #[.val (.ref a1), .val (.long q1), .second, .val (.long q2), .second, .val (.long q3), .second, .unset] [])) _
    refine XS.lloadN X0.here hx rfl (hb hby d23_0) rfl ?_
    show Steps p.tables e below (s₁.setTop (mkF m 1 #[.val (.ref a1), .val (.long q1), .second, .val (.long q2), .second, .val (.long q3), .second, .unset] [(.long q1)])) _
    refine XS.lconst X0.here hx rfl (hb hby d23_1) ?_
    show Steps p.tables e below (s₁.setTop (mkF m 2 #[.val (.ref a1), .val (.long q1), .second, .val (.long q2), .second, .val (.long q3), .second, .unset] [(.long (0 : Int64)), (.long q1)])) _
    refine XS.lcmp X0.here hx rfl (hb hby d23_2) rfl ?_
    show Steps p.tables e below (s₁.setTop (mkF m 3 #[.val (.ref a1), .val (.long q1), .second, .val (.long q2), .second, .val (.long q3), .second, .unset] [(.int (lcmpW q1 (0 : Int64)))])) _
    exact k
  by_cases h3 : q1 = (0 : Int64)
  · skip
    have pre2 : ∀ t, Steps p.tables e below (s₁.setTop (mkF m 9 #[.val (.ref a1), .val (.long q1), .second, .val (.long q2), .second, .val (.long q3), .second, .unset] [(.int (lcmpW q2 (0 : Int64)))])) t → Steps p.tables e below (s₁.setTop (entryFrame m #[(.ref a1), (.long q1), (.long q2), (.long q3)] 8)) t := by
      intro t k
      refine pre1 t ?_
      refine XS.ifNo X0.here hx rfl (hb hby d23_3) rfl ((if0 _ _).trans (teq ((lw_eq q1 (0 : Int64)).mpr h3)).2) ?_
      show Steps p.tables e below (s₁.setTop (mkF m 6 #[.val (.ref a1), .val (.long q1), .second, .val (.long q2), .second, .val (.long q3), .second, .unset] [])) _
      refine XS.lloadN X0.here hx rfl (hb hby d23_6) rfl ?_
      show Steps p.tables e below (s₁.setTop (mkF m 7 #[.val (.ref a1), .val (.long q1), .second, .val (.long q2), .second, .val (.long q3), .second, .unset] [(.long q2)])) _
      refine XS.lconst X0.here hx rfl (hb hby d23_7) ?_
      show Steps p.tables e below (s₁.setTop (mkF m 8 #[.val (.ref a1), .val (.long q1), .second, .val (.long q2), .second, .val (.long q3), .second, .unset] [(.long (0 : Int64)), (.long q2)])) _
      refine XS.lcmp X0.here hx rfl (hb hby d23_8) rfl ?_
      show Steps p.tables e below (s₁.setTop (mkF m 9 #[.val (.ref a1), .val (.long q1), .second, .val (.long q2), .second, .val (.long q3), .second, .unset] [(.int (lcmpW q2 (0 : Int64)))])) _
      exact k
    by_cases h9 : q2 = (0 : Int64)
    · skip
      have pre3 : ∀ t, Steps p.tables e below (s₁.setTop (mkF m 16 #[.val (.ref a1), .val (.long q1), .second, .val (.long q2), .second, .val (.long q3), .second, .unset] [(.int (lcmpW q3 (0 : Int64)))])) t → Steps p.tables e below (s₁.setTop (entryFrame m #[(.ref a1), (.long q1), (.long q2), (.long q3)] 8)) t := by
        intro t k
        refine pre2 t ?_
        refine XS.ifNo X0.here hx rfl (hb hby d23_9) rfl ((if0 _ _).trans (teq ((lw_eq q2 (0 : Int64)).mpr h9)).2) ?_
        show Steps p.tables e below (s₁.setTop (mkF m 12 #[.val (.ref a1), .val (.long q1), .second, .val (.long q2), .second, .val (.long q3), .second, .unset] [])) _
        refine XS.lload X0.here hx rfl (hb hby d23_12) rfl ?_
        show Steps p.tables e below (s₁.setTop (mkF m 14 #[.val (.ref a1), .val (.long q1), .second, .val (.long q2), .second, .val (.long q3), .second, .unset] [(.long q3)])) _
        refine XS.lconst X0.here hx rfl (hb hby d23_14) ?_
        show Steps p.tables e below (s₁.setTop (mkF m 15 #[.val (.ref a1), .val (.long q1), .second, .val (.long q2), .second, .val (.long q3), .second, .unset] [(.long (0 : Int64)), (.long q3)])) _
        refine XS.lcmp X0.here hx rfl (hb hby d23_15) rfl ?_
        show Steps p.tables e below (s₁.setTop (mkF m 16 #[.val (.ref a1), .val (.long q1), .second, .val (.long q2), .second, .val (.long q3), .second, .unset] [(.int (lcmpW q3 (0 : Int64)))])) _
        exact k
      by_cases h16 : q3 = (0 : Int64)
      · skip
        have pre4 : ∀ t, Steps p.tables e below (s₁.setTop (mkF m 20 #[.val (.ref a1), .val (.long q1), .second, .val (.long q2), .second, .val (.long q3), .second, .unset] [(.ref a1)])) t → Steps p.tables e below (s₁.setTop (entryFrame m #[(.ref a1), (.long q1), (.long q2), (.long q3)] 8)) t := by
          intro t k
          refine pre3 t ?_
          refine XS.ifNo X0.here hx rfl (hb hby d23_16) rfl ((if0 _ _).trans (teq ((lw_eq q3 (0 : Int64)).mpr h16)).2) ?_
          show Steps p.tables e below (s₁.setTop (mkF m 19 #[.val (.ref a1), .val (.long q1), .second, .val (.long q2), .second, .val (.long q3), .second, .unset] [])) _
          refine XS.aloadN X0.here hx rfl (hb hby d23_19) rfl (rfl) ?_
          show Steps p.tables e below (s₁.setTop (mkF m 20 #[.val (.ref a1), .val (.long q1), .second, .val (.long q2), .second, .val (.long q3), .second, .unset] [(.ref a1)])) _
          exact k
        obtain ⟨fs, hr, hrun, hended, hW, hsame⟩ := X0.leave (v := some (.ref a1)) (fun h => by rw [Bd.returns] at h; cases h)
        refine ⟨_, _, pre4 _ ?_, hrun, hended, _, _, rfl, ?_, ⟨_, rfl⟩, hW, hsame.mono (by decide) (by decide)⟩
        · exact retOut X0 hx Bd.returns (by first | rfl | simp [narrow]) (Or.inr (Or.inr (Or.inr (Or.inr ⟨rfl, rfl, rfl⟩)))) (hb hby d23_20) hr
        · show Q_rmWE Z a1 q1 q2 q3 va vs ve vl vv vk x1 x2 x3 h0 n0 _ s₁.heap _
          rw [e0]
          exact ⟨rfl, N0, (Keep.refl h0 [a1]), E1, F0, F1, F2, F3, F4, F5⟩
      · skip
        obtain ⟨_, _, ⟨T5, L5, k5, n5⟩, -, X5, ⟨Lc5, hQ5, l5, y5, z5⟩, st5⟩ := Jvm.LawKit.callS X0 hx (y := (⟨"java/lang/Math", "min", "(JJ)J"⟩ : MethodName)) hown (mvT hZ (hw _ (List.mem_of_getElem? (i := 164) rfl))) (mvT hZ (hw _ (List.mem_of_getElem? (i := 165) rfl))) (mvT hZ (hw _ (List.mem_of_getElem? (i := 46) rfl))) (mvT hZ (hw _ (List.mem_of_getElem? (i := 166) rfl))) (by decide) (backOf (W := 1) (rmN l Z a0 hw [] q1 (2147483647 : Int64)  h0 n0 Z0 ) hZ (hw _ (List.mem_of_getElem? (i := 166) rfl)) (hw _ (List.mem_of_getElem? (i := 46) rfl)) (by decide) (by decide)) (g := (mkF m 44 #[.val (.ref a1), .val (.long q1), .second, .val (.long q2), .second, .val (.long q3), .second, .val (.ref a1)] [(.long (2147483647 : Int64)), (.long q1), (.ref a1)])) rfl (by rw [hml]; rfl) (argsL := [(.long q1), (.long (2147483647 : Int64))]) (rest := [(.ref a1)]) (lenOf pd_8 rfl) rfl (by show 2 * 0 + _ ≤ _; exact Nat.le_of_eq rfl) (hb hby d23_44) (fun _ _ => ⟨rfl, e0, (by decide : 0 + 0 ≤ _), (by decide : 0 + 0 ≤ _)⟩)
        dsimp only [Pt.U, Pt.locs, Pt.cells, Pt.slots] at X5 l5 y5 z5 st5 hQ5
        subst l5 y5 z5
        obtain ⟨rfl, N5q, hq5⟩ := hQ5
        have N5 := Fr.app N0 N5q
        obtain ⟨T6, h6, X6, e6, W6, st6⟩ := putF X5 hx hZ hown (host := "") (Or.inl (hw _ (List.mem_of_getElem? (i := 167) rfl))) Via.refl hq5 F6 E1 (Or.inl (hw _ (List.mem_of_getElem? (i := 168) rfl))) (hw _ (List.mem_of_getElem? (i := 120) rfl)) (ty := .long) (by decide) rfl rfl (g := (mkF m 47 #[.val (.ref a1), .val (.long q1), .second, .val (.long q2), .second, .val (.long q3), .second, .val (.ref a1)] [(.long (own_minJ q1 (2147483647 : Int64))), (.ref a1)])) rfl rfl (hb hby d23_47)
        have Fw6 := F6.same W6
        have K6 : Keep h0 h6 [a1] := (Keep.refl h0 [a1]).wr W6 (Or.inl (List.mem_of_getElem? (i := 0) rfl))
        have N6 := Fr.snoc X6 N5 g_a1
        obtain ⟨_, _, ⟨T7, L7, k7, n7⟩, -, X7, ⟨Lc7, hQ7, l7, y7, z7⟩, st7⟩ := Jvm.LawKit.callS X6 hx (y := (⟨"java/lang/Math", "min", "(JJ)J"⟩ : MethodName)) hown (mvT hZ (hw _ (List.mem_of_getElem? (i := 164) rfl))) (mvT hZ (hw _ (List.mem_of_getElem? (i := 165) rfl))) (mvT hZ (hw _ (List.mem_of_getElem? (i := 46) rfl))) (mvT hZ (hw _ (List.mem_of_getElem? (i := 166) rfl))) (by decide) (backOf (W := 1) (rmN l Z a0 hw [] q2 (2147483647 : Int64)  h6 n0 (Nat.le_trans Z0 (Keep.of_wr W6).1) ) hZ (hw _ (List.mem_of_getElem? (i := 166) rfl)) (hw _ (List.mem_of_getElem? (i := 46) rfl)) (by decide) (by decide)) (g := (mkF m 56 #[.val (.ref a1), .val (.long q1), .second, .val (.long q2), .second, .val (.long q3), .second, .val (.ref a1)] [(.long (2147483647 : Int64)), (.long q2), (.ref a1)])) rfl (by rw [hml]; rfl) (argsL := [(.long q2), (.long (2147483647 : Int64))]) (rest := [(.ref a1)]) (lenOf pd_8 rfl) rfl (by show 2 * 0 + _ ≤ _; exact Nat.le_of_eq rfl) (hb hby d23_56) (fun _ _ => ⟨rfl, e6, (by decide : 0 + 0 ≤ _), (by decide : 0 + 0 ≤ _)⟩)
        dsimp only [Pt.U, Pt.locs, Pt.cells, Pt.slots] at X7 l7 y7 z7 st7 hQ7
        subst l7 y7 z7
        obtain ⟨rfl, N7q, hq7⟩ := hQ7
        have N7 := Fr.app N6 N7q
        obtain ⟨T8, h8, X8, e8, W8, st8⟩ := putF X7 hx hZ hown (host := "") (Or.inl (hw _ (List.mem_of_getElem? (i := 169) rfl))) Via.refl hq7 (F7.other W6 (Or.inr (slot_ne (Or.inl (hw _ (List.mem_of_getElem? (i := 170) rfl))) (Or.inl (hw _ (List.mem_of_getElem? (i := 168) rfl))) (by decide) (t := .long) (t' := .long) (by decide) (by decide)))) (E1.wr W6) (Or.inl (hw _ (List.mem_of_getElem? (i := 170) rfl))) (hw _ (List.mem_of_getElem? (i := 120) rfl)) (ty := .long) (by decide) rfl rfl (g := (mkF m 59 #[.val (.ref a1), .val (.long q1), .second, .val (.long q2), .second, .val (.long q3), .second, .val (.ref a1)] [(.long (own_minJ q2 (2147483647 : Int64))), (.ref a1)])) rfl rfl (hb hby d23_59)
        have Fw8 := (F7.other W6 (Or.inr (slot_ne (Or.inl (hw _ (List.mem_of_getElem? (i := 170) rfl))) (Or.inl (hw _ (List.mem_of_getElem? (i := 168) rfl))) (by decide) (t := .long) (t' := .long) (by decide) (by decide)))).same W8
        have K8 : Keep h0 h8 [a1] := K6.wr W8 (Or.inl (List.mem_of_getElem? (i := 0) rfl))
        have N8 := Fr.snoc X8 N7 g_a1
        obtain ⟨_, _, ⟨T9, L9, k9, n9⟩, -, X9, ⟨Lc9, hQ9, l9, y9, z9⟩, st9⟩ := Jvm.LawKit.callS X8 hx (y := (⟨"java/lang/Math", "min", "(JJ)J"⟩ : MethodName)) hown (mvT hZ (hw _ (List.mem_of_getElem? (i := 164) rfl))) (mvT hZ (hw _ (List.mem_of_getElem? (i := 165) rfl))) (mvT hZ (hw _ (List.mem_of_getElem? (i := 46) rfl))) (mvT hZ (hw _ (List.mem_of_getElem? (i := 166) rfl))) (by decide) (backOf (W := 1) (rmN l Z a0 hw [] q3 (2147483647 : Int64)  h8 n0 (Nat.le_trans (Nat.le_trans Z0 (Keep.of_wr W6).1) (Keep.of_wr W8).1) ) hZ (hw _ (List.mem_of_getElem? (i := 166) rfl)) (hw _ (List.mem_of_getElem? (i := 46) rfl)) (by decide) (by decide)) (g := (mkF m 69 #[.val (.ref a1), .val (.long q1), .second, .val (.long q2), .second, .val (.long q3), .second, .val (.ref a1)] [(.long (2147483647 : Int64)), (.long q3), (.ref a1)])) rfl (by rw [hml]; rfl) (argsL := [(.long q3), (.long (2147483647 : Int64))]) (rest := [(.ref a1)]) (lenOf pd_8 rfl) rfl (by show 2 * 0 + _ ≤ _; exact Nat.le_of_eq rfl) (hb hby d23_69) (fun _ _ => ⟨rfl, e8, (by decide : 0 + 0 ≤ _), (by decide : 0 + 0 ≤ _)⟩)
        dsimp only [Pt.U, Pt.locs, Pt.cells, Pt.slots] at X9 l9 y9 z9 st9 hQ9
        subst l9 y9 z9
        obtain ⟨rfl, N9q, hq9⟩ := hQ9
        have N9 := Fr.app N8 N9q
        obtain ⟨T10, h10, X10, e10, W10, st10⟩ := putF X9 hx hZ hown (host := "") (Or.inl (hw _ (List.mem_of_getElem? (i := 171) rfl))) Via.refl hq9 ((F8.other W6 (Or.inr (slot_ne (Or.inl (hw _ (List.mem_of_getElem? (i := 172) rfl))) (Or.inl (hw _ (List.mem_of_getElem? (i := 168) rfl))) (by decide) (t := .long) (t' := .long) (by decide) (by decide)))).other W8 (Or.inr (slot_ne (Or.inl (hw _ (List.mem_of_getElem? (i := 172) rfl))) (Or.inl (hw _ (List.mem_of_getElem? (i := 170) rfl))) (by decide) (t := .long) (t' := .long) (by decide) (by decide)))) ((E1.wr W6).wr W8) (Or.inl (hw _ (List.mem_of_getElem? (i := 172) rfl))) (hw _ (List.mem_of_getElem? (i := 120) rfl)) (ty := .long) (by decide) rfl rfl (g := (mkF m 72 #[.val (.ref a1), .val (.long q1), .second, .val (.long q2), .second, .val (.long q3), .second, .val (.ref a1)] [(.long (own_minJ q3 (2147483647 : Int64))), (.ref a1)])) rfl rfl (hb hby d23_72)
        have Fw10 := ((F8.other W6 (Or.inr (slot_ne (Or.inl (hw _ (List.mem_of_getElem? (i := 172) rfl))) (Or.inl (hw _ (List.mem_of_getElem? (i := 168) rfl))) (by decide) (t := .long) (t' := .long) (by decide) (by decide)))).other W8 (Or.inr (slot_ne (Or.inl (hw _ (List.mem_of_getElem? (i := 172) rfl))) (Or.inl (hw _ (List.mem_of_getElem? (i := 170) rfl))) (by decide) (t := .long) (t' := .long) (by decide) (by decide)))).same W10
        have K10 : Keep h0 h10 [a1] := K8.wr W10 (Or.inl (List.mem_of_getElem? (i := 0) rfl))
        have N10 := Fr.snoc X10 N9 g_a1
        have pre11 : ∀ t, Steps p.tables e below (T10.setTop (mkF m 77 #[.val (.ref a1), .val (.long q1), .second, .val (.long q2), .second, .val (.long q3), .second, .val (.ref a1)] [(.ref a1)])) t → Steps p.tables e below (s₁.setTop (entryFrame m #[(.ref a1), (.long q1), (.long q2), (.long q3)] 8)) t := by
          intro t k
          refine pre3 t ?_
          refine XS.ifYes X0.here hx rfl (pc0 := 16) (pc' := 21) rfl (hb hby d23_16) rfl ((if0 _ _).trans (feq (mt (lw_eq q3 (0 : Int64)).mp h16)).2) (by decide) (by decide) ?_
          show Steps p.tables e below (s₁.setTop (mkF m 21 #[.val (.ref a1), .val (.long q1), .second, .val (.long q2), .second, .val (.long q3), .second, .unset] [])) _
          refine XS.aloadN X0.here hx rfl (hb hby d23_21) rfl (rfl) ?_
          show Steps p.tables e below (s₁.setTop (mkF m 22 #[.val (.ref a1), .val (.long q1), .second, .val (.long q2), .second, .val (.long q3), .second, .unset] [(.ref a1)])) _
          refine XS.ifnonnullYes X0.here hx rfl (pc0 := 22) (pc' := 35) rfl (hb hby d23_22) rfl (by decide) (by decide) ?_
          show Steps p.tables e below (s₁.setTop (mkF m 35 #[.val (.ref a1), .val (.long q1), .second, .val (.long q2), .second, .val (.long q3), .second, .unset] [])) _
          refine XS.aloadN X0.here hx rfl (hb hby d23_35) rfl (rfl) ?_
          show Steps p.tables e below (s₁.setTop (mkF m 36 #[.val (.ref a1), .val (.long q1), .second, .val (.long q2), .second, .val (.long q3), .second, .unset] [(.ref a1)])) _
          refine XS.astore X0.here hx rfl (hb hby d23_36) rfl (rfl) (l' := #[.val (.ref a1), .val (.long q1), .second, .val (.long q2), .second, .val (.long q3), .second, .val (.ref a1)]) rfl ?_
          show Steps p.tables e below (s₁.setTop (mkF m 38 #[.val (.ref a1), .val (.long q1), .second, .val (.long q2), .second, .val (.long q3), .second, .val (.ref a1)] [])) _
          refine XS.aload X0.here hx rfl (hb hby d23_38) rfl (rfl) ?_
          show Steps p.tables e below (s₁.setTop (mkF m 40 #[.val (.ref a1), .val (.long q1), .second, .val (.long q2), .second, .val (.long q3), .second, .val (.ref a1)] [(.ref a1)])) _
          refine XS.lloadN X0.here hx rfl (hb hby d23_40) rfl ?_
          show Steps p.tables e below (s₁.setTop (mkF m 41 #[.val (.ref a1), .val (.long q1), .second, .val (.long q2), .second, .val (.long q3), .second, .val (.ref a1)] [(.long q1), (.ref a1)])) _
          refine X0.ldc2Long hx hown (mvT hZ (hw _ (List.mem_of_getElem? (i := 163) rfl))) (g := (mkF m 41 #[.val (.ref a1), .val (.long q1), .second, .val (.long q2), .second, .val (.long q3), .second, .val (.ref a1)] [(.long q1), (.ref a1)])) rfl (hb hby d23_41) _ ?_
          show Steps p.tables e below (s₁.setTop (mkF m 44 #[.val (.ref a1), .val (.long q1), .second, .val (.long q2), .second, .val (.long q3), .second, .val (.ref a1)] [(.long (2147483647 : Int64)), (.long q1), (.ref a1)])) _
          refine st5 _ ?_
          show Steps p.tables e below (T5.setTop (mkF m 47 #[.val (.ref a1), .val (.long q1), .second, .val (.long q2), .second, .val (.long q3), .second, .val (.ref a1)] [(.long (own_minJ q1 (2147483647 : Int64))), (.ref a1)])) _
          refine st6 _ ?_
          show Steps p.tables e below (T6.setTop (mkF m 50 #[.val (.ref a1), .val (.long q1), .second, .val (.long q2), .second, .val (.long q3), .second, .val (.ref a1)] [])) _
          refine XS.aload X6.here hx rfl (hb hby d23_50) rfl (rfl) ?_
          show Steps p.tables e below (T6.setTop (mkF m 52 #[.val (.ref a1), .val (.long q1), .second, .val (.long q2), .second, .val (.long q3), .second, .val (.ref a1)] [(.ref a1)])) _
          refine XS.lloadN X6.here hx rfl (hb hby d23_52) rfl ?_
          show Steps p.tables e below (T6.setTop (mkF m 53 #[.val (.ref a1), .val (.long q1), .second, .val (.long q2), .second, .val (.long q3), .second, .val (.ref a1)] [(.long q2), (.ref a1)])) _
          refine X6.ldc2Long hx hown (mvT hZ (hw _ (List.mem_of_getElem? (i := 163) rfl))) (g := (mkF m 53 #[.val (.ref a1), .val (.long q1), .second, .val (.long q2), .second, .val (.long q3), .second, .val (.ref a1)] [(.long q2), (.ref a1)])) rfl (hb hby d23_53) _ ?_
          show Steps p.tables e below (T6.setTop (mkF m 56 #[.val (.ref a1), .val (.long q1), .second, .val (.long q2), .second, .val (.long q3), .second, .val (.ref a1)] [(.long (2147483647 : Int64)), (.long q2), (.ref a1)])) _
          refine st7 _ ?_
          show Steps p.tables e below (T7.setTop (mkF m 59 #[.val (.ref a1), .val (.long q1), .second, .val (.long q2), .second, .val (.long q3), .second, .val (.ref a1)] [(.long (own_minJ q2 (2147483647 : Int64))), (.ref a1)])) _
          refine st8 _ ?_
          show Steps p.tables e below (T8.setTop (mkF m 62 #[.val (.ref a1), .val (.long q1), .second, .val (.long q2), .second, .val (.long q3), .second, .val (.ref a1)] [])) _
          refine XS.aload X8.here hx rfl (hb hby d23_62) rfl (rfl) ?_
          show Steps p.tables e below (T8.setTop (mkF m 64 #[.val (.ref a1), .val (.long q1), .second, .val (.long q2), .second, .val (.long q3), .second, .val (.ref a1)] [(.ref a1)])) _
          refine XS.lload X8.here hx rfl (hb hby d23_64) rfl ?_
          show Steps p.tables e below (T8.setTop (mkF m 66 #[.val (.ref a1), .val (.long q1), .second, .val (.long q2), .second, .val (.long q3), .second, .val (.ref a1)] [(.long q3), (.ref a1)])) _
          refine X8.ldc2Long hx hown (mvT hZ (hw _ (List.mem_of_getElem? (i := 163) rfl))) (g := (mkF m 66 #[.val (.ref a1), .val (.long q1), .second, .val (.long q2), .second, .val (.long q3), .second, .val (.ref a1)] [(.long q3), (.ref a1)])) rfl (hb hby d23_66) _ ?_
          show Steps p.tables e below (T8.setTop (mkF m 69 #[.val (.ref a1), .val (.long q1), .second, .val (.long q2), .second, .val (.long q3), .second, .val (.ref a1)] [(.long (2147483647 : Int64)), (.long q3), (.ref a1)])) _
          refine st9 _ ?_
          show Steps p.tables e below (T9.setTop (mkF m 72 #[.val (.ref a1), .val (.long q1), .second, .val (.long q2), .second, .val (.long q3), .second, .val (.ref a1)] [(.long (own_minJ q3 (2147483647 : Int64))), (.ref a1)])) _
          refine st10 _ ?_
          show Steps p.tables e below (T10.setTop (mkF m 75 #[.val (.ref a1), .val (.long q1), .second, .val (.long q2), .second, .val (.long q3), .second, .val (.ref a1)] [])) _
          refine XS.aload X10.here hx rfl (hb hby d23_75) rfl (rfl) ?_
          show Steps p.tables e below (T10.setTop (mkF m 77 #[.val (.ref a1), .val (.long q1), .second, .val (.long q2), .second, .val (.long q3), .second, .val (.ref a1)] [(.ref a1)])) _
          exact k
        obtain ⟨fs, hr, hrun, hended, hW, hsame⟩ := X10.leave (v := some (.ref a1)) (fun h => by rw [Bd.returns] at h; cases h)
        refine ⟨_, _, pre11 _ ?_, hrun, hended, _, _, rfl, ?_, ⟨_, rfl⟩, hW, hsame.mono (by decide) (by decide)⟩
        · exact retOut X10 hx Bd.returns (by first | rfl | simp [narrow]) (Or.inr (Or.inr (Or.inr (Or.inr ⟨rfl, rfl, rfl⟩)))) (hb hby d23_77) hr
        · show Q_rmWE Z a1 q1 q2 q3 va vs ve vl vv vk x1 x2 x3 h0 n0 _ T10.heap _
          rw [e10]
          exact ⟨rfl, N10, K10, (((E1.wr W6).wr W8).wr W10), (((F0.other W6 (Or.inr (slot_ne (Or.inl (hw _ (List.mem_of_getElem? (i := 126) rfl))) (Or.inl (hw _ (List.mem_of_getElem? (i := 168) rfl))) (by decide) (t := .long) (t' := .long) (by decide) (by decide)))).other W8 (Or.inr (slot_ne (Or.inl (hw _ (List.mem_of_getElem? (i := 126) rfl))) (Or.inl (hw _ (List.mem_of_getElem? (i := 170) rfl))) (by decide) (t := .long) (t' := .long) (by decide) (by decide)))).other W10 (Or.inr (slot_ne (Or.inl (hw _ (List.mem_of_getElem? (i := 126) rfl))) (Or.inl (hw _ (List.mem_of_getElem? (i := 172) rfl))) (by decide) (t := .long) (t' := .long) (by decide) (by decide)))), (((F1.other W6 (Or.inr (slot_ne (Or.inl (hw _ (List.mem_of_getElem? (i := 138) rfl))) (Or.inl (hw _ (List.mem_of_getElem? (i := 168) rfl))) (by decide) (t := .long) (t' := .long) (by decide) (by decide)))).other W8 (Or.inr (slot_ne (Or.inl (hw _ (List.mem_of_getElem? (i := 138) rfl))) (Or.inl (hw _ (List.mem_of_getElem? (i := 170) rfl))) (by decide) (t := .long) (t' := .long) (by decide) (by decide)))).other W10 (Or.inr (slot_ne (Or.inl (hw _ (List.mem_of_getElem? (i := 138) rfl))) (Or.inl (hw _ (List.mem_of_getElem? (i := 172) rfl))) (by decide) (t := .long) (t' := .long) (by decide) (by decide)))), (((F2.other W6 (Or.inr (slot_ne (Or.inl (hw _ (List.mem_of_getElem? (i := 140) rfl))) (Or.inl (hw _ (List.mem_of_getElem? (i := 168) rfl))) (by decide) (t := .long) (t' := .long) (by decide) (by decide)))).other W8 (Or.inr (slot_ne (Or.inl (hw _ (List.mem_of_getElem? (i := 140) rfl))) (Or.inl (hw _ (List.mem_of_getElem? (i := 170) rfl))) (by decide) (t := .long) (t' := .long) (by decide) (by decide)))).other W10 (Or.inr (slot_ne (Or.inl (hw _ (List.mem_of_getElem? (i := 140) rfl))) (Or.inl (hw _ (List.mem_of_getElem? (i := 172) rfl))) (by decide) (t := .long) (t' := .long) (by decide) (by decide)))), (((F3.other W6 (Or.inr (slot_ne (Or.inl (hw _ (List.mem_of_getElem? (i := 128) rfl))) (Or.inl (hw _ (List.mem_of_getElem? (i := 168) rfl))) (by decide) (t := .long) (t' := .long) (by decide) (by decide)))).other W8 (Or.inr (slot_ne (Or.inl (hw _ (List.mem_of_getElem? (i := 128) rfl))) (Or.inl (hw _ (List.mem_of_getElem? (i := 170) rfl))) (by decide) (t := .long) (t' := .long) (by decide) (by decide)))).other W10 (Or.inr (slot_ne (Or.inl (hw _ (List.mem_of_getElem? (i := 128) rfl))) (Or.inl (hw _ (List.mem_of_getElem? (i := 172) rfl))) (by decide) (t := .long) (t' := .long) (by decide) (by decide)))), (((F4.other W6 (Or.inr (slot_ne (Or.inl (hw _ (List.mem_of_getElem? (i := 144) rfl))) (Or.inl (hw _ (List.mem_of_getElem? (i := 168) rfl))) (by decide) (t := .long) (t' := .long) (by decide) (by decide)))).other W8 (Or.inr (slot_ne (Or.inl (hw _ (List.mem_of_getElem? (i := 144) rfl))) (Or.inl (hw _ (List.mem_of_getElem? (i := 170) rfl))) (by decide) (t := .long) (t' := .long) (by decide) (by decide)))).other W10 (Or.inr (slot_ne (Or.inl (hw _ (List.mem_of_getElem? (i := 144) rfl))) (Or.inl (hw _ (List.mem_of_getElem? (i := 172) rfl))) (by decide) (t := .long) (t' := .long) (by decide) (by decide)))), (((F5.other W6 (Or.inr (slot_ne (Or.inl (hw _ (List.mem_of_getElem? (i := 130) rfl))) (Or.inl (hw _ (List.mem_of_getElem? (i := 168) rfl))) (by decide) (t := .long) (t' := .long) (by decide) (by decide)))).other W8 (Or.inr (slot_ne (Or.inl (hw _ (List.mem_of_getElem? (i := 130) rfl))) (Or.inl (hw _ (List.mem_of_getElem? (i := 170) rfl))) (by decide) (t := .long) (t' := .long) (by decide) (by decide)))).other W10 (Or.inr (slot_ne (Or.inl (hw _ (List.mem_of_getElem? (i := 130) rfl))) (Or.inl (hw _ (List.mem_of_getElem? (i := 172) rfl))) (by decide) (t := .long) (t' := .long) (by decide) (by decide))))⟩
    · skip
      obtain ⟨_, _, ⟨T12, L12, k12, n12⟩, -, X12, ⟨Lc12, hQ12, l12, y12, z12⟩, st12⟩ := Jvm.LawKit.callS X0 hx (y := (⟨"java/lang/Math", "min", "(JJ)J"⟩ : MethodName)) hown (mvT hZ (hw _ (List.mem_of_getElem? (i := 164) rfl))) (mvT hZ (hw _ (List.mem_of_getElem? (i := 165) rfl))) (mvT hZ (hw _ (List.mem_of_getElem? (i := 46) rfl))) (mvT hZ (hw _ (List.mem_of_getElem? (i := 166) rfl))) (by decide) (backOf (W := 1) (rmN l Z a0 hw [] q1 (2147483647 : Int64)  h0 n0 Z0 ) hZ (hw _ (List.mem_of_getElem? (i := 166) rfl)) (hw _ (List.mem_of_getElem? (i := 46) rfl)) (by decide) (by decide)) (g := (mkF m 44 #[.val (.ref a1), .val (.long q1), .second, .val (.long q2), .second, .val (.long q3), .second, .val (.ref a1)] [(.long (2147483647 : Int64)), (.long q1), (.ref a1)])) rfl (by rw [hml]; rfl) (argsL := [(.long q1), (.long (2147483647 : Int64))]) (rest := [(.ref a1)]) (lenOf pd_8 rfl) rfl (by show 2 * 0 + _ ≤ _; exact Nat.le_of_eq rfl) (hb hby d23_44) (fun _ _ => ⟨rfl, e0, (by decide : 0 + 0 ≤ _), (by decide : 0 + 0 ≤ _)⟩)
      dsimp only [Pt.U, Pt.locs, Pt.cells, Pt.slots] at X12 l12 y12 z12 st12 hQ12
      subst l12 y12 z12
      obtain ⟨rfl, N12q, hq12⟩ := hQ12
      have N12 := Fr.app N0 N12q
      obtain ⟨T13, h13, X13, e13, W13, st13⟩ := putF X12 hx hZ hown (host := "") (Or.inl (hw _ (List.mem_of_getElem? (i := 167) rfl))) Via.refl hq12 F6 E1 (Or.inl (hw _ (List.mem_of_getElem? (i := 168) rfl))) (hw _ (List.mem_of_getElem? (i := 120) rfl)) (ty := .long) (by decide) rfl rfl (g := (mkF m 47 #[.val (.ref a1), .val (.long q1), .second, .val (.long q2), .second, .val (.long q3), .second, .val (.ref a1)] [(.long (own_minJ q1 (2147483647 : Int64))), (.ref a1)])) rfl rfl (hb hby d23_47)
      have Fw13 := F6.same W13
      have K13 : Keep h0 h13 [a1] := (Keep.refl h0 [a1]).wr W13 (Or.inl (List.mem_of_getElem? (i := 0) rfl))
      have N13 := Fr.snoc X13 N12 g_a1
      obtain ⟨_, _, ⟨T14, L14, k14, n14⟩, -, X14, ⟨Lc14, hQ14, l14, y14, z14⟩, st14⟩ := Jvm.LawKit.callS X13 hx (y := (⟨"java/lang/Math", "min", "(JJ)J"⟩ : MethodName)) hown (mvT hZ (hw _ (List.mem_of_getElem? (i := 164) rfl))) (mvT hZ (hw _ (List.mem_of_getElem? (i := 165) rfl))) (mvT hZ (hw _ (List.mem_of_getElem? (i := 46) rfl))) (mvT hZ (hw _ (List.mem_of_getElem? (i := 166) rfl))) (by decide) (backOf (W := 1) (rmN l Z a0 hw [] q2 (2147483647 : Int64)  h13 n0 (Nat.le_trans Z0 (Keep.of_wr W13).1) ) hZ (hw _ (List.mem_of_getElem? (i := 166) rfl)) (hw _ (List.mem_of_getElem? (i := 46) rfl)) (by decide) (by decide)) (g := (mkF m 56 #[.val (.ref a1), .val (.long q1), .second, .val (.long q2), .second, .val (.long q3), .second, .val (.ref a1)] [(.long (2147483647 : Int64)), (.long q2), (.ref a1)])) rfl (by rw [hml]; rfl) (argsL := [(.long q2), (.long (2147483647 : Int64))]) (rest := [(.ref a1)]) (lenOf pd_8 rfl) rfl (by show 2 * 0 + _ ≤ _; exact Nat.le_of_eq rfl) (hb hby d23_56) (fun _ _ => ⟨rfl, e13, (by decide : 0 + 0 ≤ _), (by decide : 0 + 0 ≤ _)⟩)
      dsimp only [Pt.U, Pt.locs, Pt.cells, Pt.slots] at X14 l14 y14 z14 st14 hQ14
      subst l14 y14 z14
      obtain ⟨rfl, N14q, hq14⟩ := hQ14
      have N14 := Fr.app N13 N14q
      obtain ⟨T15, h15, X15, e15, W15, st15⟩ := putF X14 hx hZ hown (host := "") (Or.inl (hw _ (List.mem_of_getElem? (i := 169) rfl))) Via.refl hq14 (F7.other W13 (Or.inr (slot_ne (Or.inl (hw _ (List.mem_of_getElem? (i := 170) rfl))) (Or.inl (hw _ (List.mem_of_getElem? (i := 168) rfl))) (by decide) (t := .long) (t' := .long) (by decide) (by decide)))) (E1.wr W13) (Or.inl (hw _ (List.mem_of_getElem? (i := 170) rfl))) (hw _ (List.mem_of_getElem? (i := 120) rfl)) (ty := .long) (by decide) rfl rfl (g := (mkF m 59 #[.val (.ref a1), .val (.long q1), .second, .val (.long q2), .second, .val (.long q3), .second, .val (.ref a1)] [(.long (own_minJ q2 (2147483647 : Int64))), (.ref a1)])) rfl rfl (hb hby d23_59)
      have Fw15 := (F7.other W13 (Or.inr (slot_ne (Or.inl (hw _ (List.mem_of_getElem? (i := 170) rfl))) (Or.inl (hw _ (List.mem_of_getElem? (i := 168) rfl))) (by decide) (t := .long) (t' := .long) (by decide) (by decide)))).same W15
      have K15 : Keep h0 h15 [a1] := K13.wr W15 (Or.inl (List.mem_of_getElem? (i := 0) rfl))
      have N15 := Fr.snoc X15 N14 g_a1
      obtain ⟨_, _, ⟨T16, L16, k16, n16⟩, -, X16, ⟨Lc16, hQ16, l16, y16, z16⟩, st16⟩ := Jvm.LawKit.callS X15 hx (y := (⟨"java/lang/Math", "min", "(JJ)J"⟩ : MethodName)) hown (mvT hZ (hw _ (List.mem_of_getElem? (i := 164) rfl))) (mvT hZ (hw _ (List.mem_of_getElem? (i := 165) rfl))) (mvT hZ (hw _ (List.mem_of_getElem? (i := 46) rfl))) (mvT hZ (hw _ (List.mem_of_getElem? (i := 166) rfl))) (by decide) (backOf (W := 1) (rmN l Z a0 hw [] q3 (2147483647 : Int64)  h15 n0 (Nat.le_trans (Nat.le_trans Z0 (Keep.of_wr W13).1) (Keep.of_wr W15).1) ) hZ (hw _ (List.mem_of_getElem? (i := 166) rfl)) (hw _ (List.mem_of_getElem? (i := 46) rfl)) (by decide) (by decide)) (g := (mkF m 69 #[.val (.ref a1), .val (.long q1), .second, .val (.long q2), .second, .val (.long q3), .second, .val (.ref a1)] [(.long (2147483647 : Int64)), (.long q3), (.ref a1)])) rfl (by rw [hml]; rfl) (argsL := [(.long q3), (.long (2147483647 : Int64))]) (rest := [(.ref a1)]) (lenOf pd_8 rfl) rfl (by show 2 * 0 + _ ≤ _; exact Nat.le_of_eq rfl) (hb hby d23_69) (fun _ _ => ⟨rfl, e15, (by decide : 0 + 0 ≤ _), (by decide : 0 + 0 ≤ _)⟩)
      dsimp only [Pt.U, Pt.locs, Pt.cells, Pt.slots] at X16 l16 y16 z16 st16 hQ16
      subst l16 y16 z16
      obtain ⟨rfl, N16q, hq16⟩ := hQ16
      have N16 := Fr.app N15 N16q
      obtain ⟨T17, h17, X17, e17, W17, st17⟩ := putF X16 hx hZ hown (host := "") (Or.inl (hw _ (List.mem_of_getElem? (i := 171) rfl))) Via.refl hq16 ((F8.other W13 (Or.inr (slot_ne (Or.inl (hw _ (List.mem_of_getElem? (i := 172) rfl))) (Or.inl (hw _ (List.mem_of_getElem? (i := 168) rfl))) (by decide) (t := .long) (t' := .long) (by decide) (by decide)))).other W15 (Or.inr (slot_ne (Or.inl (hw _ (List.mem_of_getElem? (i := 172) rfl))) (Or.inl (hw _ (List.mem_of_getElem? (i := 170) rfl))) (by decide) (t := .long) (t' := .long) (by decide) (by decide)))) ((E1.wr W13).wr W15) (Or.inl (hw _ (List.mem_of_getElem? (i := 172) rfl))) (hw _ (List.mem_of_getElem? (i := 120) rfl)) (ty := .long) (by decide) rfl rfl (g := (mkF m 72 #[.val (.ref a1), .val (.long q1), .second, .val (.long q2), .second, .val (.long q3), .second, .val (.ref a1)] [(.long (own_minJ q3 (2147483647 : Int64))), (.ref a1)])) rfl rfl (hb hby d23_72)
      have Fw17 := ((F8.other W13 (Or.inr (slot_ne (Or.inl (hw _ (List.mem_of_getElem? (i := 172) rfl))) (Or.inl (hw _ (List.mem_of_getElem? (i := 168) rfl))) (by decide) (t := .long) (t' := .long) (by decide) (by decide)))).other W15 (Or.inr (slot_ne (Or.inl (hw _ (List.mem_of_getElem? (i := 172) rfl))) (Or.inl (hw _ (List.mem_of_getElem? (i := 170) rfl))) (by decide) (t := .long) (t' := .long) (by decide) (by decide)))).same W17
      have K17 : Keep h0 h17 [a1] := K15.wr W17 (Or.inl (List.mem_of_getElem? (i := 0) rfl))
      have N17 := Fr.snoc X17 N16 g_a1
      have pre18 : ∀ t, Steps p.tables e below (T17.setTop (mkF m 77 #[.val (.ref a1), .val (.long q1), .second, .val (.long q2), .second, .val (.long q3), .second, .val (.ref a1)] [(.ref a1)])) t → Steps p.tables e below (s₁.setTop (entryFrame m #[(.ref a1), (.long q1), (.long q2), (.long q3)] 8)) t := by
        intro t k
        refine pre2 t ?_
        refine XS.ifYes X0.here hx rfl (pc0 := 9) (pc' := 21) rfl (hb hby d23_9) rfl ((if0 _ _).trans (feq (mt (lw_eq q2 (0 : Int64)).mp h9)).2) (by decide) (by decide) ?_
        show Steps p.tables e below (s₁.setTop (mkF m 21 #[.val (.ref a1), .val (.long q1), .second, .val (.long q2), .second, .val (.long q3), .second, .unset] [])) _
        refine XS.aloadN X0.here hx rfl (hb hby d23_21) rfl (rfl) ?_
        show Steps p.tables e below (s₁.setTop (mkF m 22 #[.val (.ref a1), .val (.long q1), .second, .val (.long q2), .second, .val (.long q3), .second, .unset] [(.ref a1)])) _
        refine XS.ifnonnullYes X0.here hx rfl (pc0 := 22) (pc' := 35) rfl (hb hby d23_22) rfl (by decide) (by decide) ?_
        show Steps p.tables e below (s₁.setTop (mkF m 35 #[.val (.ref a1), .val (.long q1), .second, .val (.long q2), .second, .val (.long q3), .second, .unset] [])) _
        refine XS.aloadN X0.here hx rfl (hb hby d23_35) rfl (rfl) ?_
        show Steps p.tables e below (s₁.setTop (mkF m 36 #[.val (.ref a1), .val (.long q1), .second, .val (.long q2), .second, .val (.long q3), .second, .unset] [(.ref a1)])) _
        refine XS.astore X0.here hx rfl (hb hby d23_36) rfl (rfl) (l' := #[.val (.ref a1), .val (.long q1), .second, .val (.long q2), .second, .val (.long q3), .second, .val (.ref a1)]) rfl ?_
        show Steps p.tables e below (s₁.setTop (mkF m 38 #[.val (.ref a1), .val (.long q1), .second, .val (.long q2), .second, .val (.long q3), .second, .val (.ref a1)] [])) _
        refine XS.aload X0.here hx rfl (hb hby d23_38) rfl (rfl) ?_
        show Steps p.tables e below (s₁.setTop (mkF m 40 #[.val (.ref a1), .val (.long q1), .second, .val (.long q2), .second, .val (.long q3), .second, .val (.ref a1)] [(.ref a1)])) _
        refine XS.lloadN X0.here hx rfl (hb hby d23_40) rfl ?_
        show Steps p.tables e below (s₁.setTop (mkF m 41 #[.val (.ref a1), .val (.long q1), .second, .val (.long q2), .second, .val (.long q3), .second, .val (.ref a1)] [(.long q1), (.ref a1)])) _
        refine X0.ldc2Long hx hown (mvT hZ (hw _ (List.mem_of_getElem? (i := 163) rfl))) (g := (mkF m 41 #[.val (.ref a1), .val (.long q1), .second, .val (.long q2), .second, .val (.long q3), .second, .val (.ref a1)] [(.long q1), (.ref a1)])) rfl (hb hby d23_41) _ ?_
        show Steps p.tables e below (s₁.setTop (mkF m 44 #[.val (.ref a1), .val (.long q1), .second, .val (.long q2), .second, .val (.long q3), .second, .val (.ref a1)] [(.long (2147483647 : Int64)), (.long q1), (.ref a1)])) _
        refine st12 _ ?_
        show Steps p.tables e below (T12.setTop (mkF m 47 #[.val (.ref a1), .val (.long q1), .second, .val (.long q2), .second, .val (.long q3), .second, .val (.ref a1)] [(.long (own_minJ q1 (2147483647 : Int64))), (.ref a1)])) _
        refine st13 _ ?_
        show Steps p.tables e below (T13.setTop (mkF m 50 #[.val (.ref a1), .val (.long q1), .second, .val (.long q2), .second, .val (.long q3), .second, .val (.ref a1)] [])) _
        refine XS.aload X13.here hx rfl (hb hby d23_50) rfl (rfl) ?_
        show Steps p.tables e below (T13.setTop (mkF m 52 #[.val (.ref a1), .val (.long q1), .second, .val (.long q2), .second, .val (.long q3), .second, .val (.ref a1)] [(.ref a1)])) _
        refine XS.lloadN X13.here hx rfl (hb hby d23_52) rfl ?_
        show Steps p.tables e below (T13.setTop (mkF m 53 #[.val (.ref a1), .val (.long q1), .second, .val (.long q2), .second, .val (.long q3), .second, .val (.ref a1)] [(.long q2), (.ref a1)])) _
        refine X13.ldc2Long hx hown (mvT hZ (hw _ (List.mem_of_getElem? (i := 163) rfl))) (g := (mkF m 53 #[.val (.ref a1), .val (.long q1), .second, .val (.long q2), .second, .val (.long q3), .second, .val (.ref a1)] [(.long q2), (.ref a1)])) rfl (hb hby d23_53) _ ?_
        show Steps p.tables e below (T13.setTop (mkF m 56 #[.val (.ref a1), .val (.long q1), .second, .val (.long q2), .second, .val (.long q3), .second, .val (.ref a1)] [(.long (2147483647 : Int64)), (.long q2), (.ref a1)])) _
        refine st14 _ ?_
        show Steps p.tables e below (T14.setTop (mkF m 59 #[.val (.ref a1), .val (.long q1), .second, .val (.long q2), .second, .val (.long q3), .second, .val (.ref a1)] [(.long (own_minJ q2 (2147483647 : Int64))), (.ref a1)])) _
        refine st15 _ ?_
        show Steps p.tables e below (T15.setTop (mkF m 62 #[.val (.ref a1), .val (.long q1), .second, .val (.long q2), .second, .val (.long q3), .second, .val (.ref a1)] [])) _
        refine XS.aload X15.here hx rfl (hb hby d23_62) rfl (rfl) ?_
        show Steps p.tables e below (T15.setTop (mkF m 64 #[.val (.ref a1), .val (.long q1), .second, .val (.long q2), .second, .val (.long q3), .second, .val (.ref a1)] [(.ref a1)])) _
        refine XS.lload X15.here hx rfl (hb hby d23_64) rfl ?_
        show Steps p.tables e below (T15.setTop (mkF m 66 #[.val (.ref a1), .val (.long q1), .second, .val (.long q2), .second, .val (.long q3), .second, .val (.ref a1)] [(.long q3), (.ref a1)])) _
        refine X15.ldc2Long hx hown (mvT hZ (hw _ (List.mem_of_getElem? (i := 163) rfl))) (g := (mkF m 66 #[.val (.ref a1), .val (.long q1), .second, .val (.long q2), .second, .val (.long q3), .second, .val (.ref a1)] [(.long q3), (.ref a1)])) rfl (hb hby d23_66) _ ?_
        show Steps p.tables e below (T15.setTop (mkF m 69 #[.val (.ref a1), .val (.long q1), .second, .val (.long q2), .second, .val (.long q3), .second, .val (.ref a1)] [(.long (2147483647 : Int64)), (.long q3), (.ref a1)])) _
        refine st16 _ ?_
        show Steps p.tables e below (T16.setTop (mkF m 72 #[.val (.ref a1), .val (.long q1), .second, .val (.long q2), .second, .val (.long q3), .second, .val (.ref a1)] [(.long (own_minJ q3 (2147483647 : Int64))), (.ref a1)])) _
        refine st17 _ ?_
        show Steps p.tables e below (T17.setTop (mkF m 75 #[.val (.ref a1), .val (.long q1), .second, .val (.long q2), .second, .val (.long q3), .second, .val (.ref a1)] [])) _
        refine XS.aload X17.here hx rfl (hb hby d23_75) rfl (rfl) ?_
        show Steps p.tables e below (T17.setTop (mkF m 77 #[.val (.ref a1), .val (.long q1), .second, .val (.long q2), .second, .val (.long q3), .second, .val (.ref a1)] [(.ref a1)])) _
        exact k
      obtain ⟨fs, hr, hrun, hended, hW, hsame⟩ := X17.leave (v := some (.ref a1)) (fun h => by rw [Bd.returns] at h; cases h)
      refine ⟨_, _, pre18 _ ?_, hrun, hended, _, _, rfl, ?_, ⟨_, rfl⟩, hW, hsame.mono (by decide) (by decide)⟩
      · exact retOut X17 hx Bd.returns (by first | rfl | simp [narrow]) (Or.inr (Or.inr (Or.inr (Or.inr ⟨rfl, rfl, rfl⟩)))) (hb hby d23_77) hr
      · show Q_rmWE Z a1 q1 q2 q3 va vs ve vl vv vk x1 x2 x3 h0 n0 _ T17.heap _
        rw [e17]
        exact ⟨rfl, N17, K17, (((E1.wr W13).wr W15).wr W17), (((F0.other W13 (Or.inr (slot_ne (Or.inl (hw _ (List.mem_of_getElem? (i := 126) rfl))) (Or.inl (hw _ (List.mem_of_getElem? (i := 168) rfl))) (by decide) (t := .long) (t' := .long) (by decide) (by decide)))).other W15 (Or.inr (slot_ne (Or.inl (hw _ (List.mem_of_getElem? (i := 126) rfl))) (Or.inl (hw _ (List.mem_of_getElem? (i := 170) rfl))) (by decide) (t := .long) (t' := .long) (by decide) (by decide)))).other W17 (Or.inr (slot_ne (Or.inl (hw _ (List.mem_of_getElem? (i := 126) rfl))) (Or.inl (hw _ (List.mem_of_getElem? (i := 172) rfl))) (by decide) (t := .long) (t' := .long) (by decide) (by decide)))), (((F1.other W13 (Or.inr (slot_ne (Or.inl (hw _ (List.mem_of_getElem? (i := 138) rfl))) (Or.inl (hw _ (List.mem_of_getElem? (i := 168) rfl))) (by decide) (t := .long) (t' := .long) (by decide) (by decide)))).other W15 (Or.inr (slot_ne (Or.inl (hw _ (List.mem_of_getElem? (i := 138) rfl))) (Or.inl (hw _ (List.mem_of_getElem? (i := 170) rfl))) (by decide) (t := .long) (t' := .long) (by decide) (by decide)))).other W17 (Or.inr (slot_ne (Or.inl (hw _ (List.mem_of_getElem? (i := 138) rfl))) (Or.inl (hw _ (List.mem_of_getElem? (i := 172) rfl))) (by decide) (t := .long) (t' := .long) (by decide) (by decide)))), (((F2.other W13 (Or.inr (slot_ne (Or.inl (hw _ (List.mem_of_getElem? (i := 140) rfl))) (Or.inl (hw _ (List.mem_of_getElem? (i := 168) rfl))) (by decide) (t := .long) (t' := .long) (by decide) (by decide)))).other W15 (Or.inr (slot_ne (Or.inl (hw _ (List.mem_of_getElem? (i := 140) rfl))) (Or.inl (hw _ (List.mem_of_getElem? (i := 170) rfl))) (by decide) (t := .long) (t' := .long) (by decide) (by decide)))).other W17 (Or.inr (slot_ne (Or.inl (hw _ (List.mem_of_getElem? (i := 140) rfl))) (Or.inl (hw _ (List.mem_of_getElem? (i := 172) rfl))) (by decide) (t := .long) (t' := .long) (by decide) (by decide)))), (((F3.other W13 (Or.inr (slot_ne (Or.inl (hw _ (List.mem_of_getElem? (i := 128) rfl))) (Or.inl (hw _ (List.mem_of_getElem? (i := 168) rfl))) (by decide) (t := .long) (t' := .long) (by decide) (by decide)))).other W15 (Or.inr (slot_ne (Or.inl (hw _ (List.mem_of_getElem? (i := 128) rfl))) (Or.inl (hw _ (List.mem_of_getElem? (i := 170) rfl))) (by decide) (t := .long) (t' := .long) (by decide) (by decide)))).other W17 (Or.inr (slot_ne (Or.inl (hw _ (List.mem_of_getElem? (i := 128) rfl))) (Or.inl (hw _ (List.mem_of_getElem? (i := 172) rfl))) (by decide) (t := .long) (t' := .long) (by decide) (by decide)))), (((F4.other W13 (Or.inr (slot_ne (Or.inl (hw _ (List.mem_of_getElem? (i := 144) rfl))) (Or.inl (hw _ (List.mem_of_getElem? (i := 168) rfl))) (by decide) (t := .long) (t' := .long) (by decide) (by decide)))).other W15 (Or.inr (slot_ne (Or.inl (hw _ (List.mem_of_getElem? (i := 144) rfl))) (Or.inl (hw _ (List.mem_of_getElem? (i := 170) rfl))) (by decide) (t := .long) (t' := .long) (by decide) (by decide)))).other W17 (Or.inr (slot_ne (Or.inl (hw _ (List.mem_of_getElem? (i := 144) rfl))) (Or.inl (hw _ (List.mem_of_getElem? (i := 172) rfl))) (by decide) (t := .long) (t' := .long) (by decide) (by decide)))), (((F5.other W13 (Or.inr (slot_ne (Or.inl (hw _ (List.mem_of_getElem? (i := 130) rfl))) (Or.inl (hw _ (List.mem_of_getElem? (i := 168) rfl))) (by decide) (t := .long) (t' := .long) (by decide) (by decide)))).other W15 (Or.inr (slot_ne (Or.inl (hw _ (List.mem_of_getElem? (i := 130) rfl))) (Or.inl (hw _ (List.mem_of_getElem? (i := 170) rfl))) (by decide) (t := .long) (t' := .long) (by decide) (by decide)))).other W17 (Or.inr (slot_ne (Or.inl (hw _ (List.mem_of_getElem? (i := 130) rfl))) (Or.inl (hw _ (List.mem_of_getElem? (i := 172) rfl))) (by decide) (t := .long) (t' := .long) (by decide) (by decide))))⟩
  · skip
    obtain ⟨_, _, ⟨T19, L19, k19, n19⟩, -, X19, ⟨Lc19, hQ19, l19, y19, z19⟩, st19⟩ := Jvm.LawKit.callS X0 hx (y := (⟨"java/lang/Math", "min", "(JJ)J"⟩ : MethodName)) hown (mvT hZ (hw _ (List.mem_of_getElem? (i := 164) rfl))) (mvT hZ (hw _ (List.mem_of_getElem? (i := 165) rfl))) (mvT hZ (hw _ (List.mem_of_getElem? (i := 46) rfl))) (mvT hZ (hw _ (List.mem_of_getElem? (i := 166) rfl))) (by decide) (backOf (W := 1) (rmN l Z a0 hw [] q1 (2147483647 : Int64)  h0 n0 Z0 ) hZ (hw _ (List.mem_of_getElem? (i := 166) rfl)) (hw _ (List.mem_of_getElem? (i := 46) rfl)) (by decide) (by decide)) (g := (mkF m 44 #[.val (.ref a1), .val (.long q1), .second, .val (.long q2), .second, .val (.long q3), .second, .val (.ref a1)] [(.long (2147483647 : Int64)), (.long q1), (.ref a1)])) rfl (by rw [hml]; rfl) (argsL := [(.long q1), (.long (2147483647 : Int64))]) (rest := [(.ref a1)]) (lenOf pd_8 rfl) rfl (by show 2 * 0 + _ ≤ _; exact Nat.le_of_eq rfl) (hb hby d23_44) (fun _ _ => ⟨rfl, e0, (by decide : 0 + 0 ≤ _), (by decide : 0 + 0 ≤ _)⟩)
    dsimp only [Pt.U, Pt.locs, Pt.cells, Pt.slots] at X19 l19 y19 z19 st19 hQ19
    subst l19 y19 z19
    obtain ⟨rfl, N19q, hq19⟩ := hQ19
    have N19 := Fr.app N0 N19q
    obtain ⟨T20, h20, X20, e20, W20, st20⟩ := putF X19 hx hZ hown (host := "") (Or.inl (hw _ (List.mem_of_getElem? (i := 167) rfl))) Via.refl hq19 F6 E1 (Or.inl (hw _ (List.mem_of_getElem? (i := 168) rfl))) (hw _ (List.mem_of_getElem? (i := 120) rfl)) (ty := .long) (by decide) rfl rfl (g := (mkF m 47 #[.val (.ref a1), .val (.long q1), .second, .val (.long q2), .second, .val (.long q3), .second, .val (.ref a1)] [(.long (own_minJ q1 (2147483647 : Int64))), (.ref a1)])) rfl rfl (hb hby d23_47)
    have Fw20 := F6.same W20
    have K20 : Keep h0 h20 [a1] := (Keep.refl h0 [a1]).wr W20 (Or.inl (List.mem_of_getElem? (i := 0) rfl))
    have N20 := Fr.snoc X20 N19 g_a1
    obtain ⟨_, _, ⟨T21, L21, k21, n21⟩, -, X21, ⟨Lc21, hQ21, l21, y21, z21⟩, st21⟩ := Jvm.LawKit.callS X20 hx (y := (⟨"java/lang/Math", "min", "(JJ)J"⟩ : MethodName)) hown (mvT hZ (hw _ (List.mem_of_getElem? (i := 164) rfl))) (mvT hZ (hw _ (List.mem_of_getElem? (i := 165) rfl))) (mvT hZ (hw _ (List.mem_of_getElem? (i := 46) rfl))) (mvT hZ (hw _ (List.mem_of_getElem? (i := 166) rfl))) (by decide) (backOf (W := 1) (rmN l Z a0 hw [] q2 (2147483647 : Int64)  h20 n0 (Nat.le_trans Z0 (Keep.of_wr W20).1) ) hZ (hw _ (List.mem_of_getElem? (i := 166) rfl)) (hw _ (List.mem_of_getElem? (i := 46) rfl)) (by decide) (by decide)) (g := (mkF m 56 #[.val (.ref a1), .val (.long q1), .second, .val (.long q2), .second, .val (.long q3), .second, .val (.ref a1)] [(.long (2147483647 : Int64)), (.long q2), (.ref a1)])) rfl (by rw [hml]; rfl) (argsL := [(.long q2), (.long (2147483647 : Int64))]) (rest := [(.ref a1)]) (lenOf pd_8 rfl) rfl (by show 2 * 0 + _ ≤ _; exact Nat.le_of_eq rfl) (hb hby d23_56) (fun _ _ => ⟨rfl, e20, (by decide : 0 + 0 ≤ _), (by decide : 0 + 0 ≤ _)⟩)
    dsimp only [Pt.U, Pt.locs, Pt.cells, Pt.slots] at X21 l21 y21 z21 st21 hQ21
    subst l21 y21 z21
    obtain ⟨rfl, N21q, hq21⟩ := hQ21
    have N21 := Fr.app N20 N21q
    obtain ⟨T22, h22, X22, e22, W22, st22⟩ := putF X21 hx hZ hown (host := "") (Or.inl (hw _ (List.mem_of_getElem? (i := 169) rfl))) Via.refl hq21 (F7.other W20 (Or.inr (slot_ne (Or.inl (hw _ (List.mem_of_getElem? (i := 170) rfl))) (Or.inl (hw _ (List.mem_of_getElem? (i := 168) rfl))) (by decide) (t := .long) (t' := .long) (by decide) (by decide)))) (E1.wr W20) (Or.inl (hw _ (List.mem_of_getElem? (i := 170) rfl))) (hw _ (List.mem_of_getElem? (i := 120) rfl)) (ty := .long) (by decide) rfl rfl (g := (mkF m 59 #[.val (.ref a1), .val (.long q1), .second, .val (.long q2), .second, .val (.long q3), .second, .val (.ref a1)] [(.long (own_minJ q2 (2147483647 : Int64))), (.ref a1)])) rfl rfl (hb hby d23_59)
    have Fw22 := (F7.other W20 (Or.inr (slot_ne (Or.inl (hw _ (List.mem_of_getElem? (i := 170) rfl))) (Or.inl (hw _ (List.mem_of_getElem? (i := 168) rfl))) (by decide) (t := .long) (t' := .long) (by decide) (by decide)))).same W22
    have K22 : Keep h0 h22 [a1] := K20.wr W22 (Or.inl (List.mem_of_getElem? (i := 0) rfl))
    have N22 := Fr.snoc X22 N21 g_a1
    obtain ⟨_, _, ⟨T23, L23, k23, n23⟩, -, X23, ⟨Lc23, hQ23, l23, y23, z23⟩, st23⟩ := Jvm.LawKit.callS X22 hx (y := (⟨"java/lang/Math", "min", "(JJ)J"⟩ : MethodName)) hown (mvT hZ (hw _ (List.mem_of_getElem? (i := 164) rfl))) (mvT hZ (hw _ (List.mem_of_getElem? (i := 165) rfl))) (mvT hZ (hw _ (List.mem_of_getElem? (i := 46) rfl))) (mvT hZ (hw _ (List.mem_of_getElem? (i := 166) rfl))) (by decide) (backOf (W := 1) (rmN l Z a0 hw [] q3 (2147483647 : Int64)  h22 n0 (Nat.le_trans (Nat.le_trans Z0 (Keep.of_wr W20).1) (Keep.of_wr W22).1) ) hZ (hw _ (List.mem_of_getElem? (i := 166) rfl)) (hw _ (List.mem_of_getElem? (i := 46) rfl)) (by decide) (by decide)) (g := (mkF m 69 #[.val (.ref a1), .val (.long q1), .second, .val (.long q2), .second, .val (.long q3), .second, .val (.ref a1)] [(.long (2147483647 : Int64)), (.long q3), (.ref a1)])) rfl (by rw [hml]; rfl) (argsL := [(.long q3), (.long (2147483647 : Int64))]) (rest := [(.ref a1)]) (lenOf pd_8 rfl) rfl (by show 2 * 0 + _ ≤ _; exact Nat.le_of_eq rfl) (hb hby d23_69) (fun _ _ => ⟨rfl, e22, (by decide : 0 + 0 ≤ _), (by decide : 0 + 0 ≤ _)⟩)
    dsimp only [Pt.U, Pt.locs, Pt.cells, Pt.slots] at X23 l23 y23 z23 st23 hQ23
    subst l23 y23 z23
    obtain ⟨rfl, N23q, hq23⟩ := hQ23
    have N23 := Fr.app N22 N23q
    obtain ⟨T24, h24, X24, e24, W24, st24⟩ := putF X23 hx hZ hown (host := "") (Or.inl (hw _ (List.mem_of_getElem? (i := 171) rfl))) Via.refl hq23 ((F8.other W20 (Or.inr (slot_ne (Or.inl (hw _ (List.mem_of_getElem? (i := 172) rfl))) (Or.inl (hw _ (List.mem_of_getElem? (i := 168) rfl))) (by decide) (t := .long) (t' := .long) (by decide) (by decide)))).other W22 (Or.inr (slot_ne (Or.inl (hw _ (List.mem_of_getElem? (i := 172) rfl))) (Or.inl (hw _ (List.mem_of_getElem? (i := 170) rfl))) (by decide) (t := .long) (t' := .long) (by decide) (by decide)))) ((E1.wr W20).wr W22) (Or.inl (hw _ (List.mem_of_getElem? (i := 172) rfl))) (hw _ (List.mem_of_getElem? (i := 120) rfl)) (ty := .long) (by decide) rfl rfl (g := (mkF m 72 #[.val (.ref a1), .val (.long q1), .second, .val (.long q2), .second, .val (.long q3), .second, .val (.ref a1)] [(.long (own_minJ q3 (2147483647 : Int64))), (.ref a1)])) rfl rfl (hb hby d23_72)
    have Fw24 := ((F8.other W20 (Or.inr (slot_ne (Or.inl (hw _ (List.mem_of_getElem? (i := 172) rfl))) (Or.inl (hw _ (List.mem_of_getElem? (i := 168) rfl))) (by decide) (t := .long) (t' := .long) (by decide) (by decide)))).other W22 (Or.inr (slot_ne (Or.inl (hw _ (List.mem_of_getElem? (i := 172) rfl))) (Or.inl (hw _ (List.mem_of_getElem? (i := 170) rfl))) (by decide) (t := .long) (t' := .long) (by decide) (by decide)))).same W24
    have K24 : Keep h0 h24 [a1] := K22.wr W24 (Or.inl (List.mem_of_getElem? (i := 0) rfl))
    have N24 := Fr.snoc X24 N23 g_a1
    have pre25 : ∀ t, Steps p.tables e below (T24.setTop (mkF m 77 #[.val (.ref a1), .val (.long q1), .second, .val (.long q2), .second, .val (.long q3), .second, .val (.ref a1)] [(.ref a1)])) t → Steps p.tables e below (s₁.setTop (entryFrame m #[(.ref a1), (.long q1), (.long q2), (.long q3)] 8)) t := by
      intro t k
      refine pre1 t ?_
      refine XS.ifYes X0.here hx rfl (pc0 := 3) (pc' := 21) rfl (hb hby d23_3) rfl ((if0 _ _).trans (feq (mt (lw_eq q1 (0 : Int64)).mp h3)).2) (by decide) (by decide) ?_
      show Steps p.tables e below (s₁.setTop (mkF m 21 #[.val (.ref a1), .val (.long q1), .second, .val (.long q2), .second, .val (.long q3), .second, .unset] [])) _
      refine XS.aloadN X0.here hx rfl (hb hby d23_21) rfl (rfl) ?_
      show Steps p.tables e below (s₁.setTop (mkF m 22 #[.val (.ref a1), .val (.long q1), .second, .val (.long q2), .second, .val (.long q3), .second, .unset] [(.ref a1)])) _
      refine XS.ifnonnullYes X0.here hx rfl (pc0 := 22) (pc' := 35) rfl (hb hby d23_22) rfl (by decide) (by decide) ?_
      show Steps p.tables e below (s₁.setTop (mkF m 35 #[.val (.ref a1), .val (.long q1), .second, .val (.long q2), .second, .val (.long q3), .second, .unset] [])) _
      refine XS.aloadN X0.here hx rfl (hb hby d23_35) rfl (rfl) ?_
      show Steps p.tables e below (s₁.setTop (mkF m 36 #[.val (.ref a1), .val (.long q1), .second, .val (.long q2), .second, .val (.long q3), .second, .unset] [(.ref a1)])) _
      refine XS.astore X0.here hx rfl (hb hby d23_36) rfl (rfl) (l' := #[.val (.ref a1), .val (.long q1), .second, .val (.long q2), .second, .val (.long q3), .second, .val (.ref a1)]) rfl ?_
      show Steps p.tables e below (s₁.setTop (mkF m 38 #[.val (.ref a1), .val (.long q1), .second, .val (.long q2), .second, .val (.long q3), .second, .val (.ref a1)] [])) _
      refine XS.aload X0.here hx rfl (hb hby d23_38) rfl (rfl) ?_
      show Steps p.tables e below (s₁.setTop (mkF m 40 #[.val (.ref a1), .val (.long q1), .second, .val (.long q2), .second, .val (.long q3), .second, .val (.ref a1)] [(.ref a1)])) _
      refine XS.lloadN X0.here hx rfl (hb hby d23_40) rfl ?_
      show Steps p.tables e below (s₁.setTop (mkF m 41 #[.val (.ref a1), .val (.long q1), .second, .val (.long q2), .second, .val (.long q3), .second, .val (.ref a1)] [(.long q1), (.ref a1)])) _
      refine X0.ldc2Long hx hown (mvT hZ (hw _ (List.mem_of_getElem? (i := 163) rfl))) (g := (mkF m 41 #[.val (.ref a1), .val (.long q1), .second, .val (.long q2), .second, .val (.long q3), .second, .val (.ref a1)] [(.long q1), (.ref a1)])) rfl (hb hby d23_41) _ ?_
      show Steps p.tables e below (s₁.setTop (mkF m 44 #[.val (.ref a1), .val (.long q1), .second, .val (.long q2), .second, .val (.long q3), .second, .val (.ref a1)] [(.long (2147483647 : Int64)), (.long q1), (.ref a1)])) _
      refine st19 _ ?_
      show Steps p.tables e below (T19.setTop (mkF m 47 #[.val (.ref a1), .val (.long q1), .second, .val (.long q2), .second, .val (.long q3), .second, .val (.ref a1)] [(.long (own_minJ q1 (2147483647 : Int64))), (.ref a1)])) _
      refine st20 _ ?_
      show Steps p.tables e below (T20.setTop (mkF m 50 #[.val (.ref a1), .val (.long q1), .second, .val (.long q2), .second, .val (.long q3), .second, .val (.ref a1)] [])) _
      refine XS.aload X20.here hx rfl (hb hby d23_50) rfl (rfl) ?_
      show Steps p.tables e below (T20.setTop (mkF m 52 #[.val (.ref a1), .val (.long q1), .second, .val (.long q2), .second, .val (.long q3), .second, .val (.ref a1)] [(.ref a1)])) _
      refine XS.lloadN X20.here hx rfl (hb hby d23_52) rfl ?_
      show Steps p.tables e below (T20.setTop (mkF m 53 #[.val (.ref a1), .val (.long q1), .second, .val (.long q2), .second, .val (.long q3), .second, .val (.ref a1)] [(.long q2), (.ref a1)])) _
      refine X20.ldc2Long hx hown (mvT hZ (hw _ (List.mem_of_getElem? (i := 163) rfl))) (g := (mkF m 53 #[.val (.ref a1), .val (.long q1), .second, .val (.long q2), .second, .val (.long q3), .second, .val (.ref a1)] [(.long q2), (.ref a1)])) rfl (hb hby d23_53) _ ?_
      show Steps p.tables e below (T20.setTop (mkF m 56 #[.val (.ref a1), .val (.long q1), .second, .val (.long q2), .second, .val (.long q3), .second, .val (.ref a1)] [(.long (2147483647 : Int64)), (.long q2), (.ref a1)])) _
      refine st21 _ ?_
      show Steps p.tables e below (T21.setTop (mkF m 59 #[.val (.ref a1), .val (.long q1), .second, .val (.long q2), .second, .val (.long q3), .second, .val (.ref a1)] [(.long (own_minJ q2 (2147483647 : Int64))), (.ref a1)])) _
      refine st22 _ ?_
      show Steps p.tables e below (T22.setTop (mkF m 62 #[.val (.ref a1), .val (.long q1), .second, .val (.long q2), .second, .val (.long q3), .second, .val (.ref a1)] [])) _
      refine XS.aload X22.here hx rfl (hb hby d23_62) rfl (rfl) ?_
      show Steps p.tables e below (T22.setTop (mkF m 64 #[.val (.ref a1), .val (.long q1), .second, .val (.long q2), .second, .val (.long q3), .second, .val (.ref a1)] [(.ref a1)])) _
      refine XS.lload X22.here hx rfl (hb hby d23_64) rfl ?_
      show Steps p.tables e below (T22.setTop (mkF m 66 #[.val (.ref a1), .val (.long q1), .second, .val (.long q2), .second, .val (.long q3), .second, .val (.ref a1)] [(.long q3), (.ref a1)])) _
      refine X22.ldc2Long hx hown (mvT hZ (hw _ (List.mem_of_getElem? (i := 163) rfl))) (g := (mkF m 66 #[.val (.ref a1), .val (.long q1), .second, .val (.long q2), .second, .val (.long q3), .second, .val (.ref a1)] [(.long q3), (.ref a1)])) rfl (hb hby d23_66) _ ?_
      show Steps p.tables e below (T22.setTop (mkF m 69 #[.val (.ref a1), .val (.long q1), .second, .val (.long q2), .second, .val (.long q3), .second, .val (.ref a1)] [(.long (2147483647 : Int64)), (.long q3), (.ref a1)])) _
      refine st23 _ ?_
      show Steps p.tables e below (T23.setTop (mkF m 72 #[.val (.ref a1), .val (.long q1), .second, .val (.long q2), .second, .val (.long q3), .second, .val (.ref a1)] [(.long (own_minJ q3 (2147483647 : Int64))), (.ref a1)])) _
      refine st24 _ ?_
      show Steps p.tables e below (T24.setTop (mkF m 75 #[.val (.ref a1), .val (.long q1), .second, .val (.long q2), .second, .val (.long q3), .second, .val (.ref a1)] [])) _
      refine XS.aload X24.here hx rfl (hb hby d23_75) rfl (rfl) ?_
      show Steps p.tables e below (T24.setTop (mkF m 77 #[.val (.ref a1), .val (.long q1), .second, .val (.long q2), .second, .val (.long q3), .second, .val (.ref a1)] [(.ref a1)])) _
      exact k
    obtain ⟨fs, hr, hrun, hended, hW, hsame⟩ := X24.leave (v := some (.ref a1)) (fun h => by rw [Bd.returns] at h; cases h)
    refine ⟨_, _, pre25 _ ?_, hrun, hended, _, _, rfl, ?_, ⟨_, rfl⟩, hW, hsame.mono (by decide) (by decide)⟩
    · exact retOut X24 hx Bd.returns (by first | rfl | simp [narrow]) (Or.inr (Or.inr (Or.inr (Or.inr ⟨rfl, rfl, rfl⟩)))) (hb hby d23_77) hr
    · show Q_rmWE Z a1 q1 q2 q3 va vs ve vl vv vk x1 x2 x3 h0 n0 _ T24.heap _
      rw [e24]
      exact ⟨rfl, N24, K24, (((E1.wr W20).wr W22).wr W24), (((F0.other W20 (Or.inr (slot_ne (Or.inl (hw _ (List.mem_of_getElem? (i := 126) rfl))) (Or.inl (hw _ (List.mem_of_getElem? (i := 168) rfl))) (by decide) (t := .long) (t' := .long) (by decide) (by decide)))).other W22 (Or.inr (slot_ne (Or.inl (hw _ (List.mem_of_getElem? (i := 126) rfl))) (Or.inl (hw _ (List.mem_of_getElem? (i := 170) rfl))) (by decide) (t := .long) (t' := .long) (by decide) (by decide)))).other W24 (Or.inr (slot_ne (Or.inl (hw _ (List.mem_of_getElem? (i := 126) rfl))) (Or.inl (hw _ (List.mem_of_getElem? (i := 172) rfl))) (by decide) (t := .long) (t' := .long) (by decide) (by decide)))), (((F1.other W20 (Or.inr (slot_ne (Or.inl (hw _ (List.mem_of_getElem? (i := 138) rfl))) (Or.inl (hw _ (List.mem_of_getElem? (i := 168) rfl))) (by decide) (t := .long) (t' := .long) (by decide) (by decide)))).other W22 (Or.inr (slot_ne (Or.inl (hw _ (List.mem_of_getElem? (i := 138) rfl))) (Or.inl (hw _ (List.mem_of_getElem? (i := 170) rfl))) (by decide) (t := .long) (t' := .long) (by decide) (by decide)))).other W24 (Or.inr (slot_ne (Or.inl (hw _ (List.mem_of_getElem? (i := 138) rfl))) (Or.inl (hw _ (List.mem_of_getElem? (i := 172) rfl))) (by decide) (t := .long) (t' := .long) (by decide) (by decide)))), (((F2.other W20 (Or.inr (slot_ne (Or.inl (hw _ (List.mem_of_getElem? (i := 140) rfl))) (Or.inl (hw _ (List.mem_of_getElem? (i := 168) rfl))) (by decide) (t := .long) (t' := .long) (by decide) (by decide)))).other W22 (Or.inr (slot_ne (Or.inl (hw _ (List.mem_of_getElem? (i := 140) rfl))) (Or.inl (hw _ (List.mem_of_getElem? (i := 170) rfl))) (by decide) (t := .long) (t' := .long) (by decide) (by decide)))).other W24 (Or.inr (slot_ne (Or.inl (hw _ (List.mem_of_getElem? (i := 140) rfl))) (Or.inl (hw _ (List.mem_of_getElem? (i := 172) rfl))) (by decide) (t := .long) (t' := .long) (by decide) (by decide)))), (((F3.other W20 (Or.inr (slot_ne (Or.inl (hw _ (List.mem_of_getElem? (i := 128) rfl))) (Or.inl (hw _ (List.mem_of_getElem? (i := 168) rfl))) (by decide) (t := .long) (t' := .long) (by decide) (by decide)))).other W22 (Or.inr (slot_ne (Or.inl (hw _ (List.mem_of_getElem? (i := 128) rfl))) (Or.inl (hw _ (List.mem_of_getElem? (i := 170) rfl))) (by decide) (t := .long) (t' := .long) (by decide) (by decide)))).other W24 (Or.inr (slot_ne (Or.inl (hw _ (List.mem_of_getElem? (i := 128) rfl))) (Or.inl (hw _ (List.mem_of_getElem? (i := 172) rfl))) (by decide) (t := .long) (t' := .long) (by decide) (by decide)))), (((F4.other W20 (Or.inr (slot_ne (Or.inl (hw _ (List.mem_of_getElem? (i := 144) rfl))) (Or.inl (hw _ (List.mem_of_getElem? (i := 168) rfl))) (by decide) (t := .long) (t' := .long) (by decide) (by decide)))).other W22 (Or.inr (slot_ne (Or.inl (hw _ (List.mem_of_getElem? (i := 144) rfl))) (Or.inl (hw _ (List.mem_of_getElem? (i := 170) rfl))) (by decide) (t := .long) (t' := .long) (by decide) (by decide)))).other W24 (Or.inr (slot_ne (Or.inl (hw _ (List.mem_of_getElem? (i := 144) rfl))) (Or.inl (hw _ (List.mem_of_getElem? (i := 172) rfl))) (by decide) (t := .long) (t' := .long) (by decide) (by decide)))), (((F5.other W20 (Or.inr (slot_ne (Or.inl (hw _ (List.mem_of_getElem? (i := 130) rfl))) (Or.inl (hw _ (List.mem_of_getElem? (i := 168) rfl))) (by decide) (t := .long) (t' := .long) (by decide) (by decide)))).other W22 (Or.inr (slot_ne (Or.inl (hw _ (List.mem_of_getElem? (i := 130) rfl))) (Or.inl (hw _ (List.mem_of_getElem? (i := 170) rfl))) (by decide) (t := .long) (t' := .long) (by decide) (by decide)))).other W24 (Or.inr (slot_ne (Or.inl (hw _ (List.mem_of_getElem? (i := 130) rfl))) (Or.inl (hw _ (List.mem_of_getElem? (i := 172) rfl))) (by decide) (t := .long) (t' := .long) (by decide) (by decide))))⟩
theorem ef_rmDP (m : MethodId) (x0 : Addr) : entryFrame m #[(.ref x0)] 1 = mkF m 0 #[.val (.ref x0)] [] := by first | (simp [entryFrame, mkF, argsToLocals, Value.category]; done) | rfl
theorem d19_0 : decode prog_46_method_11_code 0 = .ok (.aload_n 0, 1) := by decide +kernel
theorem d19_1 : decode prog_46_method_11_code 1 = .ok (.getfield 25, 3) := by decide +kernel
theorem d19_4 : decode prog_46_method_11_code 4 = .ok (.lconst 0, 1) := by decide +kernel
theorem d19_5 : decode prog_46_method_11_code 5 = .ok (.lcmp, 1) := by decide +kernel
theorem d19_6 : decode prog_46_method_11_code 6 = .ok (.ifCond .gt 48, 3) := by decide +kernel
theorem d19_54 : decode prog_46_method_11_code 54 = .ok (.iconst 1, 1) := by decide +kernel
theorem d19_55 : decode prog_46_method_11_code 55 = .ok (.goto 4, 3) := by decide +kernel
theorem d19_59 : decode prog_46_method_11_code 59 = .ok (.ireturn, 1) := by decide +kernel
theorem d19_9 : decode prog_46_method_11_code 9 = .ok (.aload_n 0, 1) := by decide +kernel
theorem d19_10 : decode prog_46_method_11_code 10 = .ok (.getfield 54, 3) := by decide +kernel
theorem d19_13 : decode prog_46_method_11_code 13 = .ok (.lconst 0, 1) := by decide +kernel
theorem d19_14 : decode prog_46_method_11_code 14 = .ok (.lcmp, 1) := by decide +kernel
theorem d19_15 : decode prog_46_method_11_code 15 = .ok (.ifCond .gt 39, 3) := by decide +kernel
theorem d19_18 : decode prog_46_method_11_code 18 = .ok (.aload_n 0, 1) := by decide +kernel
theorem d19_19 : decode prog_46_method_11_code 19 = .ok (.getfield 57, 3) := by decide +kernel
theorem d19_22 : decode prog_46_method_11_code 22 = .ok (.lconst 0, 1) := by decide +kernel
theorem d19_23 : decode prog_46_method_11_code 23 = .ok (.lcmp, 1) := by decide +kernel
theorem d19_24 : decode prog_46_method_11_code 24 = .ok (.ifCond .gt 30, 3) := by decide +kernel
theorem d19_27 : decode prog_46_method_11_code 27 = .ok (.aload_n 0, 1) := by decide +kernel
theorem d19_28 : decode prog_46_method_11_code 28 = .ok (.getfield 29, 3) := by decide +kernel
theorem d19_31 : decode prog_46_method_11_code 31 = .ok (.lconst 0, 1) := by decide +kernel
theorem d19_32 : decode prog_46_method_11_code 32 = .ok (.lcmp, 1) := by decide +kernel
theorem d19_33 : decode prog_46_method_11_code 33 = .ok (.ifCond .gt 21, 3) := by decide +kernel
theorem d19_36 : decode prog_46_method_11_code 36 = .ok (.aload_n 0, 1) := by decide +kernel
theorem d19_37 : decode prog_46_method_11_code 37 = .ok (.getfield 60, 3) := by decide +kernel
theorem d19_40 : decode prog_46_method_11_code 40 = .ok (.lconst 0, 1) := by decide +kernel
theorem d19_41 : decode prog_46_method_11_code 41 = .ok (.lcmp, 1) := by decide +kernel
theorem d19_42 : decode prog_46_method_11_code 42 = .ok (.ifCond .gt 12, 3) := by decide +kernel
theorem d19_45 : decode prog_46_method_11_code 45 = .ok (.aload_n 0, 1) := by decide +kernel
theorem d19_46 : decode prog_46_method_11_code 46 = .ok (.getfield 32, 3) := by decide +kernel
theorem d19_49 : decode prog_46_method_11_code 49 = .ok (.lconst 0, 1) := by decide +kernel
theorem d19_50 : decode prog_46_method_11_code 50 = .ok (.lcmp, 1) := by decide +kernel
theorem d19_51 : decode prog_46_method_11_code 51 = .ok (.ifCond .le 7, 3) := by decide +kernel
theorem d19_58 : decode prog_46_method_11_code 58 = .ok (.iconst 0, 1) := by decide +kernel
def Q_rmDP (Z : State) (a1 : Addr) (va : Int64) (vs : Int64) (ve : Int64) (vl : Int64) (vv : Int64) (vk : Int64) (h0 : Heap) (n0 : Nat) (v : Option Value) (h : Heap) (L : List Loc) : Prop := v = some (.int (own_dp va vs ve vl vv vk)) ∧ Fr n0 L ∧ h = h0
set_option maxRecDepth 65536 in
set_option maxHeartbeats 40000000 in
theorem rmDP (l : Launch) (Z : State) (a0 : Array Value) (hw : ∀ d ∈ tables_1, d.before a0 Z = true) (ws : List Jvm.Cond) (a1 : Addr) (va : Int64) (vs : Int64) (ve : Int64) (vl : Int64) (vv : Int64) (vk : Int64) (h0 : Heap) (n0 : Nat) (Z0 : n0 ≤ h0.size) (F0 : Fld Z h0 a1 "com/example/kiseki/kiseki/tracing/DroppedItems" "attributesBeforeStart" "J" (.long va)) (F1 : Fld Z h0 a1 "com/example/kiseki/kiseki/tracing/DroppedItems" "attributesSinceStart" "J" (.long vs)) (F2 : Fld Z h0 a1 "com/example/kiseki/kiseki/tracing/DroppedItems" "events" "J" (.long ve)) (F3 : Fld Z h0 a1 "com/example/kiseki/kiseki/tracing/DroppedItems" "links" "J" (.long vl)) (F4 : Fld Z h0 a1 "com/example/kiseki/kiseki/tracing/DroppedItems" "eventAttributes" "J" (.long vv)) (F5 : Fld Z h0 a1 "com/example/kiseki/kiseki/tracing/DroppedItems" "linkAttributes" "J" (.long vk)) :
    MetFree l (⟨"com/example/kiseki/kiseki/tracing/DroppedItems", "droppedPastLimits", "()Z"⟩ : MethodName) (head1 (Jvm.Cond.code (⟨"com/example/kiseki/kiseki/tracing/DroppedItems", "droppedPastLimits", "()Z"⟩ : MethodName) prog_46_method_11_code 1 (some .boolean) :: ws) ({ frames := 0, cells := 0, slots := 0, locals := 0 } : Room)) (fun a U => a = #[(.ref a1)] ∧ Z.Warmed39 U.vm ∧ U.heap = h0) (fun _ _ _ _ _ => True) (fun _ U o U' => ∃ v L, o = .returned v ∧ Q_rmDP Z a1 va vs ve vl vv vk h0 n0 v U'.heap L ∧ FrameEnd U o U' L ({ frames := 0, cells := 0, slots := 0, locals := 0 } : Room).cells ({ frames := 0, cells := 0, slots := 0, locals := 0 } : Room).slots) := by
  refine MetFree.of_bodySF (plainFor_of_name pn_1) hisR ?_
  intro p e s m args below meth c s₁ Bd hml0 hP hK
  obtain ⟨rfl, hZ, hh⟩ := hP
  have hx := Bd.exec
  have hby := Bd.bytes
  have hml : c.maxLocals = 1 := hml0
  have hown : s.vm.findClass "com/example/kiseki/kiseki/tracing/DroppedItems" = some m.cls := (findClass_of_methodNamed Bd.named :)
  have hnm := (name_of_methodNamed Bd.named Bd.method).1
  have X0 : Stand p l e ({ frames := 0, cells := 0, slots := 0, locals := 0 } : Room) s m #[(.ref a1)] below meth c s₁ [] 0 0 := Stand.of_body Bd
  have e0 : s₁.heap = h0 := by rw [← hh, Bd.state]; rfl
  have N0 := Fr.nil n0
  have pre0 : ∀ t, Steps p.tables e below (s₁.setTop (mkF m 0 #[.val (.ref a1)] [])) t → Steps p.tables e below (s₁.setTop (entryFrame m #[(.ref a1)] 1)) t := fun t k => castTop (ef_rmDP m a1) k
  obtain ⟨T1, X1, e1, st1⟩ := getF X0 hx hZ hown (host := "") (Or.inl (hw _ (List.mem_of_getElem? (i := 125) rfl))) Via.refl e0 F0 (g := (mkF m 1 #[.val (.ref a1)] [(.ref a1)])) rfl rfl (hb hby d19_1)
  have pre2 : ∀ t, Steps p.tables e below (T1.setTop (mkF m 6 #[.val (.ref a1)] [(.int (lcmpW va (0 : Int64)))])) t → Steps p.tables e below (s₁.setTop (entryFrame m #[(.ref a1)] 1)) t := by
    intro t k
    refine pre0 t ?_
    show Steps p.tables e below (s₁.setTop (mkF m 0 #[.val (.ref a1)] [])) _
    refine XS.aloadN X0.here hx rfl (hb hby d19_0) rfl (rfl) ?_
    show Steps p.tables e below (s₁.setTop (mkF m 1 #[.val (.ref a1)] [(.ref a1)])) _
    refine st1 _ ?_
    show Steps p.tables e below (T1.setTop (mkF m 4 #[.val (.ref a1)] [(.long va)])) _
    refine XS.lconst X1.here hx rfl (hb hby d19_4) ?_
    show Steps p.tables e below (T1.setTop (mkF m 5 #[.val (.ref a1)] [(.long (0 : Int64)), (.long va)])) _
    refine XS.lcmp X1.here hx rfl (hb hby d19_5) rfl ?_
    show Steps p.tables e below (T1.setTop (mkF m 6 #[.val (.ref a1)] [(.int (lcmpW va (0 : Int64)))])) _
    exact k
  by_cases h6 : (0 : Int64) < va
  · skip
    have pre3 : ∀ t, Steps p.tables e below (T1.setTop (mkF m 59 #[.val (.ref a1)] [(.int (1 : Int32))])) t → Steps p.tables e below (s₁.setTop (entryFrame m #[(.ref a1)] 1)) t := by
      intro t k
      refine pre2 t ?_
      refine XS.ifYes X1.here hx rfl (pc0 := 6) (pc' := 54) rfl (hb hby d19_6) rfl ((if0 _ _).trans (tlt ((lw_gt va (0 : Int64)).mpr h6)).2.2.1) (by decide) (by decide) ?_
      show Steps p.tables e below (T1.setTop (mkF m 54 #[.val (.ref a1)] [])) _
      refine XS.iconst X1.here hx rfl (hb hby d19_54) ?_
      show Steps p.tables e below (T1.setTop (mkF m 55 #[.val (.ref a1)] [(.int (1 : Int32))])) _
      refine XS.goto X1.here hx rfl (pc0 := 55) (pc' := 59) rfl (hb hby d19_55) (by decide) (by decide) ?_
      show Steps p.tables e below (T1.setTop (mkF m 59 #[.val (.ref a1)] [(.int (1 : Int32))])) _
      exact k
    obtain ⟨fs, hr, hrun, hended, hW, hsame⟩ := X1.leave (v := some (.int (1 : Int32))) (fun h => by rw [Bd.returns] at h; cases h)
    refine ⟨_, _, pre3 _ ?_, hrun, hended, _, _, rfl, ?_, ⟨_, rfl⟩, hW, hsame.mono (by decide) (by decide)⟩
    · exact retN X1 hx (t := .boolean) Bd.returns (by simp) (hb hby d19_59) hr
    · show Q_rmDP Z a1 va vs ve vl vv vk h0 n0 _ T1.heap _
      rw [e1]
      exact ⟨by simp [own_dp, h6], N0, rfl⟩
  · skip
    obtain ⟨T4, X4, e4, st4⟩ := getF X1 hx hZ hown (host := "") (Or.inl (hw _ (List.mem_of_getElem? (i := 137) rfl))) Via.refl e1 F1 (g := (mkF m 10 #[.val (.ref a1)] [(.ref a1)])) rfl rfl (hb hby d19_10)
    have pre5 : ∀ t, Steps p.tables e below (T4.setTop (mkF m 15 #[.val (.ref a1)] [(.int (lcmpW vs (0 : Int64)))])) t → Steps p.tables e below (s₁.setTop (entryFrame m #[(.ref a1)] 1)) t := by
      intro t k
      refine pre2 t ?_
      refine XS.ifNo X1.here hx rfl (hb hby d19_6) rfl ((if0 _ _).trans (flt (mt (lw_gt va (0 : Int64)).mp h6)).2.2.1) ?_
      show Steps p.tables e below (T1.setTop (mkF m 9 #[.val (.ref a1)] [])) _
      refine XS.aloadN X1.here hx rfl (hb hby d19_9) rfl (rfl) ?_
      show Steps p.tables e below (T1.setTop (mkF m 10 #[.val (.ref a1)] [(.ref a1)])) _
      refine st4 _ ?_
      show Steps p.tables e below (T4.setTop (mkF m 13 #[.val (.ref a1)] [(.long vs)])) _
      refine XS.lconst X4.here hx rfl (hb hby d19_13) ?_
      show Steps p.tables e below (T4.setTop (mkF m 14 #[.val (.ref a1)] [(.long (0 : Int64)), (.long vs)])) _
      refine XS.lcmp X4.here hx rfl (hb hby d19_14) rfl ?_
      show Steps p.tables e below (T4.setTop (mkF m 15 #[.val (.ref a1)] [(.int (lcmpW vs (0 : Int64)))])) _
      exact k
    by_cases h15 : (0 : Int64) < vs
    · skip
      have pre6 : ∀ t, Steps p.tables e below (T4.setTop (mkF m 59 #[.val (.ref a1)] [(.int (1 : Int32))])) t → Steps p.tables e below (s₁.setTop (entryFrame m #[(.ref a1)] 1)) t := by
        intro t k
        refine pre5 t ?_
        refine XS.ifYes X4.here hx rfl (pc0 := 15) (pc' := 54) rfl (hb hby d19_15) rfl ((if0 _ _).trans (tlt ((lw_gt vs (0 : Int64)).mpr h15)).2.2.1) (by decide) (by decide) ?_
        show Steps p.tables e below (T4.setTop (mkF m 54 #[.val (.ref a1)] [])) _
        refine XS.iconst X4.here hx rfl (hb hby d19_54) ?_
        show Steps p.tables e below (T4.setTop (mkF m 55 #[.val (.ref a1)] [(.int (1 : Int32))])) _
        refine XS.goto X4.here hx rfl (pc0 := 55) (pc' := 59) rfl (hb hby d19_55) (by decide) (by decide) ?_
        show Steps p.tables e below (T4.setTop (mkF m 59 #[.val (.ref a1)] [(.int (1 : Int32))])) _
        exact k
      obtain ⟨fs, hr, hrun, hended, hW, hsame⟩ := X4.leave (v := some (.int (1 : Int32))) (fun h => by rw [Bd.returns] at h; cases h)
      refine ⟨_, _, pre6 _ ?_, hrun, hended, _, _, rfl, ?_, ⟨_, rfl⟩, hW, hsame.mono (by decide) (by decide)⟩
      · exact retN X4 hx (t := .boolean) Bd.returns (by simp) (hb hby d19_59) hr
      · show Q_rmDP Z a1 va vs ve vl vv vk h0 n0 _ T4.heap _
        rw [e4]
        exact ⟨by simp [own_dp, h6, h15], N0, rfl⟩
    · skip
      obtain ⟨T7, X7, e7, st7⟩ := getF X4 hx hZ hown (host := "") (Or.inl (hw _ (List.mem_of_getElem? (i := 139) rfl))) Via.refl e4 F2 (g := (mkF m 19 #[.val (.ref a1)] [(.ref a1)])) rfl rfl (hb hby d19_19)
      have pre8 : ∀ t, Steps p.tables e below (T7.setTop (mkF m 24 #[.val (.ref a1)] [(.int (lcmpW ve (0 : Int64)))])) t → Steps p.tables e below (s₁.setTop (entryFrame m #[(.ref a1)] 1)) t := by
        intro t k
        refine pre5 t ?_
        refine XS.ifNo X4.here hx rfl (hb hby d19_15) rfl ((if0 _ _).trans (flt (mt (lw_gt vs (0 : Int64)).mp h15)).2.2.1) ?_
        show Steps p.tables e below (T4.setTop (mkF m 18 #[.val (.ref a1)] [])) _
        refine XS.aloadN X4.here hx rfl (hb hby d19_18) rfl (rfl) ?_
        show Steps p.tables e below (T4.setTop (mkF m 19 #[.val (.ref a1)] [(.ref a1)])) _
        refine st7 _ ?_
        show Steps p.tables e below (T7.setTop (mkF m 22 #[.val (.ref a1)] [(.long ve)])) _
        refine XS.lconst X7.here hx rfl (hb hby d19_22) ?_
        show Steps p.tables e below (T7.setTop (mkF m 23 #[.val (.ref a1)] [(.long (0 : Int64)), (.long ve)])) _
        refine XS.lcmp X7.here hx rfl (hb hby d19_23) rfl ?_
        show Steps p.tables e below (T7.setTop (mkF m 24 #[.val (.ref a1)] [(.int (lcmpW ve (0 : Int64)))])) _
        exact k
      by_cases h24 : (0 : Int64) < ve
      · skip
        have pre9 : ∀ t, Steps p.tables e below (T7.setTop (mkF m 59 #[.val (.ref a1)] [(.int (1 : Int32))])) t → Steps p.tables e below (s₁.setTop (entryFrame m #[(.ref a1)] 1)) t := by
          intro t k
          refine pre8 t ?_
          refine XS.ifYes X7.here hx rfl (pc0 := 24) (pc' := 54) rfl (hb hby d19_24) rfl ((if0 _ _).trans (tlt ((lw_gt ve (0 : Int64)).mpr h24)).2.2.1) (by decide) (by decide) ?_
          show Steps p.tables e below (T7.setTop (mkF m 54 #[.val (.ref a1)] [])) _
          refine XS.iconst X7.here hx rfl (hb hby d19_54) ?_
          show Steps p.tables e below (T7.setTop (mkF m 55 #[.val (.ref a1)] [(.int (1 : Int32))])) _
          refine XS.goto X7.here hx rfl (pc0 := 55) (pc' := 59) rfl (hb hby d19_55) (by decide) (by decide) ?_
          show Steps p.tables e below (T7.setTop (mkF m 59 #[.val (.ref a1)] [(.int (1 : Int32))])) _
          exact k
        obtain ⟨fs, hr, hrun, hended, hW, hsame⟩ := X7.leave (v := some (.int (1 : Int32))) (fun h => by rw [Bd.returns] at h; cases h)
        refine ⟨_, _, pre9 _ ?_, hrun, hended, _, _, rfl, ?_, ⟨_, rfl⟩, hW, hsame.mono (by decide) (by decide)⟩
        · exact retN X7 hx (t := .boolean) Bd.returns (by simp) (hb hby d19_59) hr
        · show Q_rmDP Z a1 va vs ve vl vv vk h0 n0 _ T7.heap _
          rw [e7]
          exact ⟨by simp [own_dp, h6, h15, h24], N0, rfl⟩
      · skip
        obtain ⟨T10, X10, e10, st10⟩ := getF X7 hx hZ hown (host := "") (Or.inl (hw _ (List.mem_of_getElem? (i := 127) rfl))) Via.refl e7 F3 (g := (mkF m 28 #[.val (.ref a1)] [(.ref a1)])) rfl rfl (hb hby d19_28)
        have pre11 : ∀ t, Steps p.tables e below (T10.setTop (mkF m 33 #[.val (.ref a1)] [(.int (lcmpW vl (0 : Int64)))])) t → Steps p.tables e below (s₁.setTop (entryFrame m #[(.ref a1)] 1)) t := by
          intro t k
          refine pre8 t ?_
          refine XS.ifNo X7.here hx rfl (hb hby d19_24) rfl ((if0 _ _).trans (flt (mt (lw_gt ve (0 : Int64)).mp h24)).2.2.1) ?_
          show Steps p.tables e below (T7.setTop (mkF m 27 #[.val (.ref a1)] [])) _
          refine XS.aloadN X7.here hx rfl (hb hby d19_27) rfl (rfl) ?_
          show Steps p.tables e below (T7.setTop (mkF m 28 #[.val (.ref a1)] [(.ref a1)])) _
          refine st10 _ ?_
          show Steps p.tables e below (T10.setTop (mkF m 31 #[.val (.ref a1)] [(.long vl)])) _
          refine XS.lconst X10.here hx rfl (hb hby d19_31) ?_
          show Steps p.tables e below (T10.setTop (mkF m 32 #[.val (.ref a1)] [(.long (0 : Int64)), (.long vl)])) _
          refine XS.lcmp X10.here hx rfl (hb hby d19_32) rfl ?_
          show Steps p.tables e below (T10.setTop (mkF m 33 #[.val (.ref a1)] [(.int (lcmpW vl (0 : Int64)))])) _
          exact k
        by_cases h33 : (0 : Int64) < vl
        · skip
          have pre12 : ∀ t, Steps p.tables e below (T10.setTop (mkF m 59 #[.val (.ref a1)] [(.int (1 : Int32))])) t → Steps p.tables e below (s₁.setTop (entryFrame m #[(.ref a1)] 1)) t := by
            intro t k
            refine pre11 t ?_
            refine XS.ifYes X10.here hx rfl (pc0 := 33) (pc' := 54) rfl (hb hby d19_33) rfl ((if0 _ _).trans (tlt ((lw_gt vl (0 : Int64)).mpr h33)).2.2.1) (by decide) (by decide) ?_
            show Steps p.tables e below (T10.setTop (mkF m 54 #[.val (.ref a1)] [])) _
            refine XS.iconst X10.here hx rfl (hb hby d19_54) ?_
            show Steps p.tables e below (T10.setTop (mkF m 55 #[.val (.ref a1)] [(.int (1 : Int32))])) _
            refine XS.goto X10.here hx rfl (pc0 := 55) (pc' := 59) rfl (hb hby d19_55) (by decide) (by decide) ?_
            show Steps p.tables e below (T10.setTop (mkF m 59 #[.val (.ref a1)] [(.int (1 : Int32))])) _
            exact k
          obtain ⟨fs, hr, hrun, hended, hW, hsame⟩ := X10.leave (v := some (.int (1 : Int32))) (fun h => by rw [Bd.returns] at h; cases h)
          refine ⟨_, _, pre12 _ ?_, hrun, hended, _, _, rfl, ?_, ⟨_, rfl⟩, hW, hsame.mono (by decide) (by decide)⟩
          · exact retN X10 hx (t := .boolean) Bd.returns (by simp) (hb hby d19_59) hr
          · show Q_rmDP Z a1 va vs ve vl vv vk h0 n0 _ T10.heap _
            rw [e10]
            exact ⟨by simp [own_dp, h6, h15, h24, h33], N0, rfl⟩
        · skip
          obtain ⟨T13, X13, e13, st13⟩ := getF X10 hx hZ hown (host := "") (Or.inl (hw _ (List.mem_of_getElem? (i := 143) rfl))) Via.refl e10 F4 (g := (mkF m 37 #[.val (.ref a1)] [(.ref a1)])) rfl rfl (hb hby d19_37)
          have pre14 : ∀ t, Steps p.tables e below (T13.setTop (mkF m 42 #[.val (.ref a1)] [(.int (lcmpW vv (0 : Int64)))])) t → Steps p.tables e below (s₁.setTop (entryFrame m #[(.ref a1)] 1)) t := by
            intro t k
            refine pre11 t ?_
            refine XS.ifNo X10.here hx rfl (hb hby d19_33) rfl ((if0 _ _).trans (flt (mt (lw_gt vl (0 : Int64)).mp h33)).2.2.1) ?_
            show Steps p.tables e below (T10.setTop (mkF m 36 #[.val (.ref a1)] [])) _
            refine XS.aloadN X10.here hx rfl (hb hby d19_36) rfl (rfl) ?_
            show Steps p.tables e below (T10.setTop (mkF m 37 #[.val (.ref a1)] [(.ref a1)])) _
            refine st13 _ ?_
            show Steps p.tables e below (T13.setTop (mkF m 40 #[.val (.ref a1)] [(.long vv)])) _
            refine XS.lconst X13.here hx rfl (hb hby d19_40) ?_
            show Steps p.tables e below (T13.setTop (mkF m 41 #[.val (.ref a1)] [(.long (0 : Int64)), (.long vv)])) _
            refine XS.lcmp X13.here hx rfl (hb hby d19_41) rfl ?_
            show Steps p.tables e below (T13.setTop (mkF m 42 #[.val (.ref a1)] [(.int (lcmpW vv (0 : Int64)))])) _
            exact k
          by_cases h42 : (0 : Int64) < vv
          · skip
            have pre15 : ∀ t, Steps p.tables e below (T13.setTop (mkF m 59 #[.val (.ref a1)] [(.int (1 : Int32))])) t → Steps p.tables e below (s₁.setTop (entryFrame m #[(.ref a1)] 1)) t := by
              intro t k
              refine pre14 t ?_
              refine XS.ifYes X13.here hx rfl (pc0 := 42) (pc' := 54) rfl (hb hby d19_42) rfl ((if0 _ _).trans (tlt ((lw_gt vv (0 : Int64)).mpr h42)).2.2.1) (by decide) (by decide) ?_
              show Steps p.tables e below (T13.setTop (mkF m 54 #[.val (.ref a1)] [])) _
              refine XS.iconst X13.here hx rfl (hb hby d19_54) ?_
              show Steps p.tables e below (T13.setTop (mkF m 55 #[.val (.ref a1)] [(.int (1 : Int32))])) _
              refine XS.goto X13.here hx rfl (pc0 := 55) (pc' := 59) rfl (hb hby d19_55) (by decide) (by decide) ?_
              show Steps p.tables e below (T13.setTop (mkF m 59 #[.val (.ref a1)] [(.int (1 : Int32))])) _
              exact k
            obtain ⟨fs, hr, hrun, hended, hW, hsame⟩ := X13.leave (v := some (.int (1 : Int32))) (fun h => by rw [Bd.returns] at h; cases h)
            refine ⟨_, _, pre15 _ ?_, hrun, hended, _, _, rfl, ?_, ⟨_, rfl⟩, hW, hsame.mono (by decide) (by decide)⟩
            · exact retN X13 hx (t := .boolean) Bd.returns (by simp) (hb hby d19_59) hr
            · show Q_rmDP Z a1 va vs ve vl vv vk h0 n0 _ T13.heap _
              rw [e13]
              exact ⟨by simp [own_dp, h6, h15, h24, h33, h42], N0, rfl⟩
          · skip
            obtain ⟨T16, X16, e16, st16⟩ := getF X13 hx hZ hown (host := "") (Or.inl (hw _ (List.mem_of_getElem? (i := 129) rfl))) Via.refl e13 F5 (g := (mkF m 46 #[.val (.ref a1)] [(.ref a1)])) rfl rfl (hb hby d19_46)
            have pre17 : ∀ t, Steps p.tables e below (T16.setTop (mkF m 51 #[.val (.ref a1)] [(.int (lcmpW vk (0 : Int64)))])) t → Steps p.tables e below (s₁.setTop (entryFrame m #[(.ref a1)] 1)) t := by
              intro t k
              refine pre14 t ?_
              refine XS.ifNo X13.here hx rfl (hb hby d19_42) rfl ((if0 _ _).trans (flt (mt (lw_gt vv (0 : Int64)).mp h42)).2.2.1) ?_
              show Steps p.tables e below (T13.setTop (mkF m 45 #[.val (.ref a1)] [])) _
              refine XS.aloadN X13.here hx rfl (hb hby d19_45) rfl (rfl) ?_
              show Steps p.tables e below (T13.setTop (mkF m 46 #[.val (.ref a1)] [(.ref a1)])) _
              refine st16 _ ?_
              show Steps p.tables e below (T16.setTop (mkF m 49 #[.val (.ref a1)] [(.long vk)])) _
              refine XS.lconst X16.here hx rfl (hb hby d19_49) ?_
              show Steps p.tables e below (T16.setTop (mkF m 50 #[.val (.ref a1)] [(.long (0 : Int64)), (.long vk)])) _
              refine XS.lcmp X16.here hx rfl (hb hby d19_50) rfl ?_
              show Steps p.tables e below (T16.setTop (mkF m 51 #[.val (.ref a1)] [(.int (lcmpW vk (0 : Int64)))])) _
              exact k
            by_cases h51 : (0 : Int64) < vk
            · skip
              have pre18 : ∀ t, Steps p.tables e below (T16.setTop (mkF m 59 #[.val (.ref a1)] [(.int (1 : Int32))])) t → Steps p.tables e below (s₁.setTop (entryFrame m #[(.ref a1)] 1)) t := by
                intro t k
                refine pre17 t ?_
                refine XS.ifNo X16.here hx rfl (hb hby d19_51) rfl ((if0 _ _).trans (tlt ((lw_gt vk (0 : Int64)).mpr h51)).2.2.2) ?_
                show Steps p.tables e below (T16.setTop (mkF m 54 #[.val (.ref a1)] [])) _
                refine XS.iconst X16.here hx rfl (hb hby d19_54) ?_
                show Steps p.tables e below (T16.setTop (mkF m 55 #[.val (.ref a1)] [(.int (1 : Int32))])) _
                refine XS.goto X16.here hx rfl (pc0 := 55) (pc' := 59) rfl (hb hby d19_55) (by decide) (by decide) ?_
                show Steps p.tables e below (T16.setTop (mkF m 59 #[.val (.ref a1)] [(.int (1 : Int32))])) _
                exact k
              obtain ⟨fs, hr, hrun, hended, hW, hsame⟩ := X16.leave (v := some (.int (1 : Int32))) (fun h => by rw [Bd.returns] at h; cases h)
              refine ⟨_, _, pre18 _ ?_, hrun, hended, _, _, rfl, ?_, ⟨_, rfl⟩, hW, hsame.mono (by decide) (by decide)⟩
              · exact retN X16 hx (t := .boolean) Bd.returns (by simp) (hb hby d19_59) hr
              · show Q_rmDP Z a1 va vs ve vl vv vk h0 n0 _ T16.heap _
                rw [e16]
                exact ⟨by simp [own_dp, h6, h15, h24, h33, h42, h51], N0, rfl⟩
            · skip
              have pre19 : ∀ t, Steps p.tables e below (T16.setTop (mkF m 59 #[.val (.ref a1)] [(.int (0 : Int32))])) t → Steps p.tables e below (s₁.setTop (entryFrame m #[(.ref a1)] 1)) t := by
                intro t k
                refine pre17 t ?_
                refine XS.ifYes X16.here hx rfl (pc0 := 51) (pc' := 58) rfl (hb hby d19_51) rfl ((if0 _ _).trans (flt (mt (lw_gt vk (0 : Int64)).mp h51)).2.2.2) (by decide) (by decide) ?_
                show Steps p.tables e below (T16.setTop (mkF m 58 #[.val (.ref a1)] [])) _
                refine XS.iconst X16.here hx rfl (hb hby d19_58) ?_
                show Steps p.tables e below (T16.setTop (mkF m 59 #[.val (.ref a1)] [(.int (0 : Int32))])) _
                exact k
              obtain ⟨fs, hr, hrun, hended, hW, hsame⟩ := X16.leave (v := some (.int (0 : Int32))) (fun h => by rw [Bd.returns] at h; cases h)
              refine ⟨_, _, pre19 _ ?_, hrun, hended, _, _, rfl, ?_, ⟨_, rfl⟩, hW, hsame.mono (by decide) (by decide)⟩
              · exact retN X16 hx (t := .boolean) Bd.returns (by simp) (hb hby d19_59) hr
              · show Q_rmDP Z a1 va vs ve vl vv vk h0 n0 _ T16.heap _
                rw [e16]
                exact ⟨by simp [own_dp, h6, h15, h24, h33, h42, h51], N0, rfl⟩
theorem own_len0 {s : State} {args : Array Value} {t : Term} {a : Addr} {c : Cell} {ty : FieldType} (ev : t.eval args s none [] s = some (.ref a)) (A : Arr s s.heap a c ty) (he : (Term.length t).eval args s none [] s = some (.int 0)) : c.slots.size = (0 : Int32).toNatClampNeg := by
  have e2 : s.arrayAt? a = some c := IntBox.arrayAt_of A.1 A.2.1 A.2.2
  by_cases hl : c.slots.size < 2 ^ 31
  · have e3 := len_f ev e2 hl
    rw [he] at e3
    have e4 : (0 : Int32) = c.slots.size.toInt32 := by
      have := Option.some.inj e3
      exact Value.int.inj this
    have e5 : (c.slots.size.toInt32).toInt = (c.slots.size : Int) := Int32.toInt_ofNat_of_lt hl
    rw [← e4] at e5
    have e6 : (0 : Int32).toInt = 0 := rfl
    show c.slots.size = 0
    omega
  · have hl' : ¬ c.slots.size < 2147483648 := hl
    simp [Term.eval, ev, e2, hl'] at he
theorem own_bit {P : Prop} [Decidable P] {u : Int32} (h : u = if P then (0 : Int32) else (1 : Int32)) : u = 0 ∨ u = 1 := by
  rw [h]; split
  · exact Or.inl rfl
  · exact Or.inr rfl
theorem own_pos {x z : Int32} (h : z = x &&& (2147483647 : Int32)) : 0 ≤ z.toInt := by
  have e1 : (x &&& 2147483647).toInt = x.toInt % 2 ^ 31 := Jvm.Kit.i32_mask x 2147483647 (k := 31) (by decide) (by decide)
  rw [h, e1]; omega
theorem own_lt64 (x : Int32) : ((0 : Int64) < x.toInt64) ↔ (0 : Int32) < x := by
  have e := Jvm.Kit.i64_of_i32 x
  have o0 : (0 : Int32).toInt = 0 := rfl
  have o1 : (0 : Int64).toInt = 0 := rfl
  rw [Int64.lt_iff_toInt_lt, Int32.lt_iff_toInt_lt, e, o0, o1]
theorem own_lt64' (x : Int32) : ((0 : Int64) < (0 : Int64) + x.toInt64) ↔ (0 : Int32) < x := by
  rw [Int64.zero_add]; exact own_lt64 x
theorem own_no : ¬ ((0 : Int64) < (0 : Int64)) := by decide
theorem own_A0 {u1 u2 pa pl m : Int32} (h : u1 = (0 : Int32)) : ((0 : Int64) < (0 : Int64) ∨ (0 : Int64) < (0 : Int64) ∨ (0 : Int64) < (0 : Int64)) ↔ (u1 = 1 ∧ ((0 : Int32) < pa ∨ (0 : Int32) < pl ∨ (u2 = 1 ∧ (0 : Int32) < m))) := by
  constructor
  · rintro (z | z | z) <;> exact absurd z own_no
  · rintro ⟨z, -⟩; rw [h] at z; exact absurd z (by decide)
theorem own_one {u : Int32} (h : u = 0 ∨ u = 1) (n : ¬ u = (0 : Int32)) : u = 1 := h.resolve_left n
theorem own_zero {u : Int32} (n : u = (0 : Int32)) : ¬ u = 1 := by rw [n]; decide
theorem own_A1a {u1 u2 pa pl m : Int32} (z1 : u1 = 0 ∨ u1 = 1) (h1 : ¬ u1 = (0 : Int32)) (z2 : u2 = 0 ∨ u2 = 1) (h2 : u2 = (0 : Int32)) (na : 0 ≤ pa.toInt) (nl : 0 ≤ pl.toInt) (hc : (0 : Int32) < pa ∨ (0 : Int32) < pl ∨ (0 : Int64) < (0 : Int64)) :
    ((0 : Int64) < pa.toInt64 ∨ (0 : Int64) < pl.toInt64 ∨ (0 : Int64) < (0 : Int64)) ↔ (u1 = 1 ∧ ((0 : Int32) < pa ∨ (0 : Int32) < pl ∨ (u2 = 1 ∧ (0 : Int32) < m))) := by
  have e1 := own_one z1 h1
  have e2 := own_zero h2
  rw [own_lt64, own_lt64]
  simp only [e1, e2, own_no, true_and, false_and, or_false]
theorem own_A1b {u1 u2 pa pl m : Int32} (z1 : u1 = 0 ∨ u1 = 1) (h1 : ¬ u1 = (0 : Int32)) (z2 : u2 = 0 ∨ u2 = 1) (h2 : ¬ u2 = (0 : Int32)) (na : 0 ≤ pa.toInt) (nl : 0 ≤ pl.toInt) (hc : (0 : Int32) < pa ∨ (0 : Int32) < pl ∨ (0 : Int64) < (0 : Int64) + m.toInt64) :
    ((0 : Int64) < pa.toInt64 ∨ (0 : Int64) < pl.toInt64 ∨ (0 : Int64) < (0 : Int64) + m.toInt64) ↔ (u1 = 1 ∧ ((0 : Int32) < pa ∨ (0 : Int32) < pl ∨ (u2 = 1 ∧ (0 : Int32) < m))) := by
  have e1 := own_one z1 h1
  have e2 := own_one z2 h2
  rw [own_lt64, own_lt64, own_lt64']
  simp only [e1, e2, true_and]
theorem own_A2a {u1 u2 pa pl m : Int32} (z2 : u2 = 0 ∨ u2 = 1) (h2 : u2 = (0 : Int32)) (n1 : ¬ ((0 : Int32) < pa)) (n2 : ¬ ((0 : Int32) < pl)) (n3 : ¬ ((0 : Int64) < (0 : Int64))) :
    ((0 : Int64) < (0 : Int64) ∨ (0 : Int64) < (0 : Int64) ∨ (0 : Int64) < (0 : Int64)) ↔ (u1 = 1 ∧ ((0 : Int32) < pa ∨ (0 : Int32) < pl ∨ (u2 = 1 ∧ (0 : Int32) < m))) := by
  have e2 := own_zero h2
  simp only [e2, n1, n2, own_no, false_and, or_false, and_false]
theorem own_A2b {u1 u2 pa pl m : Int32} (z2 : u2 = 0 ∨ u2 = 1) (h2 : ¬ u2 = (0 : Int32)) (n1 : ¬ ((0 : Int32) < pa)) (n2 : ¬ ((0 : Int32) < pl)) (n3 : ¬ ((0 : Int64) < (0 : Int64) + m.toInt64)) :
    ((0 : Int64) < (0 : Int64) ∨ (0 : Int64) < (0 : Int64) ∨ (0 : Int64) < (0 : Int64)) ↔ (u1 = 1 ∧ ((0 : Int32) < pa ∨ (0 : Int32) < pl ∨ (u2 = 1 ∧ (0 : Int32) < m))) := by
  rw [own_lt64'] at n3
  simp only [n3, n1, n2, own_no, or_false, and_false]
theorem own_B0 {u x : Int32} (h : u = (0 : Int32)) : ((0 : Int64) < (0 : Int64)) ↔ (u = 1 ∧ (0 : Int32) < x) := by
  have e := own_zero h
  simp only [e, own_no, false_and]
theorem own_B1 {u x : Int32} (z : u = 0 ∨ u = 1) (h : ¬ u = (0 : Int32)) (n : 0 ≤ x.toInt) : ((0 : Int64) < x.toInt64) ↔ (u = 1 ∧ (0 : Int32) < x) := by
  have e := own_one z h
  rw [own_lt64]; simp only [e, true_and]
theorem own_D1 {u x : Int32} (z : u = 0 ∨ u = 1) (h : ¬ u = (0 : Int32)) (n : 0 ≤ x.toInt) : ((0 : Int64) < (0 : Int64) + x.toInt64) ↔ (u = 1 ∧ (0 : Int32) < x) := by
  have e := own_one z h
  rw [own_lt64']; simp only [e, true_and]
theorem own_C0 {u : Int32} (h : u = (0 : Int32)) : ((0 : Int64) < (0 : Int64)) ↔ u = 1 := by
  have e := own_zero h
  simp only [e, own_no]
theorem own_C1 {u : Int32} (z : u = 0 ∨ u = 1) (h : ¬ u = (0 : Int32)) : ((0 : Int64) < (0 : Int64) + (1 : Int64)) ↔ u = 1 := by
  have e := own_one z h
  simp only [e, iff_true]; decide
theorem own_fin {va vs ve vl vv vk : Int64} {x : Int32} {A B C D : Prop} [Decidable (((A ∨ B) ∨ C) ∨ D)] (hA : ((0 : Int64) < va ∨ (0 : Int64) < vl ∨ (0 : Int64) < vk) ↔ A) (hB : ((0 : Int64) < vs) ↔ B) (hC : ((0 : Int64) < ve) ↔ C) (hD : ((0 : Int64) < vv) ↔ D) (hq : x = if (((A ∨ B) ∨ C) ∨ D) then (1 : Int32) else 0) : own_dp va vs ve vl vv vk = x := by
  by_cases hp : (((A ∨ B) ∨ C) ∨ D)
  · rw [if_pos hp] at hq
    rw [← hA, ← hB, ← hC, ← hD] at hp
    rw [hq]; unfold own_dp; clear hA hB hC hD hq
    by_cases h1 : (0 : Int64) < va <;> by_cases h2 : (0 : Int64) < vs <;> by_cases h3 : (0 : Int64) < ve <;> by_cases h4 : (0 : Int64) < vl <;> by_cases h5 : (0 : Int64) < vv <;> by_cases h6 : (0 : Int64) < vk <;> simp [h1, h2, h3, h4, h5, h6] <;> simp [h1, h2, h3, h4, h5, h6] at hp
  · rw [if_neg hp] at hq
    rw [← hA, ← hB, ← hC, ← hD] at hp
    rw [hq]; unfold own_dp; clear hA hB hC hD hq
    by_cases h1 : (0 : Int64) < va <;> by_cases h2 : (0 : Int64) < vs <;> by_cases h3 : (0 : Int64) < ve <;> by_cases h4 : (0 : Int64) < vl <;> by_cases h5 : (0 : Int64) < vv <;> by_cases h6 : (0 : Int64) < vk <;> simp [h1, h2, h3, h4, h5, h6] <;> simp [h1, h2, h3, h4, h5, h6] at hp

theorem ef_rm0 (m : MethodId) (x0 : Int32) (x1 : Int32) (x2 : Int32) (x3 : Int32) (x4 : Int32) (x5 : Int32) : entryFrame m #[(.int x0), (.int x1), (.int x2), (.int x3), (.int x4), (.int x5)] maxLocals = mkF m 0 #[.val (.int x0), .val (.int x1), .val (.int x2), .val (.int x3), .val (.int x4), .val (.int x5), .unset, .unset, .unset, .unset, .unset, .unset, .unset, .unset, .unset, .unset, .unset, .unset, .unset, .unset, .unset, .unset, .unset, .unset, .unset, .unset] [] := by first | (simp [entryFrame, mkF, argsToLocals, Value.category, maxLocals]; done) | rfl
theorem pn_2 : plainName "com/example/kiseki/kiseki/tracing/DroppedItemsDroppedPastLimitsPinLaw" = true := by first | (simp [plainName, overriddenIn]; done) | decide +kernel
theorem pd_9 : parseMethodDescriptor "(IILjava/util/List;)Lcom/example/kiseki/kiseki/tracing/DroppedItems;" = some ⟨[.int, .int, (.object "java/util/List")], some (.object "com/example/kiseki/kiseki/tracing/DroppedItems")⟩ := by decide +kernel
theorem pd_10 : parseMethodDescriptor "(Lcom/example/kiseki/kiseki/span/SpanContext;Lcom/example/kiseki/kiseki/span/Attributes;I)V" = some ⟨[(.object "com/example/kiseki/kiseki/span/SpanContext"), (.object "com/example/kiseki/kiseki/span/Attributes"), .int], none⟩ := by decide +kernel
theorem pd_11 : parseMethodDescriptor "(Ljava/lang/Object;)Z" = some ⟨[(.object "java/lang/Object")], some .boolean⟩ := by decide +kernel
theorem pd_12 : parseMethodDescriptor "(I)V" = some ⟨[.int], none⟩ := by decide +kernel
theorem pd_13 : parseMethodDescriptor "(Lcom/example/kiseki/kiseki/tracing/DroppedItems;JJJ)Lcom/example/kiseki/kiseki/tracing/DroppedItems;" = some ⟨[(.object "com/example/kiseki/kiseki/tracing/DroppedItems"), .long, .long, .long], some (.object "com/example/kiseki/kiseki/tracing/DroppedItems")⟩ := by decide +kernel
theorem pd_14 : parseMethodDescriptor "()Z" = some ⟨[], some .boolean⟩ := by decide +kernel
def Q_rm0 (Z : State) (p0 : Int32) (p1 : Int32) (p2 : Int32) (p3 : Int32) (p4 : Int32) (p5 : Int32) (aD : Addr) (cD : Cell) (aI : Addr) (aE : Addr) (h0 : Heap) (n0 : Nat) (v : Option Value) (h : Heap) (L : List Loc) : Prop := v = some (.int 1) ∧ Fr n0 L
set_option maxRecDepth 65536 in
set_option maxHeartbeats 40000000 in
theorem rm0 (l : Launch) (Z : State) (a0 : Array Value) (hw : ∀ d ∈ tables_1, d.before a0 Z = true) (ws : List Jvm.Cond) (p0 : Int32) (p1 : Int32) (p2 : Int32) (p3 : Int32) (p4 : Int32) (p5 : Int32) (aD : Addr) (cD : Cell) (aI : Addr) (aE : Addr) (h0 : Heap) (n0 : Nat) (Z0 : n0 ≤ h0.size) (O0 : Old Z n0 h0) (SD : Sta Z Z.heap "java/util/ArrayList" "DEFAULTCAPACITY_EMPTY_ELEMENTDATA" "[Ljava/lang/Object;" (.ref aD)) (SI : Sta Z Z.heap "com/example/kiseki/kiseki/span/SpanContext" "INVALID" "Lcom/example/kiseki/kiseki/span/SpanContext;" (.ref aI)) (SE : Sta Z Z.heap "com/example/kiseki/kiseki/span/Attributes" "EMPTY" "Lcom/example/kiseki/kiseki/span/Attributes;" (.ref aE)) (AD : Arr Z Z.heap aD cD (.object "java/lang/Object")) (SzD : cD.slots.size = (0 : Int32).toNatClampNeg) :
    MetFree l x (head1 (Jvm.Cond.code x code maxLocals ret :: ws) room_1) (fun a U => a = #[(.int p0), (.int p1), (.int p2), (.int p3), (.int p4), (.int p5)] ∧ Z.Warmed39 U.vm ∧ U.heap = h0) (fun _ _ _ _ _ => True) (fun _ U o U' => ∃ v L, o = .returned v ∧ Q_rm0 Z p0 p1 p2 p3 p4 p5 aD cD aI aE h0 n0 v U'.heap L ∧ FrameEnd U o U' L room_1.cells room_1.slots) := by
  refine MetFree.of_bodySF (plainFor_of_name pn_2) hisR ?_
  intro p e s m args below meth c s₁ Bd hml0 hP hK
  obtain ⟨rfl, hZ, hh⟩ := hP
  have hx := Bd.exec
  have hby := Bd.bytes
  have hml : c.maxLocals = 26 := hml0
  have hown : s.vm.findClass "com/example/kiseki/kiseki/tracing/DroppedItemsDroppedPastLimitsPinLaw" = some m.cls := (findClass_of_methodNamed Bd.named :)
  have hnm := (name_of_methodNamed Bd.named Bd.method).1
  have X0 : Stand p l e room_1 s m #[(.int p0), (.int p1), (.int p2), (.int p3), (.int p4), (.int p5)] below meth c s₁ [] 0 0 := Stand.of_body Bd
  have e0 : s₁.heap = h0 := by rw [← hh, Bd.state]; rfl
  have N0 := Fr.nil n0
  have pre0 : ∀ t, Steps p.tables e below (s₁.setTop (mkF m 0 #[.val (.int p0), .val (.int p1), .val (.int p2), .val (.int p3), .val (.int p4), .val (.int p5), .unset, .unset, .unset, .unset, .unset, .unset, .unset, .unset, .unset, .unset, .unset, .unset, .unset, .unset, .unset, .unset, .unset, .unset, .unset, .unset] [])) t → Steps p.tables e below (s₁.setTop (entryFrame m #[(.int p0), (.int p1), (.int p2), (.int p3), (.int p4), (.int p5)] maxLocals)) t := fun t k => castTop (ef_rm0 m p0 p1 p2 p3 p4 p5) k
  have pre1 : ∀ t, Steps p.tables e below (s₁.setTop (mkF m 4 #[.val (.int p0), .val (.int p1), .val (.int p2), .val (.int p3), .val (.int p4), .val (.int p5), .unset, .unset, .unset, .unset, .unset, .unset, .unset, .unset, .unset, .unset, .unset, .unset, .unset, .unset, .unset, .unset, .unset, .unset, .unset, .unset] [(.int (p5 &&& (1 : Int32)))])) t → Steps p.tables e below (s₁.setTop (entryFrame m #[(.int p0), (.int p1), (.int p2), (.int p3), (.int p4), (.int p5)] maxLocals)) t := by
    intro t k
    refine pre0 t ?_
    show Steps p.tables e below (s₁.setTop (mkF m 0 #[.val (.int p0), .val (.int p1), .val (.int p2), .val (.int p3), .val (.int p4), .val (.int p5), .unset, .unset, .unset, .unset, .unset, .unset, .unset, .unset, .unset, .unset, .unset, .unset, .unset, .unset, .unset, .unset, .unset, .unset, .unset, .unset] [])) _
    refine XS.iload X0.here hx rfl (hb hby at_0) rfl ?_
    show Steps p.tables e below (s₁.setTop (mkF m 2 #[.val (.int p0), .val (.int p1), .val (.int p2), .val (.int p3), .val (.int p4), .val (.int p5), .unset, .unset, .unset, .unset, .unset, .unset, .unset, .unset, .unset, .unset, .unset, .unset, .unset, .unset, .unset, .unset, .unset, .unset, .unset, .unset] [(.int p5)])) _
    refine XS.iconst X0.here hx rfl (hb hby at_2) ?_
    show Steps p.tables e below (s₁.setTop (mkF m 3 #[.val (.int p0), .val (.int p1), .val (.int p2), .val (.int p3), .val (.int p4), .val (.int p5), .unset, .unset, .unset, .unset, .unset, .unset, .unset, .unset, .unset, .unset, .unset, .unset, .unset, .unset, .unset, .unset, .unset, .unset, .unset, .unset] [(.int (1 : Int32)), (.int p5)])) _
    refine XS.iand X0.here hx rfl (hb hby at_3) rfl ?_
    show Steps p.tables e below (s₁.setTop (mkF m 4 #[.val (.int p0), .val (.int p1), .val (.int p2), .val (.int p3), .val (.int p4), .val (.int p5), .unset, .unset, .unset, .unset, .unset, .unset, .unset, .unset, .unset, .unset, .unset, .unset, .unset, .unset, .unset, .unset, .unset, .unset, .unset, .unset] [(.int (p5 &&& (1 : Int32)))])) _
    exact k
  obtain ⟨u1_0, hu1_0, preju1⟩ : ∃ (u1_0 : Int32), (u1_0 = if (p5 &&& (1 : Int32)) = (0 : Int32) then (0 : Int32) else (1 : Int32)) ∧ (∀ t, Steps p.tables e below (s₁.setTop (mkF m 12 #[.val (.int p0), .val (.int p1), .val (.int p2), .val (.int p3), .val (.int p4), .val (.int p5), .unset, .unset, .unset, .unset, .unset, .unset, .unset, .unset, .unset, .unset, .unset, .unset, .unset, .unset, .unset, .unset, .unset, .unset, .unset, .unset] [(.int u1_0)])) t → Steps p.tables e below (s₁.setTop (entryFrame m #[(.int p0), (.int p1), (.int p2), (.int p3), (.int p4), (.int p5)] maxLocals)) t) := by
    by_cases hju1 : (p5 &&& (1 : Int32)) = (0 : Int32)
    · skip
      have pre2 : ∀ t, Steps p.tables e below (s₁.setTop (mkF m 12 #[.val (.int p0), .val (.int p1), .val (.int p2), .val (.int p3), .val (.int p4), .val (.int p5), .unset, .unset, .unset, .unset, .unset, .unset, .unset, .unset, .unset, .unset, .unset, .unset, .unset, .unset, .unset, .unset, .unset, .unset, .unset, .unset] [(.int (0 : Int32))])) t → Steps p.tables e below (s₁.setTop (entryFrame m #[(.int p0), (.int p1), (.int p2), (.int p3), (.int p4), (.int p5)] maxLocals)) t := by
        intro t k
        refine pre1 t ?_
        refine XS.ifYes X0.here hx rfl (pc0 := 4) (pc' := 11) rfl (hb hby at_4) rfl ((if0 _ _).trans (teq hju1).1) (by decide) (by decide) ?_
        show Steps p.tables e below (s₁.setTop (mkF m 11 #[.val (.int p0), .val (.int p1), .val (.int p2), .val (.int p3), .val (.int p4), .val (.int p5), .unset, .unset, .unset, .unset, .unset, .unset, .unset, .unset, .unset, .unset, .unset, .unset, .unset, .unset, .unset, .unset, .unset, .unset, .unset, .unset] [])) _
        refine XS.iconst X0.here hx rfl (hb hby at_11) ?_
        show Steps p.tables e below (s₁.setTop (mkF m 12 #[.val (.int p0), .val (.int p1), .val (.int p2), .val (.int p3), .val (.int p4), .val (.int p5), .unset, .unset, .unset, .unset, .unset, .unset, .unset, .unset, .unset, .unset, .unset, .unset, .unset, .unset, .unset, .unset, .unset, .unset, .unset, .unset] [(.int (0 : Int32))])) _
        exact k
      exact ⟨(0 : Int32), by simp [hju1], pre2⟩
    · skip
      have pre3 : ∀ t, Steps p.tables e below (s₁.setTop (mkF m 12 #[.val (.int p0), .val (.int p1), .val (.int p2), .val (.int p3), .val (.int p4), .val (.int p5), .unset, .unset, .unset, .unset, .unset, .unset, .unset, .unset, .unset, .unset, .unset, .unset, .unset, .unset, .unset, .unset, .unset, .unset, .unset, .unset] [(.int (1 : Int32))])) t → Steps p.tables e below (s₁.setTop (entryFrame m #[(.int p0), (.int p1), (.int p2), (.int p3), (.int p4), (.int p5)] maxLocals)) t := by
        intro t k
        refine pre1 t ?_
        refine XS.ifNo X0.here hx rfl (hb hby at_4) rfl ((if0 _ _).trans (feq hju1).1) ?_
        show Steps p.tables e below (s₁.setTop (mkF m 7 #[.val (.int p0), .val (.int p1), .val (.int p2), .val (.int p3), .val (.int p4), .val (.int p5), .unset, .unset, .unset, .unset, .unset, .unset, .unset, .unset, .unset, .unset, .unset, .unset, .unset, .unset, .unset, .unset, .unset, .unset, .unset, .unset] [])) _
        refine XS.iconst X0.here hx rfl (hb hby at_7) ?_
        show Steps p.tables e below (s₁.setTop (mkF m 8 #[.val (.int p0), .val (.int p1), .val (.int p2), .val (.int p3), .val (.int p4), .val (.int p5), .unset, .unset, .unset, .unset, .unset, .unset, .unset, .unset, .unset, .unset, .unset, .unset, .unset, .unset, .unset, .unset, .unset, .unset, .unset, .unset] [(.int (1 : Int32))])) _
        refine XS.goto X0.here hx rfl (pc0 := 8) (pc' := 12) rfl (hb hby at_8) (by decide) (by decide) ?_
        show Steps p.tables e below (s₁.setTop (mkF m 12 #[.val (.int p0), .val (.int p1), .val (.int p2), .val (.int p3), .val (.int p4), .val (.int p5), .unset, .unset, .unset, .unset, .unset, .unset, .unset, .unset, .unset, .unset, .unset, .unset, .unset, .unset, .unset, .unset, .unset, .unset, .unset, .unset] [(.int (1 : Int32))])) _
        exact k
      exact ⟨(1 : Int32), by simp [hju1], pre3⟩
  have hz1 := own_bit hu1_0
  have pre4 : ∀ t, Steps p.tables e below (s₁.setTop (mkF m 18 #[.val (.int p0), .val (.int p1), .val (.int p2), .val (.int p3), .val (.int p4), .val (.int p5), .val (.int u1_0), .unset, .unset, .unset, .unset, .unset, .unset, .unset, .unset, .unset, .unset, .unset, .unset, .unset, .unset, .unset, .unset, .unset, .unset, .unset] [(.int (p5 &&& (2 : Int32)))])) t → Steps p.tables e below (s₁.setTop (entryFrame m #[(.int p0), (.int p1), (.int p2), (.int p3), (.int p4), (.int p5)] maxLocals)) t := by
    intro t k
    refine preju1 t ?_
    show Steps p.tables e below (s₁.setTop (mkF m 12 #[.val (.int p0), .val (.int p1), .val (.int p2), .val (.int p3), .val (.int p4), .val (.int p5), .unset, .unset, .unset, .unset, .unset, .unset, .unset, .unset, .unset, .unset, .unset, .unset, .unset, .unset, .unset, .unset, .unset, .unset, .unset, .unset] [(.int u1_0)])) _
    refine XS.istore X0.here hx rfl (hb hby at_12) rfl (l' := #[.val (.int p0), .val (.int p1), .val (.int p2), .val (.int p3), .val (.int p4), .val (.int p5), .val (.int u1_0), .unset, .unset, .unset, .unset, .unset, .unset, .unset, .unset, .unset, .unset, .unset, .unset, .unset, .unset, .unset, .unset, .unset, .unset, .unset]) rfl ?_
    show Steps p.tables e below (s₁.setTop (mkF m 14 #[.val (.int p0), .val (.int p1), .val (.int p2), .val (.int p3), .val (.int p4), .val (.int p5), .val (.int u1_0), .unset, .unset, .unset, .unset, .unset, .unset, .unset, .unset, .unset, .unset, .unset, .unset, .unset, .unset, .unset, .unset, .unset, .unset, .unset] [])) _
    refine XS.iload X0.here hx rfl (hb hby at_14) rfl ?_
    show Steps p.tables e below (s₁.setTop (mkF m 16 #[.val (.int p0), .val (.int p1), .val (.int p2), .val (.int p3), .val (.int p4), .val (.int p5), .val (.int u1_0), .unset, .unset, .unset, .unset, .unset, .unset, .unset, .unset, .unset, .unset, .unset, .unset, .unset, .unset, .unset, .unset, .unset, .unset, .unset] [(.int p5)])) _
    refine XS.iconst X0.here hx rfl (hb hby at_16) ?_
    show Steps p.tables e below (s₁.setTop (mkF m 17 #[.val (.int p0), .val (.int p1), .val (.int p2), .val (.int p3), .val (.int p4), .val (.int p5), .val (.int u1_0), .unset, .unset, .unset, .unset, .unset, .unset, .unset, .unset, .unset, .unset, .unset, .unset, .unset, .unset, .unset, .unset, .unset, .unset, .unset] [(.int (2 : Int32)), (.int p5)])) _
    refine XS.iand X0.here hx rfl (hb hby at_17) rfl ?_
    show Steps p.tables e below (s₁.setTop (mkF m 18 #[.val (.int p0), .val (.int p1), .val (.int p2), .val (.int p3), .val (.int p4), .val (.int p5), .val (.int u1_0), .unset, .unset, .unset, .unset, .unset, .unset, .unset, .unset, .unset, .unset, .unset, .unset, .unset, .unset, .unset, .unset, .unset, .unset, .unset] [(.int (p5 &&& (2 : Int32)))])) _
    exact k
  obtain ⟨u2_0, hu2_0, preju2⟩ : ∃ (u2_0 : Int32), (u2_0 = if (p5 &&& (2 : Int32)) = (0 : Int32) then (0 : Int32) else (1 : Int32)) ∧ (∀ t, Steps p.tables e below (s₁.setTop (mkF m 26 #[.val (.int p0), .val (.int p1), .val (.int p2), .val (.int p3), .val (.int p4), .val (.int p5), .val (.int u1_0), .unset, .unset, .unset, .unset, .unset, .unset, .unset, .unset, .unset, .unset, .unset, .unset, .unset, .unset, .unset, .unset, .unset, .unset, .unset] [(.int u2_0)])) t → Steps p.tables e below (s₁.setTop (entryFrame m #[(.int p0), (.int p1), (.int p2), (.int p3), (.int p4), (.int p5)] maxLocals)) t) := by
    by_cases hju2 : (p5 &&& (2 : Int32)) = (0 : Int32)
    · skip
      have pre5 : ∀ t, Steps p.tables e below (s₁.setTop (mkF m 26 #[.val (.int p0), .val (.int p1), .val (.int p2), .val (.int p3), .val (.int p4), .val (.int p5), .val (.int u1_0), .unset, .unset, .unset, .unset, .unset, .unset, .unset, .unset, .unset, .unset, .unset, .unset, .unset, .unset, .unset, .unset, .unset, .unset, .unset] [(.int (0 : Int32))])) t → Steps p.tables e below (s₁.setTop (entryFrame m #[(.int p0), (.int p1), (.int p2), (.int p3), (.int p4), (.int p5)] maxLocals)) t := by
        intro t k
        refine pre4 t ?_
        refine XS.ifYes X0.here hx rfl (pc0 := 18) (pc' := 25) rfl (hb hby at_18) rfl ((if0 _ _).trans (teq hju2).1) (by decide) (by decide) ?_
        show Steps p.tables e below (s₁.setTop (mkF m 25 #[.val (.int p0), .val (.int p1), .val (.int p2), .val (.int p3), .val (.int p4), .val (.int p5), .val (.int u1_0), .unset, .unset, .unset, .unset, .unset, .unset, .unset, .unset, .unset, .unset, .unset, .unset, .unset, .unset, .unset, .unset, .unset, .unset, .unset] [])) _
        refine XS.iconst X0.here hx rfl (hb hby at_25) ?_
        show Steps p.tables e below (s₁.setTop (mkF m 26 #[.val (.int p0), .val (.int p1), .val (.int p2), .val (.int p3), .val (.int p4), .val (.int p5), .val (.int u1_0), .unset, .unset, .unset, .unset, .unset, .unset, .unset, .unset, .unset, .unset, .unset, .unset, .unset, .unset, .unset, .unset, .unset, .unset, .unset] [(.int (0 : Int32))])) _
        exact k
      exact ⟨(0 : Int32), by simp [hju2], pre5⟩
    · skip
      have pre6 : ∀ t, Steps p.tables e below (s₁.setTop (mkF m 26 #[.val (.int p0), .val (.int p1), .val (.int p2), .val (.int p3), .val (.int p4), .val (.int p5), .val (.int u1_0), .unset, .unset, .unset, .unset, .unset, .unset, .unset, .unset, .unset, .unset, .unset, .unset, .unset, .unset, .unset, .unset, .unset, .unset, .unset] [(.int (1 : Int32))])) t → Steps p.tables e below (s₁.setTop (entryFrame m #[(.int p0), (.int p1), (.int p2), (.int p3), (.int p4), (.int p5)] maxLocals)) t := by
        intro t k
        refine pre4 t ?_
        refine XS.ifNo X0.here hx rfl (hb hby at_18) rfl ((if0 _ _).trans (feq hju2).1) ?_
        show Steps p.tables e below (s₁.setTop (mkF m 21 #[.val (.int p0), .val (.int p1), .val (.int p2), .val (.int p3), .val (.int p4), .val (.int p5), .val (.int u1_0), .unset, .unset, .unset, .unset, .unset, .unset, .unset, .unset, .unset, .unset, .unset, .unset, .unset, .unset, .unset, .unset, .unset, .unset, .unset] [])) _
        refine XS.iconst X0.here hx rfl (hb hby at_21) ?_
        show Steps p.tables e below (s₁.setTop (mkF m 22 #[.val (.int p0), .val (.int p1), .val (.int p2), .val (.int p3), .val (.int p4), .val (.int p5), .val (.int u1_0), .unset, .unset, .unset, .unset, .unset, .unset, .unset, .unset, .unset, .unset, .unset, .unset, .unset, .unset, .unset, .unset, .unset, .unset, .unset] [(.int (1 : Int32))])) _
        refine XS.goto X0.here hx rfl (pc0 := 22) (pc' := 26) rfl (hb hby at_22) (by decide) (by decide) ?_
        show Steps p.tables e below (s₁.setTop (mkF m 26 #[.val (.int p0), .val (.int p1), .val (.int p2), .val (.int p3), .val (.int p4), .val (.int p5), .val (.int u1_0), .unset, .unset, .unset, .unset, .unset, .unset, .unset, .unset, .unset, .unset, .unset, .unset, .unset, .unset, .unset, .unset, .unset, .unset, .unset] [(.int (1 : Int32))])) _
        exact k
      exact ⟨(1 : Int32), by simp [hju2], pre6⟩
  have hz2 := own_bit hu2_0
  have pre7 : ∀ t, Steps p.tables e below (s₁.setTop (mkF m 32 #[.val (.int p0), .val (.int p1), .val (.int p2), .val (.int p3), .val (.int p4), .val (.int p5), .val (.int u1_0), .val (.int u2_0), .unset, .unset, .unset, .unset, .unset, .unset, .unset, .unset, .unset, .unset, .unset, .unset, .unset, .unset, .unset, .unset, .unset, .unset] [(.int (p5 &&& (4 : Int32)))])) t → Steps p.tables e below (s₁.setTop (entryFrame m #[(.int p0), (.int p1), (.int p2), (.int p3), (.int p4), (.int p5)] maxLocals)) t := by
    intro t k
    refine preju2 t ?_
    show Steps p.tables e below (s₁.setTop (mkF m 26 #[.val (.int p0), .val (.int p1), .val (.int p2), .val (.int p3), .val (.int p4), .val (.int p5), .val (.int u1_0), .unset, .unset, .unset, .unset, .unset, .unset, .unset, .unset, .unset, .unset, .unset, .unset, .unset, .unset, .unset, .unset, .unset, .unset, .unset] [(.int u2_0)])) _
    refine XS.istore X0.here hx rfl (hb hby at_26) rfl (l' := #[.val (.int p0), .val (.int p1), .val (.int p2), .val (.int p3), .val (.int p4), .val (.int p5), .val (.int u1_0), .val (.int u2_0), .unset, .unset, .unset, .unset, .unset, .unset, .unset, .unset, .unset, .unset, .unset, .unset, .unset, .unset, .unset, .unset, .unset, .unset]) rfl ?_
    show Steps p.tables e below (s₁.setTop (mkF m 28 #[.val (.int p0), .val (.int p1), .val (.int p2), .val (.int p3), .val (.int p4), .val (.int p5), .val (.int u1_0), .val (.int u2_0), .unset, .unset, .unset, .unset, .unset, .unset, .unset, .unset, .unset, .unset, .unset, .unset, .unset, .unset, .unset, .unset, .unset, .unset] [])) _
    refine XS.iload X0.here hx rfl (hb hby at_28) rfl ?_
    show Steps p.tables e below (s₁.setTop (mkF m 30 #[.val (.int p0), .val (.int p1), .val (.int p2), .val (.int p3), .val (.int p4), .val (.int p5), .val (.int u1_0), .val (.int u2_0), .unset, .unset, .unset, .unset, .unset, .unset, .unset, .unset, .unset, .unset, .unset, .unset, .unset, .unset, .unset, .unset, .unset, .unset] [(.int p5)])) _
    refine XS.iconst X0.here hx rfl (hb hby at_30) ?_
    show Steps p.tables e below (s₁.setTop (mkF m 31 #[.val (.int p0), .val (.int p1), .val (.int p2), .val (.int p3), .val (.int p4), .val (.int p5), .val (.int u1_0), .val (.int u2_0), .unset, .unset, .unset, .unset, .unset, .unset, .unset, .unset, .unset, .unset, .unset, .unset, .unset, .unset, .unset, .unset, .unset, .unset] [(.int (4 : Int32)), (.int p5)])) _
    refine XS.iand X0.here hx rfl (hb hby at_31) rfl ?_
    show Steps p.tables e below (s₁.setTop (mkF m 32 #[.val (.int p0), .val (.int p1), .val (.int p2), .val (.int p3), .val (.int p4), .val (.int p5), .val (.int u1_0), .val (.int u2_0), .unset, .unset, .unset, .unset, .unset, .unset, .unset, .unset, .unset, .unset, .unset, .unset, .unset, .unset, .unset, .unset, .unset, .unset] [(.int (p5 &&& (4 : Int32)))])) _
    exact k
  obtain ⟨u3_0, hu3_0, preju3⟩ : ∃ (u3_0 : Int32), (u3_0 = if (p5 &&& (4 : Int32)) = (0 : Int32) then (0 : Int32) else (1 : Int32)) ∧ (∀ t, Steps p.tables e below (s₁.setTop (mkF m 40 #[.val (.int p0), .val (.int p1), .val (.int p2), .val (.int p3), .val (.int p4), .val (.int p5), .val (.int u1_0), .val (.int u2_0), .unset, .unset, .unset, .unset, .unset, .unset, .unset, .unset, .unset, .unset, .unset, .unset, .unset, .unset, .unset, .unset, .unset, .unset] [(.int u3_0)])) t → Steps p.tables e below (s₁.setTop (entryFrame m #[(.int p0), (.int p1), (.int p2), (.int p3), (.int p4), (.int p5)] maxLocals)) t) := by
    by_cases hju3 : (p5 &&& (4 : Int32)) = (0 : Int32)
    · skip
      have pre8 : ∀ t, Steps p.tables e below (s₁.setTop (mkF m 40 #[.val (.int p0), .val (.int p1), .val (.int p2), .val (.int p3), .val (.int p4), .val (.int p5), .val (.int u1_0), .val (.int u2_0), .unset, .unset, .unset, .unset, .unset, .unset, .unset, .unset, .unset, .unset, .unset, .unset, .unset, .unset, .unset, .unset, .unset, .unset] [(.int (0 : Int32))])) t → Steps p.tables e below (s₁.setTop (entryFrame m #[(.int p0), (.int p1), (.int p2), (.int p3), (.int p4), (.int p5)] maxLocals)) t := by
        intro t k
        refine pre7 t ?_
        refine XS.ifYes X0.here hx rfl (pc0 := 32) (pc' := 39) rfl (hb hby at_32) rfl ((if0 _ _).trans (teq hju3).1) (by decide) (by decide) ?_
        show Steps p.tables e below (s₁.setTop (mkF m 39 #[.val (.int p0), .val (.int p1), .val (.int p2), .val (.int p3), .val (.int p4), .val (.int p5), .val (.int u1_0), .val (.int u2_0), .unset, .unset, .unset, .unset, .unset, .unset, .unset, .unset, .unset, .unset, .unset, .unset, .unset, .unset, .unset, .unset, .unset, .unset] [])) _
        refine XS.iconst X0.here hx rfl (hb hby at_39) ?_
        show Steps p.tables e below (s₁.setTop (mkF m 40 #[.val (.int p0), .val (.int p1), .val (.int p2), .val (.int p3), .val (.int p4), .val (.int p5), .val (.int u1_0), .val (.int u2_0), .unset, .unset, .unset, .unset, .unset, .unset, .unset, .unset, .unset, .unset, .unset, .unset, .unset, .unset, .unset, .unset, .unset, .unset] [(.int (0 : Int32))])) _
        exact k
      exact ⟨(0 : Int32), by simp [hju3], pre8⟩
    · skip
      have pre9 : ∀ t, Steps p.tables e below (s₁.setTop (mkF m 40 #[.val (.int p0), .val (.int p1), .val (.int p2), .val (.int p3), .val (.int p4), .val (.int p5), .val (.int u1_0), .val (.int u2_0), .unset, .unset, .unset, .unset, .unset, .unset, .unset, .unset, .unset, .unset, .unset, .unset, .unset, .unset, .unset, .unset, .unset, .unset] [(.int (1 : Int32))])) t → Steps p.tables e below (s₁.setTop (entryFrame m #[(.int p0), (.int p1), (.int p2), (.int p3), (.int p4), (.int p5)] maxLocals)) t := by
        intro t k
        refine pre7 t ?_
        refine XS.ifNo X0.here hx rfl (hb hby at_32) rfl ((if0 _ _).trans (feq hju3).1) ?_
        show Steps p.tables e below (s₁.setTop (mkF m 35 #[.val (.int p0), .val (.int p1), .val (.int p2), .val (.int p3), .val (.int p4), .val (.int p5), .val (.int u1_0), .val (.int u2_0), .unset, .unset, .unset, .unset, .unset, .unset, .unset, .unset, .unset, .unset, .unset, .unset, .unset, .unset, .unset, .unset, .unset, .unset] [])) _
        refine XS.iconst X0.here hx rfl (hb hby at_35) ?_
        show Steps p.tables e below (s₁.setTop (mkF m 36 #[.val (.int p0), .val (.int p1), .val (.int p2), .val (.int p3), .val (.int p4), .val (.int p5), .val (.int u1_0), .val (.int u2_0), .unset, .unset, .unset, .unset, .unset, .unset, .unset, .unset, .unset, .unset, .unset, .unset, .unset, .unset, .unset, .unset, .unset, .unset] [(.int (1 : Int32))])) _
        refine XS.goto X0.here hx rfl (pc0 := 36) (pc' := 40) rfl (hb hby at_36) (by decide) (by decide) ?_
        show Steps p.tables e below (s₁.setTop (mkF m 40 #[.val (.int p0), .val (.int p1), .val (.int p2), .val (.int p3), .val (.int p4), .val (.int p5), .val (.int u1_0), .val (.int u2_0), .unset, .unset, .unset, .unset, .unset, .unset, .unset, .unset, .unset, .unset, .unset, .unset, .unset, .unset, .unset, .unset, .unset, .unset] [(.int (1 : Int32))])) _
        exact k
      exact ⟨(1 : Int32), by simp [hju3], pre9⟩
  have hz3 := own_bit hu3_0
  have pre10 : ∀ t, Steps p.tables e below (s₁.setTop (mkF m 47 #[.val (.int p0), .val (.int p1), .val (.int p2), .val (.int p3), .val (.int p4), .val (.int p5), .val (.int u1_0), .val (.int u2_0), .val (.int u3_0), .unset, .unset, .unset, .unset, .unset, .unset, .unset, .unset, .unset, .unset, .unset, .unset, .unset, .unset, .unset, .unset, .unset] [(.int (p5 &&& (8 : Int32)))])) t → Steps p.tables e below (s₁.setTop (entryFrame m #[(.int p0), (.int p1), (.int p2), (.int p3), (.int p4), (.int p5)] maxLocals)) t := by
    intro t k
    refine preju3 t ?_
    show Steps p.tables e below (s₁.setTop (mkF m 40 #[.val (.int p0), .val (.int p1), .val (.int p2), .val (.int p3), .val (.int p4), .val (.int p5), .val (.int u1_0), .val (.int u2_0), .unset, .unset, .unset, .unset, .unset, .unset, .unset, .unset, .unset, .unset, .unset, .unset, .unset, .unset, .unset, .unset, .unset, .unset] [(.int u3_0)])) _
    refine XS.istore X0.here hx rfl (hb hby at_40) rfl (l' := #[.val (.int p0), .val (.int p1), .val (.int p2), .val (.int p3), .val (.int p4), .val (.int p5), .val (.int u1_0), .val (.int u2_0), .val (.int u3_0), .unset, .unset, .unset, .unset, .unset, .unset, .unset, .unset, .unset, .unset, .unset, .unset, .unset, .unset, .unset, .unset, .unset]) rfl ?_
    show Steps p.tables e below (s₁.setTop (mkF m 42 #[.val (.int p0), .val (.int p1), .val (.int p2), .val (.int p3), .val (.int p4), .val (.int p5), .val (.int u1_0), .val (.int u2_0), .val (.int u3_0), .unset, .unset, .unset, .unset, .unset, .unset, .unset, .unset, .unset, .unset, .unset, .unset, .unset, .unset, .unset, .unset, .unset] [])) _
    refine XS.iload X0.here hx rfl (hb hby at_42) rfl ?_
    show Steps p.tables e below (s₁.setTop (mkF m 44 #[.val (.int p0), .val (.int p1), .val (.int p2), .val (.int p3), .val (.int p4), .val (.int p5), .val (.int u1_0), .val (.int u2_0), .val (.int u3_0), .unset, .unset, .unset, .unset, .unset, .unset, .unset, .unset, .unset, .unset, .unset, .unset, .unset, .unset, .unset, .unset, .unset] [(.int p5)])) _
    refine XS.bipush X0.here hx rfl (hb hby at_44) ?_
    show Steps p.tables e below (s₁.setTop (mkF m 46 #[.val (.int p0), .val (.int p1), .val (.int p2), .val (.int p3), .val (.int p4), .val (.int p5), .val (.int u1_0), .val (.int u2_0), .val (.int u3_0), .unset, .unset, .unset, .unset, .unset, .unset, .unset, .unset, .unset, .unset, .unset, .unset, .unset, .unset, .unset, .unset, .unset] [(.int (8 : Int32)), (.int p5)])) _
    refine XS.iand X0.here hx rfl (hb hby at_46) rfl ?_
    show Steps p.tables e below (s₁.setTop (mkF m 47 #[.val (.int p0), .val (.int p1), .val (.int p2), .val (.int p3), .val (.int p4), .val (.int p5), .val (.int u1_0), .val (.int u2_0), .val (.int u3_0), .unset, .unset, .unset, .unset, .unset, .unset, .unset, .unset, .unset, .unset, .unset, .unset, .unset, .unset, .unset, .unset, .unset] [(.int (p5 &&& (8 : Int32)))])) _
    exact k
  obtain ⟨u4_0, hu4_0, preju4⟩ : ∃ (u4_0 : Int32), (u4_0 = if (p5 &&& (8 : Int32)) = (0 : Int32) then (0 : Int32) else (1 : Int32)) ∧ (∀ t, Steps p.tables e below (s₁.setTop (mkF m 55 #[.val (.int p0), .val (.int p1), .val (.int p2), .val (.int p3), .val (.int p4), .val (.int p5), .val (.int u1_0), .val (.int u2_0), .val (.int u3_0), .unset, .unset, .unset, .unset, .unset, .unset, .unset, .unset, .unset, .unset, .unset, .unset, .unset, .unset, .unset, .unset, .unset] [(.int u4_0)])) t → Steps p.tables e below (s₁.setTop (entryFrame m #[(.int p0), (.int p1), (.int p2), (.int p3), (.int p4), (.int p5)] maxLocals)) t) := by
    by_cases hju4 : (p5 &&& (8 : Int32)) = (0 : Int32)
    · skip
      have pre11 : ∀ t, Steps p.tables e below (s₁.setTop (mkF m 55 #[.val (.int p0), .val (.int p1), .val (.int p2), .val (.int p3), .val (.int p4), .val (.int p5), .val (.int u1_0), .val (.int u2_0), .val (.int u3_0), .unset, .unset, .unset, .unset, .unset, .unset, .unset, .unset, .unset, .unset, .unset, .unset, .unset, .unset, .unset, .unset, .unset] [(.int (0 : Int32))])) t → Steps p.tables e below (s₁.setTop (entryFrame m #[(.int p0), (.int p1), (.int p2), (.int p3), (.int p4), (.int p5)] maxLocals)) t := by
        intro t k
        refine pre10 t ?_
        refine XS.ifYes X0.here hx rfl (pc0 := 47) (pc' := 54) rfl (hb hby at_47) rfl ((if0 _ _).trans (teq hju4).1) (by decide) (by decide) ?_
        show Steps p.tables e below (s₁.setTop (mkF m 54 #[.val (.int p0), .val (.int p1), .val (.int p2), .val (.int p3), .val (.int p4), .val (.int p5), .val (.int u1_0), .val (.int u2_0), .val (.int u3_0), .unset, .unset, .unset, .unset, .unset, .unset, .unset, .unset, .unset, .unset, .unset, .unset, .unset, .unset, .unset, .unset, .unset] [])) _
        refine XS.iconst X0.here hx rfl (hb hby at_54) ?_
        show Steps p.tables e below (s₁.setTop (mkF m 55 #[.val (.int p0), .val (.int p1), .val (.int p2), .val (.int p3), .val (.int p4), .val (.int p5), .val (.int u1_0), .val (.int u2_0), .val (.int u3_0), .unset, .unset, .unset, .unset, .unset, .unset, .unset, .unset, .unset, .unset, .unset, .unset, .unset, .unset, .unset, .unset, .unset] [(.int (0 : Int32))])) _
        exact k
      exact ⟨(0 : Int32), by simp [hju4], pre11⟩
    · skip
      have pre12 : ∀ t, Steps p.tables e below (s₁.setTop (mkF m 55 #[.val (.int p0), .val (.int p1), .val (.int p2), .val (.int p3), .val (.int p4), .val (.int p5), .val (.int u1_0), .val (.int u2_0), .val (.int u3_0), .unset, .unset, .unset, .unset, .unset, .unset, .unset, .unset, .unset, .unset, .unset, .unset, .unset, .unset, .unset, .unset, .unset] [(.int (1 : Int32))])) t → Steps p.tables e below (s₁.setTop (entryFrame m #[(.int p0), (.int p1), (.int p2), (.int p3), (.int p4), (.int p5)] maxLocals)) t := by
        intro t k
        refine pre10 t ?_
        refine XS.ifNo X0.here hx rfl (hb hby at_47) rfl ((if0 _ _).trans (feq hju4).1) ?_
        show Steps p.tables e below (s₁.setTop (mkF m 50 #[.val (.int p0), .val (.int p1), .val (.int p2), .val (.int p3), .val (.int p4), .val (.int p5), .val (.int u1_0), .val (.int u2_0), .val (.int u3_0), .unset, .unset, .unset, .unset, .unset, .unset, .unset, .unset, .unset, .unset, .unset, .unset, .unset, .unset, .unset, .unset, .unset] [])) _
        refine XS.iconst X0.here hx rfl (hb hby at_50) ?_
        show Steps p.tables e below (s₁.setTop (mkF m 51 #[.val (.int p0), .val (.int p1), .val (.int p2), .val (.int p3), .val (.int p4), .val (.int p5), .val (.int u1_0), .val (.int u2_0), .val (.int u3_0), .unset, .unset, .unset, .unset, .unset, .unset, .unset, .unset, .unset, .unset, .unset, .unset, .unset, .unset, .unset, .unset, .unset] [(.int (1 : Int32))])) _
        refine XS.goto X0.here hx rfl (pc0 := 51) (pc' := 55) rfl (hb hby at_51) (by decide) (by decide) ?_
        show Steps p.tables e below (s₁.setTop (mkF m 55 #[.val (.int p0), .val (.int p1), .val (.int p2), .val (.int p3), .val (.int p4), .val (.int p5), .val (.int u1_0), .val (.int u2_0), .val (.int u3_0), .unset, .unset, .unset, .unset, .unset, .unset, .unset, .unset, .unset, .unset, .unset, .unset, .unset, .unset, .unset, .unset, .unset] [(.int (1 : Int32))])) _
        exact k
      exact ⟨(1 : Int32), by simp [hju4], pre12⟩
  have hz4 := own_bit hu4_0
  have pre13 : ∀ t, Steps p.tables e below (s₁.setTop (mkF m 62 #[.val (.int p0), .val (.int p1), .val (.int p2), .val (.int p3), .val (.int p4), .val (.int p5), .val (.int u1_0), .val (.int u2_0), .val (.int u3_0), .val (.int u4_0), .unset, .unset, .unset, .unset, .unset, .unset, .unset, .unset, .unset, .unset, .unset, .unset, .unset, .unset, .unset, .unset] [(.int (p5 &&& (16 : Int32)))])) t → Steps p.tables e below (s₁.setTop (entryFrame m #[(.int p0), (.int p1), (.int p2), (.int p3), (.int p4), (.int p5)] maxLocals)) t := by
    intro t k
    refine preju4 t ?_
    show Steps p.tables e below (s₁.setTop (mkF m 55 #[.val (.int p0), .val (.int p1), .val (.int p2), .val (.int p3), .val (.int p4), .val (.int p5), .val (.int u1_0), .val (.int u2_0), .val (.int u3_0), .unset, .unset, .unset, .unset, .unset, .unset, .unset, .unset, .unset, .unset, .unset, .unset, .unset, .unset, .unset, .unset, .unset] [(.int u4_0)])) _
    refine XS.istore X0.here hx rfl (hb hby at_55) rfl (l' := #[.val (.int p0), .val (.int p1), .val (.int p2), .val (.int p3), .val (.int p4), .val (.int p5), .val (.int u1_0), .val (.int u2_0), .val (.int u3_0), .val (.int u4_0), .unset, .unset, .unset, .unset, .unset, .unset, .unset, .unset, .unset, .unset, .unset, .unset, .unset, .unset, .unset, .unset]) rfl ?_
    show Steps p.tables e below (s₁.setTop (mkF m 57 #[.val (.int p0), .val (.int p1), .val (.int p2), .val (.int p3), .val (.int p4), .val (.int p5), .val (.int u1_0), .val (.int u2_0), .val (.int u3_0), .val (.int u4_0), .unset, .unset, .unset, .unset, .unset, .unset, .unset, .unset, .unset, .unset, .unset, .unset, .unset, .unset, .unset, .unset] [])) _
    refine XS.iload X0.here hx rfl (hb hby at_57) rfl ?_
    show Steps p.tables e below (s₁.setTop (mkF m 59 #[.val (.int p0), .val (.int p1), .val (.int p2), .val (.int p3), .val (.int p4), .val (.int p5), .val (.int u1_0), .val (.int u2_0), .val (.int u3_0), .val (.int u4_0), .unset, .unset, .unset, .unset, .unset, .unset, .unset, .unset, .unset, .unset, .unset, .unset, .unset, .unset, .unset, .unset] [(.int p5)])) _
    refine XS.bipush X0.here hx rfl (hb hby at_59) ?_
    show Steps p.tables e below (s₁.setTop (mkF m 61 #[.val (.int p0), .val (.int p1), .val (.int p2), .val (.int p3), .val (.int p4), .val (.int p5), .val (.int u1_0), .val (.int u2_0), .val (.int u3_0), .val (.int u4_0), .unset, .unset, .unset, .unset, .unset, .unset, .unset, .unset, .unset, .unset, .unset, .unset, .unset, .unset, .unset, .unset] [(.int (16 : Int32)), (.int p5)])) _
    refine XS.iand X0.here hx rfl (hb hby at_61) rfl ?_
    show Steps p.tables e below (s₁.setTop (mkF m 62 #[.val (.int p0), .val (.int p1), .val (.int p2), .val (.int p3), .val (.int p4), .val (.int p5), .val (.int u1_0), .val (.int u2_0), .val (.int u3_0), .val (.int u4_0), .unset, .unset, .unset, .unset, .unset, .unset, .unset, .unset, .unset, .unset, .unset, .unset, .unset, .unset, .unset, .unset] [(.int (p5 &&& (16 : Int32)))])) _
    exact k
  obtain ⟨u5_0, hu5_0, preju5⟩ : ∃ (u5_0 : Int32), (u5_0 = if (p5 &&& (16 : Int32)) = (0 : Int32) then (0 : Int32) else (1 : Int32)) ∧ (∀ t, Steps p.tables e below (s₁.setTop (mkF m 70 #[.val (.int p0), .val (.int p1), .val (.int p2), .val (.int p3), .val (.int p4), .val (.int p5), .val (.int u1_0), .val (.int u2_0), .val (.int u3_0), .val (.int u4_0), .unset, .unset, .unset, .unset, .unset, .unset, .unset, .unset, .unset, .unset, .unset, .unset, .unset, .unset, .unset, .unset] [(.int u5_0)])) t → Steps p.tables e below (s₁.setTop (entryFrame m #[(.int p0), (.int p1), (.int p2), (.int p3), (.int p4), (.int p5)] maxLocals)) t) := by
    by_cases hju5 : (p5 &&& (16 : Int32)) = (0 : Int32)
    · skip
      have pre14 : ∀ t, Steps p.tables e below (s₁.setTop (mkF m 70 #[.val (.int p0), .val (.int p1), .val (.int p2), .val (.int p3), .val (.int p4), .val (.int p5), .val (.int u1_0), .val (.int u2_0), .val (.int u3_0), .val (.int u4_0), .unset, .unset, .unset, .unset, .unset, .unset, .unset, .unset, .unset, .unset, .unset, .unset, .unset, .unset, .unset, .unset] [(.int (0 : Int32))])) t → Steps p.tables e below (s₁.setTop (entryFrame m #[(.int p0), (.int p1), (.int p2), (.int p3), (.int p4), (.int p5)] maxLocals)) t := by
        intro t k
        refine pre13 t ?_
        refine XS.ifYes X0.here hx rfl (pc0 := 62) (pc' := 69) rfl (hb hby at_62) rfl ((if0 _ _).trans (teq hju5).1) (by decide) (by decide) ?_
        show Steps p.tables e below (s₁.setTop (mkF m 69 #[.val (.int p0), .val (.int p1), .val (.int p2), .val (.int p3), .val (.int p4), .val (.int p5), .val (.int u1_0), .val (.int u2_0), .val (.int u3_0), .val (.int u4_0), .unset, .unset, .unset, .unset, .unset, .unset, .unset, .unset, .unset, .unset, .unset, .unset, .unset, .unset, .unset, .unset] [])) _
        refine XS.iconst X0.here hx rfl (hb hby at_69) ?_
        show Steps p.tables e below (s₁.setTop (mkF m 70 #[.val (.int p0), .val (.int p1), .val (.int p2), .val (.int p3), .val (.int p4), .val (.int p5), .val (.int u1_0), .val (.int u2_0), .val (.int u3_0), .val (.int u4_0), .unset, .unset, .unset, .unset, .unset, .unset, .unset, .unset, .unset, .unset, .unset, .unset, .unset, .unset, .unset, .unset] [(.int (0 : Int32))])) _
        exact k
      exact ⟨(0 : Int32), by simp [hju5], pre14⟩
    · skip
      have pre15 : ∀ t, Steps p.tables e below (s₁.setTop (mkF m 70 #[.val (.int p0), .val (.int p1), .val (.int p2), .val (.int p3), .val (.int p4), .val (.int p5), .val (.int u1_0), .val (.int u2_0), .val (.int u3_0), .val (.int u4_0), .unset, .unset, .unset, .unset, .unset, .unset, .unset, .unset, .unset, .unset, .unset, .unset, .unset, .unset, .unset, .unset] [(.int (1 : Int32))])) t → Steps p.tables e below (s₁.setTop (entryFrame m #[(.int p0), (.int p1), (.int p2), (.int p3), (.int p4), (.int p5)] maxLocals)) t := by
        intro t k
        refine pre13 t ?_
        refine XS.ifNo X0.here hx rfl (hb hby at_62) rfl ((if0 _ _).trans (feq hju5).1) ?_
        show Steps p.tables e below (s₁.setTop (mkF m 65 #[.val (.int p0), .val (.int p1), .val (.int p2), .val (.int p3), .val (.int p4), .val (.int p5), .val (.int u1_0), .val (.int u2_0), .val (.int u3_0), .val (.int u4_0), .unset, .unset, .unset, .unset, .unset, .unset, .unset, .unset, .unset, .unset, .unset, .unset, .unset, .unset, .unset, .unset] [])) _
        refine XS.iconst X0.here hx rfl (hb hby at_65) ?_
        show Steps p.tables e below (s₁.setTop (mkF m 66 #[.val (.int p0), .val (.int p1), .val (.int p2), .val (.int p3), .val (.int p4), .val (.int p5), .val (.int u1_0), .val (.int u2_0), .val (.int u3_0), .val (.int u4_0), .unset, .unset, .unset, .unset, .unset, .unset, .unset, .unset, .unset, .unset, .unset, .unset, .unset, .unset, .unset, .unset] [(.int (1 : Int32))])) _
        refine XS.goto X0.here hx rfl (pc0 := 66) (pc' := 70) rfl (hb hby at_66) (by decide) (by decide) ?_
        show Steps p.tables e below (s₁.setTop (mkF m 70 #[.val (.int p0), .val (.int p1), .val (.int p2), .val (.int p3), .val (.int p4), .val (.int p5), .val (.int u1_0), .val (.int u2_0), .val (.int u3_0), .val (.int u4_0), .unset, .unset, .unset, .unset, .unset, .unset, .unset, .unset, .unset, .unset, .unset, .unset, .unset, .unset, .unset, .unset] [(.int (1 : Int32))])) _
        exact k
      exact ⟨(1 : Int32), by simp [hju5], pre15⟩
  have hz5 := own_bit hu5_0
  have pre16 : ∀ t, Steps p.tables e below (s₁.setTop (mkF m 77 #[.val (.int p0), .val (.int p1), .val (.int p2), .val (.int p3), .val (.int p4), .val (.int p5), .val (.int u1_0), .val (.int u2_0), .val (.int u3_0), .val (.int u4_0), .val (.int u5_0), .unset, .unset, .unset, .unset, .unset, .unset, .unset, .unset, .unset, .unset, .unset, .unset, .unset, .unset, .unset] [(.int (p5 &&& (32 : Int32)))])) t → Steps p.tables e below (s₁.setTop (entryFrame m #[(.int p0), (.int p1), (.int p2), (.int p3), (.int p4), (.int p5)] maxLocals)) t := by
    intro t k
    refine preju5 t ?_
    show Steps p.tables e below (s₁.setTop (mkF m 70 #[.val (.int p0), .val (.int p1), .val (.int p2), .val (.int p3), .val (.int p4), .val (.int p5), .val (.int u1_0), .val (.int u2_0), .val (.int u3_0), .val (.int u4_0), .unset, .unset, .unset, .unset, .unset, .unset, .unset, .unset, .unset, .unset, .unset, .unset, .unset, .unset, .unset, .unset] [(.int u5_0)])) _
    refine XS.istore X0.here hx rfl (hb hby at_70) rfl (l' := #[.val (.int p0), .val (.int p1), .val (.int p2), .val (.int p3), .val (.int p4), .val (.int p5), .val (.int u1_0), .val (.int u2_0), .val (.int u3_0), .val (.int u4_0), .val (.int u5_0), .unset, .unset, .unset, .unset, .unset, .unset, .unset, .unset, .unset, .unset, .unset, .unset, .unset, .unset, .unset]) rfl ?_
    show Steps p.tables e below (s₁.setTop (mkF m 72 #[.val (.int p0), .val (.int p1), .val (.int p2), .val (.int p3), .val (.int p4), .val (.int p5), .val (.int u1_0), .val (.int u2_0), .val (.int u3_0), .val (.int u4_0), .val (.int u5_0), .unset, .unset, .unset, .unset, .unset, .unset, .unset, .unset, .unset, .unset, .unset, .unset, .unset, .unset, .unset] [])) _
    refine XS.iload X0.here hx rfl (hb hby at_72) rfl ?_
    show Steps p.tables e below (s₁.setTop (mkF m 74 #[.val (.int p0), .val (.int p1), .val (.int p2), .val (.int p3), .val (.int p4), .val (.int p5), .val (.int u1_0), .val (.int u2_0), .val (.int u3_0), .val (.int u4_0), .val (.int u5_0), .unset, .unset, .unset, .unset, .unset, .unset, .unset, .unset, .unset, .unset, .unset, .unset, .unset, .unset, .unset] [(.int p5)])) _
    refine XS.bipush X0.here hx rfl (hb hby at_74) ?_
    show Steps p.tables e below (s₁.setTop (mkF m 76 #[.val (.int p0), .val (.int p1), .val (.int p2), .val (.int p3), .val (.int p4), .val (.int p5), .val (.int u1_0), .val (.int u2_0), .val (.int u3_0), .val (.int u4_0), .val (.int u5_0), .unset, .unset, .unset, .unset, .unset, .unset, .unset, .unset, .unset, .unset, .unset, .unset, .unset, .unset, .unset] [(.int (32 : Int32)), (.int p5)])) _
    refine XS.iand X0.here hx rfl (hb hby at_76) rfl ?_
    show Steps p.tables e below (s₁.setTop (mkF m 77 #[.val (.int p0), .val (.int p1), .val (.int p2), .val (.int p3), .val (.int p4), .val (.int p5), .val (.int u1_0), .val (.int u2_0), .val (.int u3_0), .val (.int u4_0), .val (.int u5_0), .unset, .unset, .unset, .unset, .unset, .unset, .unset, .unset, .unset, .unset, .unset, .unset, .unset, .unset, .unset] [(.int (p5 &&& (32 : Int32)))])) _
    exact k
  obtain ⟨u6_0, hu6_0, preju6⟩ : ∃ (u6_0 : Int32), (u6_0 = if (p5 &&& (32 : Int32)) = (0 : Int32) then (0 : Int32) else (1 : Int32)) ∧ (∀ t, Steps p.tables e below (s₁.setTop (mkF m 85 #[.val (.int p0), .val (.int p1), .val (.int p2), .val (.int p3), .val (.int p4), .val (.int p5), .val (.int u1_0), .val (.int u2_0), .val (.int u3_0), .val (.int u4_0), .val (.int u5_0), .unset, .unset, .unset, .unset, .unset, .unset, .unset, .unset, .unset, .unset, .unset, .unset, .unset, .unset, .unset] [(.int u6_0)])) t → Steps p.tables e below (s₁.setTop (entryFrame m #[(.int p0), (.int p1), (.int p2), (.int p3), (.int p4), (.int p5)] maxLocals)) t) := by
    by_cases hju6 : (p5 &&& (32 : Int32)) = (0 : Int32)
    · skip
      have pre17 : ∀ t, Steps p.tables e below (s₁.setTop (mkF m 85 #[.val (.int p0), .val (.int p1), .val (.int p2), .val (.int p3), .val (.int p4), .val (.int p5), .val (.int u1_0), .val (.int u2_0), .val (.int u3_0), .val (.int u4_0), .val (.int u5_0), .unset, .unset, .unset, .unset, .unset, .unset, .unset, .unset, .unset, .unset, .unset, .unset, .unset, .unset, .unset] [(.int (0 : Int32))])) t → Steps p.tables e below (s₁.setTop (entryFrame m #[(.int p0), (.int p1), (.int p2), (.int p3), (.int p4), (.int p5)] maxLocals)) t := by
        intro t k
        refine pre16 t ?_
        refine XS.ifYes X0.here hx rfl (pc0 := 77) (pc' := 84) rfl (hb hby at_77) rfl ((if0 _ _).trans (teq hju6).1) (by decide) (by decide) ?_
        show Steps p.tables e below (s₁.setTop (mkF m 84 #[.val (.int p0), .val (.int p1), .val (.int p2), .val (.int p3), .val (.int p4), .val (.int p5), .val (.int u1_0), .val (.int u2_0), .val (.int u3_0), .val (.int u4_0), .val (.int u5_0), .unset, .unset, .unset, .unset, .unset, .unset, .unset, .unset, .unset, .unset, .unset, .unset, .unset, .unset, .unset] [])) _
        refine XS.iconst X0.here hx rfl (hb hby at_84) ?_
        show Steps p.tables e below (s₁.setTop (mkF m 85 #[.val (.int p0), .val (.int p1), .val (.int p2), .val (.int p3), .val (.int p4), .val (.int p5), .val (.int u1_0), .val (.int u2_0), .val (.int u3_0), .val (.int u4_0), .val (.int u5_0), .unset, .unset, .unset, .unset, .unset, .unset, .unset, .unset, .unset, .unset, .unset, .unset, .unset, .unset, .unset] [(.int (0 : Int32))])) _
        exact k
      exact ⟨(0 : Int32), by simp [hju6], pre17⟩
    · skip
      have pre18 : ∀ t, Steps p.tables e below (s₁.setTop (mkF m 85 #[.val (.int p0), .val (.int p1), .val (.int p2), .val (.int p3), .val (.int p4), .val (.int p5), .val (.int u1_0), .val (.int u2_0), .val (.int u3_0), .val (.int u4_0), .val (.int u5_0), .unset, .unset, .unset, .unset, .unset, .unset, .unset, .unset, .unset, .unset, .unset, .unset, .unset, .unset, .unset] [(.int (1 : Int32))])) t → Steps p.tables e below (s₁.setTop (entryFrame m #[(.int p0), (.int p1), (.int p2), (.int p3), (.int p4), (.int p5)] maxLocals)) t := by
        intro t k
        refine pre16 t ?_
        refine XS.ifNo X0.here hx rfl (hb hby at_77) rfl ((if0 _ _).trans (feq hju6).1) ?_
        show Steps p.tables e below (s₁.setTop (mkF m 80 #[.val (.int p0), .val (.int p1), .val (.int p2), .val (.int p3), .val (.int p4), .val (.int p5), .val (.int u1_0), .val (.int u2_0), .val (.int u3_0), .val (.int u4_0), .val (.int u5_0), .unset, .unset, .unset, .unset, .unset, .unset, .unset, .unset, .unset, .unset, .unset, .unset, .unset, .unset, .unset] [])) _
        refine XS.iconst X0.here hx rfl (hb hby at_80) ?_
        show Steps p.tables e below (s₁.setTop (mkF m 81 #[.val (.int p0), .val (.int p1), .val (.int p2), .val (.int p3), .val (.int p4), .val (.int p5), .val (.int u1_0), .val (.int u2_0), .val (.int u3_0), .val (.int u4_0), .val (.int u5_0), .unset, .unset, .unset, .unset, .unset, .unset, .unset, .unset, .unset, .unset, .unset, .unset, .unset, .unset, .unset] [(.int (1 : Int32))])) _
        refine XS.goto X0.here hx rfl (pc0 := 81) (pc' := 85) rfl (hb hby at_81) (by decide) (by decide) ?_
        show Steps p.tables e below (s₁.setTop (mkF m 85 #[.val (.int p0), .val (.int p1), .val (.int p2), .val (.int p3), .val (.int p4), .val (.int p5), .val (.int u1_0), .val (.int u2_0), .val (.int u3_0), .val (.int u4_0), .val (.int u5_0), .unset, .unset, .unset, .unset, .unset, .unset, .unset, .unset, .unset, .unset, .unset, .unset, .unset, .unset, .unset] [(.int (1 : Int32))])) _
        exact k
      exact ⟨(1 : Int32), by simp [hju6], pre18⟩
  have hz6 := own_bit hu6_0
  have pre19 : ∀ t, Steps p.tables e below (s₁.setTop (mkF m 91 #[.val (.int p0), .val (.int p1), .val (.int p2), .val (.int p3), .val (.int p4), .val (.int p5), .val (.int u1_0), .val (.int u2_0), .val (.int u3_0), .val (.int u4_0), .val (.int u5_0), .val (.int u6_0), .unset, .unset, .unset, .unset, .unset, .unset, .unset, .unset, .unset, .unset, .unset, .unset, .unset, .unset] [(.int (p0 &&& (2147483647 : Int32)))])) t → Steps p.tables e below (s₁.setTop (entryFrame m #[(.int p0), (.int p1), (.int p2), (.int p3), (.int p4), (.int p5)] maxLocals)) t := by
    intro t k
    refine preju6 t ?_
    show Steps p.tables e below (s₁.setTop (mkF m 85 #[.val (.int p0), .val (.int p1), .val (.int p2), .val (.int p3), .val (.int p4), .val (.int p5), .val (.int u1_0), .val (.int u2_0), .val (.int u3_0), .val (.int u4_0), .val (.int u5_0), .unset, .unset, .unset, .unset, .unset, .unset, .unset, .unset, .unset, .unset, .unset, .unset, .unset, .unset, .unset] [(.int u6_0)])) _
    refine XS.istore X0.here hx rfl (hb hby at_85) rfl (l' := #[.val (.int p0), .val (.int p1), .val (.int p2), .val (.int p3), .val (.int p4), .val (.int p5), .val (.int u1_0), .val (.int u2_0), .val (.int u3_0), .val (.int u4_0), .val (.int u5_0), .val (.int u6_0), .unset, .unset, .unset, .unset, .unset, .unset, .unset, .unset, .unset, .unset, .unset, .unset, .unset, .unset]) rfl ?_
    show Steps p.tables e below (s₁.setTop (mkF m 87 #[.val (.int p0), .val (.int p1), .val (.int p2), .val (.int p3), .val (.int p4), .val (.int p5), .val (.int u1_0), .val (.int u2_0), .val (.int u3_0), .val (.int u4_0), .val (.int u5_0), .val (.int u6_0), .unset, .unset, .unset, .unset, .unset, .unset, .unset, .unset, .unset, .unset, .unset, .unset, .unset, .unset] [])) _
    refine XS.iloadN X0.here hx rfl (hb hby at_87) rfl ?_
    show Steps p.tables e below (s₁.setTop (mkF m 88 #[.val (.int p0), .val (.int p1), .val (.int p2), .val (.int p3), .val (.int p4), .val (.int p5), .val (.int u1_0), .val (.int u2_0), .val (.int u3_0), .val (.int u4_0), .val (.int u5_0), .val (.int u6_0), .unset, .unset, .unset, .unset, .unset, .unset, .unset, .unset, .unset, .unset, .unset, .unset, .unset, .unset] [(.int p0)])) _
    refine X0.ldcInt hx hown (mvT hZ (hw _ (List.mem_of_getElem? (i := 0) rfl))) (g := (mkF m 88 #[.val (.int p0), .val (.int p1), .val (.int p2), .val (.int p3), .val (.int p4), .val (.int p5), .val (.int u1_0), .val (.int u2_0), .val (.int u3_0), .val (.int u4_0), .val (.int u5_0), .val (.int u6_0), .unset, .unset, .unset, .unset, .unset, .unset, .unset, .unset, .unset, .unset, .unset, .unset, .unset, .unset] [(.int p0)])) rfl (hb hby at_88) _ ?_
    show Steps p.tables e below (s₁.setTop (mkF m 90 #[.val (.int p0), .val (.int p1), .val (.int p2), .val (.int p3), .val (.int p4), .val (.int p5), .val (.int u1_0), .val (.int u2_0), .val (.int u3_0), .val (.int u4_0), .val (.int u5_0), .val (.int u6_0), .unset, .unset, .unset, .unset, .unset, .unset, .unset, .unset, .unset, .unset, .unset, .unset, .unset, .unset] [(.int (2147483647 : Int32)), (.int p0)])) _
    refine XS.iand X0.here hx rfl (hb hby at_90) rfl ?_
    show Steps p.tables e below (s₁.setTop (mkF m 91 #[.val (.int p0), .val (.int p1), .val (.int p2), .val (.int p3), .val (.int p4), .val (.int p5), .val (.int u1_0), .val (.int u2_0), .val (.int u3_0), .val (.int u4_0), .val (.int u5_0), .val (.int u6_0), .unset, .unset, .unset, .unset, .unset, .unset, .unset, .unset, .unset, .unset, .unset, .unset, .unset, .unset] [(.int (p0 &&& (2147483647 : Int32)))])) _
    exact k
  obtain ⟨pa, hpa⟩ : ∃ z : Int32, z = (p0 &&& (2147483647 : Int32)) := ⟨_, rfl⟩
  rw [← hpa] at pre19
  have pre20 : ∀ t, Steps p.tables e below (s₁.setTop (mkF m 97 #[.val (.int p0), .val (.int p1), .val (.int p2), .val (.int p3), .val (.int p4), .val (.int p5), .val (.int u1_0), .val (.int u2_0), .val (.int u3_0), .val (.int u4_0), .val (.int u5_0), .val (.int u6_0), .val (.int pa), .unset, .unset, .unset, .unset, .unset, .unset, .unset, .unset, .unset, .unset, .unset, .unset, .unset] [(.int (p1 &&& (2147483647 : Int32)))])) t → Steps p.tables e below (s₁.setTop (entryFrame m #[(.int p0), (.int p1), (.int p2), (.int p3), (.int p4), (.int p5)] maxLocals)) t := by
    intro t k
    refine pre19 t ?_
    show Steps p.tables e below (s₁.setTop (mkF m 91 #[.val (.int p0), .val (.int p1), .val (.int p2), .val (.int p3), .val (.int p4), .val (.int p5), .val (.int u1_0), .val (.int u2_0), .val (.int u3_0), .val (.int u4_0), .val (.int u5_0), .val (.int u6_0), .unset, .unset, .unset, .unset, .unset, .unset, .unset, .unset, .unset, .unset, .unset, .unset, .unset, .unset] [(.int pa)])) _
    refine XS.istore X0.here hx rfl (hb hby at_91) rfl (l' := #[.val (.int p0), .val (.int p1), .val (.int p2), .val (.int p3), .val (.int p4), .val (.int p5), .val (.int u1_0), .val (.int u2_0), .val (.int u3_0), .val (.int u4_0), .val (.int u5_0), .val (.int u6_0), .val (.int pa), .unset, .unset, .unset, .unset, .unset, .unset, .unset, .unset, .unset, .unset, .unset, .unset, .unset]) rfl ?_
    show Steps p.tables e below (s₁.setTop (mkF m 93 #[.val (.int p0), .val (.int p1), .val (.int p2), .val (.int p3), .val (.int p4), .val (.int p5), .val (.int u1_0), .val (.int u2_0), .val (.int u3_0), .val (.int u4_0), .val (.int u5_0), .val (.int u6_0), .val (.int pa), .unset, .unset, .unset, .unset, .unset, .unset, .unset, .unset, .unset, .unset, .unset, .unset, .unset] [])) _
    refine XS.iloadN X0.here hx rfl (hb hby at_93) rfl ?_
    show Steps p.tables e below (s₁.setTop (mkF m 94 #[.val (.int p0), .val (.int p1), .val (.int p2), .val (.int p3), .val (.int p4), .val (.int p5), .val (.int u1_0), .val (.int u2_0), .val (.int u3_0), .val (.int u4_0), .val (.int u5_0), .val (.int u6_0), .val (.int pa), .unset, .unset, .unset, .unset, .unset, .unset, .unset, .unset, .unset, .unset, .unset, .unset, .unset] [(.int p1)])) _
    refine X0.ldcInt hx hown (mvT hZ (hw _ (List.mem_of_getElem? (i := 0) rfl))) (g := (mkF m 94 #[.val (.int p0), .val (.int p1), .val (.int p2), .val (.int p3), .val (.int p4), .val (.int p5), .val (.int u1_0), .val (.int u2_0), .val (.int u3_0), .val (.int u4_0), .val (.int u5_0), .val (.int u6_0), .val (.int pa), .unset, .unset, .unset, .unset, .unset, .unset, .unset, .unset, .unset, .unset, .unset, .unset, .unset] [(.int p1)])) rfl (hb hby at_94) _ ?_
    show Steps p.tables e below (s₁.setTop (mkF m 96 #[.val (.int p0), .val (.int p1), .val (.int p2), .val (.int p3), .val (.int p4), .val (.int p5), .val (.int u1_0), .val (.int u2_0), .val (.int u3_0), .val (.int u4_0), .val (.int u5_0), .val (.int u6_0), .val (.int pa), .unset, .unset, .unset, .unset, .unset, .unset, .unset, .unset, .unset, .unset, .unset, .unset, .unset] [(.int (2147483647 : Int32)), (.int p1)])) _
    refine XS.iand X0.here hx rfl (hb hby at_96) rfl ?_
    show Steps p.tables e below (s₁.setTop (mkF m 97 #[.val (.int p0), .val (.int p1), .val (.int p2), .val (.int p3), .val (.int p4), .val (.int p5), .val (.int u1_0), .val (.int u2_0), .val (.int u3_0), .val (.int u4_0), .val (.int u5_0), .val (.int u6_0), .val (.int pa), .unset, .unset, .unset, .unset, .unset, .unset, .unset, .unset, .unset, .unset, .unset, .unset, .unset] [(.int (p1 &&& (2147483647 : Int32)))])) _
    exact k
  obtain ⟨pl, hpl⟩ : ∃ z : Int32, z = (p1 &&& (2147483647 : Int32)) := ⟨_, rfl⟩
  rw [← hpl] at pre20
  have pre21 : ∀ t, Steps p.tables e below (s₁.setTop (mkF m 103 #[.val (.int p0), .val (.int p1), .val (.int p2), .val (.int p3), .val (.int p4), .val (.int p5), .val (.int u1_0), .val (.int u2_0), .val (.int u3_0), .val (.int u4_0), .val (.int u5_0), .val (.int u6_0), .val (.int pa), .val (.int pl), .unset, .unset, .unset, .unset, .unset, .unset, .unset, .unset, .unset, .unset, .unset, .unset] [(.int (p3 &&& (2147483647 : Int32)))])) t → Steps p.tables e below (s₁.setTop (entryFrame m #[(.int p0), (.int p1), (.int p2), (.int p3), (.int p4), (.int p5)] maxLocals)) t := by
    intro t k
    refine pre20 t ?_
    show Steps p.tables e below (s₁.setTop (mkF m 97 #[.val (.int p0), .val (.int p1), .val (.int p2), .val (.int p3), .val (.int p4), .val (.int p5), .val (.int u1_0), .val (.int u2_0), .val (.int u3_0), .val (.int u4_0), .val (.int u5_0), .val (.int u6_0), .val (.int pa), .unset, .unset, .unset, .unset, .unset, .unset, .unset, .unset, .unset, .unset, .unset, .unset, .unset] [(.int pl)])) _
    refine XS.istore X0.here hx rfl (hb hby at_97) rfl (l' := #[.val (.int p0), .val (.int p1), .val (.int p2), .val (.int p3), .val (.int p4), .val (.int p5), .val (.int u1_0), .val (.int u2_0), .val (.int u3_0), .val (.int u4_0), .val (.int u5_0), .val (.int u6_0), .val (.int pa), .val (.int pl), .unset, .unset, .unset, .unset, .unset, .unset, .unset, .unset, .unset, .unset, .unset, .unset]) rfl ?_
    show Steps p.tables e below (s₁.setTop (mkF m 99 #[.val (.int p0), .val (.int p1), .val (.int p2), .val (.int p3), .val (.int p4), .val (.int p5), .val (.int u1_0), .val (.int u2_0), .val (.int u3_0), .val (.int u4_0), .val (.int u5_0), .val (.int u6_0), .val (.int pa), .val (.int pl), .unset, .unset, .unset, .unset, .unset, .unset, .unset, .unset, .unset, .unset, .unset, .unset] [])) _
    refine XS.iloadN X0.here hx rfl (hb hby at_99) rfl ?_
    show Steps p.tables e below (s₁.setTop (mkF m 100 #[.val (.int p0), .val (.int p1), .val (.int p2), .val (.int p3), .val (.int p4), .val (.int p5), .val (.int u1_0), .val (.int u2_0), .val (.int u3_0), .val (.int u4_0), .val (.int u5_0), .val (.int u6_0), .val (.int pa), .val (.int pl), .unset, .unset, .unset, .unset, .unset, .unset, .unset, .unset, .unset, .unset, .unset, .unset] [(.int p3)])) _
    refine X0.ldcInt hx hown (mvT hZ (hw _ (List.mem_of_getElem? (i := 0) rfl))) (g := (mkF m 100 #[.val (.int p0), .val (.int p1), .val (.int p2), .val (.int p3), .val (.int p4), .val (.int p5), .val (.int u1_0), .val (.int u2_0), .val (.int u3_0), .val (.int u4_0), .val (.int u5_0), .val (.int u6_0), .val (.int pa), .val (.int pl), .unset, .unset, .unset, .unset, .unset, .unset, .unset, .unset, .unset, .unset, .unset, .unset] [(.int p3)])) rfl (hb hby at_100) _ ?_
    show Steps p.tables e below (s₁.setTop (mkF m 102 #[.val (.int p0), .val (.int p1), .val (.int p2), .val (.int p3), .val (.int p4), .val (.int p5), .val (.int u1_0), .val (.int u2_0), .val (.int u3_0), .val (.int u4_0), .val (.int u5_0), .val (.int u6_0), .val (.int pa), .val (.int pl), .unset, .unset, .unset, .unset, .unset, .unset, .unset, .unset, .unset, .unset, .unset, .unset] [(.int (2147483647 : Int32)), (.int p3)])) _
    refine XS.iand X0.here hx rfl (hb hby at_102) rfl ?_
    show Steps p.tables e below (s₁.setTop (mkF m 103 #[.val (.int p0), .val (.int p1), .val (.int p2), .val (.int p3), .val (.int p4), .val (.int p5), .val (.int u1_0), .val (.int u2_0), .val (.int u3_0), .val (.int u4_0), .val (.int u5_0), .val (.int u6_0), .val (.int pa), .val (.int pl), .unset, .unset, .unset, .unset, .unset, .unset, .unset, .unset, .unset, .unset, .unset, .unset] [(.int (p3 &&& (2147483647 : Int32)))])) _
    exact k
  obtain ⟨ps, hps⟩ : ∃ z : Int32, z = (p3 &&& (2147483647 : Int32)) := ⟨_, rfl⟩
  rw [← hps] at pre21
  have pre22 : ∀ t, Steps p.tables e below (s₁.setTop (mkF m 110 #[.val (.int p0), .val (.int p1), .val (.int p2), .val (.int p3), .val (.int p4), .val (.int p5), .val (.int u1_0), .val (.int u2_0), .val (.int u3_0), .val (.int u4_0), .val (.int u5_0), .val (.int u6_0), .val (.int pa), .val (.int pl), .val (.int ps), .unset, .unset, .unset, .unset, .unset, .unset, .unset, .unset, .unset, .unset, .unset] [(.int (p4 &&& (2147483647 : Int32)))])) t → Steps p.tables e below (s₁.setTop (entryFrame m #[(.int p0), (.int p1), (.int p2), (.int p3), (.int p4), (.int p5)] maxLocals)) t := by
    intro t k
    refine pre21 t ?_
    show Steps p.tables e below (s₁.setTop (mkF m 103 #[.val (.int p0), .val (.int p1), .val (.int p2), .val (.int p3), .val (.int p4), .val (.int p5), .val (.int u1_0), .val (.int u2_0), .val (.int u3_0), .val (.int u4_0), .val (.int u5_0), .val (.int u6_0), .val (.int pa), .val (.int pl), .unset, .unset, .unset, .unset, .unset, .unset, .unset, .unset, .unset, .unset, .unset, .unset] [(.int ps)])) _
    refine XS.istore X0.here hx rfl (hb hby at_103) rfl (l' := #[.val (.int p0), .val (.int p1), .val (.int p2), .val (.int p3), .val (.int p4), .val (.int p5), .val (.int u1_0), .val (.int u2_0), .val (.int u3_0), .val (.int u4_0), .val (.int u5_0), .val (.int u6_0), .val (.int pa), .val (.int pl), .val (.int ps), .unset, .unset, .unset, .unset, .unset, .unset, .unset, .unset, .unset, .unset, .unset]) rfl ?_
    show Steps p.tables e below (s₁.setTop (mkF m 105 #[.val (.int p0), .val (.int p1), .val (.int p2), .val (.int p3), .val (.int p4), .val (.int p5), .val (.int u1_0), .val (.int u2_0), .val (.int u3_0), .val (.int u4_0), .val (.int u5_0), .val (.int u6_0), .val (.int pa), .val (.int pl), .val (.int ps), .unset, .unset, .unset, .unset, .unset, .unset, .unset, .unset, .unset, .unset, .unset] [])) _
    refine XS.iload X0.here hx rfl (hb hby at_105) rfl ?_
    show Steps p.tables e below (s₁.setTop (mkF m 107 #[.val (.int p0), .val (.int p1), .val (.int p2), .val (.int p3), .val (.int p4), .val (.int p5), .val (.int u1_0), .val (.int u2_0), .val (.int u3_0), .val (.int u4_0), .val (.int u5_0), .val (.int u6_0), .val (.int pa), .val (.int pl), .val (.int ps), .unset, .unset, .unset, .unset, .unset, .unset, .unset, .unset, .unset, .unset, .unset] [(.int p4)])) _
    refine X0.ldcInt hx hown (mvT hZ (hw _ (List.mem_of_getElem? (i := 0) rfl))) (g := (mkF m 107 #[.val (.int p0), .val (.int p1), .val (.int p2), .val (.int p3), .val (.int p4), .val (.int p5), .val (.int u1_0), .val (.int u2_0), .val (.int u3_0), .val (.int u4_0), .val (.int u5_0), .val (.int u6_0), .val (.int pa), .val (.int pl), .val (.int ps), .unset, .unset, .unset, .unset, .unset, .unset, .unset, .unset, .unset, .unset, .unset] [(.int p4)])) rfl (hb hby at_107) _ ?_
    show Steps p.tables e below (s₁.setTop (mkF m 109 #[.val (.int p0), .val (.int p1), .val (.int p2), .val (.int p3), .val (.int p4), .val (.int p5), .val (.int u1_0), .val (.int u2_0), .val (.int u3_0), .val (.int u4_0), .val (.int u5_0), .val (.int u6_0), .val (.int pa), .val (.int pl), .val (.int ps), .unset, .unset, .unset, .unset, .unset, .unset, .unset, .unset, .unset, .unset, .unset] [(.int (2147483647 : Int32)), (.int p4)])) _
    refine XS.iand X0.here hx rfl (hb hby at_109) rfl ?_
    show Steps p.tables e below (s₁.setTop (mkF m 110 #[.val (.int p0), .val (.int p1), .val (.int p2), .val (.int p3), .val (.int p4), .val (.int p5), .val (.int u1_0), .val (.int u2_0), .val (.int u3_0), .val (.int u4_0), .val (.int u5_0), .val (.int u6_0), .val (.int pa), .val (.int pl), .val (.int ps), .unset, .unset, .unset, .unset, .unset, .unset, .unset, .unset, .unset, .unset, .unset] [(.int (p4 &&& (2147483647 : Int32)))])) _
    exact k
  obtain ⟨pe, hpe⟩ : ∃ z : Int32, z = (p4 &&& (2147483647 : Int32)) := ⟨_, rfl⟩
  rw [← hpe] at pre22
  have pre23 : ∀ t, Steps p.tables e below (s₁.setTop (mkF m 122 #[.val (.int p0), .val (.int p1), .val (.int p2), .val (.int p3), .val (.int p4), .val (.int p5), .val (.int u1_0), .val (.int u2_0), .val (.int u3_0), .val (.int u4_0), .val (.int u5_0), .val (.int u6_0), .val (.int pa), .val (.int pl), .val (.int ps), .val (.int pe), .unset, .unset, .unset, .unset, .unset, .unset, .unset, .unset, .unset, .unset] [(.long ((((p5.toUInt32 >>> ((8 : Int32) &&& 31).toUInt32).toInt32) &&& (255 : Int32)).toInt64))])) t → Steps p.tables e below (s₁.setTop (entryFrame m #[(.int p0), (.int p1), (.int p2), (.int p3), (.int p4), (.int p5)] maxLocals)) t := by
    intro t k
    refine pre22 t ?_
    show Steps p.tables e below (s₁.setTop (mkF m 110 #[.val (.int p0), .val (.int p1), .val (.int p2), .val (.int p3), .val (.int p4), .val (.int p5), .val (.int u1_0), .val (.int u2_0), .val (.int u3_0), .val (.int u4_0), .val (.int u5_0), .val (.int u6_0), .val (.int pa), .val (.int pl), .val (.int ps), .unset, .unset, .unset, .unset, .unset, .unset, .unset, .unset, .unset, .unset, .unset] [(.int pe)])) _
    refine XS.istore X0.here hx rfl (hb hby at_110) rfl (l' := #[.val (.int p0), .val (.int p1), .val (.int p2), .val (.int p3), .val (.int p4), .val (.int p5), .val (.int u1_0), .val (.int u2_0), .val (.int u3_0), .val (.int u4_0), .val (.int u5_0), .val (.int u6_0), .val (.int pa), .val (.int pl), .val (.int ps), .val (.int pe), .unset, .unset, .unset, .unset, .unset, .unset, .unset, .unset, .unset, .unset]) rfl ?_
    show Steps p.tables e below (s₁.setTop (mkF m 112 #[.val (.int p0), .val (.int p1), .val (.int p2), .val (.int p3), .val (.int p4), .val (.int p5), .val (.int u1_0), .val (.int u2_0), .val (.int u3_0), .val (.int u4_0), .val (.int u5_0), .val (.int u6_0), .val (.int pa), .val (.int pl), .val (.int ps), .val (.int pe), .unset, .unset, .unset, .unset, .unset, .unset, .unset, .unset, .unset, .unset] [])) _
    refine XS.iload X0.here hx rfl (hb hby at_112) rfl ?_
    show Steps p.tables e below (s₁.setTop (mkF m 114 #[.val (.int p0), .val (.int p1), .val (.int p2), .val (.int p3), .val (.int p4), .val (.int p5), .val (.int u1_0), .val (.int u2_0), .val (.int u3_0), .val (.int u4_0), .val (.int u5_0), .val (.int u6_0), .val (.int pa), .val (.int pl), .val (.int ps), .val (.int pe), .unset, .unset, .unset, .unset, .unset, .unset, .unset, .unset, .unset, .unset] [(.int p5)])) _
    refine XS.bipush X0.here hx rfl (hb hby at_114) ?_
    show Steps p.tables e below (s₁.setTop (mkF m 116 #[.val (.int p0), .val (.int p1), .val (.int p2), .val (.int p3), .val (.int p4), .val (.int p5), .val (.int u1_0), .val (.int u2_0), .val (.int u3_0), .val (.int u4_0), .val (.int u5_0), .val (.int u6_0), .val (.int pa), .val (.int pl), .val (.int ps), .val (.int pe), .unset, .unset, .unset, .unset, .unset, .unset, .unset, .unset, .unset, .unset] [(.int (8 : Int32)), (.int p5)])) _
    refine XS.iushr X0.here hx rfl (hb hby at_116) rfl ?_
    show Steps p.tables e below (s₁.setTop (mkF m 117 #[.val (.int p0), .val (.int p1), .val (.int p2), .val (.int p3), .val (.int p4), .val (.int p5), .val (.int u1_0), .val (.int u2_0), .val (.int u3_0), .val (.int u4_0), .val (.int u5_0), .val (.int u6_0), .val (.int pa), .val (.int pl), .val (.int ps), .val (.int pe), .unset, .unset, .unset, .unset, .unset, .unset, .unset, .unset, .unset, .unset] [(.int ((p5.toUInt32 >>> ((8 : Int32) &&& 31).toUInt32).toInt32))])) _
    refine XS.sipush X0.here hx rfl (hb hby at_117) ?_
    show Steps p.tables e below (s₁.setTop (mkF m 120 #[.val (.int p0), .val (.int p1), .val (.int p2), .val (.int p3), .val (.int p4), .val (.int p5), .val (.int u1_0), .val (.int u2_0), .val (.int u3_0), .val (.int u4_0), .val (.int u5_0), .val (.int u6_0), .val (.int pa), .val (.int pl), .val (.int ps), .val (.int pe), .unset, .unset, .unset, .unset, .unset, .unset, .unset, .unset, .unset, .unset] [(.int (255 : Int32)), (.int ((p5.toUInt32 >>> ((8 : Int32) &&& 31).toUInt32).toInt32))])) _
    refine XS.iand X0.here hx rfl (hb hby at_120) rfl ?_
    show Steps p.tables e below (s₁.setTop (mkF m 121 #[.val (.int p0), .val (.int p1), .val (.int p2), .val (.int p3), .val (.int p4), .val (.int p5), .val (.int u1_0), .val (.int u2_0), .val (.int u3_0), .val (.int u4_0), .val (.int u5_0), .val (.int u6_0), .val (.int pa), .val (.int pl), .val (.int ps), .val (.int pe), .unset, .unset, .unset, .unset, .unset, .unset, .unset, .unset, .unset, .unset] [(.int (((p5.toUInt32 >>> ((8 : Int32) &&& 31).toUInt32).toInt32) &&& (255 : Int32)))])) _
    refine XS.i2l X0.here hx rfl (hb hby at_121) rfl ?_
    show Steps p.tables e below (s₁.setTop (mkF m 122 #[.val (.int p0), .val (.int p1), .val (.int p2), .val (.int p3), .val (.int p4), .val (.int p5), .val (.int u1_0), .val (.int u2_0), .val (.int u3_0), .val (.int u4_0), .val (.int u5_0), .val (.int u6_0), .val (.int pa), .val (.int pl), .val (.int ps), .val (.int pe), .unset, .unset, .unset, .unset, .unset, .unset, .unset, .unset, .unset, .unset] [(.long ((((p5.toUInt32 >>> ((8 : Int32) &&& 31).toUInt32).toInt32) &&& (255 : Int32)).toInt64))])) _
    exact k
  obtain ⟨ea, hea⟩ : ∃ z : Int64, z = ((((p5.toUInt32 >>> ((8 : Int32) &&& 31).toUInt32).toInt32) &&& (255 : Int32)).toInt64) := ⟨_, rfl⟩
  rw [← hea] at pre23
  have pre24 : ∀ t, Steps p.tables e below (s₁.setTop (mkF m 134 #[.val (.int p0), .val (.int p1), .val (.int p2), .val (.int p3), .val (.int p4), .val (.int p5), .val (.int u1_0), .val (.int u2_0), .val (.int u3_0), .val (.int u4_0), .val (.int u5_0), .val (.int u6_0), .val (.int pa), .val (.int pl), .val (.int ps), .val (.int pe), .val (.long ea), .second, .unset, .unset, .unset, .unset, .unset, .unset, .unset, .unset] [(.long ((((p5.toUInt32 >>> ((16 : Int32) &&& 31).toUInt32).toInt32) &&& (255 : Int32)).toInt64))])) t → Steps p.tables e below (s₁.setTop (entryFrame m #[(.int p0), (.int p1), (.int p2), (.int p3), (.int p4), (.int p5)] maxLocals)) t := by
    intro t k
    refine pre23 t ?_
    show Steps p.tables e below (s₁.setTop (mkF m 122 #[.val (.int p0), .val (.int p1), .val (.int p2), .val (.int p3), .val (.int p4), .val (.int p5), .val (.int u1_0), .val (.int u2_0), .val (.int u3_0), .val (.int u4_0), .val (.int u5_0), .val (.int u6_0), .val (.int pa), .val (.int pl), .val (.int ps), .val (.int pe), .unset, .unset, .unset, .unset, .unset, .unset, .unset, .unset, .unset, .unset] [(.long ea)])) _
    refine XS.lstore X0.here hx rfl (hb hby at_122) rfl (l' := #[.val (.int p0), .val (.int p1), .val (.int p2), .val (.int p3), .val (.int p4), .val (.int p5), .val (.int u1_0), .val (.int u2_0), .val (.int u3_0), .val (.int u4_0), .val (.int u5_0), .val (.int u6_0), .val (.int pa), .val (.int pl), .val (.int ps), .val (.int pe), .val (.long ea), .second, .unset, .unset, .unset, .unset, .unset, .unset, .unset, .unset]) rfl ?_
    show Steps p.tables e below (s₁.setTop (mkF m 124 #[.val (.int p0), .val (.int p1), .val (.int p2), .val (.int p3), .val (.int p4), .val (.int p5), .val (.int u1_0), .val (.int u2_0), .val (.int u3_0), .val (.int u4_0), .val (.int u5_0), .val (.int u6_0), .val (.int pa), .val (.int pl), .val (.int ps), .val (.int pe), .val (.long ea), .second, .unset, .unset, .unset, .unset, .unset, .unset, .unset, .unset] [])) _
    refine XS.iload X0.here hx rfl (hb hby at_124) rfl ?_
    show Steps p.tables e below (s₁.setTop (mkF m 126 #[.val (.int p0), .val (.int p1), .val (.int p2), .val (.int p3), .val (.int p4), .val (.int p5), .val (.int u1_0), .val (.int u2_0), .val (.int u3_0), .val (.int u4_0), .val (.int u5_0), .val (.int u6_0), .val (.int pa), .val (.int pl), .val (.int ps), .val (.int pe), .val (.long ea), .second, .unset, .unset, .unset, .unset, .unset, .unset, .unset, .unset] [(.int p5)])) _
    refine XS.bipush X0.here hx rfl (hb hby at_126) ?_
    show Steps p.tables e below (s₁.setTop (mkF m 128 #[.val (.int p0), .val (.int p1), .val (.int p2), .val (.int p3), .val (.int p4), .val (.int p5), .val (.int u1_0), .val (.int u2_0), .val (.int u3_0), .val (.int u4_0), .val (.int u5_0), .val (.int u6_0), .val (.int pa), .val (.int pl), .val (.int ps), .val (.int pe), .val (.long ea), .second, .unset, .unset, .unset, .unset, .unset, .unset, .unset, .unset] [(.int (16 : Int32)), (.int p5)])) _
    refine XS.iushr X0.here hx rfl (hb hby at_128) rfl ?_
    show Steps p.tables e below (s₁.setTop (mkF m 129 #[.val (.int p0), .val (.int p1), .val (.int p2), .val (.int p3), .val (.int p4), .val (.int p5), .val (.int u1_0), .val (.int u2_0), .val (.int u3_0), .val (.int u4_0), .val (.int u5_0), .val (.int u6_0), .val (.int pa), .val (.int pl), .val (.int ps), .val (.int pe), .val (.long ea), .second, .unset, .unset, .unset, .unset, .unset, .unset, .unset, .unset] [(.int ((p5.toUInt32 >>> ((16 : Int32) &&& 31).toUInt32).toInt32))])) _
    refine XS.sipush X0.here hx rfl (hb hby at_129) ?_
    show Steps p.tables e below (s₁.setTop (mkF m 132 #[.val (.int p0), .val (.int p1), .val (.int p2), .val (.int p3), .val (.int p4), .val (.int p5), .val (.int u1_0), .val (.int u2_0), .val (.int u3_0), .val (.int u4_0), .val (.int u5_0), .val (.int u6_0), .val (.int pa), .val (.int pl), .val (.int ps), .val (.int pe), .val (.long ea), .second, .unset, .unset, .unset, .unset, .unset, .unset, .unset, .unset] [(.int (255 : Int32)), (.int ((p5.toUInt32 >>> ((16 : Int32) &&& 31).toUInt32).toInt32))])) _
    refine XS.iand X0.here hx rfl (hb hby at_132) rfl ?_
    show Steps p.tables e below (s₁.setTop (mkF m 133 #[.val (.int p0), .val (.int p1), .val (.int p2), .val (.int p3), .val (.int p4), .val (.int p5), .val (.int u1_0), .val (.int u2_0), .val (.int u3_0), .val (.int u4_0), .val (.int u5_0), .val (.int u6_0), .val (.int pa), .val (.int pl), .val (.int ps), .val (.int pe), .val (.long ea), .second, .unset, .unset, .unset, .unset, .unset, .unset, .unset, .unset] [(.int (((p5.toUInt32 >>> ((16 : Int32) &&& 31).toUInt32).toInt32) &&& (255 : Int32)))])) _
    refine XS.i2l X0.here hx rfl (hb hby at_133) rfl ?_
    show Steps p.tables e below (s₁.setTop (mkF m 134 #[.val (.int p0), .val (.int p1), .val (.int p2), .val (.int p3), .val (.int p4), .val (.int p5), .val (.int u1_0), .val (.int u2_0), .val (.int u3_0), .val (.int u4_0), .val (.int u5_0), .val (.int u6_0), .val (.int pa), .val (.int pl), .val (.int ps), .val (.int pe), .val (.long ea), .second, .unset, .unset, .unset, .unset, .unset, .unset, .unset, .unset] [(.long ((((p5.toUInt32 >>> ((16 : Int32) &&& 31).toUInt32).toInt32) &&& (255 : Int32)).toInt64))])) _
    exact k
  obtain ⟨ee, hee⟩ : ∃ z : Int64, z = ((((p5.toUInt32 >>> ((16 : Int32) &&& 31).toUInt32).toInt32) &&& (255 : Int32)).toInt64) := ⟨_, rfl⟩
  rw [← hee] at pre24
  obtain ⟨T25, h25, X25, e25, E25, A25, D25, -, st25⟩ := newO X0 hx hZ hown (hw _ (List.mem_of_getElem? (i := 1) rfl)) (hw _ (List.mem_of_getElem? (i := 2) rfl)) (hw _ (List.mem_of_getElem? (i := 3) rfl)) e0 (g := (mkF m 147 #[.val (.int p0), .val (.int p1), .val (.int p2), .val (.int p3), .val (.int p4), .val (.int p5), .val (.int u1_0), .val (.int u2_0), .val (.int u3_0), .val (.int u4_0), .val (.int u5_0), .val (.int u6_0), .val (.int pa), .val (.int pl), .val (.int ps), .val (.int pe), .val (.long ea), .second, .val (.long ee), .second, .val (.long ((((p5.toUInt32 >>> ((24 : Int32) &&& 31).toUInt32).toInt32) &&& (127 : Int32)).toInt64)), .second, .unset, .unset, .unset, .unset] [])) rfl (hb hby at_147) (by decide) (by decide)
  obtain ⟨b25, g25⟩ : ∃ z, z = h0.size := ⟨_, rfl⟩
  rw [← g25] at A25 D25 st25
  have F25_modCount : Fld Z h25 b25 "java/util/AbstractList" "modCount" "I" (.int (0 : Int32)) := D25 (Or.inl (hw _ (List.mem_of_getElem? (i := 23) rfl))) (ty := .int) (by decide)
  have F25_elementData : Fld Z h25 b25 "java/util/ArrayList" "elementData" "[Ljava/lang/Object;" .null := D25 (Or.inl (hw _ (List.mem_of_getElem? (i := 26) rfl))) (ty := (.array (.object "java/lang/Object"))) (by decide)
  have F25_size : Fld Z h25 b25 "java/util/ArrayList" "size" "I" (.int (0 : Int32)) := D25 (Or.inl (hw _ (List.mem_of_getElem? (i := 58) rfl))) (ty := .int) (by decide)
  have g_b25 : n0 ≤ b25 := Nat.le_trans Z0 (Nat.le_of_eq g25.symm)
  have sz_b25 : h0.size ≤ b25 := (Nat.le_trans (Keep.refl h0 []).1 (Nat.le_of_eq g25.symm))
  have K25 : Keep h0 h25 [] := (Keep.refl h0 []).ext E25
  have pre26 : ∀ t, Steps p.tables e below (T25.setTop (mkF m 151 #[.val (.int p0), .val (.int p1), .val (.int p2), .val (.int p3), .val (.int p4), .val (.int p5), .val (.int u1_0), .val (.int u2_0), .val (.int u3_0), .val (.int u4_0), .val (.int u5_0), .val (.int u6_0), .val (.int pa), .val (.int pl), .val (.int ps), .val (.int pe), .val (.long ea), .second, .val (.long ee), .second, .val (.long ((((p5.toUInt32 >>> ((24 : Int32) &&& 31).toUInt32).toInt32) &&& (127 : Int32)).toInt64)), .second, .unset, .unset, .unset, .unset] [(.ref b25), (.ref b25)])) t → Steps p.tables e below (s₁.setTop (entryFrame m #[(.int p0), (.int p1), (.int p2), (.int p3), (.int p4), (.int p5)] maxLocals)) t := by
    intro t k
    refine pre24 t ?_
    show Steps p.tables e below (s₁.setTop (mkF m 134 #[.val (.int p0), .val (.int p1), .val (.int p2), .val (.int p3), .val (.int p4), .val (.int p5), .val (.int u1_0), .val (.int u2_0), .val (.int u3_0), .val (.int u4_0), .val (.int u5_0), .val (.int u6_0), .val (.int pa), .val (.int pl), .val (.int ps), .val (.int pe), .val (.long ea), .second, .unset, .unset, .unset, .unset, .unset, .unset, .unset, .unset] [(.long ee)])) _
    refine XS.lstore X0.here hx rfl (hb hby at_134) rfl (l' := #[.val (.int p0), .val (.int p1), .val (.int p2), .val (.int p3), .val (.int p4), .val (.int p5), .val (.int u1_0), .val (.int u2_0), .val (.int u3_0), .val (.int u4_0), .val (.int u5_0), .val (.int u6_0), .val (.int pa), .val (.int pl), .val (.int ps), .val (.int pe), .val (.long ea), .second, .val (.long ee), .second, .unset, .unset, .unset, .unset, .unset, .unset]) rfl ?_
    show Steps p.tables e below (s₁.setTop (mkF m 136 #[.val (.int p0), .val (.int p1), .val (.int p2), .val (.int p3), .val (.int p4), .val (.int p5), .val (.int u1_0), .val (.int u2_0), .val (.int u3_0), .val (.int u4_0), .val (.int u5_0), .val (.int u6_0), .val (.int pa), .val (.int pl), .val (.int ps), .val (.int pe), .val (.long ea), .second, .val (.long ee), .second, .unset, .unset, .unset, .unset, .unset, .unset] [])) _
    refine XS.iload X0.here hx rfl (hb hby at_136) rfl ?_
    show Steps p.tables e below (s₁.setTop (mkF m 138 #[.val (.int p0), .val (.int p1), .val (.int p2), .val (.int p3), .val (.int p4), .val (.int p5), .val (.int u1_0), .val (.int u2_0), .val (.int u3_0), .val (.int u4_0), .val (.int u5_0), .val (.int u6_0), .val (.int pa), .val (.int pl), .val (.int ps), .val (.int pe), .val (.long ea), .second, .val (.long ee), .second, .unset, .unset, .unset, .unset, .unset, .unset] [(.int p5)])) _
    refine XS.bipush X0.here hx rfl (hb hby at_138) ?_
    show Steps p.tables e below (s₁.setTop (mkF m 140 #[.val (.int p0), .val (.int p1), .val (.int p2), .val (.int p3), .val (.int p4), .val (.int p5), .val (.int u1_0), .val (.int u2_0), .val (.int u3_0), .val (.int u4_0), .val (.int u5_0), .val (.int u6_0), .val (.int pa), .val (.int pl), .val (.int ps), .val (.int pe), .val (.long ea), .second, .val (.long ee), .second, .unset, .unset, .unset, .unset, .unset, .unset] [(.int (24 : Int32)), (.int p5)])) _
    refine XS.iushr X0.here hx rfl (hb hby at_140) rfl ?_
    show Steps p.tables e below (s₁.setTop (mkF m 141 #[.val (.int p0), .val (.int p1), .val (.int p2), .val (.int p3), .val (.int p4), .val (.int p5), .val (.int u1_0), .val (.int u2_0), .val (.int u3_0), .val (.int u4_0), .val (.int u5_0), .val (.int u6_0), .val (.int pa), .val (.int pl), .val (.int ps), .val (.int pe), .val (.long ea), .second, .val (.long ee), .second, .unset, .unset, .unset, .unset, .unset, .unset] [(.int ((p5.toUInt32 >>> ((24 : Int32) &&& 31).toUInt32).toInt32))])) _
    refine XS.bipush X0.here hx rfl (hb hby at_141) ?_
    show Steps p.tables e below (s₁.setTop (mkF m 143 #[.val (.int p0), .val (.int p1), .val (.int p2), .val (.int p3), .val (.int p4), .val (.int p5), .val (.int u1_0), .val (.int u2_0), .val (.int u3_0), .val (.int u4_0), .val (.int u5_0), .val (.int u6_0), .val (.int pa), .val (.int pl), .val (.int ps), .val (.int pe), .val (.long ea), .second, .val (.long ee), .second, .unset, .unset, .unset, .unset, .unset, .unset] [(.int (127 : Int32)), (.int ((p5.toUInt32 >>> ((24 : Int32) &&& 31).toUInt32).toInt32))])) _
    refine XS.iand X0.here hx rfl (hb hby at_143) rfl ?_
    show Steps p.tables e below (s₁.setTop (mkF m 144 #[.val (.int p0), .val (.int p1), .val (.int p2), .val (.int p3), .val (.int p4), .val (.int p5), .val (.int u1_0), .val (.int u2_0), .val (.int u3_0), .val (.int u4_0), .val (.int u5_0), .val (.int u6_0), .val (.int pa), .val (.int pl), .val (.int ps), .val (.int pe), .val (.long ea), .second, .val (.long ee), .second, .unset, .unset, .unset, .unset, .unset, .unset] [(.int (((p5.toUInt32 >>> ((24 : Int32) &&& 31).toUInt32).toInt32) &&& (127 : Int32)))])) _
    refine XS.i2l X0.here hx rfl (hb hby at_144) rfl ?_
    show Steps p.tables e below (s₁.setTop (mkF m 145 #[.val (.int p0), .val (.int p1), .val (.int p2), .val (.int p3), .val (.int p4), .val (.int p5), .val (.int u1_0), .val (.int u2_0), .val (.int u3_0), .val (.int u4_0), .val (.int u5_0), .val (.int u6_0), .val (.int pa), .val (.int pl), .val (.int ps), .val (.int pe), .val (.long ea), .second, .val (.long ee), .second, .unset, .unset, .unset, .unset, .unset, .unset] [(.long ((((p5.toUInt32 >>> ((24 : Int32) &&& 31).toUInt32).toInt32) &&& (127 : Int32)).toInt64))])) _
    refine XS.lstore X0.here hx rfl (hb hby at_145) rfl (l' := #[.val (.int p0), .val (.int p1), .val (.int p2), .val (.int p3), .val (.int p4), .val (.int p5), .val (.int u1_0), .val (.int u2_0), .val (.int u3_0), .val (.int u4_0), .val (.int u5_0), .val (.int u6_0), .val (.int pa), .val (.int pl), .val (.int ps), .val (.int pe), .val (.long ea), .second, .val (.long ee), .second, .val (.long ((((p5.toUInt32 >>> ((24 : Int32) &&& 31).toUInt32).toInt32) &&& (127 : Int32)).toInt64)), .second, .unset, .unset, .unset, .unset]) rfl ?_
    show Steps p.tables e below (s₁.setTop (mkF m 147 #[.val (.int p0), .val (.int p1), .val (.int p2), .val (.int p3), .val (.int p4), .val (.int p5), .val (.int u1_0), .val (.int u2_0), .val (.int u3_0), .val (.int u4_0), .val (.int u5_0), .val (.int u6_0), .val (.int pa), .val (.int pl), .val (.int ps), .val (.int pe), .val (.long ea), .second, .val (.long ee), .second, .val (.long ((((p5.toUInt32 >>> ((24 : Int32) &&& 31).toUInt32).toInt32) &&& (127 : Int32)).toInt64)), .second, .unset, .unset, .unset, .unset] [])) _
    refine st25 _ ?_
    show Steps p.tables e below (T25.setTop (mkF m 150 #[.val (.int p0), .val (.int p1), .val (.int p2), .val (.int p3), .val (.int p4), .val (.int p5), .val (.int u1_0), .val (.int u2_0), .val (.int u3_0), .val (.int u4_0), .val (.int u5_0), .val (.int u6_0), .val (.int pa), .val (.int pl), .val (.int ps), .val (.int pe), .val (.long ea), .second, .val (.long ee), .second, .val (.long ((((p5.toUInt32 >>> ((24 : Int32) &&& 31).toUInt32).toInt32) &&& (127 : Int32)).toInt64)), .second, .unset, .unset, .unset, .unset] [(.ref b25)])) _
    refine XS.dup X25.here hx rfl (hb hby at_150) rfl rfl ?_
    show Steps p.tables e below (T25.setTop (mkF m 151 #[.val (.int p0), .val (.int p1), .val (.int p2), .val (.int p3), .val (.int p4), .val (.int p5), .val (.int u1_0), .val (.int u2_0), .val (.int u3_0), .val (.int u4_0), .val (.int u5_0), .val (.int u6_0), .val (.int pa), .val (.int pl), .val (.int ps), .val (.int pe), .val (.long ea), .second, .val (.long ee), .second, .val (.long ((((p5.toUInt32 >>> ((24 : Int32) &&& 31).toUInt32).toInt32) &&& (127 : Int32)).toInt64)), .second, .unset, .unset, .unset, .unset] [(.ref b25), (.ref b25)])) _
    exact k
  obtain ⟨el, hel⟩ : ∃ z : Int64, z = ((((p5.toUInt32 >>> ((24 : Int32) &&& 31).toUInt32).toInt32) &&& (127 : Int32)).toInt64) := ⟨_, rfl⟩
  rw [← hel] at pre26
  have npa := own_pos hpa
  have npl := own_pos hpl
  have nps := own_pos hps
  have npe := own_pos hpe
  obtain ⟨TA, oA, hA, cA, lA, bl, bx, va, vl, vk, XA, eA, NA, ZA, hcA, hlA, gx, fA, E1, F0, F1, F2, F3, F4, F5, F6, F7, F8, preA⟩ : ∃ (TA : State) (oA : List Loc) (hA : Heap) (cA : Nat) (lA : Nat) (bl : Addr) (bx : Addr) (va : Int64) (vl : Int64) (vk : Int64), (Stand p l e room_1 s m #[(.int p0), (.int p1), (.int p2), (.int p3), (.int p4), (.int p5)] below meth c TA oA cA lA) ∧ (TA.heap = hA) ∧ (Fr n0 oA) ∧ (n0 ≤ hA.size) ∧ (cA ≤ 6) ∧ (lA ≤ 60) ∧ (n0 ≤ bx) ∧ (((0 : Int64) < va ∨ (0 : Int64) < vl ∨ (0 : Int64) < vk) ↔ (u1_0 = 1 ∧ ((0 : Int32) < pa ∨ (0 : Int32) < pl ∨ (u2_0 = 1 ∧ (0 : Int32) < own_max (0 : Int32) p2)))) ∧ (Exa Z hA bx "com/example/kiseki/kiseki/tracing/DroppedItems") ∧ (Fld Z hA bx "com/example/kiseki/kiseki/tracing/DroppedItems" "attributesBeforeStart" "J" (.long va)) ∧ (Fld Z hA bx "com/example/kiseki/kiseki/tracing/DroppedItems" "attributesSinceStart" "J" (.long (0 : Int64))) ∧ (Fld Z hA bx "com/example/kiseki/kiseki/tracing/DroppedItems" "events" "J" (.long (0 : Int64))) ∧ (Fld Z hA bx "com/example/kiseki/kiseki/tracing/DroppedItems" "links" "J" (.long vl)) ∧ (Fld Z hA bx "com/example/kiseki/kiseki/tracing/DroppedItems" "eventAttributes" "J" (.long (0 : Int64))) ∧ (Fld Z hA bx "com/example/kiseki/kiseki/tracing/DroppedItems" "linkAttributes" "J" (.long vk)) ∧ (Fld Z hA bx "com/example/kiseki/kiseki/tracing/DroppedItems" "attributesElsewhere" "J" (.long (0 : Int64))) ∧ (Fld Z hA bx "com/example/kiseki/kiseki/tracing/DroppedItems" "eventsElsewhere" "J" (.long (0 : Int64))) ∧ (Fld Z hA bx "com/example/kiseki/kiseki/tracing/DroppedItems" "linksElsewhere" "J" (.long (0 : Int64))) ∧ (∀ t, Steps p.tables e below (TA.setTop (mkF m 210 #[.val (.int p0), .val (.int p1), .val (.int p2), .val (.int p3), .val (.int p4), .val (.int p5), .val (.int u1_0), .val (.int u2_0), .val (.int u3_0), .val (.int u4_0), .val (.int u5_0), .val (.int u6_0), .val (.int pa), .val (.int pl), .val (.int ps), .val (.int pe), .val (.long ea), .second, .val (.long ee), .second, .val (.long el), .second, .val (.ref bl), .val (.ref bx), .unset, .unset] [])) t → Steps p.tables e below (s₁.setTop (entryFrame m #[(.int p0), (.int p1), (.int p2), (.int p3), (.int p4), (.int p5)] maxLocals)) t) := by
    obtain ⟨_, _, ⟨T27, L27, k27, n27⟩, -, X27, ⟨Lc27, hQ27, l27, y27, z27⟩, st27⟩ := X25.specialBack hx (y := (⟨"java/util/ArrayList", "<init>", "()V"⟩ : MethodName)) rfl hown (mvT hZ (hw _ (List.mem_of_getElem? (i := 4) rfl))) (mvT hZ (hw _ (List.mem_of_getElem? (i := 5) rfl))) (mvT hZ (hw _ (List.mem_of_getElem? (i := 6) rfl))) (by decide) (backOf (W := 1) (rmAL l Z a0 hw [] b25 aD h25 n0 (Nat.le_trans Z0 E25.1) F25_modCount F25_elementData F25_size A25 g_b25 (SD.ext ((O0.ext E25)).2)) hZ (hw _ (List.mem_of_getElem? (i := 6) rfl)) (hw _ (List.mem_of_getElem? (i := 3) rfl)) (by decide) (by decide)) (g := (mkF m 151 #[.val (.int p0), .val (.int p1), .val (.int p2), .val (.int p3), .val (.int p4), .val (.int p5), .val (.int u1_0), .val (.int u2_0), .val (.int u3_0), .val (.int u4_0), .val (.int u5_0), .val (.int u6_0), .val (.int pa), .val (.int pl), .val (.int ps), .val (.int pe), .val (.long ea), .second, .val (.long ee), .second, .val (.long el), .second, .unset, .unset, .unset, .unset] [(.ref b25), (.ref b25)])) rfl (by rw [hml]; rfl) (Steps.refl _) (a := b25) (argsL := []) (rest := [(.ref b25)]) (lenOf pd_0 rfl) rfl (by show 2 * 0 + _ ≤ _; exact Nat.le_of_eq rfl) (hb hby at_151) (fun _ _ => ⟨rfl, e25, (by decide : 1 + 0 ≤ _), (by decide : 3 + 0 ≤ _)⟩)
    dsimp only [Pt.U, Pt.locs, Pt.cells, Pt.slots] at X27 l27 y27 z27 st27 hQ27
    subst l27 y27 z27
    obtain ⟨rfl, N27q, Kq27, Eq27, G0q27, G1q27, G2q27⟩ := hQ27
    have N27 := Fr.app N0 N27q
    have K27 : Keep h0 T27.heap [] := K25.trans Kq27 (allS (Or.inr sz_b25) all0)
    have pre28 : ∀ t, Steps p.tables e below (T27.setTop (mkF m 158 #[.val (.int p0), .val (.int p1), .val (.int p2), .val (.int p3), .val (.int p4), .val (.int p5), .val (.int u1_0), .val (.int u2_0), .val (.int u3_0), .val (.int u4_0), .val (.int u5_0), .val (.int u6_0), .val (.int pa), .val (.int pl), .val (.int ps), .val (.int pe), .val (.long ea), .second, .val (.long ee), .second, .val (.long el), .second, .val (.ref b25), .unset, .unset, .unset] [(.int u2_0)])) t → Steps p.tables e below (s₁.setTop (entryFrame m #[(.int p0), (.int p1), (.int p2), (.int p3), (.int p4), (.int p5)] maxLocals)) t := by
      intro t k
      refine pre26 t ?_
      show Steps p.tables e below (T25.setTop (mkF m 151 #[.val (.int p0), .val (.int p1), .val (.int p2), .val (.int p3), .val (.int p4), .val (.int p5), .val (.int u1_0), .val (.int u2_0), .val (.int u3_0), .val (.int u4_0), .val (.int u5_0), .val (.int u6_0), .val (.int pa), .val (.int pl), .val (.int ps), .val (.int pe), .val (.long ea), .second, .val (.long ee), .second, .val (.long el), .second, .unset, .unset, .unset, .unset] [(.ref b25), (.ref b25)])) _
      refine st27.trans ?_
      show Steps p.tables e below (T27.setTop (mkF m 154 #[.val (.int p0), .val (.int p1), .val (.int p2), .val (.int p3), .val (.int p4), .val (.int p5), .val (.int u1_0), .val (.int u2_0), .val (.int u3_0), .val (.int u4_0), .val (.int u5_0), .val (.int u6_0), .val (.int pa), .val (.int pl), .val (.int ps), .val (.int pe), .val (.long ea), .second, .val (.long ee), .second, .val (.long el), .second, .unset, .unset, .unset, .unset] [(.ref b25)])) _
      refine XS.astore X27.here hx rfl (hb hby at_154) rfl (rfl) (l' := #[.val (.int p0), .val (.int p1), .val (.int p2), .val (.int p3), .val (.int p4), .val (.int p5), .val (.int u1_0), .val (.int u2_0), .val (.int u3_0), .val (.int u4_0), .val (.int u5_0), .val (.int u6_0), .val (.int pa), .val (.int pl), .val (.int ps), .val (.int pe), .val (.long ea), .second, .val (.long ee), .second, .val (.long el), .second, .val (.ref b25), .unset, .unset, .unset]) rfl ?_
      show Steps p.tables e below (T27.setTop (mkF m 156 #[.val (.int p0), .val (.int p1), .val (.int p2), .val (.int p3), .val (.int p4), .val (.int p5), .val (.int u1_0), .val (.int u2_0), .val (.int u3_0), .val (.int u4_0), .val (.int u5_0), .val (.int u6_0), .val (.int pa), .val (.int pl), .val (.int ps), .val (.int pe), .val (.long ea), .second, .val (.long ee), .second, .val (.long el), .second, .val (.ref b25), .unset, .unset, .unset] [])) _
      refine XS.iload X27.here hx rfl (hb hby at_156) rfl ?_
      show Steps p.tables e below (T27.setTop (mkF m 158 #[.val (.int p0), .val (.int p1), .val (.int p2), .val (.int p3), .val (.int p4), .val (.int p5), .val (.int u1_0), .val (.int u2_0), .val (.int u3_0), .val (.int u4_0), .val (.int u5_0), .val (.int u6_0), .val (.int pa), .val (.int pl), .val (.int ps), .val (.int pe), .val (.long ea), .second, .val (.long ee), .second, .val (.long el), .second, .val (.ref b25), .unset, .unset, .unset] [(.int u2_0)])) _
      exact k
    by_cases h158 : u2_0 = (0 : Int32)
    · skip
      have pre29 : ∀ t, Steps p.tables e below (T27.setTop (mkF m 182 #[.val (.int p0), .val (.int p1), .val (.int p2), .val (.int p3), .val (.int p4), .val (.int p5), .val (.int u1_0), .val (.int u2_0), .val (.int u3_0), .val (.int u4_0), .val (.int u5_0), .val (.int u6_0), .val (.int pa), .val (.int pl), .val (.int ps), .val (.int pe), .val (.long ea), .second, .val (.long ee), .second, .val (.long el), .second, .val (.ref b25), .val .null, .unset, .unset] [(.int u1_0)])) t → Steps p.tables e below (s₁.setTop (entryFrame m #[(.int p0), (.int p1), (.int p2), (.int p3), (.int p4), (.int p5)] maxLocals)) t := by
        intro t k
        refine pre28 t ?_
        refine XS.ifYes X27.here hx rfl (pc0 := 158) (pc' := 177) rfl (hb hby at_158) rfl ((if0 _ _).trans (teq h158).1) (by decide) (by decide) ?_
        show Steps p.tables e below (T27.setTop (mkF m 177 #[.val (.int p0), .val (.int p1), .val (.int p2), .val (.int p3), .val (.int p4), .val (.int p5), .val (.int u1_0), .val (.int u2_0), .val (.int u3_0), .val (.int u4_0), .val (.int u5_0), .val (.int u6_0), .val (.int pa), .val (.int pl), .val (.int ps), .val (.int pe), .val (.long ea), .second, .val (.long ee), .second, .val (.long el), .second, .val (.ref b25), .unset, .unset, .unset] [])) _
        refine XS.aconstNull X27.here hx rfl (hb hby at_177) ?_
        show Steps p.tables e below (T27.setTop (mkF m 178 #[.val (.int p0), .val (.int p1), .val (.int p2), .val (.int p3), .val (.int p4), .val (.int p5), .val (.int u1_0), .val (.int u2_0), .val (.int u3_0), .val (.int u4_0), .val (.int u5_0), .val (.int u6_0), .val (.int pa), .val (.int pl), .val (.int ps), .val (.int pe), .val (.long ea), .second, .val (.long ee), .second, .val (.long el), .second, .val (.ref b25), .unset, .unset, .unset] [.null])) _
        refine XS.astore X27.here hx rfl (hb hby at_178) rfl (rfl) (l' := #[.val (.int p0), .val (.int p1), .val (.int p2), .val (.int p3), .val (.int p4), .val (.int p5), .val (.int u1_0), .val (.int u2_0), .val (.int u3_0), .val (.int u4_0), .val (.int u5_0), .val (.int u6_0), .val (.int pa), .val (.int pl), .val (.int ps), .val (.int pe), .val (.long ea), .second, .val (.long ee), .second, .val (.long el), .second, .val (.ref b25), .val .null, .unset, .unset]) rfl ?_
        show Steps p.tables e below (T27.setTop (mkF m 180 #[.val (.int p0), .val (.int p1), .val (.int p2), .val (.int p3), .val (.int p4), .val (.int p5), .val (.int u1_0), .val (.int u2_0), .val (.int u3_0), .val (.int u4_0), .val (.int u5_0), .val (.int u6_0), .val (.int pa), .val (.int pl), .val (.int ps), .val (.int pe), .val (.long ea), .second, .val (.long ee), .second, .val (.long el), .second, .val (.ref b25), .val .null, .unset, .unset] [])) _
        refine XS.iload X27.here hx rfl (hb hby at_180) rfl ?_
        show Steps p.tables e below (T27.setTop (mkF m 182 #[.val (.int p0), .val (.int p1), .val (.int p2), .val (.int p3), .val (.int p4), .val (.int p5), .val (.int u1_0), .val (.int u2_0), .val (.int u3_0), .val (.int u4_0), .val (.int u5_0), .val (.int u6_0), .val (.int pa), .val (.int pl), .val (.int ps), .val (.int pe), .val (.long ea), .second, .val (.long ee), .second, .val (.long el), .second, .val (.ref b25), .val .null, .unset, .unset] [(.int u1_0)])) _
        exact k
      by_cases h182 : u1_0 = (0 : Int32)
      · skip
        obtain ⟨T30, h30, X30, e30, E30, A30, D30, -, st30⟩ := newO X27 hx hZ hown (hw _ (List.mem_of_getElem? (i := 141) rfl)) (hw _ (List.mem_of_getElem? (i := 120) rfl)) (hw _ (List.mem_of_getElem? (i := 80) rfl)) rfl (g := (mkF m 201 #[.val (.int p0), .val (.int p1), .val (.int p2), .val (.int p3), .val (.int p4), .val (.int p5), .val (.int u1_0), .val (.int u2_0), .val (.int u3_0), .val (.int u4_0), .val (.int u5_0), .val (.int u6_0), .val (.int pa), .val (.int pl), .val (.int ps), .val (.int pe), .val (.long ea), .second, .val (.long ee), .second, .val (.long el), .second, .val (.ref b25), .val .null, .unset, .unset] [])) rfl (hb hby at_201) (by decide) (by decide)
        obtain ⟨b30, g30⟩ : ∃ z, z = T27.heap.size := ⟨_, rfl⟩
        rw [← g30] at A30 D30 st30
        have ne_b25_b30 : b25 ≠ b30 := Nat.ne_of_lt (Nat.lt_of_lt_of_le Eq27.lt (Nat.le_of_eq g30.symm))
        have F30_attributesBeforeStart : Fld Z h30 b30 "com/example/kiseki/kiseki/tracing/DroppedItems" "attributesBeforeStart" "J" (.long (0 : Int64)) := D30 (Or.inl (hw _ (List.mem_of_getElem? (i := 126) rfl))) (ty := .long) (by decide)
        have F30_links : Fld Z h30 b30 "com/example/kiseki/kiseki/tracing/DroppedItems" "links" "J" (.long (0 : Int64)) := D30 (Or.inl (hw _ (List.mem_of_getElem? (i := 128) rfl))) (ty := .long) (by decide)
        have F30_linkAttributes : Fld Z h30 b30 "com/example/kiseki/kiseki/tracing/DroppedItems" "linkAttributes" "J" (.long (0 : Int64)) := D30 (Or.inl (hw _ (List.mem_of_getElem? (i := 130) rfl))) (ty := .long) (by decide)
        have F30_attributesSinceStart : Fld Z h30 b30 "com/example/kiseki/kiseki/tracing/DroppedItems" "attributesSinceStart" "J" (.long (0 : Int64)) := D30 (Or.inl (hw _ (List.mem_of_getElem? (i := 138) rfl))) (ty := .long) (by decide)
        have F30_events : Fld Z h30 b30 "com/example/kiseki/kiseki/tracing/DroppedItems" "events" "J" (.long (0 : Int64)) := D30 (Or.inl (hw _ (List.mem_of_getElem? (i := 140) rfl))) (ty := .long) (by decide)
        have F30_eventAttributes : Fld Z h30 b30 "com/example/kiseki/kiseki/tracing/DroppedItems" "eventAttributes" "J" (.long (0 : Int64)) := D30 (Or.inl (hw _ (List.mem_of_getElem? (i := 144) rfl))) (ty := .long) (by decide)
        have F30_attributesElsewhere : Fld Z h30 b30 "com/example/kiseki/kiseki/tracing/DroppedItems" "attributesElsewhere" "J" (.long (0 : Int64)) := D30 (Or.inl (hw _ (List.mem_of_getElem? (i := 168) rfl))) (ty := .long) (by decide)
        have F30_eventsElsewhere : Fld Z h30 b30 "com/example/kiseki/kiseki/tracing/DroppedItems" "eventsElsewhere" "J" (.long (0 : Int64)) := D30 (Or.inl (hw _ (List.mem_of_getElem? (i := 170) rfl))) (ty := .long) (by decide)
        have F30_linksElsewhere : Fld Z h30 b30 "com/example/kiseki/kiseki/tracing/DroppedItems" "linksElsewhere" "J" (.long (0 : Int64)) := D30 (Or.inl (hw _ (List.mem_of_getElem? (i := 172) rfl))) (ty := .long) (by decide)
        have g_b30 : n0 ≤ b30 := Nat.le_trans (Nat.le_trans (Nat.le_trans Z0 E25.1) Kq27.1) (Nat.le_of_eq g30.symm)
        have sz_b30 : h0.size ≤ b30 := (Nat.le_trans K27.1 (Nat.le_of_eq g30.symm))
        have K30 : Keep h0 h30 [] := K27.ext E30
        obtain ⟨_, _, ⟨T31, L31, k31, n31⟩, -, X31, ⟨Lc31, hQ31, l31, y31, z31⟩, st31⟩ := X30.specialBack hx (y := (⟨"com/example/kiseki/kiseki/tracing/DroppedItems", "<init>", "()V"⟩ : MethodName)) rfl hown (mvT hZ (hw _ (List.mem_of_getElem? (i := 142) rfl))) (mvT hZ (hw _ (List.mem_of_getElem? (i := 122) rfl))) (mvT hZ (hw _ (List.mem_of_getElem? (i := 123) rfl))) (by decide) (backOf (W := 1) (rmDI l Z a0 hw [] b30  h30 n0 (Nat.le_trans (Nat.le_trans (Nat.le_trans Z0 E25.1) Kq27.1) E30.1) ) hZ (hw _ (List.mem_of_getElem? (i := 123) rfl)) (hw _ (List.mem_of_getElem? (i := 80) rfl)) (by decide) (by decide)) (g := (mkF m 205 #[.val (.int p0), .val (.int p1), .val (.int p2), .val (.int p3), .val (.int p4), .val (.int p5), .val (.int u1_0), .val (.int u2_0), .val (.int u3_0), .val (.int u4_0), .val (.int u5_0), .val (.int u6_0), .val (.int pa), .val (.int pl), .val (.int ps), .val (.int pe), .val (.long ea), .second, .val (.long ee), .second, .val (.long el), .second, .val (.ref b25), .val .null, .unset, .unset] [(.ref b30), (.ref b30)])) rfl (by rw [hml]; rfl) (Steps.refl _) (a := b30) (argsL := []) (rest := [(.ref b30)]) (lenOf pd_0 rfl) rfl (by show 2 * 0 + _ ≤ _; exact Nat.le_of_eq rfl) (hb hby at_205) (fun _ _ => ⟨rfl, e30, (by decide : 2 + 0 ≤ _), (by decide : 12 + 0 ≤ _)⟩)
        dsimp only [Pt.U, Pt.locs, Pt.cells, Pt.slots] at X31 l31 y31 z31 st31 hQ31
        subst l31 y31 z31
        obtain ⟨rfl, N31q, hq31⟩ := hQ31
        have N31 := Fr.app N27 N31q
        have pre32 : ∀ t, Steps p.tables e below (T31.setTop (mkF m 210 #[.val (.int p0), .val (.int p1), .val (.int p2), .val (.int p3), .val (.int p4), .val (.int p5), .val (.int u1_0), .val (.int u2_0), .val (.int u3_0), .val (.int u4_0), .val (.int u5_0), .val (.int u6_0), .val (.int pa), .val (.int pl), .val (.int ps), .val (.int pe), .val (.long ea), .second, .val (.long ee), .second, .val (.long el), .second, .val (.ref b25), .val (.ref b30), .unset, .unset] [])) t → Steps p.tables e below (s₁.setTop (entryFrame m #[(.int p0), (.int p1), (.int p2), (.int p3), (.int p4), (.int p5)] maxLocals)) t := by
          intro t k
          refine pre29 t ?_
          refine XS.ifYes X27.here hx rfl (pc0 := 182) (pc' := 196) rfl (hb hby at_182) rfl ((if0 _ _).trans (teq h182).1) (by decide) (by decide) ?_
          show Steps p.tables e below (T27.setTop (mkF m 196 #[.val (.int p0), .val (.int p1), .val (.int p2), .val (.int p3), .val (.int p4), .val (.int p5), .val (.int u1_0), .val (.int u2_0), .val (.int u3_0), .val (.int u4_0), .val (.int u5_0), .val (.int u6_0), .val (.int pa), .val (.int pl), .val (.int ps), .val (.int pe), .val (.long ea), .second, .val (.long ee), .second, .val (.long el), .second, .val (.ref b25), .val .null, .unset, .unset] [])) _
          refine XS.aload X27.here hx rfl (hb hby at_196) rfl (rfl) ?_
          show Steps p.tables e below (T27.setTop (mkF m 198 #[.val (.int p0), .val (.int p1), .val (.int p2), .val (.int p3), .val (.int p4), .val (.int p5), .val (.int u1_0), .val (.int u2_0), .val (.int u3_0), .val (.int u4_0), .val (.int u5_0), .val (.int u6_0), .val (.int pa), .val (.int pl), .val (.int ps), .val (.int pe), .val (.long ea), .second, .val (.long ee), .second, .val (.long el), .second, .val (.ref b25), .val .null, .unset, .unset] [.null])) _
          refine XS.ifnonnullNo X27.here hx rfl (hb hby at_198) rfl ?_
          show Steps p.tables e below (T27.setTop (mkF m 201 #[.val (.int p0), .val (.int p1), .val (.int p2), .val (.int p3), .val (.int p4), .val (.int p5), .val (.int u1_0), .val (.int u2_0), .val (.int u3_0), .val (.int u4_0), .val (.int u5_0), .val (.int u6_0), .val (.int pa), .val (.int pl), .val (.int ps), .val (.int pe), .val (.long ea), .second, .val (.long ee), .second, .val (.long el), .second, .val (.ref b25), .val .null, .unset, .unset] [])) _
          refine st30 _ ?_
          show Steps p.tables e below (T30.setTop (mkF m 204 #[.val (.int p0), .val (.int p1), .val (.int p2), .val (.int p3), .val (.int p4), .val (.int p5), .val (.int u1_0), .val (.int u2_0), .val (.int u3_0), .val (.int u4_0), .val (.int u5_0), .val (.int u6_0), .val (.int pa), .val (.int pl), .val (.int ps), .val (.int pe), .val (.long ea), .second, .val (.long ee), .second, .val (.long el), .second, .val (.ref b25), .val .null, .unset, .unset] [(.ref b30)])) _
          refine XS.dup X30.here hx rfl (hb hby at_204) rfl rfl ?_
          show Steps p.tables e below (T30.setTop (mkF m 205 #[.val (.int p0), .val (.int p1), .val (.int p2), .val (.int p3), .val (.int p4), .val (.int p5), .val (.int u1_0), .val (.int u2_0), .val (.int u3_0), .val (.int u4_0), .val (.int u5_0), .val (.int u6_0), .val (.int pa), .val (.int pl), .val (.int ps), .val (.int pe), .val (.long ea), .second, .val (.long ee), .second, .val (.long el), .second, .val (.ref b25), .val .null, .unset, .unset] [(.ref b30), (.ref b30)])) _
          refine st31.trans ?_
          show Steps p.tables e below (T31.setTop (mkF m 208 #[.val (.int p0), .val (.int p1), .val (.int p2), .val (.int p3), .val (.int p4), .val (.int p5), .val (.int u1_0), .val (.int u2_0), .val (.int u3_0), .val (.int u4_0), .val (.int u5_0), .val (.int u6_0), .val (.int pa), .val (.int pl), .val (.int ps), .val (.int pe), .val (.long ea), .second, .val (.long ee), .second, .val (.long el), .second, .val (.ref b25), .val .null, .unset, .unset] [(.ref b30)])) _
          refine XS.astore X31.here hx rfl (hb hby at_208) rfl (rfl) (l' := #[.val (.int p0), .val (.int p1), .val (.int p2), .val (.int p3), .val (.int p4), .val (.int p5), .val (.int u1_0), .val (.int u2_0), .val (.int u3_0), .val (.int u4_0), .val (.int u5_0), .val (.int u6_0), .val (.int pa), .val (.int pl), .val (.int ps), .val (.int pe), .val (.long ea), .second, .val (.long ee), .second, .val (.long el), .second, .val (.ref b25), .val (.ref b30), .unset, .unset]) rfl ?_
          show Steps p.tables e below (T31.setTop (mkF m 210 #[.val (.int p0), .val (.int p1), .val (.int p2), .val (.int p3), .val (.int p4), .val (.int p5), .val (.int u1_0), .val (.int u2_0), .val (.int u3_0), .val (.int u4_0), .val (.int u5_0), .val (.int u6_0), .val (.int pa), .val (.int pl), .val (.int ps), .val (.int pe), .val (.long ea), .second, .val (.long ee), .second, .val (.long el), .second, .val (.ref b25), .val (.ref b30), .unset, .unset] [])) _
          exact k
        exact ⟨T31, _, h30, _, _, b25, b30, (0 : Int64), (0 : Int64), (0 : Int64), X31, hq31, N31, (Nat.le_trans (Nat.le_trans (Nat.le_trans Z0 E25.1) Kq27.1) E30.1), (by decide : 2 ≤ 6), (by decide : 12 ≤ 60), g_b30, own_A0 h182, A30, F30_attributesBeforeStart, F30_attributesSinceStart, F30_events, F30_links, F30_eventAttributes, F30_linkAttributes, F30_attributesElsewhere, F30_eventsElsewhere, F30_linksElsewhere, pre32⟩
      · skip
        have pre33 : ∀ t, Steps p.tables e below (T27.setTop (mkF m 185 #[.val (.int p0), .val (.int p1), .val (.int p2), .val (.int p3), .val (.int p4), .val (.int p5), .val (.int u1_0), .val (.int u2_0), .val (.int u3_0), .val (.int u4_0), .val (.int u5_0), .val (.int u6_0), .val (.int pa), .val (.int pl), .val (.int ps), .val (.int pe), .val (.long ea), .second, .val (.long ee), .second, .val (.long el), .second, .val (.ref b25), .val .null, .unset, .unset] [])) t → Steps p.tables e below (s₁.setTop (entryFrame m #[(.int p0), (.int p1), (.int p2), (.int p3), (.int p4), (.int p5)] maxLocals)) t := by
          intro t k
          refine pre29 t ?_
          refine XS.ifNo X27.here hx rfl (hb hby at_182) rfl ((if0 _ _).trans (feq h182).1) ?_
          show Steps p.tables e below (T27.setTop (mkF m 185 #[.val (.int p0), .val (.int p1), .val (.int p2), .val (.int p3), .val (.int p4), .val (.int p5), .val (.int u1_0), .val (.int u2_0), .val (.int u3_0), .val (.int u4_0), .val (.int u5_0), .val (.int u6_0), .val (.int pa), .val (.int pl), .val (.int ps), .val (.int pe), .val (.long ea), .second, .val (.long ee), .second, .val (.long el), .second, .val (.ref b25), .val .null, .unset, .unset] [])) _
          exact k
        by_cases hcS : (0 : Int32) < pa ∨ (0 : Int32) < pl ∨ (0 : Int64) < (0 : Int64)
        · skip
          obtain ⟨_, _, ⟨T34, L34, k34, n34⟩, -, X34, ⟨Lc34, hQ34, l34, y34, z34⟩, st34⟩ := Jvm.LawKit.callS X27 hx (y := (⟨"com/example/kiseki/kiseki/tracing/DroppedItems", "atStart", "(IILjava/util/List;)Lcom/example/kiseki/kiseki/tracing/DroppedItems;"⟩ : MethodName)) hown (mvT hZ (hw _ (List.mem_of_getElem? (i := 78) rfl))) (mvT hZ (hw _ (List.mem_of_getElem? (i := 79) rfl))) (mvT hZ (hw _ (List.mem_of_getElem? (i := 80) rfl))) (mvT hZ (hw _ (List.mem_of_getElem? (i := 81) rfl))) (by decide) (backOf (W := 0) (rmS01 l Z a0 hw [] pa pl b25  T27.heap n0 (Nat.le_trans (Nat.le_trans Z0 E25.1) Kq27.1) Eq27 G2q27 hcS) hZ (hw _ (List.mem_of_getElem? (i := 81) rfl)) (hw _ (List.mem_of_getElem? (i := 80) rfl)) (by decide) (by decide)) (g := (mkF m 191 #[.val (.int p0), .val (.int p1), .val (.int p2), .val (.int p3), .val (.int p4), .val (.int p5), .val (.int u1_0), .val (.int u2_0), .val (.int u3_0), .val (.int u4_0), .val (.int u5_0), .val (.int u6_0), .val (.int pa), .val (.int pl), .val (.int ps), .val (.int pe), .val (.long ea), .second, .val (.long ee), .second, .val (.long el), .second, .val (.ref b25), .val .null, .unset, .unset] [(.ref b25), (.int pl), (.int pa)])) rfl (by rw [hml]; rfl) (argsL := [(.int pa), (.int pl), (.ref b25)]) (rest := []) (lenOf pd_9 rfl) rfl (by show 2 * 0 + _ ≤ _; exact Nat.le_of_eq rfl) (hb hby at_191) (fun _ _ => ⟨rfl, rfl, (by decide : 1 + 1 ≤ _), (by decide : 3 + 9 ≤ _)⟩)
          dsimp only [Pt.U, Pt.locs, Pt.cells, Pt.slots] at X34 l34 y34 z34 st34 hQ34
          subst l34 y34 z34
          obtain ⟨bx34, rfl, N34q, Kq34, gx34, Eq34, F0q34, F1q34, F2q34, F3q34, F4q34, F5q34, F6q34, F7q34, F8q34⟩ := hQ34
          have N34 := Fr.app N27 N34q
          have K34 : Keep h0 T34.heap [] := K27.trans Kq34 all0
          have pre35 : ∀ t, Steps p.tables e below (T34.setTop (mkF m 210 #[.val (.int p0), .val (.int p1), .val (.int p2), .val (.int p3), .val (.int p4), .val (.int p5), .val (.int u1_0), .val (.int u2_0), .val (.int u3_0), .val (.int u4_0), .val (.int u5_0), .val (.int u6_0), .val (.int pa), .val (.int pl), .val (.int ps), .val (.int pe), .val (.long ea), .second, .val (.long ee), .second, .val (.long el), .second, .val (.ref b25), .val (.ref bx34), .unset, .unset] [])) t → Steps p.tables e below (s₁.setTop (entryFrame m #[(.int p0), (.int p1), (.int p2), (.int p3), (.int p4), (.int p5)] maxLocals)) t := by
            intro t k
            refine pre33 t ?_
            show Steps p.tables e below (T27.setTop (mkF m 185 #[.val (.int p0), .val (.int p1), .val (.int p2), .val (.int p3), .val (.int p4), .val (.int p5), .val (.int u1_0), .val (.int u2_0), .val (.int u3_0), .val (.int u4_0), .val (.int u5_0), .val (.int u6_0), .val (.int pa), .val (.int pl), .val (.int ps), .val (.int pe), .val (.long ea), .second, .val (.long ee), .second, .val (.long el), .second, .val (.ref b25), .val .null, .unset, .unset] [])) _
            refine XS.iload X27.here hx rfl (hb hby at_185) rfl ?_
            show Steps p.tables e below (T27.setTop (mkF m 187 #[.val (.int p0), .val (.int p1), .val (.int p2), .val (.int p3), .val (.int p4), .val (.int p5), .val (.int u1_0), .val (.int u2_0), .val (.int u3_0), .val (.int u4_0), .val (.int u5_0), .val (.int u6_0), .val (.int pa), .val (.int pl), .val (.int ps), .val (.int pe), .val (.long ea), .second, .val (.long ee), .second, .val (.long el), .second, .val (.ref b25), .val .null, .unset, .unset] [(.int pa)])) _
            refine XS.iload X27.here hx rfl (hb hby at_187) rfl ?_
            show Steps p.tables e below (T27.setTop (mkF m 189 #[.val (.int p0), .val (.int p1), .val (.int p2), .val (.int p3), .val (.int p4), .val (.int p5), .val (.int u1_0), .val (.int u2_0), .val (.int u3_0), .val (.int u4_0), .val (.int u5_0), .val (.int u6_0), .val (.int pa), .val (.int pl), .val (.int ps), .val (.int pe), .val (.long ea), .second, .val (.long ee), .second, .val (.long el), .second, .val (.ref b25), .val .null, .unset, .unset] [(.int pl), (.int pa)])) _
            refine XS.aload X27.here hx rfl (hb hby at_189) rfl (rfl) ?_
            show Steps p.tables e below (T27.setTop (mkF m 191 #[.val (.int p0), .val (.int p1), .val (.int p2), .val (.int p3), .val (.int p4), .val (.int p5), .val (.int u1_0), .val (.int u2_0), .val (.int u3_0), .val (.int u4_0), .val (.int u5_0), .val (.int u6_0), .val (.int pa), .val (.int pl), .val (.int ps), .val (.int pe), .val (.long ea), .second, .val (.long ee), .second, .val (.long el), .second, .val (.ref b25), .val .null, .unset, .unset] [(.ref b25), (.int pl), (.int pa)])) _
            refine st34 _ ?_
            show Steps p.tables e below (T34.setTop (mkF m 194 #[.val (.int p0), .val (.int p1), .val (.int p2), .val (.int p3), .val (.int p4), .val (.int p5), .val (.int u1_0), .val (.int u2_0), .val (.int u3_0), .val (.int u4_0), .val (.int u5_0), .val (.int u6_0), .val (.int pa), .val (.int pl), .val (.int ps), .val (.int pe), .val (.long ea), .second, .val (.long ee), .second, .val (.long el), .second, .val (.ref b25), .val .null, .unset, .unset] [(.ref bx34)])) _
            refine XS.astore X34.here hx rfl (hb hby at_194) rfl (rfl) (l' := #[.val (.int p0), .val (.int p1), .val (.int p2), .val (.int p3), .val (.int p4), .val (.int p5), .val (.int u1_0), .val (.int u2_0), .val (.int u3_0), .val (.int u4_0), .val (.int u5_0), .val (.int u6_0), .val (.int pa), .val (.int pl), .val (.int ps), .val (.int pe), .val (.long ea), .second, .val (.long ee), .second, .val (.long el), .second, .val (.ref b25), .val (.ref bx34), .unset, .unset]) rfl ?_
            show Steps p.tables e below (T34.setTop (mkF m 196 #[.val (.int p0), .val (.int p1), .val (.int p2), .val (.int p3), .val (.int p4), .val (.int p5), .val (.int u1_0), .val (.int u2_0), .val (.int u3_0), .val (.int u4_0), .val (.int u5_0), .val (.int u6_0), .val (.int pa), .val (.int pl), .val (.int ps), .val (.int pe), .val (.long ea), .second, .val (.long ee), .second, .val (.long el), .second, .val (.ref b25), .val (.ref bx34), .unset, .unset] [])) _
            refine XS.aload X34.here hx rfl (hb hby at_196) rfl (rfl) ?_
            show Steps p.tables e below (T34.setTop (mkF m 198 #[.val (.int p0), .val (.int p1), .val (.int p2), .val (.int p3), .val (.int p4), .val (.int p5), .val (.int u1_0), .val (.int u2_0), .val (.int u3_0), .val (.int u4_0), .val (.int u5_0), .val (.int u6_0), .val (.int pa), .val (.int pl), .val (.int ps), .val (.int pe), .val (.long ea), .second, .val (.long ee), .second, .val (.long el), .second, .val (.ref b25), .val (.ref bx34), .unset, .unset] [(.ref bx34)])) _
            refine XS.ifnonnullYes X34.here hx rfl (pc0 := 198) (pc' := 210) rfl (hb hby at_198) rfl (by decide) (by decide) ?_
            show Steps p.tables e below (T34.setTop (mkF m 210 #[.val (.int p0), .val (.int p1), .val (.int p2), .val (.int p3), .val (.int p4), .val (.int p5), .val (.int u1_0), .val (.int u2_0), .val (.int u3_0), .val (.int u4_0), .val (.int u5_0), .val (.int u6_0), .val (.int pa), .val (.int pl), .val (.int ps), .val (.int pe), .val (.long ea), .second, .val (.long ee), .second, .val (.long el), .second, .val (.ref b25), .val (.ref bx34), .unset, .unset] [])) _
            exact k
          exact ⟨T34, _, T34.heap, _, _, b25, bx34, pa.toInt64, pl.toInt64, (0 : Int64), X34, rfl, N34, (Nat.le_trans (Nat.le_trans (Nat.le_trans Z0 E25.1) Kq27.1) Kq34.1), (by decide : 2 ≤ 6), (by decide : 12 ≤ 60), gx34, own_A1a hz1 h182 hz2 h158 npa npl hcS, Eq34, F0q34, F1q34, F2q34, F3q34, F4q34, F5q34, F6q34, F7q34, F8q34, pre35⟩
        · skip
          have hn1 : ¬ ((0 : Int32) < pa) := fun z => hcS (Or.inl z)
          have hn2 : ¬ ((0 : Int32) < pl) := fun z => hcS (Or.inr (Or.inl z))
          have hn3 : ¬ ((0 : Int64) < (0 : Int64)) := fun z => hcS (Or.inr (Or.inr z))
          obtain ⟨_, _, ⟨T36, L36, k36, n36⟩, -, X36, ⟨Lc36, hQ36, l36, y36, z36⟩, st36⟩ := Jvm.LawKit.callS X27 hx (y := (⟨"com/example/kiseki/kiseki/tracing/DroppedItems", "atStart", "(IILjava/util/List;)Lcom/example/kiseki/kiseki/tracing/DroppedItems;"⟩ : MethodName)) hown (mvT hZ (hw _ (List.mem_of_getElem? (i := 78) rfl))) (mvT hZ (hw _ (List.mem_of_getElem? (i := 79) rfl))) (mvT hZ (hw _ (List.mem_of_getElem? (i := 80) rfl))) (mvT hZ (hw _ (List.mem_of_getElem? (i := 81) rfl))) (by decide) (backOf (W := 0) (rmS00 l Z a0 hw [] pa pl b25  T27.heap n0 (Nat.le_trans (Nat.le_trans Z0 E25.1) Kq27.1) Eq27 G2q27 hn1 hn2 hn3) hZ (hw _ (List.mem_of_getElem? (i := 81) rfl)) (hw _ (List.mem_of_getElem? (i := 80) rfl)) (by decide) (by decide)) (g := (mkF m 191 #[.val (.int p0), .val (.int p1), .val (.int p2), .val (.int p3), .val (.int p4), .val (.int p5), .val (.int u1_0), .val (.int u2_0), .val (.int u3_0), .val (.int u4_0), .val (.int u5_0), .val (.int u6_0), .val (.int pa), .val (.int pl), .val (.int ps), .val (.int pe), .val (.long ea), .second, .val (.long ee), .second, .val (.long el), .second, .val (.ref b25), .val .null, .unset, .unset] [(.ref b25), (.int pl), (.int pa)])) rfl (by rw [hml]; rfl) (argsL := [(.int pa), (.int pl), (.ref b25)]) (rest := []) (lenOf pd_9 rfl) rfl (by show 2 * 0 + _ ≤ _; exact Nat.le_of_eq rfl) (hb hby at_191) (fun _ _ => ⟨rfl, rfl, (by decide : 1 + 0 ≤ _), (by decide : 3 + 0 ≤ _)⟩)
          dsimp only [Pt.U, Pt.locs, Pt.cells, Pt.slots] at X36 l36 y36 z36 st36 hQ36
          subst l36 y36 z36
          obtain ⟨rfl, N36q, hq36⟩ := hQ36
          have N36 := Fr.app N27 N36q
          obtain ⟨T37, h37, X37, e37, E37, A37, D37, -, st37⟩ := newO X36 hx hZ hown (hw _ (List.mem_of_getElem? (i := 141) rfl)) (hw _ (List.mem_of_getElem? (i := 120) rfl)) (hw _ (List.mem_of_getElem? (i := 80) rfl)) hq36 (g := (mkF m 201 #[.val (.int p0), .val (.int p1), .val (.int p2), .val (.int p3), .val (.int p4), .val (.int p5), .val (.int u1_0), .val (.int u2_0), .val (.int u3_0), .val (.int u4_0), .val (.int u5_0), .val (.int u6_0), .val (.int pa), .val (.int pl), .val (.int ps), .val (.int pe), .val (.long ea), .second, .val (.long ee), .second, .val (.long el), .second, .val (.ref b25), .val .null, .unset, .unset] [])) rfl (hb hby at_201) (by decide) (by decide)
          obtain ⟨b37, g37⟩ : ∃ z, z = T27.heap.size := ⟨_, rfl⟩
          rw [← g37] at A37 D37 st37
          have ne_b25_b37 : b25 ≠ b37 := Nat.ne_of_lt (Nat.lt_of_lt_of_le Eq27.lt (Nat.le_of_eq g37.symm))
          have F37_attributesBeforeStart : Fld Z h37 b37 "com/example/kiseki/kiseki/tracing/DroppedItems" "attributesBeforeStart" "J" (.long (0 : Int64)) := D37 (Or.inl (hw _ (List.mem_of_getElem? (i := 126) rfl))) (ty := .long) (by decide)
          have F37_links : Fld Z h37 b37 "com/example/kiseki/kiseki/tracing/DroppedItems" "links" "J" (.long (0 : Int64)) := D37 (Or.inl (hw _ (List.mem_of_getElem? (i := 128) rfl))) (ty := .long) (by decide)
          have F37_linkAttributes : Fld Z h37 b37 "com/example/kiseki/kiseki/tracing/DroppedItems" "linkAttributes" "J" (.long (0 : Int64)) := D37 (Or.inl (hw _ (List.mem_of_getElem? (i := 130) rfl))) (ty := .long) (by decide)
          have F37_attributesSinceStart : Fld Z h37 b37 "com/example/kiseki/kiseki/tracing/DroppedItems" "attributesSinceStart" "J" (.long (0 : Int64)) := D37 (Or.inl (hw _ (List.mem_of_getElem? (i := 138) rfl))) (ty := .long) (by decide)
          have F37_events : Fld Z h37 b37 "com/example/kiseki/kiseki/tracing/DroppedItems" "events" "J" (.long (0 : Int64)) := D37 (Or.inl (hw _ (List.mem_of_getElem? (i := 140) rfl))) (ty := .long) (by decide)
          have F37_eventAttributes : Fld Z h37 b37 "com/example/kiseki/kiseki/tracing/DroppedItems" "eventAttributes" "J" (.long (0 : Int64)) := D37 (Or.inl (hw _ (List.mem_of_getElem? (i := 144) rfl))) (ty := .long) (by decide)
          have F37_attributesElsewhere : Fld Z h37 b37 "com/example/kiseki/kiseki/tracing/DroppedItems" "attributesElsewhere" "J" (.long (0 : Int64)) := D37 (Or.inl (hw _ (List.mem_of_getElem? (i := 168) rfl))) (ty := .long) (by decide)
          have F37_eventsElsewhere : Fld Z h37 b37 "com/example/kiseki/kiseki/tracing/DroppedItems" "eventsElsewhere" "J" (.long (0 : Int64)) := D37 (Or.inl (hw _ (List.mem_of_getElem? (i := 170) rfl))) (ty := .long) (by decide)
          have F37_linksElsewhere : Fld Z h37 b37 "com/example/kiseki/kiseki/tracing/DroppedItems" "linksElsewhere" "J" (.long (0 : Int64)) := D37 (Or.inl (hw _ (List.mem_of_getElem? (i := 172) rfl))) (ty := .long) (by decide)
          have g_b37 : n0 ≤ b37 := Nat.le_trans (Nat.le_trans (Nat.le_trans Z0 E25.1) Kq27.1) (Nat.le_of_eq g37.symm)
          have sz_b37 : h0.size ≤ b37 := (Nat.le_trans K27.1 (Nat.le_of_eq g37.symm))
          have K37 : Keep h0 h37 [] := K27.ext E37
          obtain ⟨_, _, ⟨T38, L38, k38, n38⟩, -, X38, ⟨Lc38, hQ38, l38, y38, z38⟩, st38⟩ := X37.specialBack hx (y := (⟨"com/example/kiseki/kiseki/tracing/DroppedItems", "<init>", "()V"⟩ : MethodName)) rfl hown (mvT hZ (hw _ (List.mem_of_getElem? (i := 142) rfl))) (mvT hZ (hw _ (List.mem_of_getElem? (i := 122) rfl))) (mvT hZ (hw _ (List.mem_of_getElem? (i := 123) rfl))) (by decide) (backOf (W := 1) (rmDI l Z a0 hw [] b37  h37 n0 (Nat.le_trans (Nat.le_trans (Nat.le_trans Z0 E25.1) Kq27.1) E37.1) ) hZ (hw _ (List.mem_of_getElem? (i := 123) rfl)) (hw _ (List.mem_of_getElem? (i := 80) rfl)) (by decide) (by decide)) (g := (mkF m 205 #[.val (.int p0), .val (.int p1), .val (.int p2), .val (.int p3), .val (.int p4), .val (.int p5), .val (.int u1_0), .val (.int u2_0), .val (.int u3_0), .val (.int u4_0), .val (.int u5_0), .val (.int u6_0), .val (.int pa), .val (.int pl), .val (.int ps), .val (.int pe), .val (.long ea), .second, .val (.long ee), .second, .val (.long el), .second, .val (.ref b25), .val .null, .unset, .unset] [(.ref b37), (.ref b37)])) rfl (by rw [hml]; rfl) (Steps.refl _) (a := b37) (argsL := []) (rest := [(.ref b37)]) (lenOf pd_0 rfl) rfl (by show 2 * 0 + _ ≤ _; exact Nat.le_of_eq rfl) (hb hby at_205) (fun _ _ => ⟨rfl, e37, (by decide : 2 + 0 ≤ _), (by decide : 12 + 0 ≤ _)⟩)
          dsimp only [Pt.U, Pt.locs, Pt.cells, Pt.slots] at X38 l38 y38 z38 st38 hQ38
          subst l38 y38 z38
          obtain ⟨rfl, N38q, hq38⟩ := hQ38
          have N38 := Fr.app N36 N38q
          have pre39 : ∀ t, Steps p.tables e below (T38.setTop (mkF m 210 #[.val (.int p0), .val (.int p1), .val (.int p2), .val (.int p3), .val (.int p4), .val (.int p5), .val (.int u1_0), .val (.int u2_0), .val (.int u3_0), .val (.int u4_0), .val (.int u5_0), .val (.int u6_0), .val (.int pa), .val (.int pl), .val (.int ps), .val (.int pe), .val (.long ea), .second, .val (.long ee), .second, .val (.long el), .second, .val (.ref b25), .val (.ref b37), .unset, .unset] [])) t → Steps p.tables e below (s₁.setTop (entryFrame m #[(.int p0), (.int p1), (.int p2), (.int p3), (.int p4), (.int p5)] maxLocals)) t := by
            intro t k
            refine pre33 t ?_
            show Steps p.tables e below (T27.setTop (mkF m 185 #[.val (.int p0), .val (.int p1), .val (.int p2), .val (.int p3), .val (.int p4), .val (.int p5), .val (.int u1_0), .val (.int u2_0), .val (.int u3_0), .val (.int u4_0), .val (.int u5_0), .val (.int u6_0), .val (.int pa), .val (.int pl), .val (.int ps), .val (.int pe), .val (.long ea), .second, .val (.long ee), .second, .val (.long el), .second, .val (.ref b25), .val .null, .unset, .unset] [])) _
            refine XS.iload X27.here hx rfl (hb hby at_185) rfl ?_
            show Steps p.tables e below (T27.setTop (mkF m 187 #[.val (.int p0), .val (.int p1), .val (.int p2), .val (.int p3), .val (.int p4), .val (.int p5), .val (.int u1_0), .val (.int u2_0), .val (.int u3_0), .val (.int u4_0), .val (.int u5_0), .val (.int u6_0), .val (.int pa), .val (.int pl), .val (.int ps), .val (.int pe), .val (.long ea), .second, .val (.long ee), .second, .val (.long el), .second, .val (.ref b25), .val .null, .unset, .unset] [(.int pa)])) _
            refine XS.iload X27.here hx rfl (hb hby at_187) rfl ?_
            show Steps p.tables e below (T27.setTop (mkF m 189 #[.val (.int p0), .val (.int p1), .val (.int p2), .val (.int p3), .val (.int p4), .val (.int p5), .val (.int u1_0), .val (.int u2_0), .val (.int u3_0), .val (.int u4_0), .val (.int u5_0), .val (.int u6_0), .val (.int pa), .val (.int pl), .val (.int ps), .val (.int pe), .val (.long ea), .second, .val (.long ee), .second, .val (.long el), .second, .val (.ref b25), .val .null, .unset, .unset] [(.int pl), (.int pa)])) _
            refine XS.aload X27.here hx rfl (hb hby at_189) rfl (rfl) ?_
            show Steps p.tables e below (T27.setTop (mkF m 191 #[.val (.int p0), .val (.int p1), .val (.int p2), .val (.int p3), .val (.int p4), .val (.int p5), .val (.int u1_0), .val (.int u2_0), .val (.int u3_0), .val (.int u4_0), .val (.int u5_0), .val (.int u6_0), .val (.int pa), .val (.int pl), .val (.int ps), .val (.int pe), .val (.long ea), .second, .val (.long ee), .second, .val (.long el), .second, .val (.ref b25), .val .null, .unset, .unset] [(.ref b25), (.int pl), (.int pa)])) _
            refine st36 _ ?_
            show Steps p.tables e below (T36.setTop (mkF m 194 #[.val (.int p0), .val (.int p1), .val (.int p2), .val (.int p3), .val (.int p4), .val (.int p5), .val (.int u1_0), .val (.int u2_0), .val (.int u3_0), .val (.int u4_0), .val (.int u5_0), .val (.int u6_0), .val (.int pa), .val (.int pl), .val (.int ps), .val (.int pe), .val (.long ea), .second, .val (.long ee), .second, .val (.long el), .second, .val (.ref b25), .val .null, .unset, .unset] [.null])) _
            refine XS.astore X36.here hx rfl (hb hby at_194) rfl (rfl) (l' := #[.val (.int p0), .val (.int p1), .val (.int p2), .val (.int p3), .val (.int p4), .val (.int p5), .val (.int u1_0), .val (.int u2_0), .val (.int u3_0), .val (.int u4_0), .val (.int u5_0), .val (.int u6_0), .val (.int pa), .val (.int pl), .val (.int ps), .val (.int pe), .val (.long ea), .second, .val (.long ee), .second, .val (.long el), .second, .val (.ref b25), .val .null, .unset, .unset]) rfl ?_
            show Steps p.tables e below (T36.setTop (mkF m 196 #[.val (.int p0), .val (.int p1), .val (.int p2), .val (.int p3), .val (.int p4), .val (.int p5), .val (.int u1_0), .val (.int u2_0), .val (.int u3_0), .val (.int u4_0), .val (.int u5_0), .val (.int u6_0), .val (.int pa), .val (.int pl), .val (.int ps), .val (.int pe), .val (.long ea), .second, .val (.long ee), .second, .val (.long el), .second, .val (.ref b25), .val .null, .unset, .unset] [])) _
            refine XS.aload X36.here hx rfl (hb hby at_196) rfl (rfl) ?_
            show Steps p.tables e below (T36.setTop (mkF m 198 #[.val (.int p0), .val (.int p1), .val (.int p2), .val (.int p3), .val (.int p4), .val (.int p5), .val (.int u1_0), .val (.int u2_0), .val (.int u3_0), .val (.int u4_0), .val (.int u5_0), .val (.int u6_0), .val (.int pa), .val (.int pl), .val (.int ps), .val (.int pe), .val (.long ea), .second, .val (.long ee), .second, .val (.long el), .second, .val (.ref b25), .val .null, .unset, .unset] [.null])) _
            refine XS.ifnonnullNo X36.here hx rfl (hb hby at_198) rfl ?_
            show Steps p.tables e below (T36.setTop (mkF m 201 #[.val (.int p0), .val (.int p1), .val (.int p2), .val (.int p3), .val (.int p4), .val (.int p5), .val (.int u1_0), .val (.int u2_0), .val (.int u3_0), .val (.int u4_0), .val (.int u5_0), .val (.int u6_0), .val (.int pa), .val (.int pl), .val (.int ps), .val (.int pe), .val (.long ea), .second, .val (.long ee), .second, .val (.long el), .second, .val (.ref b25), .val .null, .unset, .unset] [])) _
            refine st37 _ ?_
            show Steps p.tables e below (T37.setTop (mkF m 204 #[.val (.int p0), .val (.int p1), .val (.int p2), .val (.int p3), .val (.int p4), .val (.int p5), .val (.int u1_0), .val (.int u2_0), .val (.int u3_0), .val (.int u4_0), .val (.int u5_0), .val (.int u6_0), .val (.int pa), .val (.int pl), .val (.int ps), .val (.int pe), .val (.long ea), .second, .val (.long ee), .second, .val (.long el), .second, .val (.ref b25), .val .null, .unset, .unset] [(.ref b37)])) _
            refine XS.dup X37.here hx rfl (hb hby at_204) rfl rfl ?_
            show Steps p.tables e below (T37.setTop (mkF m 205 #[.val (.int p0), .val (.int p1), .val (.int p2), .val (.int p3), .val (.int p4), .val (.int p5), .val (.int u1_0), .val (.int u2_0), .val (.int u3_0), .val (.int u4_0), .val (.int u5_0), .val (.int u6_0), .val (.int pa), .val (.int pl), .val (.int ps), .val (.int pe), .val (.long ea), .second, .val (.long ee), .second, .val (.long el), .second, .val (.ref b25), .val .null, .unset, .unset] [(.ref b37), (.ref b37)])) _
            refine st38.trans ?_
            show Steps p.tables e below (T38.setTop (mkF m 208 #[.val (.int p0), .val (.int p1), .val (.int p2), .val (.int p3), .val (.int p4), .val (.int p5), .val (.int u1_0), .val (.int u2_0), .val (.int u3_0), .val (.int u4_0), .val (.int u5_0), .val (.int u6_0), .val (.int pa), .val (.int pl), .val (.int ps), .val (.int pe), .val (.long ea), .second, .val (.long ee), .second, .val (.long el), .second, .val (.ref b25), .val .null, .unset, .unset] [(.ref b37)])) _
            refine XS.astore X38.here hx rfl (hb hby at_208) rfl (rfl) (l' := #[.val (.int p0), .val (.int p1), .val (.int p2), .val (.int p3), .val (.int p4), .val (.int p5), .val (.int u1_0), .val (.int u2_0), .val (.int u3_0), .val (.int u4_0), .val (.int u5_0), .val (.int u6_0), .val (.int pa), .val (.int pl), .val (.int ps), .val (.int pe), .val (.long ea), .second, .val (.long ee), .second, .val (.long el), .second, .val (.ref b25), .val (.ref b37), .unset, .unset]) rfl ?_
            show Steps p.tables e below (T38.setTop (mkF m 210 #[.val (.int p0), .val (.int p1), .val (.int p2), .val (.int p3), .val (.int p4), .val (.int p5), .val (.int u1_0), .val (.int u2_0), .val (.int u3_0), .val (.int u4_0), .val (.int u5_0), .val (.int u6_0), .val (.int pa), .val (.int pl), .val (.int ps), .val (.int pe), .val (.long ea), .second, .val (.long ee), .second, .val (.long el), .second, .val (.ref b25), .val (.ref b37), .unset, .unset] [])) _
            exact k
          exact ⟨T38, _, h37, _, _, b25, b37, (0 : Int64), (0 : Int64), (0 : Int64), X38, hq38, N38, (Nat.le_trans (Nat.le_trans (Nat.le_trans Z0 E25.1) Kq27.1) E37.1), (by decide : 2 ≤ 6), (by decide : 12 ≤ 60), g_b37, own_A2a hz2 h158 hn1 hn2 hn3, A37, F37_attributesBeforeStart, F37_attributesSinceStart, F37_events, F37_links, F37_eventAttributes, F37_linkAttributes, F37_attributesElsewhere, F37_eventsElsewhere, F37_linksElsewhere, pre39⟩
    · skip
      obtain ⟨T40, h40, X40, e40, E40, A40, D40, -, st40⟩ := newO X27 hx hZ hown (hw _ (List.mem_of_getElem? (i := 27) rfl)) (hw _ (List.mem_of_getElem? (i := 28) rfl)) (hw _ (List.mem_of_getElem? (i := 29) rfl)) rfl (g := (mkF m 163 #[.val (.int p0), .val (.int p1), .val (.int p2), .val (.int p3), .val (.int p4), .val (.int p5), .val (.int u1_0), .val (.int u2_0), .val (.int u3_0), .val (.int u4_0), .val (.int u5_0), .val (.int u6_0), .val (.int pa), .val (.int pl), .val (.int ps), .val (.int pe), .val (.long ea), .second, .val (.long ee), .second, .val (.long el), .second, .val (.ref b25), .unset, .unset, .unset] [(.ref b25)])) rfl (hb hby at_163) (by decide) (by decide)
      obtain ⟨b40, g40⟩ : ∃ z, z = T27.heap.size := ⟨_, rfl⟩
      rw [← g40] at A40 D40 st40
      have ne_b25_b40 : b25 ≠ b40 := Nat.ne_of_lt (Nat.lt_of_lt_of_le Eq27.lt (Nat.le_of_eq g40.symm))
      have F40_spanContext : Fld Z h40 b40 "com/example/kiseki/kiseki/span/LinkData" "spanContext" "Lcom/example/kiseki/kiseki/span/SpanContext;" .null := D40 (Or.inr (hw _ (List.mem_of_getElem? (i := 38) rfl))) (ty := (.object "com/example/kiseki/kiseki/span/SpanContext")) (by decide)
      have F40_attributes : Fld Z h40 b40 "com/example/kiseki/kiseki/span/LinkData" "attributes" "Lcom/example/kiseki/kiseki/span/Attributes;" .null := D40 (Or.inr (hw _ (List.mem_of_getElem? (i := 43) rfl))) (ty := (.object "com/example/kiseki/kiseki/span/Attributes")) (by decide)
      have F40_droppedAttributesCount : Fld Z h40 b40 "com/example/kiseki/kiseki/span/LinkData" "droppedAttributesCount" "I" (.int (0 : Int32)) := D40 (Or.inr (hw _ (List.mem_of_getElem? (i := 49) rfl))) (ty := .int) (by decide)
      have g_b40 : n0 ≤ b40 := Nat.le_trans (Nat.le_trans (Nat.le_trans Z0 E25.1) Kq27.1) (Nat.le_of_eq g40.symm)
      have sz_b40 : h0.size ≤ b40 := (Nat.le_trans K27.1 (Nat.le_of_eq g40.symm))
      have K40 : Keep h0 h40 [] := K27.ext E40
      obtain ⟨_, _, ⟨T41, L41, k41, n41⟩, -, X41, ⟨Lc41, hQ41, l41, y41, z41⟩, st41⟩ := X40.specialBack hx (y := (⟨"com/example/kiseki/kiseki/span/LinkData", "<init>", "(Lcom/example/kiseki/kiseki/span/SpanContext;Lcom/example/kiseki/kiseki/span/Attributes;I)V"⟩ : MethodName)) rfl hown (mvT hZ (hw _ (List.mem_of_getElem? (i := 30) rfl))) (mvT hZ (hw _ (List.mem_of_getElem? (i := 31) rfl))) (mvT hZ (hw _ (List.mem_of_getElem? (i := 32) rfl))) (by decide) (backOf (W := 2) (rmLD l Z a0 hw [] b40 p2 aI aE h40 n0 (Nat.le_trans (Nat.le_trans (Nat.le_trans Z0 E25.1) Kq27.1) E40.1) F40_spanContext F40_attributes F40_droppedAttributesCount A40 g_b40 (SI.ext ((((O0.ext E25).keep Kq27 (allS g_b25 all0)).ext E40)).2) (SE.ext ((((O0.ext E25).keep Kq27 (allS g_b25 all0)).ext E40)).2)) hZ (hw _ (List.mem_of_getElem? (i := 32) rfl)) (hw _ (List.mem_of_getElem? (i := 29) rfl)) (by decide) (by decide)) (g := (mkF m 170 #[.val (.int p0), .val (.int p1), .val (.int p2), .val (.int p3), .val (.int p4), .val (.int p5), .val (.int u1_0), .val (.int u2_0), .val (.int u3_0), .val (.int u4_0), .val (.int u5_0), .val (.int u6_0), .val (.int pa), .val (.int pl), .val (.int ps), .val (.int pe), .val (.long ea), .second, .val (.long ee), .second, .val (.long el), .second, .val (.ref b25), .unset, .unset, .unset] [(.int p2), .null, .null, (.ref b40), (.ref b40), (.ref b25)])) rfl (by rw [hml]; rfl) (Steps.refl _) (a := b40) (argsL := [.null, .null, (.int p2)]) (rest := [(.ref b40), (.ref b25)]) (lenOf pd_10 rfl) rfl (by show 2 * 0 + _ ≤ _; exact Nat.le_of_eq rfl) (hb hby at_170) (fun _ _ => ⟨rfl, e40, (by decide : 2 + 0 ≤ _), (by decide : 6 + 0 ≤ _)⟩)
      dsimp only [Pt.U, Pt.locs, Pt.cells, Pt.slots] at X41 l41 y41 z41 st41 hQ41
      subst l41 y41 z41
      obtain ⟨rfl, N41q, Kq41, Eq41, Gq41⟩ := hQ41
      have N41 := Fr.app N27 N41q
      have K41 : Keep h0 T41.heap [] := K40.trans Kq41 (allS (Or.inr sz_b40) all0)
      obtain ⟨cq42, kq42, q42a, q42b, q42c⟩ := isOf hZ rfl ((Eq27.ext E40).keep Kq41)
      obtain ⟨_, _, ⟨T42, L42, k42, n42⟩, -, X42, ⟨Lc42, hQ42, l42, y42, z42⟩, st42⟩ := X41.virtualBack hx (y := (⟨"java/util/ArrayList", "add", "(Ljava/lang/Object;)Z"⟩ : MethodName)) (z := (⟨"java/util/ArrayList", "add", "(Ljava/lang/Object;)Z"⟩ : MethodName)) hown (mvT hZ (hw _ (List.mem_of_getElem? (i := 50) rfl))) (mvT hZ (hw _ (List.mem_of_getElem? (i := 51) rfl))) (notFace_of_selects (args := #[]) (mvT hZ (hw _ (List.mem_of_getElem? (i := 53) rfl)))) (mvT hZ (hw _ (List.mem_of_getElem? (i := 53) rfl))) (mvT hZ (hw _ (List.mem_of_getElem? (i := 52) rfl))) (by decide) (backOf (W := 0) (rmA1 l Z a0 hw [] b25 b40 (0 : Int32) aD cD T41.heap n0 (Nat.le_trans (Nat.le_trans (Nat.le_trans (Nat.le_trans Z0 E25.1) Kq27.1) E40.1) Kq41.1) ((G0q27.ext E40).keep Kq41 (ninS ne_b25_b40 nin0)) ((G1q27.ext E40).keep Kq41 (ninS ne_b25_b40 nin0)) ((G2q27.ext E40).keep Kq41 (ninS ne_b25_b40 nin0)) ((Eq27.ext E40).keep Kq41) g_b25 (SD.ext (((((O0.ext E25).keep Kq27 (allS g_b25 all0)).ext E40).keep Kq41 (allS g_b40 all0))).2) (AD.ext (((((O0.ext E25).keep Kq27 (allS g_b25 all0)).ext E40).keep Kq41 (allS g_b40 all0))).2) SzD Eq41) hZ (hw _ (List.mem_of_getElem? (i := 54) rfl)) (hw _ (List.mem_of_getElem? (i := 3) rfl)) (by decide) (by decide)) q42a q42c (g := (mkF m 173 #[.val (.int p0), .val (.int p1), .val (.int p2), .val (.int p3), .val (.int p4), .val (.int p5), .val (.int u1_0), .val (.int u2_0), .val (.int u3_0), .val (.int u4_0), .val (.int u5_0), .val (.int u6_0), .val (.int pa), .val (.int pl), .val (.int ps), .val (.int pe), .val (.long ea), .second, .val (.long ee), .second, .val (.long el), .second, .val (.ref b25), .unset, .unset, .unset] [(.ref b40), (.ref b25)])) rfl (by rw [hml]; rfl) (Steps.refl _) (argsL := [(.ref b40)]) (rest := []) (lenOf pd_11 rfl) rfl (by show 2 * 0 + _ ≤ _; exact Nat.le_of_eq rfl) (hb hby at_173) (fun _ _ => ⟨rfl, rfl, (by decide : 2 + 1 ≤ _), (by decide : 6 + 10 ≤ _)⟩)
      dsimp only [Pt.U, Pt.locs, Pt.cells, Pt.slots] at X42 l42 y42 z42 st42 hQ42
      subst l42 y42 z42
      obtain ⟨b42, kk42, rfl, N42q, Kq42, sz_b42, Eq42, G0q42, G1q42, G2q42, Vq42, Oq42⟩ := hQ42
      have N42 := Fr.app N41 N42q
      have K42 : Keep h0 T42.heap [] := K41.trans Kq42 (allS (Or.inr sz_b25) all0)
      have pre43 : ∀ t, Steps p.tables e below (T42.setTop (mkF m 182 #[.val (.int p0), .val (.int p1), .val (.int p2), .val (.int p3), .val (.int p4), .val (.int p5), .val (.int u1_0), .val (.int u2_0), .val (.int u3_0), .val (.int u4_0), .val (.int u5_0), .val (.int u6_0), .val (.int pa), .val (.int pl), .val (.int ps), .val (.int pe), .val (.long ea), .second, .val (.long ee), .second, .val (.long el), .second, .val (.ref b25), .val .null, .unset, .unset] [(.int u1_0)])) t → Steps p.tables e below (s₁.setTop (entryFrame m #[(.int p0), (.int p1), (.int p2), (.int p3), (.int p4), (.int p5)] maxLocals)) t := by
        intro t k
        refine pre28 t ?_
        refine XS.ifNo X27.here hx rfl (hb hby at_158) rfl ((if0 _ _).trans (feq h158).1) ?_
        show Steps p.tables e below (T27.setTop (mkF m 161 #[.val (.int p0), .val (.int p1), .val (.int p2), .val (.int p3), .val (.int p4), .val (.int p5), .val (.int u1_0), .val (.int u2_0), .val (.int u3_0), .val (.int u4_0), .val (.int u5_0), .val (.int u6_0), .val (.int pa), .val (.int pl), .val (.int ps), .val (.int pe), .val (.long ea), .second, .val (.long ee), .second, .val (.long el), .second, .val (.ref b25), .unset, .unset, .unset] [])) _
        refine XS.aload X27.here hx rfl (hb hby at_161) rfl (rfl) ?_
        show Steps p.tables e below (T27.setTop (mkF m 163 #[.val (.int p0), .val (.int p1), .val (.int p2), .val (.int p3), .val (.int p4), .val (.int p5), .val (.int u1_0), .val (.int u2_0), .val (.int u3_0), .val (.int u4_0), .val (.int u5_0), .val (.int u6_0), .val (.int pa), .val (.int pl), .val (.int ps), .val (.int pe), .val (.long ea), .second, .val (.long ee), .second, .val (.long el), .second, .val (.ref b25), .unset, .unset, .unset] [(.ref b25)])) _
        refine st40 _ ?_
        show Steps p.tables e below (T40.setTop (mkF m 166 #[.val (.int p0), .val (.int p1), .val (.int p2), .val (.int p3), .val (.int p4), .val (.int p5), .val (.int u1_0), .val (.int u2_0), .val (.int u3_0), .val (.int u4_0), .val (.int u5_0), .val (.int u6_0), .val (.int pa), .val (.int pl), .val (.int ps), .val (.int pe), .val (.long ea), .second, .val (.long ee), .second, .val (.long el), .second, .val (.ref b25), .unset, .unset, .unset] [(.ref b40), (.ref b25)])) _
        refine XS.dup X40.here hx rfl (hb hby at_166) rfl rfl ?_
        show Steps p.tables e below (T40.setTop (mkF m 167 #[.val (.int p0), .val (.int p1), .val (.int p2), .val (.int p3), .val (.int p4), .val (.int p5), .val (.int u1_0), .val (.int u2_0), .val (.int u3_0), .val (.int u4_0), .val (.int u5_0), .val (.int u6_0), .val (.int pa), .val (.int pl), .val (.int ps), .val (.int pe), .val (.long ea), .second, .val (.long ee), .second, .val (.long el), .second, .val (.ref b25), .unset, .unset, .unset] [(.ref b40), (.ref b40), (.ref b25)])) _
        refine XS.aconstNull X40.here hx rfl (hb hby at_167) ?_
        show Steps p.tables e below (T40.setTop (mkF m 168 #[.val (.int p0), .val (.int p1), .val (.int p2), .val (.int p3), .val (.int p4), .val (.int p5), .val (.int u1_0), .val (.int u2_0), .val (.int u3_0), .val (.int u4_0), .val (.int u5_0), .val (.int u6_0), .val (.int pa), .val (.int pl), .val (.int ps), .val (.int pe), .val (.long ea), .second, .val (.long ee), .second, .val (.long el), .second, .val (.ref b25), .unset, .unset, .unset] [.null, (.ref b40), (.ref b40), (.ref b25)])) _
        refine XS.aconstNull X40.here hx rfl (hb hby at_168) ?_
        show Steps p.tables e below (T40.setTop (mkF m 169 #[.val (.int p0), .val (.int p1), .val (.int p2), .val (.int p3), .val (.int p4), .val (.int p5), .val (.int u1_0), .val (.int u2_0), .val (.int u3_0), .val (.int u4_0), .val (.int u5_0), .val (.int u6_0), .val (.int pa), .val (.int pl), .val (.int ps), .val (.int pe), .val (.long ea), .second, .val (.long ee), .second, .val (.long el), .second, .val (.ref b25), .unset, .unset, .unset] [.null, .null, (.ref b40), (.ref b40), (.ref b25)])) _
        refine XS.iloadN X40.here hx rfl (hb hby at_169) rfl ?_
        show Steps p.tables e below (T40.setTop (mkF m 170 #[.val (.int p0), .val (.int p1), .val (.int p2), .val (.int p3), .val (.int p4), .val (.int p5), .val (.int u1_0), .val (.int u2_0), .val (.int u3_0), .val (.int u4_0), .val (.int u5_0), .val (.int u6_0), .val (.int pa), .val (.int pl), .val (.int ps), .val (.int pe), .val (.long ea), .second, .val (.long ee), .second, .val (.long el), .second, .val (.ref b25), .unset, .unset, .unset] [(.int p2), .null, .null, (.ref b40), (.ref b40), (.ref b25)])) _
        refine st41.trans ?_
        show Steps p.tables e below (T41.setTop (mkF m 173 #[.val (.int p0), .val (.int p1), .val (.int p2), .val (.int p3), .val (.int p4), .val (.int p5), .val (.int u1_0), .val (.int u2_0), .val (.int u3_0), .val (.int u4_0), .val (.int u5_0), .val (.int u6_0), .val (.int pa), .val (.int pl), .val (.int ps), .val (.int pe), .val (.long ea), .second, .val (.long ee), .second, .val (.long el), .second, .val (.ref b25), .unset, .unset, .unset] [(.ref b40), (.ref b25)])) _
        refine st42.trans ?_
        show Steps p.tables e below (T42.setTop (mkF m 176 #[.val (.int p0), .val (.int p1), .val (.int p2), .val (.int p3), .val (.int p4), .val (.int p5), .val (.int u1_0), .val (.int u2_0), .val (.int u3_0), .val (.int u4_0), .val (.int u5_0), .val (.int u6_0), .val (.int pa), .val (.int pl), .val (.int ps), .val (.int pe), .val (.long ea), .second, .val (.long ee), .second, .val (.long el), .second, .val (.ref b25), .unset, .unset, .unset] [(.int (1 : Int32))])) _
        refine XS.pop X42.here hx rfl (hb hby at_176) rfl rfl ?_
        show Steps p.tables e below (T42.setTop (mkF m 177 #[.val (.int p0), .val (.int p1), .val (.int p2), .val (.int p3), .val (.int p4), .val (.int p5), .val (.int u1_0), .val (.int u2_0), .val (.int u3_0), .val (.int u4_0), .val (.int u5_0), .val (.int u6_0), .val (.int pa), .val (.int pl), .val (.int ps), .val (.int pe), .val (.long ea), .second, .val (.long ee), .second, .val (.long el), .second, .val (.ref b25), .unset, .unset, .unset] [])) _
        refine XS.aconstNull X42.here hx rfl (hb hby at_177) ?_
        show Steps p.tables e below (T42.setTop (mkF m 178 #[.val (.int p0), .val (.int p1), .val (.int p2), .val (.int p3), .val (.int p4), .val (.int p5), .val (.int u1_0), .val (.int u2_0), .val (.int u3_0), .val (.int u4_0), .val (.int u5_0), .val (.int u6_0), .val (.int pa), .val (.int pl), .val (.int ps), .val (.int pe), .val (.long ea), .second, .val (.long ee), .second, .val (.long el), .second, .val (.ref b25), .unset, .unset, .unset] [.null])) _
        refine XS.astore X42.here hx rfl (hb hby at_178) rfl (rfl) (l' := #[.val (.int p0), .val (.int p1), .val (.int p2), .val (.int p3), .val (.int p4), .val (.int p5), .val (.int u1_0), .val (.int u2_0), .val (.int u3_0), .val (.int u4_0), .val (.int u5_0), .val (.int u6_0), .val (.int pa), .val (.int pl), .val (.int ps), .val (.int pe), .val (.long ea), .second, .val (.long ee), .second, .val (.long el), .second, .val (.ref b25), .val .null, .unset, .unset]) rfl ?_
        show Steps p.tables e below (T42.setTop (mkF m 180 #[.val (.int p0), .val (.int p1), .val (.int p2), .val (.int p3), .val (.int p4), .val (.int p5), .val (.int u1_0), .val (.int u2_0), .val (.int u3_0), .val (.int u4_0), .val (.int u5_0), .val (.int u6_0), .val (.int pa), .val (.int pl), .val (.int ps), .val (.int pe), .val (.long ea), .second, .val (.long ee), .second, .val (.long el), .second, .val (.ref b25), .val .null, .unset, .unset] [])) _
        refine XS.iload X42.here hx rfl (hb hby at_180) rfl ?_
        show Steps p.tables e below (T42.setTop (mkF m 182 #[.val (.int p0), .val (.int p1), .val (.int p2), .val (.int p3), .val (.int p4), .val (.int p5), .val (.int u1_0), .val (.int u2_0), .val (.int u3_0), .val (.int u4_0), .val (.int u5_0), .val (.int u6_0), .val (.int pa), .val (.int pl), .val (.int ps), .val (.int pe), .val (.long ea), .second, .val (.long ee), .second, .val (.long el), .second, .val (.ref b25), .val .null, .unset, .unset] [(.int u1_0)])) _
        exact k
      by_cases h182 : u1_0 = (0 : Int32)
      · skip
        obtain ⟨T44, h44, X44, e44, E44, A44, D44, -, st44⟩ := newO X42 hx hZ hown (hw _ (List.mem_of_getElem? (i := 141) rfl)) (hw _ (List.mem_of_getElem? (i := 120) rfl)) (hw _ (List.mem_of_getElem? (i := 80) rfl)) rfl (g := (mkF m 201 #[.val (.int p0), .val (.int p1), .val (.int p2), .val (.int p3), .val (.int p4), .val (.int p5), .val (.int u1_0), .val (.int u2_0), .val (.int u3_0), .val (.int u4_0), .val (.int u5_0), .val (.int u6_0), .val (.int pa), .val (.int pl), .val (.int ps), .val (.int pe), .val (.long ea), .second, .val (.long ee), .second, .val (.long el), .second, .val (.ref b25), .val .null, .unset, .unset] [])) rfl (hb hby at_201) (by decide) (by decide)
        obtain ⟨b44, g44⟩ : ∃ z, z = T42.heap.size := ⟨_, rfl⟩
        rw [← g44] at A44 D44 st44
        have ne_b25_b44 : b25 ≠ b44 := Nat.ne_of_lt (Nat.lt_of_lt_of_le Eq42.lt (Nat.le_of_eq g44.symm))
        have ne_b40_b44 : b40 ≠ b44 := Nat.ne_of_lt (Nat.lt_of_lt_of_le (Eq41.keep Kq42).lt (Nat.le_of_eq g44.symm))
        have ne_b42_b44 : b42 ≠ b44 := Nat.ne_of_lt (Nat.lt_of_lt_of_le Vq42.lt (Nat.le_of_eq g44.symm))
        have F44_attributesBeforeStart : Fld Z h44 b44 "com/example/kiseki/kiseki/tracing/DroppedItems" "attributesBeforeStart" "J" (.long (0 : Int64)) := D44 (Or.inl (hw _ (List.mem_of_getElem? (i := 126) rfl))) (ty := .long) (by decide)
        have F44_links : Fld Z h44 b44 "com/example/kiseki/kiseki/tracing/DroppedItems" "links" "J" (.long (0 : Int64)) := D44 (Or.inl (hw _ (List.mem_of_getElem? (i := 128) rfl))) (ty := .long) (by decide)
        have F44_linkAttributes : Fld Z h44 b44 "com/example/kiseki/kiseki/tracing/DroppedItems" "linkAttributes" "J" (.long (0 : Int64)) := D44 (Or.inl (hw _ (List.mem_of_getElem? (i := 130) rfl))) (ty := .long) (by decide)
        have F44_attributesSinceStart : Fld Z h44 b44 "com/example/kiseki/kiseki/tracing/DroppedItems" "attributesSinceStart" "J" (.long (0 : Int64)) := D44 (Or.inl (hw _ (List.mem_of_getElem? (i := 138) rfl))) (ty := .long) (by decide)
        have F44_events : Fld Z h44 b44 "com/example/kiseki/kiseki/tracing/DroppedItems" "events" "J" (.long (0 : Int64)) := D44 (Or.inl (hw _ (List.mem_of_getElem? (i := 140) rfl))) (ty := .long) (by decide)
        have F44_eventAttributes : Fld Z h44 b44 "com/example/kiseki/kiseki/tracing/DroppedItems" "eventAttributes" "J" (.long (0 : Int64)) := D44 (Or.inl (hw _ (List.mem_of_getElem? (i := 144) rfl))) (ty := .long) (by decide)
        have F44_attributesElsewhere : Fld Z h44 b44 "com/example/kiseki/kiseki/tracing/DroppedItems" "attributesElsewhere" "J" (.long (0 : Int64)) := D44 (Or.inl (hw _ (List.mem_of_getElem? (i := 168) rfl))) (ty := .long) (by decide)
        have F44_eventsElsewhere : Fld Z h44 b44 "com/example/kiseki/kiseki/tracing/DroppedItems" "eventsElsewhere" "J" (.long (0 : Int64)) := D44 (Or.inl (hw _ (List.mem_of_getElem? (i := 170) rfl))) (ty := .long) (by decide)
        have F44_linksElsewhere : Fld Z h44 b44 "com/example/kiseki/kiseki/tracing/DroppedItems" "linksElsewhere" "J" (.long (0 : Int64)) := D44 (Or.inl (hw _ (List.mem_of_getElem? (i := 172) rfl))) (ty := .long) (by decide)
        have g_b44 : n0 ≤ b44 := Nat.le_trans (Nat.le_trans (Nat.le_trans (Nat.le_trans (Nat.le_trans (Nat.le_trans Z0 E25.1) Kq27.1) E40.1) Kq41.1) Kq42.1) (Nat.le_of_eq g44.symm)
        have sz_b44 : h0.size ≤ b44 := (Nat.le_trans K42.1 (Nat.le_of_eq g44.symm))
        have K44 : Keep h0 h44 [] := K42.ext E44
        obtain ⟨_, _, ⟨T45, L45, k45, n45⟩, -, X45, ⟨Lc45, hQ45, l45, y45, z45⟩, st45⟩ := X44.specialBack hx (y := (⟨"com/example/kiseki/kiseki/tracing/DroppedItems", "<init>", "()V"⟩ : MethodName)) rfl hown (mvT hZ (hw _ (List.mem_of_getElem? (i := 142) rfl))) (mvT hZ (hw _ (List.mem_of_getElem? (i := 122) rfl))) (mvT hZ (hw _ (List.mem_of_getElem? (i := 123) rfl))) (by decide) (backOf (W := 1) (rmDI l Z a0 hw [] b44  h44 n0 (Nat.le_trans (Nat.le_trans (Nat.le_trans (Nat.le_trans (Nat.le_trans (Nat.le_trans Z0 E25.1) Kq27.1) E40.1) Kq41.1) Kq42.1) E44.1) ) hZ (hw _ (List.mem_of_getElem? (i := 123) rfl)) (hw _ (List.mem_of_getElem? (i := 80) rfl)) (by decide) (by decide)) (g := (mkF m 205 #[.val (.int p0), .val (.int p1), .val (.int p2), .val (.int p3), .val (.int p4), .val (.int p5), .val (.int u1_0), .val (.int u2_0), .val (.int u3_0), .val (.int u4_0), .val (.int u5_0), .val (.int u6_0), .val (.int pa), .val (.int pl), .val (.int ps), .val (.int pe), .val (.long ea), .second, .val (.long ee), .second, .val (.long el), .second, .val (.ref b25), .val .null, .unset, .unset] [(.ref b44), (.ref b44)])) rfl (by rw [hml]; rfl) (Steps.refl _) (a := b44) (argsL := []) (rest := [(.ref b44)]) (lenOf pd_0 rfl) rfl (by show 2 * 0 + _ ≤ _; exact Nat.le_of_eq rfl) (hb hby at_205) (fun _ _ => ⟨rfl, e44, (by decide : 4 + 0 ≤ _), (by decide : 25 + 0 ≤ _)⟩)
        dsimp only [Pt.U, Pt.locs, Pt.cells, Pt.slots] at X45 l45 y45 z45 st45 hQ45
        subst l45 y45 z45
        obtain ⟨rfl, N45q, hq45⟩ := hQ45
        have N45 := Fr.app N42 N45q
        have pre46 : ∀ t, Steps p.tables e below (T45.setTop (mkF m 210 #[.val (.int p0), .val (.int p1), .val (.int p2), .val (.int p3), .val (.int p4), .val (.int p5), .val (.int u1_0), .val (.int u2_0), .val (.int u3_0), .val (.int u4_0), .val (.int u5_0), .val (.int u6_0), .val (.int pa), .val (.int pl), .val (.int ps), .val (.int pe), .val (.long ea), .second, .val (.long ee), .second, .val (.long el), .second, .val (.ref b25), .val (.ref b44), .unset, .unset] [])) t → Steps p.tables e below (s₁.setTop (entryFrame m #[(.int p0), (.int p1), (.int p2), (.int p3), (.int p4), (.int p5)] maxLocals)) t := by
          intro t k
          refine pre43 t ?_
          refine XS.ifYes X42.here hx rfl (pc0 := 182) (pc' := 196) rfl (hb hby at_182) rfl ((if0 _ _).trans (teq h182).1) (by decide) (by decide) ?_
          show Steps p.tables e below (T42.setTop (mkF m 196 #[.val (.int p0), .val (.int p1), .val (.int p2), .val (.int p3), .val (.int p4), .val (.int p5), .val (.int u1_0), .val (.int u2_0), .val (.int u3_0), .val (.int u4_0), .val (.int u5_0), .val (.int u6_0), .val (.int pa), .val (.int pl), .val (.int ps), .val (.int pe), .val (.long ea), .second, .val (.long ee), .second, .val (.long el), .second, .val (.ref b25), .val .null, .unset, .unset] [])) _
          refine XS.aload X42.here hx rfl (hb hby at_196) rfl (rfl) ?_
          show Steps p.tables e below (T42.setTop (mkF m 198 #[.val (.int p0), .val (.int p1), .val (.int p2), .val (.int p3), .val (.int p4), .val (.int p5), .val (.int u1_0), .val (.int u2_0), .val (.int u3_0), .val (.int u4_0), .val (.int u5_0), .val (.int u6_0), .val (.int pa), .val (.int pl), .val (.int ps), .val (.int pe), .val (.long ea), .second, .val (.long ee), .second, .val (.long el), .second, .val (.ref b25), .val .null, .unset, .unset] [.null])) _
          refine XS.ifnonnullNo X42.here hx rfl (hb hby at_198) rfl ?_
          show Steps p.tables e below (T42.setTop (mkF m 201 #[.val (.int p0), .val (.int p1), .val (.int p2), .val (.int p3), .val (.int p4), .val (.int p5), .val (.int u1_0), .val (.int u2_0), .val (.int u3_0), .val (.int u4_0), .val (.int u5_0), .val (.int u6_0), .val (.int pa), .val (.int pl), .val (.int ps), .val (.int pe), .val (.long ea), .second, .val (.long ee), .second, .val (.long el), .second, .val (.ref b25), .val .null, .unset, .unset] [])) _
          refine st44 _ ?_
          show Steps p.tables e below (T44.setTop (mkF m 204 #[.val (.int p0), .val (.int p1), .val (.int p2), .val (.int p3), .val (.int p4), .val (.int p5), .val (.int u1_0), .val (.int u2_0), .val (.int u3_0), .val (.int u4_0), .val (.int u5_0), .val (.int u6_0), .val (.int pa), .val (.int pl), .val (.int ps), .val (.int pe), .val (.long ea), .second, .val (.long ee), .second, .val (.long el), .second, .val (.ref b25), .val .null, .unset, .unset] [(.ref b44)])) _
          refine XS.dup X44.here hx rfl (hb hby at_204) rfl rfl ?_
          show Steps p.tables e below (T44.setTop (mkF m 205 #[.val (.int p0), .val (.int p1), .val (.int p2), .val (.int p3), .val (.int p4), .val (.int p5), .val (.int u1_0), .val (.int u2_0), .val (.int u3_0), .val (.int u4_0), .val (.int u5_0), .val (.int u6_0), .val (.int pa), .val (.int pl), .val (.int ps), .val (.int pe), .val (.long ea), .second, .val (.long ee), .second, .val (.long el), .second, .val (.ref b25), .val .null, .unset, .unset] [(.ref b44), (.ref b44)])) _
          refine st45.trans ?_
          show Steps p.tables e below (T45.setTop (mkF m 208 #[.val (.int p0), .val (.int p1), .val (.int p2), .val (.int p3), .val (.int p4), .val (.int p5), .val (.int u1_0), .val (.int u2_0), .val (.int u3_0), .val (.int u4_0), .val (.int u5_0), .val (.int u6_0), .val (.int pa), .val (.int pl), .val (.int ps), .val (.int pe), .val (.long ea), .second, .val (.long ee), .second, .val (.long el), .second, .val (.ref b25), .val .null, .unset, .unset] [(.ref b44)])) _
          refine XS.astore X45.here hx rfl (hb hby at_208) rfl (rfl) (l' := #[.val (.int p0), .val (.int p1), .val (.int p2), .val (.int p3), .val (.int p4), .val (.int p5), .val (.int u1_0), .val (.int u2_0), .val (.int u3_0), .val (.int u4_0), .val (.int u5_0), .val (.int u6_0), .val (.int pa), .val (.int pl), .val (.int ps), .val (.int pe), .val (.long ea), .second, .val (.long ee), .second, .val (.long el), .second, .val (.ref b25), .val (.ref b44), .unset, .unset]) rfl ?_
          show Steps p.tables e below (T45.setTop (mkF m 210 #[.val (.int p0), .val (.int p1), .val (.int p2), .val (.int p3), .val (.int p4), .val (.int p5), .val (.int u1_0), .val (.int u2_0), .val (.int u3_0), .val (.int u4_0), .val (.int u5_0), .val (.int u6_0), .val (.int pa), .val (.int pl), .val (.int ps), .val (.int pe), .val (.long ea), .second, .val (.long ee), .second, .val (.long el), .second, .val (.ref b25), .val (.ref b44), .unset, .unset] [])) _
          exact k
        exact ⟨T45, _, h44, _, _, b25, b44, (0 : Int64), (0 : Int64), (0 : Int64), X45, hq45, N45, (Nat.le_trans (Nat.le_trans (Nat.le_trans (Nat.le_trans (Nat.le_trans (Nat.le_trans Z0 E25.1) Kq27.1) E40.1) Kq41.1) Kq42.1) E44.1), (by decide : 4 ≤ 6), (by decide : 25 ≤ 60), g_b44, own_A0 h182, A44, F44_attributesBeforeStart, F44_attributesSinceStart, F44_events, F44_links, F44_eventAttributes, F44_linkAttributes, F44_attributesElsewhere, F44_eventsElsewhere, F44_linksElsewhere, pre46⟩
      · skip
        have pre47 : ∀ t, Steps p.tables e below (T42.setTop (mkF m 185 #[.val (.int p0), .val (.int p1), .val (.int p2), .val (.int p3), .val (.int p4), .val (.int p5), .val (.int u1_0), .val (.int u2_0), .val (.int u3_0), .val (.int u4_0), .val (.int u5_0), .val (.int u6_0), .val (.int pa), .val (.int pl), .val (.int ps), .val (.int pe), .val (.long ea), .second, .val (.long ee), .second, .val (.long el), .second, .val (.ref b25), .val .null, .unset, .unset] [])) t → Steps p.tables e below (s₁.setTop (entryFrame m #[(.int p0), (.int p1), (.int p2), (.int p3), (.int p4), (.int p5)] maxLocals)) t := by
          intro t k
          refine pre43 t ?_
          refine XS.ifNo X42.here hx rfl (hb hby at_182) rfl ((if0 _ _).trans (feq h182).1) ?_
          show Steps p.tables e below (T42.setTop (mkF m 185 #[.val (.int p0), .val (.int p1), .val (.int p2), .val (.int p3), .val (.int p4), .val (.int p5), .val (.int u1_0), .val (.int u2_0), .val (.int u3_0), .val (.int u4_0), .val (.int u5_0), .val (.int u6_0), .val (.int pa), .val (.int pl), .val (.int ps), .val (.int pe), .val (.long ea), .second, .val (.long ee), .second, .val (.long el), .second, .val (.ref b25), .val .null, .unset, .unset] [])) _
          exact k
        by_cases hcS : (0 : Int32) < pa ∨ (0 : Int32) < pl ∨ (0 : Int64) < ((0 : Int64) + (own_max (0 : Int32) p2).toInt64)
        · skip
          obtain ⟨cl48, Ar48, q48, S48, M48, H48, G48⟩ := id Vq42
          have tb48 : cl48.slots[0]? = some (.ref b40) := H48 0 (by rw [S48]; decide)
          obtain ⟨_, _, ⟨T49, L49, k49, n49⟩, -, X49, ⟨Lc49, hQ49, l49, y49, z49⟩, st49⟩ := Jvm.LawKit.callS X42 hx (y := (⟨"com/example/kiseki/kiseki/tracing/DroppedItems", "atStart", "(IILjava/util/List;)Lcom/example/kiseki/kiseki/tracing/DroppedItems;"⟩ : MethodName)) hown (mvT hZ (hw _ (List.mem_of_getElem? (i := 78) rfl))) (mvT hZ (hw _ (List.mem_of_getElem? (i := 79) rfl))) (mvT hZ (hw _ (List.mem_of_getElem? (i := 80) rfl))) (mvT hZ (hw _ (List.mem_of_getElem? (i := 81) rfl))) (by decide) (backOf (W := 0) (rmS11 l Z a0 hw [] pa pl b25 b42 cl48 b40 (own_max (0 : Int32) p2) T42.heap n0 (Nat.le_trans (Nat.le_trans (Nat.le_trans (Nat.le_trans (Nat.le_trans Z0 E25.1) Kq27.1) E40.1) Kq41.1) Kq42.1) Eq42 G2q42 G1q42 Ar48 S48 tb48 (Eq41.keep Kq42) (Gq41.keep Kq42 (ninS (Ne.symm ne_b25_b40) nin0)) hcS) hZ (hw _ (List.mem_of_getElem? (i := 81) rfl)) (hw _ (List.mem_of_getElem? (i := 80) rfl)) (by decide) (by decide)) (g := (mkF m 191 #[.val (.int p0), .val (.int p1), .val (.int p2), .val (.int p3), .val (.int p4), .val (.int p5), .val (.int u1_0), .val (.int u2_0), .val (.int u3_0), .val (.int u4_0), .val (.int u5_0), .val (.int u6_0), .val (.int pa), .val (.int pl), .val (.int ps), .val (.int pe), .val (.long ea), .second, .val (.long ee), .second, .val (.long el), .second, .val (.ref b25), .val .null, .unset, .unset] [(.ref b25), (.int pl), (.int pa)])) rfl (by rw [hml]; rfl) (argsL := [(.int pa), (.int pl), (.ref b25)]) (rest := []) (lenOf pd_9 rfl) rfl (by show 2 * 0 + _ ≤ _; exact Nat.le_of_eq rfl) (hb hby at_191) (fun _ _ => ⟨rfl, rfl, (by decide : 3 + 1 ≤ _), (by decide : 16 + 9 ≤ _)⟩)
          dsimp only [Pt.U, Pt.locs, Pt.cells, Pt.slots] at X49 l49 y49 z49 st49 hQ49
          subst l49 y49 z49
          obtain ⟨bx49, rfl, N49q, Kq49, gx49, Eq49, F0q49, F1q49, F2q49, F3q49, F4q49, F5q49, F6q49, F7q49, F8q49⟩ := hQ49
          have N49 := Fr.app N42 N49q
          have K49 : Keep h0 T49.heap [] := K42.trans Kq49 all0
          have pre50 : ∀ t, Steps p.tables e below (T49.setTop (mkF m 210 #[.val (.int p0), .val (.int p1), .val (.int p2), .val (.int p3), .val (.int p4), .val (.int p5), .val (.int u1_0), .val (.int u2_0), .val (.int u3_0), .val (.int u4_0), .val (.int u5_0), .val (.int u6_0), .val (.int pa), .val (.int pl), .val (.int ps), .val (.int pe), .val (.long ea), .second, .val (.long ee), .second, .val (.long el), .second, .val (.ref b25), .val (.ref bx49), .unset, .unset] [])) t → Steps p.tables e below (s₁.setTop (entryFrame m #[(.int p0), (.int p1), (.int p2), (.int p3), (.int p4), (.int p5)] maxLocals)) t := by
            intro t k
            refine pre47 t ?_
            show Steps p.tables e below (T42.setTop (mkF m 185 #[.val (.int p0), .val (.int p1), .val (.int p2), .val (.int p3), .val (.int p4), .val (.int p5), .val (.int u1_0), .val (.int u2_0), .val (.int u3_0), .val (.int u4_0), .val (.int u5_0), .val (.int u6_0), .val (.int pa), .val (.int pl), .val (.int ps), .val (.int pe), .val (.long ea), .second, .val (.long ee), .second, .val (.long el), .second, .val (.ref b25), .val .null, .unset, .unset] [])) _
            refine XS.iload X42.here hx rfl (hb hby at_185) rfl ?_
            show Steps p.tables e below (T42.setTop (mkF m 187 #[.val (.int p0), .val (.int p1), .val (.int p2), .val (.int p3), .val (.int p4), .val (.int p5), .val (.int u1_0), .val (.int u2_0), .val (.int u3_0), .val (.int u4_0), .val (.int u5_0), .val (.int u6_0), .val (.int pa), .val (.int pl), .val (.int ps), .val (.int pe), .val (.long ea), .second, .val (.long ee), .second, .val (.long el), .second, .val (.ref b25), .val .null, .unset, .unset] [(.int pa)])) _
            refine XS.iload X42.here hx rfl (hb hby at_187) rfl ?_
            show Steps p.tables e below (T42.setTop (mkF m 189 #[.val (.int p0), .val (.int p1), .val (.int p2), .val (.int p3), .val (.int p4), .val (.int p5), .val (.int u1_0), .val (.int u2_0), .val (.int u3_0), .val (.int u4_0), .val (.int u5_0), .val (.int u6_0), .val (.int pa), .val (.int pl), .val (.int ps), .val (.int pe), .val (.long ea), .second, .val (.long ee), .second, .val (.long el), .second, .val (.ref b25), .val .null, .unset, .unset] [(.int pl), (.int pa)])) _
            refine XS.aload X42.here hx rfl (hb hby at_189) rfl (rfl) ?_
            show Steps p.tables e below (T42.setTop (mkF m 191 #[.val (.int p0), .val (.int p1), .val (.int p2), .val (.int p3), .val (.int p4), .val (.int p5), .val (.int u1_0), .val (.int u2_0), .val (.int u3_0), .val (.int u4_0), .val (.int u5_0), .val (.int u6_0), .val (.int pa), .val (.int pl), .val (.int ps), .val (.int pe), .val (.long ea), .second, .val (.long ee), .second, .val (.long el), .second, .val (.ref b25), .val .null, .unset, .unset] [(.ref b25), (.int pl), (.int pa)])) _
            refine st49 _ ?_
            show Steps p.tables e below (T49.setTop (mkF m 194 #[.val (.int p0), .val (.int p1), .val (.int p2), .val (.int p3), .val (.int p4), .val (.int p5), .val (.int u1_0), .val (.int u2_0), .val (.int u3_0), .val (.int u4_0), .val (.int u5_0), .val (.int u6_0), .val (.int pa), .val (.int pl), .val (.int ps), .val (.int pe), .val (.long ea), .second, .val (.long ee), .second, .val (.long el), .second, .val (.ref b25), .val .null, .unset, .unset] [(.ref bx49)])) _
            refine XS.astore X49.here hx rfl (hb hby at_194) rfl (rfl) (l' := #[.val (.int p0), .val (.int p1), .val (.int p2), .val (.int p3), .val (.int p4), .val (.int p5), .val (.int u1_0), .val (.int u2_0), .val (.int u3_0), .val (.int u4_0), .val (.int u5_0), .val (.int u6_0), .val (.int pa), .val (.int pl), .val (.int ps), .val (.int pe), .val (.long ea), .second, .val (.long ee), .second, .val (.long el), .second, .val (.ref b25), .val (.ref bx49), .unset, .unset]) rfl ?_
            show Steps p.tables e below (T49.setTop (mkF m 196 #[.val (.int p0), .val (.int p1), .val (.int p2), .val (.int p3), .val (.int p4), .val (.int p5), .val (.int u1_0), .val (.int u2_0), .val (.int u3_0), .val (.int u4_0), .val (.int u5_0), .val (.int u6_0), .val (.int pa), .val (.int pl), .val (.int ps), .val (.int pe), .val (.long ea), .second, .val (.long ee), .second, .val (.long el), .second, .val (.ref b25), .val (.ref bx49), .unset, .unset] [])) _
            refine XS.aload X49.here hx rfl (hb hby at_196) rfl (rfl) ?_
            show Steps p.tables e below (T49.setTop (mkF m 198 #[.val (.int p0), .val (.int p1), .val (.int p2), .val (.int p3), .val (.int p4), .val (.int p5), .val (.int u1_0), .val (.int u2_0), .val (.int u3_0), .val (.int u4_0), .val (.int u5_0), .val (.int u6_0), .val (.int pa), .val (.int pl), .val (.int ps), .val (.int pe), .val (.long ea), .second, .val (.long ee), .second, .val (.long el), .second, .val (.ref b25), .val (.ref bx49), .unset, .unset] [(.ref bx49)])) _
            refine XS.ifnonnullYes X49.here hx rfl (pc0 := 198) (pc' := 210) rfl (hb hby at_198) rfl (by decide) (by decide) ?_
            show Steps p.tables e below (T49.setTop (mkF m 210 #[.val (.int p0), .val (.int p1), .val (.int p2), .val (.int p3), .val (.int p4), .val (.int p5), .val (.int u1_0), .val (.int u2_0), .val (.int u3_0), .val (.int u4_0), .val (.int u5_0), .val (.int u6_0), .val (.int pa), .val (.int pl), .val (.int ps), .val (.int pe), .val (.long ea), .second, .val (.long ee), .second, .val (.long el), .second, .val (.ref b25), .val (.ref bx49), .unset, .unset] [])) _
            exact k
          exact ⟨T49, _, T49.heap, _, _, b25, bx49, pa.toInt64, pl.toInt64, ((0 : Int64) + (own_max (0 : Int32) p2).toInt64), X49, rfl, N49, (Nat.le_trans (Nat.le_trans (Nat.le_trans (Nat.le_trans (Nat.le_trans (Nat.le_trans Z0 E25.1) Kq27.1) E40.1) Kq41.1) Kq42.1) Kq49.1), (by decide : 4 ≤ 6), (by decide : 25 ≤ 60), gx49, own_A1b hz1 h182 hz2 h158 npa npl hcS, Eq49, F0q49, F1q49, F2q49, F3q49, F4q49, F5q49, F6q49, F7q49, F8q49, pre50⟩
        · skip
          have hn1 : ¬ ((0 : Int32) < pa) := fun z => hcS (Or.inl z)
          have hn2 : ¬ ((0 : Int32) < pl) := fun z => hcS (Or.inr (Or.inl z))
          have hn3 : ¬ ((0 : Int64) < ((0 : Int64) + (own_max (0 : Int32) p2).toInt64)) := fun z => hcS (Or.inr (Or.inr z))
          obtain ⟨cl51, Ar51, q51, S51, M51, H51, G51⟩ := id Vq42
          have tb51 : cl51.slots[0]? = some (.ref b40) := H51 0 (by rw [S51]; decide)
          obtain ⟨_, _, ⟨T52, L52, k52, n52⟩, -, X52, ⟨Lc52, hQ52, l52, y52, z52⟩, st52⟩ := Jvm.LawKit.callS X42 hx (y := (⟨"com/example/kiseki/kiseki/tracing/DroppedItems", "atStart", "(IILjava/util/List;)Lcom/example/kiseki/kiseki/tracing/DroppedItems;"⟩ : MethodName)) hown (mvT hZ (hw _ (List.mem_of_getElem? (i := 78) rfl))) (mvT hZ (hw _ (List.mem_of_getElem? (i := 79) rfl))) (mvT hZ (hw _ (List.mem_of_getElem? (i := 80) rfl))) (mvT hZ (hw _ (List.mem_of_getElem? (i := 81) rfl))) (by decide) (backOf (W := 0) (rmS10 l Z a0 hw [] pa pl b25 b42 cl51 b40 (own_max (0 : Int32) p2) T42.heap n0 (Nat.le_trans (Nat.le_trans (Nat.le_trans (Nat.le_trans (Nat.le_trans Z0 E25.1) Kq27.1) E40.1) Kq41.1) Kq42.1) Eq42 G2q42 G1q42 Ar51 S51 tb51 (Eq41.keep Kq42) (Gq41.keep Kq42 (ninS (Ne.symm ne_b25_b40) nin0)) hn1 hn2 hn3) hZ (hw _ (List.mem_of_getElem? (i := 81) rfl)) (hw _ (List.mem_of_getElem? (i := 80) rfl)) (by decide) (by decide)) (g := (mkF m 191 #[.val (.int p0), .val (.int p1), .val (.int p2), .val (.int p3), .val (.int p4), .val (.int p5), .val (.int u1_0), .val (.int u2_0), .val (.int u3_0), .val (.int u4_0), .val (.int u5_0), .val (.int u6_0), .val (.int pa), .val (.int pl), .val (.int ps), .val (.int pe), .val (.long ea), .second, .val (.long ee), .second, .val (.long el), .second, .val (.ref b25), .val .null, .unset, .unset] [(.ref b25), (.int pl), (.int pa)])) rfl (by rw [hml]; rfl) (argsL := [(.int pa), (.int pl), (.ref b25)]) (rest := []) (lenOf pd_9 rfl) rfl (by show 2 * 0 + _ ≤ _; exact Nat.le_of_eq rfl) (hb hby at_191) (fun _ _ => ⟨rfl, rfl, (by decide : 3 + 0 ≤ _), (by decide : 16 + 0 ≤ _)⟩)
          dsimp only [Pt.U, Pt.locs, Pt.cells, Pt.slots] at X52 l52 y52 z52 st52 hQ52
          subst l52 y52 z52
          obtain ⟨rfl, N52q, hq52⟩ := hQ52
          have N52 := Fr.app N42 N52q
          obtain ⟨T53, h53, X53, e53, E53, A53, D53, -, st53⟩ := newO X52 hx hZ hown (hw _ (List.mem_of_getElem? (i := 141) rfl)) (hw _ (List.mem_of_getElem? (i := 120) rfl)) (hw _ (List.mem_of_getElem? (i := 80) rfl)) hq52 (g := (mkF m 201 #[.val (.int p0), .val (.int p1), .val (.int p2), .val (.int p3), .val (.int p4), .val (.int p5), .val (.int u1_0), .val (.int u2_0), .val (.int u3_0), .val (.int u4_0), .val (.int u5_0), .val (.int u6_0), .val (.int pa), .val (.int pl), .val (.int ps), .val (.int pe), .val (.long ea), .second, .val (.long ee), .second, .val (.long el), .second, .val (.ref b25), .val .null, .unset, .unset] [])) rfl (hb hby at_201) (by decide) (by decide)
          obtain ⟨b53, g53⟩ : ∃ z, z = T42.heap.size := ⟨_, rfl⟩
          rw [← g53] at A53 D53 st53
          have ne_b25_b53 : b25 ≠ b53 := Nat.ne_of_lt (Nat.lt_of_lt_of_le Eq42.lt (Nat.le_of_eq g53.symm))
          have ne_b40_b53 : b40 ≠ b53 := Nat.ne_of_lt (Nat.lt_of_lt_of_le (Eq41.keep Kq42).lt (Nat.le_of_eq g53.symm))
          have ne_b42_b53 : b42 ≠ b53 := Nat.ne_of_lt (Nat.lt_of_lt_of_le Vq42.lt (Nat.le_of_eq g53.symm))
          have F53_attributesBeforeStart : Fld Z h53 b53 "com/example/kiseki/kiseki/tracing/DroppedItems" "attributesBeforeStart" "J" (.long (0 : Int64)) := D53 (Or.inl (hw _ (List.mem_of_getElem? (i := 126) rfl))) (ty := .long) (by decide)
          have F53_links : Fld Z h53 b53 "com/example/kiseki/kiseki/tracing/DroppedItems" "links" "J" (.long (0 : Int64)) := D53 (Or.inl (hw _ (List.mem_of_getElem? (i := 128) rfl))) (ty := .long) (by decide)
          have F53_linkAttributes : Fld Z h53 b53 "com/example/kiseki/kiseki/tracing/DroppedItems" "linkAttributes" "J" (.long (0 : Int64)) := D53 (Or.inl (hw _ (List.mem_of_getElem? (i := 130) rfl))) (ty := .long) (by decide)
          have F53_attributesSinceStart : Fld Z h53 b53 "com/example/kiseki/kiseki/tracing/DroppedItems" "attributesSinceStart" "J" (.long (0 : Int64)) := D53 (Or.inl (hw _ (List.mem_of_getElem? (i := 138) rfl))) (ty := .long) (by decide)
          have F53_events : Fld Z h53 b53 "com/example/kiseki/kiseki/tracing/DroppedItems" "events" "J" (.long (0 : Int64)) := D53 (Or.inl (hw _ (List.mem_of_getElem? (i := 140) rfl))) (ty := .long) (by decide)
          have F53_eventAttributes : Fld Z h53 b53 "com/example/kiseki/kiseki/tracing/DroppedItems" "eventAttributes" "J" (.long (0 : Int64)) := D53 (Or.inl (hw _ (List.mem_of_getElem? (i := 144) rfl))) (ty := .long) (by decide)
          have F53_attributesElsewhere : Fld Z h53 b53 "com/example/kiseki/kiseki/tracing/DroppedItems" "attributesElsewhere" "J" (.long (0 : Int64)) := D53 (Or.inl (hw _ (List.mem_of_getElem? (i := 168) rfl))) (ty := .long) (by decide)
          have F53_eventsElsewhere : Fld Z h53 b53 "com/example/kiseki/kiseki/tracing/DroppedItems" "eventsElsewhere" "J" (.long (0 : Int64)) := D53 (Or.inl (hw _ (List.mem_of_getElem? (i := 170) rfl))) (ty := .long) (by decide)
          have F53_linksElsewhere : Fld Z h53 b53 "com/example/kiseki/kiseki/tracing/DroppedItems" "linksElsewhere" "J" (.long (0 : Int64)) := D53 (Or.inl (hw _ (List.mem_of_getElem? (i := 172) rfl))) (ty := .long) (by decide)
          have g_b53 : n0 ≤ b53 := Nat.le_trans (Nat.le_trans (Nat.le_trans (Nat.le_trans (Nat.le_trans (Nat.le_trans Z0 E25.1) Kq27.1) E40.1) Kq41.1) Kq42.1) (Nat.le_of_eq g53.symm)
          have sz_b53 : h0.size ≤ b53 := (Nat.le_trans K42.1 (Nat.le_of_eq g53.symm))
          have K53 : Keep h0 h53 [] := K42.ext E53
          obtain ⟨_, _, ⟨T54, L54, k54, n54⟩, -, X54, ⟨Lc54, hQ54, l54, y54, z54⟩, st54⟩ := X53.specialBack hx (y := (⟨"com/example/kiseki/kiseki/tracing/DroppedItems", "<init>", "()V"⟩ : MethodName)) rfl hown (mvT hZ (hw _ (List.mem_of_getElem? (i := 142) rfl))) (mvT hZ (hw _ (List.mem_of_getElem? (i := 122) rfl))) (mvT hZ (hw _ (List.mem_of_getElem? (i := 123) rfl))) (by decide) (backOf (W := 1) (rmDI l Z a0 hw [] b53  h53 n0 (Nat.le_trans (Nat.le_trans (Nat.le_trans (Nat.le_trans (Nat.le_trans (Nat.le_trans Z0 E25.1) Kq27.1) E40.1) Kq41.1) Kq42.1) E53.1) ) hZ (hw _ (List.mem_of_getElem? (i := 123) rfl)) (hw _ (List.mem_of_getElem? (i := 80) rfl)) (by decide) (by decide)) (g := (mkF m 205 #[.val (.int p0), .val (.int p1), .val (.int p2), .val (.int p3), .val (.int p4), .val (.int p5), .val (.int u1_0), .val (.int u2_0), .val (.int u3_0), .val (.int u4_0), .val (.int u5_0), .val (.int u6_0), .val (.int pa), .val (.int pl), .val (.int ps), .val (.int pe), .val (.long ea), .second, .val (.long ee), .second, .val (.long el), .second, .val (.ref b25), .val .null, .unset, .unset] [(.ref b53), (.ref b53)])) rfl (by rw [hml]; rfl) (Steps.refl _) (a := b53) (argsL := []) (rest := [(.ref b53)]) (lenOf pd_0 rfl) rfl (by show 2 * 0 + _ ≤ _; exact Nat.le_of_eq rfl) (hb hby at_205) (fun _ _ => ⟨rfl, e53, (by decide : 4 + 0 ≤ _), (by decide : 25 + 0 ≤ _)⟩)
          dsimp only [Pt.U, Pt.locs, Pt.cells, Pt.slots] at X54 l54 y54 z54 st54 hQ54
          subst l54 y54 z54
          obtain ⟨rfl, N54q, hq54⟩ := hQ54
          have N54 := Fr.app N52 N54q
          have pre55 : ∀ t, Steps p.tables e below (T54.setTop (mkF m 210 #[.val (.int p0), .val (.int p1), .val (.int p2), .val (.int p3), .val (.int p4), .val (.int p5), .val (.int u1_0), .val (.int u2_0), .val (.int u3_0), .val (.int u4_0), .val (.int u5_0), .val (.int u6_0), .val (.int pa), .val (.int pl), .val (.int ps), .val (.int pe), .val (.long ea), .second, .val (.long ee), .second, .val (.long el), .second, .val (.ref b25), .val (.ref b53), .unset, .unset] [])) t → Steps p.tables e below (s₁.setTop (entryFrame m #[(.int p0), (.int p1), (.int p2), (.int p3), (.int p4), (.int p5)] maxLocals)) t := by
            intro t k
            refine pre47 t ?_
            show Steps p.tables e below (T42.setTop (mkF m 185 #[.val (.int p0), .val (.int p1), .val (.int p2), .val (.int p3), .val (.int p4), .val (.int p5), .val (.int u1_0), .val (.int u2_0), .val (.int u3_0), .val (.int u4_0), .val (.int u5_0), .val (.int u6_0), .val (.int pa), .val (.int pl), .val (.int ps), .val (.int pe), .val (.long ea), .second, .val (.long ee), .second, .val (.long el), .second, .val (.ref b25), .val .null, .unset, .unset] [])) _
            refine XS.iload X42.here hx rfl (hb hby at_185) rfl ?_
            show Steps p.tables e below (T42.setTop (mkF m 187 #[.val (.int p0), .val (.int p1), .val (.int p2), .val (.int p3), .val (.int p4), .val (.int p5), .val (.int u1_0), .val (.int u2_0), .val (.int u3_0), .val (.int u4_0), .val (.int u5_0), .val (.int u6_0), .val (.int pa), .val (.int pl), .val (.int ps), .val (.int pe), .val (.long ea), .second, .val (.long ee), .second, .val (.long el), .second, .val (.ref b25), .val .null, .unset, .unset] [(.int pa)])) _
            refine XS.iload X42.here hx rfl (hb hby at_187) rfl ?_
            show Steps p.tables e below (T42.setTop (mkF m 189 #[.val (.int p0), .val (.int p1), .val (.int p2), .val (.int p3), .val (.int p4), .val (.int p5), .val (.int u1_0), .val (.int u2_0), .val (.int u3_0), .val (.int u4_0), .val (.int u5_0), .val (.int u6_0), .val (.int pa), .val (.int pl), .val (.int ps), .val (.int pe), .val (.long ea), .second, .val (.long ee), .second, .val (.long el), .second, .val (.ref b25), .val .null, .unset, .unset] [(.int pl), (.int pa)])) _
            refine XS.aload X42.here hx rfl (hb hby at_189) rfl (rfl) ?_
            show Steps p.tables e below (T42.setTop (mkF m 191 #[.val (.int p0), .val (.int p1), .val (.int p2), .val (.int p3), .val (.int p4), .val (.int p5), .val (.int u1_0), .val (.int u2_0), .val (.int u3_0), .val (.int u4_0), .val (.int u5_0), .val (.int u6_0), .val (.int pa), .val (.int pl), .val (.int ps), .val (.int pe), .val (.long ea), .second, .val (.long ee), .second, .val (.long el), .second, .val (.ref b25), .val .null, .unset, .unset] [(.ref b25), (.int pl), (.int pa)])) _
            refine st52 _ ?_
            show Steps p.tables e below (T52.setTop (mkF m 194 #[.val (.int p0), .val (.int p1), .val (.int p2), .val (.int p3), .val (.int p4), .val (.int p5), .val (.int u1_0), .val (.int u2_0), .val (.int u3_0), .val (.int u4_0), .val (.int u5_0), .val (.int u6_0), .val (.int pa), .val (.int pl), .val (.int ps), .val (.int pe), .val (.long ea), .second, .val (.long ee), .second, .val (.long el), .second, .val (.ref b25), .val .null, .unset, .unset] [.null])) _
            refine XS.astore X52.here hx rfl (hb hby at_194) rfl (rfl) (l' := #[.val (.int p0), .val (.int p1), .val (.int p2), .val (.int p3), .val (.int p4), .val (.int p5), .val (.int u1_0), .val (.int u2_0), .val (.int u3_0), .val (.int u4_0), .val (.int u5_0), .val (.int u6_0), .val (.int pa), .val (.int pl), .val (.int ps), .val (.int pe), .val (.long ea), .second, .val (.long ee), .second, .val (.long el), .second, .val (.ref b25), .val .null, .unset, .unset]) rfl ?_
            show Steps p.tables e below (T52.setTop (mkF m 196 #[.val (.int p0), .val (.int p1), .val (.int p2), .val (.int p3), .val (.int p4), .val (.int p5), .val (.int u1_0), .val (.int u2_0), .val (.int u3_0), .val (.int u4_0), .val (.int u5_0), .val (.int u6_0), .val (.int pa), .val (.int pl), .val (.int ps), .val (.int pe), .val (.long ea), .second, .val (.long ee), .second, .val (.long el), .second, .val (.ref b25), .val .null, .unset, .unset] [])) _
            refine XS.aload X52.here hx rfl (hb hby at_196) rfl (rfl) ?_
            show Steps p.tables e below (T52.setTop (mkF m 198 #[.val (.int p0), .val (.int p1), .val (.int p2), .val (.int p3), .val (.int p4), .val (.int p5), .val (.int u1_0), .val (.int u2_0), .val (.int u3_0), .val (.int u4_0), .val (.int u5_0), .val (.int u6_0), .val (.int pa), .val (.int pl), .val (.int ps), .val (.int pe), .val (.long ea), .second, .val (.long ee), .second, .val (.long el), .second, .val (.ref b25), .val .null, .unset, .unset] [.null])) _
            refine XS.ifnonnullNo X52.here hx rfl (hb hby at_198) rfl ?_
            show Steps p.tables e below (T52.setTop (mkF m 201 #[.val (.int p0), .val (.int p1), .val (.int p2), .val (.int p3), .val (.int p4), .val (.int p5), .val (.int u1_0), .val (.int u2_0), .val (.int u3_0), .val (.int u4_0), .val (.int u5_0), .val (.int u6_0), .val (.int pa), .val (.int pl), .val (.int ps), .val (.int pe), .val (.long ea), .second, .val (.long ee), .second, .val (.long el), .second, .val (.ref b25), .val .null, .unset, .unset] [])) _
            refine st53 _ ?_
            show Steps p.tables e below (T53.setTop (mkF m 204 #[.val (.int p0), .val (.int p1), .val (.int p2), .val (.int p3), .val (.int p4), .val (.int p5), .val (.int u1_0), .val (.int u2_0), .val (.int u3_0), .val (.int u4_0), .val (.int u5_0), .val (.int u6_0), .val (.int pa), .val (.int pl), .val (.int ps), .val (.int pe), .val (.long ea), .second, .val (.long ee), .second, .val (.long el), .second, .val (.ref b25), .val .null, .unset, .unset] [(.ref b53)])) _
            refine XS.dup X53.here hx rfl (hb hby at_204) rfl rfl ?_
            show Steps p.tables e below (T53.setTop (mkF m 205 #[.val (.int p0), .val (.int p1), .val (.int p2), .val (.int p3), .val (.int p4), .val (.int p5), .val (.int u1_0), .val (.int u2_0), .val (.int u3_0), .val (.int u4_0), .val (.int u5_0), .val (.int u6_0), .val (.int pa), .val (.int pl), .val (.int ps), .val (.int pe), .val (.long ea), .second, .val (.long ee), .second, .val (.long el), .second, .val (.ref b25), .val .null, .unset, .unset] [(.ref b53), (.ref b53)])) _
            refine st54.trans ?_
            show Steps p.tables e below (T54.setTop (mkF m 208 #[.val (.int p0), .val (.int p1), .val (.int p2), .val (.int p3), .val (.int p4), .val (.int p5), .val (.int u1_0), .val (.int u2_0), .val (.int u3_0), .val (.int u4_0), .val (.int u5_0), .val (.int u6_0), .val (.int pa), .val (.int pl), .val (.int ps), .val (.int pe), .val (.long ea), .second, .val (.long ee), .second, .val (.long el), .second, .val (.ref b25), .val .null, .unset, .unset] [(.ref b53)])) _
            refine XS.astore X54.here hx rfl (hb hby at_208) rfl (rfl) (l' := #[.val (.int p0), .val (.int p1), .val (.int p2), .val (.int p3), .val (.int p4), .val (.int p5), .val (.int u1_0), .val (.int u2_0), .val (.int u3_0), .val (.int u4_0), .val (.int u5_0), .val (.int u6_0), .val (.int pa), .val (.int pl), .val (.int ps), .val (.int pe), .val (.long ea), .second, .val (.long ee), .second, .val (.long el), .second, .val (.ref b25), .val (.ref b53), .unset, .unset]) rfl ?_
            show Steps p.tables e below (T54.setTop (mkF m 210 #[.val (.int p0), .val (.int p1), .val (.int p2), .val (.int p3), .val (.int p4), .val (.int p5), .val (.int u1_0), .val (.int u2_0), .val (.int u3_0), .val (.int u4_0), .val (.int u5_0), .val (.int u6_0), .val (.int pa), .val (.int pl), .val (.int ps), .val (.int pe), .val (.long ea), .second, .val (.long ee), .second, .val (.long el), .second, .val (.ref b25), .val (.ref b53), .unset, .unset] [])) _
            exact k
          exact ⟨T54, _, h53, _, _, b25, b53, (0 : Int64), (0 : Int64), (0 : Int64), X54, hq54, N54, (Nat.le_trans (Nat.le_trans (Nat.le_trans (Nat.le_trans (Nat.le_trans (Nat.le_trans Z0 E25.1) Kq27.1) E40.1) Kq41.1) Kq42.1) E53.1), (by decide : 4 ≤ 6), (by decide : 25 ≤ 60), g_b53, own_A2b hz2 h158 hn1 hn2 hn3, A53, F53_attributesBeforeStart, F53_attributesSinceStart, F53_events, F53_links, F53_eventAttributes, F53_linkAttributes, F53_attributesElsewhere, F53_eventsElsewhere, F53_linksElsewhere, pre55⟩
  have g_bx := gx
  obtain ⟨TB, oB, hB, cB, lB, vs, XB, eB, NB, ZB, hcB, hlB, fB, E1B, F0B, F1B, F2B, F3B, F4B, F5B, F6B, F7B, F8B, preB⟩ : ∃ (TB : State) (oB : List Loc) (hB : Heap) (cB : Nat) (lB : Nat) (vs : Int64), (Stand p l e room_1 s m #[(.int p0), (.int p1), (.int p2), (.int p3), (.int p4), (.int p5)] below meth c TB oB cB lB) ∧ (TB.heap = hB) ∧ (Fr n0 oB) ∧ (n0 ≤ hB.size) ∧ (cB ≤ 6) ∧ (lB ≤ 60) ∧ (((0 : Int64) < vs) ↔ (u3_0 = 1 ∧ (0 : Int32) < ps)) ∧ (Exa Z hB bx "com/example/kiseki/kiseki/tracing/DroppedItems") ∧ (Fld Z hB bx "com/example/kiseki/kiseki/tracing/DroppedItems" "attributesBeforeStart" "J" (.long va)) ∧ (Fld Z hB bx "com/example/kiseki/kiseki/tracing/DroppedItems" "attributesSinceStart" "J" (.long vs)) ∧ (Fld Z hB bx "com/example/kiseki/kiseki/tracing/DroppedItems" "events" "J" (.long (0 : Int64))) ∧ (Fld Z hB bx "com/example/kiseki/kiseki/tracing/DroppedItems" "links" "J" (.long vl)) ∧ (Fld Z hB bx "com/example/kiseki/kiseki/tracing/DroppedItems" "eventAttributes" "J" (.long (0 : Int64))) ∧ (Fld Z hB bx "com/example/kiseki/kiseki/tracing/DroppedItems" "linkAttributes" "J" (.long vk)) ∧ (Fld Z hB bx "com/example/kiseki/kiseki/tracing/DroppedItems" "attributesElsewhere" "J" (.long (0 : Int64))) ∧ (Fld Z hB bx "com/example/kiseki/kiseki/tracing/DroppedItems" "eventsElsewhere" "J" (.long (0 : Int64))) ∧ (Fld Z hB bx "com/example/kiseki/kiseki/tracing/DroppedItems" "linksElsewhere" "J" (.long (0 : Int64))) ∧ (∀ t, Steps p.tables e below (TB.setTop (mkF m 222 #[.val (.int p0), .val (.int p1), .val (.int p2), .val (.int p3), .val (.int p4), .val (.int p5), .val (.int u1_0), .val (.int u2_0), .val (.int u3_0), .val (.int u4_0), .val (.int u5_0), .val (.int u6_0), .val (.int pa), .val (.int pl), .val (.int ps), .val (.int pe), .val (.long ea), .second, .val (.long ee), .second, .val (.long el), .second, .val (.ref bl), .val (.ref bx), .unset, .unset] [])) t → Steps p.tables e below (s₁.setTop (entryFrame m #[(.int p0), (.int p1), (.int p2), (.int p3), (.int p4), (.int p5)] maxLocals)) t) := by
    have pre56 : ∀ t, Steps p.tables e below (TA.setTop (mkF m 212 #[.val (.int p0), .val (.int p1), .val (.int p2), .val (.int p3), .val (.int p4), .val (.int p5), .val (.int u1_0), .val (.int u2_0), .val (.int u3_0), .val (.int u4_0), .val (.int u5_0), .val (.int u6_0), .val (.int pa), .val (.int pl), .val (.int ps), .val (.int pe), .val (.long ea), .second, .val (.long ee), .second, .val (.long el), .second, .val (.ref bl), .val (.ref bx), .unset, .unset] [(.int u3_0)])) t → Steps p.tables e below (s₁.setTop (entryFrame m #[(.int p0), (.int p1), (.int p2), (.int p3), (.int p4), (.int p5)] maxLocals)) t := by
      intro t k
      refine preA t ?_
      show Steps p.tables e below (TA.setTop (mkF m 210 #[.val (.int p0), .val (.int p1), .val (.int p2), .val (.int p3), .val (.int p4), .val (.int p5), .val (.int u1_0), .val (.int u2_0), .val (.int u3_0), .val (.int u4_0), .val (.int u5_0), .val (.int u6_0), .val (.int pa), .val (.int pl), .val (.int ps), .val (.int pe), .val (.long ea), .second, .val (.long ee), .second, .val (.long el), .second, .val (.ref bl), .val (.ref bx), .unset, .unset] [])) _
      refine XS.iload XA.here hx rfl (hb hby at_210) rfl ?_
      show Steps p.tables e below (TA.setTop (mkF m 212 #[.val (.int p0), .val (.int p1), .val (.int p2), .val (.int p3), .val (.int p4), .val (.int p5), .val (.int u1_0), .val (.int u2_0), .val (.int u3_0), .val (.int u4_0), .val (.int u5_0), .val (.int u6_0), .val (.int pa), .val (.int pl), .val (.int ps), .val (.int pe), .val (.long ea), .second, .val (.long ee), .second, .val (.long el), .second, .val (.ref bl), .val (.ref bx), .unset, .unset] [(.int u3_0)])) _
      exact k
    by_cases hbB : u3_0 = (0 : Int32)
    · skip
      have pre57 : ∀ t, Steps p.tables e below (TA.setTop (mkF m 222 #[.val (.int p0), .val (.int p1), .val (.int p2), .val (.int p3), .val (.int p4), .val (.int p5), .val (.int u1_0), .val (.int u2_0), .val (.int u3_0), .val (.int u4_0), .val (.int u5_0), .val (.int u6_0), .val (.int pa), .val (.int pl), .val (.int ps), .val (.int pe), .val (.long ea), .second, .val (.long ee), .second, .val (.long el), .second, .val (.ref bl), .val (.ref bx), .unset, .unset] [])) t → Steps p.tables e below (s₁.setTop (entryFrame m #[(.int p0), (.int p1), (.int p2), (.int p3), (.int p4), (.int p5)] maxLocals)) t := by
        intro t k
        refine pre56 t ?_
        refine XS.ifYes XA.here hx rfl (pc0 := 212) (pc' := 222) rfl (hb hby at_212) rfl ((if0 _ _).trans (teq hbB).1) (by decide) (by decide) ?_
        show Steps p.tables e below (TA.setTop (mkF m 222 #[.val (.int p0), .val (.int p1), .val (.int p2), .val (.int p3), .val (.int p4), .val (.int p5), .val (.int u1_0), .val (.int u2_0), .val (.int u3_0), .val (.int u4_0), .val (.int u5_0), .val (.int u6_0), .val (.int pa), .val (.int pl), .val (.int ps), .val (.int pe), .val (.long ea), .second, .val (.long ee), .second, .val (.long el), .second, .val (.ref bl), .val (.ref bx), .unset, .unset] [])) _
        exact k
      exact ⟨TA, _, hA, _, _, (0 : Int64), XA, eA, NA, ZA, (by omega), (by omega), own_B0 hbB, E1, F0, F1, F2, F3, F4, F5, F6, F7, F8, pre57⟩
    · skip
      obtain ⟨cq58, kq58, q58a, q58b, q58c⟩ := isOf hZ eA E1
      obtain ⟨_, _, ⟨T58, L58, k58, n58⟩, -, X58, ⟨Lc58, hQ58, l58, y58, z58⟩, st58⟩ := XA.virtualBack hx (y := (⟨"com/example/kiseki/kiseki/tracing/DroppedItems", "setAttributesDroppedSinceStart", "(I)V"⟩ : MethodName)) (z := (⟨"com/example/kiseki/kiseki/tracing/DroppedItems", "setAttributesDroppedSinceStart", "(I)V"⟩ : MethodName)) hown (mvT hZ (hw _ (List.mem_of_getElem? (i := 145) rfl))) (mvT hZ (hw _ (List.mem_of_getElem? (i := 146) rfl))) (notFace_of_selects (args := #[]) (mvT hZ (hw _ (List.mem_of_getElem? (i := 148) rfl)))) (mvT hZ (hw _ (List.mem_of_getElem? (i := 148) rfl))) (mvT hZ (hw _ (List.mem_of_getElem? (i := 147) rfl))) (by decide) (backOf (W := 0) (rmSS l Z a0 hw [] bx ps va (0 : Int64) (0 : Int64) vl (0 : Int64) vk (0 : Int64) (0 : Int64) (0 : Int64) hA n0 ZA E1 F0 F1 F2 F3 F4 F5 F6 F7 F8 g_bx) hZ (hw _ (List.mem_of_getElem? (i := 149) rfl)) (hw _ (List.mem_of_getElem? (i := 80) rfl)) (by decide) (by decide)) q58a q58c (g := (mkF m 219 #[.val (.int p0), .val (.int p1), .val (.int p2), .val (.int p3), .val (.int p4), .val (.int p5), .val (.int u1_0), .val (.int u2_0), .val (.int u3_0), .val (.int u4_0), .val (.int u5_0), .val (.int u6_0), .val (.int pa), .val (.int pl), .val (.int ps), .val (.int pe), .val (.long ea), .second, .val (.long ee), .second, .val (.long el), .second, .val (.ref bl), .val (.ref bx), .unset, .unset] [(.int ps), (.ref bx)])) rfl (by rw [hml]; rfl) (Steps.refl _) (argsL := [(.int ps)]) (rest := []) (lenOf pd_12 rfl) rfl (by show 2 * 0 + _ ≤ _; exact Nat.le_of_eq rfl) (hb hby at_219) (fun _ _ => ⟨rfl, eA, (by show cA + 0 ≤ 16; omega), (by show lA + 0 ≤ 128; omega)⟩)
      dsimp only [Pt.U, Pt.locs, Pt.cells, Pt.slots] at X58 l58 y58 z58 st58 hQ58
      subst l58 y58 z58
      obtain ⟨rfl, N58q, Kq58, Eq58, G0q58, G1q58, G2q58, G3q58, G4q58, G5q58, G6q58, G7q58, G8q58⟩ := hQ58
      have N58 := Fr.app NA N58q
      have pre59 : ∀ t, Steps p.tables e below (T58.setTop (mkF m 222 #[.val (.int p0), .val (.int p1), .val (.int p2), .val (.int p3), .val (.int p4), .val (.int p5), .val (.int u1_0), .val (.int u2_0), .val (.int u3_0), .val (.int u4_0), .val (.int u5_0), .val (.int u6_0), .val (.int pa), .val (.int pl), .val (.int ps), .val (.int pe), .val (.long ea), .second, .val (.long ee), .second, .val (.long el), .second, .val (.ref bl), .val (.ref bx), .unset, .unset] [])) t → Steps p.tables e below (s₁.setTop (entryFrame m #[(.int p0), (.int p1), (.int p2), (.int p3), (.int p4), (.int p5)] maxLocals)) t := by
        intro t k
        refine pre56 t ?_
        refine XS.ifNo XA.here hx rfl (hb hby at_212) rfl ((if0 _ _).trans (feq hbB).1) ?_
        show Steps p.tables e below (TA.setTop (mkF m 215 #[.val (.int p0), .val (.int p1), .val (.int p2), .val (.int p3), .val (.int p4), .val (.int p5), .val (.int u1_0), .val (.int u2_0), .val (.int u3_0), .val (.int u4_0), .val (.int u5_0), .val (.int u6_0), .val (.int pa), .val (.int pl), .val (.int ps), .val (.int pe), .val (.long ea), .second, .val (.long ee), .second, .val (.long el), .second, .val (.ref bl), .val (.ref bx), .unset, .unset] [])) _
        refine XS.aload XA.here hx rfl (hb hby at_215) rfl (rfl) ?_
        show Steps p.tables e below (TA.setTop (mkF m 217 #[.val (.int p0), .val (.int p1), .val (.int p2), .val (.int p3), .val (.int p4), .val (.int p5), .val (.int u1_0), .val (.int u2_0), .val (.int u3_0), .val (.int u4_0), .val (.int u5_0), .val (.int u6_0), .val (.int pa), .val (.int pl), .val (.int ps), .val (.int pe), .val (.long ea), .second, .val (.long ee), .second, .val (.long el), .second, .val (.ref bl), .val (.ref bx), .unset, .unset] [(.ref bx)])) _
        refine XS.iload XA.here hx rfl (hb hby at_217) rfl ?_
        show Steps p.tables e below (TA.setTop (mkF m 219 #[.val (.int p0), .val (.int p1), .val (.int p2), .val (.int p3), .val (.int p4), .val (.int p5), .val (.int u1_0), .val (.int u2_0), .val (.int u3_0), .val (.int u4_0), .val (.int u5_0), .val (.int u6_0), .val (.int pa), .val (.int pl), .val (.int ps), .val (.int pe), .val (.long ea), .second, .val (.long ee), .second, .val (.long el), .second, .val (.ref bl), .val (.ref bx), .unset, .unset] [(.int ps), (.ref bx)])) _
        refine st58.trans ?_
        show Steps p.tables e below (T58.setTop (mkF m 222 #[.val (.int p0), .val (.int p1), .val (.int p2), .val (.int p3), .val (.int p4), .val (.int p5), .val (.int u1_0), .val (.int u2_0), .val (.int u3_0), .val (.int u4_0), .val (.int u5_0), .val (.int u6_0), .val (.int pa), .val (.int pl), .val (.int ps), .val (.int pe), .val (.long ea), .second, .val (.long ee), .second, .val (.long el), .second, .val (.ref bl), .val (.ref bx), .unset, .unset] [])) _
        exact k
      exact ⟨T58, _, T58.heap, _, _, ps.toInt64, X58, rfl, N58, (Nat.le_trans ZA Kq58.1), (by omega), (by omega), own_B1 hz3 hbB nps, Eq58, G0q58, G1q58, G2q58, G3q58, G4q58, G5q58, G6q58, G7q58, G8q58, pre59⟩
  obtain ⟨TC, oC, hC, cC, lC, ve, XC, eC, NC, ZC, hcC, hlC, fC, E1C, F0C, F1C, F2C, F3C, F4C, F5C, F6C, F7C, F8C, preC⟩ : ∃ (TC : State) (oC : List Loc) (hC : Heap) (cC : Nat) (lC : Nat) (ve : Int64), (Stand p l e room_1 s m #[(.int p0), (.int p1), (.int p2), (.int p3), (.int p4), (.int p5)] below meth c TC oC cC lC) ∧ (TC.heap = hC) ∧ (Fr n0 oC) ∧ (n0 ≤ hC.size) ∧ (cC ≤ 6) ∧ (lC ≤ 60) ∧ (((0 : Int64) < ve) ↔ u4_0 = 1) ∧ (Exa Z hC bx "com/example/kiseki/kiseki/tracing/DroppedItems") ∧ (Fld Z hC bx "com/example/kiseki/kiseki/tracing/DroppedItems" "attributesBeforeStart" "J" (.long va)) ∧ (Fld Z hC bx "com/example/kiseki/kiseki/tracing/DroppedItems" "attributesSinceStart" "J" (.long vs)) ∧ (Fld Z hC bx "com/example/kiseki/kiseki/tracing/DroppedItems" "events" "J" (.long ve)) ∧ (Fld Z hC bx "com/example/kiseki/kiseki/tracing/DroppedItems" "links" "J" (.long vl)) ∧ (Fld Z hC bx "com/example/kiseki/kiseki/tracing/DroppedItems" "eventAttributes" "J" (.long (0 : Int64))) ∧ (Fld Z hC bx "com/example/kiseki/kiseki/tracing/DroppedItems" "linkAttributes" "J" (.long vk)) ∧ (Fld Z hC bx "com/example/kiseki/kiseki/tracing/DroppedItems" "attributesElsewhere" "J" (.long (0 : Int64))) ∧ (Fld Z hC bx "com/example/kiseki/kiseki/tracing/DroppedItems" "eventsElsewhere" "J" (.long (0 : Int64))) ∧ (Fld Z hC bx "com/example/kiseki/kiseki/tracing/DroppedItems" "linksElsewhere" "J" (.long (0 : Int64))) ∧ (∀ t, Steps p.tables e below (TC.setTop (mkF m 232 #[.val (.int p0), .val (.int p1), .val (.int p2), .val (.int p3), .val (.int p4), .val (.int p5), .val (.int u1_0), .val (.int u2_0), .val (.int u3_0), .val (.int u4_0), .val (.int u5_0), .val (.int u6_0), .val (.int pa), .val (.int pl), .val (.int ps), .val (.int pe), .val (.long ea), .second, .val (.long ee), .second, .val (.long el), .second, .val (.ref bl), .val (.ref bx), .unset, .unset] [])) t → Steps p.tables e below (s₁.setTop (entryFrame m #[(.int p0), (.int p1), (.int p2), (.int p3), (.int p4), (.int p5)] maxLocals)) t) := by
    have pre60 : ∀ t, Steps p.tables e below (TB.setTop (mkF m 224 #[.val (.int p0), .val (.int p1), .val (.int p2), .val (.int p3), .val (.int p4), .val (.int p5), .val (.int u1_0), .val (.int u2_0), .val (.int u3_0), .val (.int u4_0), .val (.int u5_0), .val (.int u6_0), .val (.int pa), .val (.int pl), .val (.int ps), .val (.int pe), .val (.long ea), .second, .val (.long ee), .second, .val (.long el), .second, .val (.ref bl), .val (.ref bx), .unset, .unset] [(.int u4_0)])) t → Steps p.tables e below (s₁.setTop (entryFrame m #[(.int p0), (.int p1), (.int p2), (.int p3), (.int p4), (.int p5)] maxLocals)) t := by
      intro t k
      refine preB t ?_
      show Steps p.tables e below (TB.setTop (mkF m 222 #[.val (.int p0), .val (.int p1), .val (.int p2), .val (.int p3), .val (.int p4), .val (.int p5), .val (.int u1_0), .val (.int u2_0), .val (.int u3_0), .val (.int u4_0), .val (.int u5_0), .val (.int u6_0), .val (.int pa), .val (.int pl), .val (.int ps), .val (.int pe), .val (.long ea), .second, .val (.long ee), .second, .val (.long el), .second, .val (.ref bl), .val (.ref bx), .unset, .unset] [])) _
      refine XS.iload XB.here hx rfl (hb hby at_222) rfl ?_
      show Steps p.tables e below (TB.setTop (mkF m 224 #[.val (.int p0), .val (.int p1), .val (.int p2), .val (.int p3), .val (.int p4), .val (.int p5), .val (.int u1_0), .val (.int u2_0), .val (.int u3_0), .val (.int u4_0), .val (.int u5_0), .val (.int u6_0), .val (.int pa), .val (.int pl), .val (.int ps), .val (.int pe), .val (.long ea), .second, .val (.long ee), .second, .val (.long el), .second, .val (.ref bl), .val (.ref bx), .unset, .unset] [(.int u4_0)])) _
      exact k
    by_cases hbC : u4_0 = (0 : Int32)
    · skip
      have pre61 : ∀ t, Steps p.tables e below (TB.setTop (mkF m 232 #[.val (.int p0), .val (.int p1), .val (.int p2), .val (.int p3), .val (.int p4), .val (.int p5), .val (.int u1_0), .val (.int u2_0), .val (.int u3_0), .val (.int u4_0), .val (.int u5_0), .val (.int u6_0), .val (.int pa), .val (.int pl), .val (.int ps), .val (.int pe), .val (.long ea), .second, .val (.long ee), .second, .val (.long el), .second, .val (.ref bl), .val (.ref bx), .unset, .unset] [])) t → Steps p.tables e below (s₁.setTop (entryFrame m #[(.int p0), (.int p1), (.int p2), (.int p3), (.int p4), (.int p5)] maxLocals)) t := by
        intro t k
        refine pre60 t ?_
        refine XS.ifYes XB.here hx rfl (pc0 := 224) (pc' := 232) rfl (hb hby at_224) rfl ((if0 _ _).trans (teq hbC).1) (by decide) (by decide) ?_
        show Steps p.tables e below (TB.setTop (mkF m 232 #[.val (.int p0), .val (.int p1), .val (.int p2), .val (.int p3), .val (.int p4), .val (.int p5), .val (.int u1_0), .val (.int u2_0), .val (.int u3_0), .val (.int u4_0), .val (.int u5_0), .val (.int u6_0), .val (.int pa), .val (.int pl), .val (.int ps), .val (.int pe), .val (.long ea), .second, .val (.long ee), .second, .val (.long el), .second, .val (.ref bl), .val (.ref bx), .unset, .unset] [])) _
        exact k
      exact ⟨TB, _, hB, _, _, (0 : Int64), XB, eB, NB, ZB, (by omega), (by omega), own_C0 hbC, E1B, F0B, F1B, F2B, F3B, F4B, F5B, F6B, F7B, F8B, pre61⟩
    · skip
      obtain ⟨cq62, kq62, q62a, q62b, q62c⟩ := isOf hZ eB E1B
      obtain ⟨_, _, ⟨T62, L62, k62, n62⟩, -, X62, ⟨Lc62, hQ62, l62, y62, z62⟩, st62⟩ := XB.virtualBack hx (y := (⟨"com/example/kiseki/kiseki/tracing/DroppedItems", "countEvent", "()V"⟩ : MethodName)) (z := (⟨"com/example/kiseki/kiseki/tracing/DroppedItems", "countEvent", "()V"⟩ : MethodName)) hown (mvT hZ (hw _ (List.mem_of_getElem? (i := 150) rfl))) (mvT hZ (hw _ (List.mem_of_getElem? (i := 151) rfl))) (notFace_of_selects (args := #[]) (mvT hZ (hw _ (List.mem_of_getElem? (i := 153) rfl)))) (mvT hZ (hw _ (List.mem_of_getElem? (i := 153) rfl))) (mvT hZ (hw _ (List.mem_of_getElem? (i := 152) rfl))) (by decide) (backOf (W := 0) (rmCE l Z a0 hw [] bx va vs (0 : Int64) vl (0 : Int64) vk (0 : Int64) (0 : Int64) (0 : Int64) hB n0 ZB E1B F0B F1B F2B F3B F4B F5B F6B F7B F8B g_bx) hZ (hw _ (List.mem_of_getElem? (i := 154) rfl)) (hw _ (List.mem_of_getElem? (i := 80) rfl)) (by decide) (by decide)) q62a q62c (g := (mkF m 229 #[.val (.int p0), .val (.int p1), .val (.int p2), .val (.int p3), .val (.int p4), .val (.int p5), .val (.int u1_0), .val (.int u2_0), .val (.int u3_0), .val (.int u4_0), .val (.int u5_0), .val (.int u6_0), .val (.int pa), .val (.int pl), .val (.int ps), .val (.int pe), .val (.long ea), .second, .val (.long ee), .second, .val (.long el), .second, .val (.ref bl), .val (.ref bx), .unset, .unset] [(.ref bx)])) rfl (by rw [hml]; rfl) (Steps.refl _) (argsL := []) (rest := []) (lenOf pd_0 rfl) rfl (by show 2 * 0 + _ ≤ _; exact Nat.le_of_eq rfl) (hb hby at_229) (fun _ _ => ⟨rfl, eB, (by show cB + 0 ≤ 16; omega), (by show lB + 0 ≤ 128; omega)⟩)
      dsimp only [Pt.U, Pt.locs, Pt.cells, Pt.slots] at X62 l62 y62 z62 st62 hQ62
      subst l62 y62 z62
      obtain ⟨rfl, N62q, Kq62, Eq62, G0q62, G1q62, G2q62, G3q62, G4q62, G5q62, G6q62, G7q62, G8q62⟩ := hQ62
      have N62 := Fr.app NB N62q
      have pre63 : ∀ t, Steps p.tables e below (T62.setTop (mkF m 232 #[.val (.int p0), .val (.int p1), .val (.int p2), .val (.int p3), .val (.int p4), .val (.int p5), .val (.int u1_0), .val (.int u2_0), .val (.int u3_0), .val (.int u4_0), .val (.int u5_0), .val (.int u6_0), .val (.int pa), .val (.int pl), .val (.int ps), .val (.int pe), .val (.long ea), .second, .val (.long ee), .second, .val (.long el), .second, .val (.ref bl), .val (.ref bx), .unset, .unset] [])) t → Steps p.tables e below (s₁.setTop (entryFrame m #[(.int p0), (.int p1), (.int p2), (.int p3), (.int p4), (.int p5)] maxLocals)) t := by
        intro t k
        refine pre60 t ?_
        refine XS.ifNo XB.here hx rfl (hb hby at_224) rfl ((if0 _ _).trans (feq hbC).1) ?_
        show Steps p.tables e below (TB.setTop (mkF m 227 #[.val (.int p0), .val (.int p1), .val (.int p2), .val (.int p3), .val (.int p4), .val (.int p5), .val (.int u1_0), .val (.int u2_0), .val (.int u3_0), .val (.int u4_0), .val (.int u5_0), .val (.int u6_0), .val (.int pa), .val (.int pl), .val (.int ps), .val (.int pe), .val (.long ea), .second, .val (.long ee), .second, .val (.long el), .second, .val (.ref bl), .val (.ref bx), .unset, .unset] [])) _
        refine XS.aload XB.here hx rfl (hb hby at_227) rfl (rfl) ?_
        show Steps p.tables e below (TB.setTop (mkF m 229 #[.val (.int p0), .val (.int p1), .val (.int p2), .val (.int p3), .val (.int p4), .val (.int p5), .val (.int u1_0), .val (.int u2_0), .val (.int u3_0), .val (.int u4_0), .val (.int u5_0), .val (.int u6_0), .val (.int pa), .val (.int pl), .val (.int ps), .val (.int pe), .val (.long ea), .second, .val (.long ee), .second, .val (.long el), .second, .val (.ref bl), .val (.ref bx), .unset, .unset] [(.ref bx)])) _
        refine st62.trans ?_
        show Steps p.tables e below (T62.setTop (mkF m 232 #[.val (.int p0), .val (.int p1), .val (.int p2), .val (.int p3), .val (.int p4), .val (.int p5), .val (.int u1_0), .val (.int u2_0), .val (.int u3_0), .val (.int u4_0), .val (.int u5_0), .val (.int u6_0), .val (.int pa), .val (.int pl), .val (.int ps), .val (.int pe), .val (.long ea), .second, .val (.long ee), .second, .val (.long el), .second, .val (.ref bl), .val (.ref bx), .unset, .unset] [])) _
        exact k
      exact ⟨T62, _, T62.heap, _, _, ((0 : Int64) + (1 : Int64)), X62, rfl, N62, (Nat.le_trans ZB Kq62.1), (by omega), (by omega), own_C1 hz4 hbC, Eq62, G0q62, G1q62, G2q62, G3q62, G4q62, G5q62, G6q62, G7q62, G8q62, pre63⟩
  obtain ⟨TY, oY, hY, cY, lY, vv, XY, eY, NY, ZY, hcY, hlY, fY, E1Y, F0Y, F1Y, F2Y, F3Y, F4Y, F5Y, F6Y, F7Y, F8Y, preY⟩ : ∃ (TY : State) (oY : List Loc) (hY : Heap) (cY : Nat) (lY : Nat) (vv : Int64), (Stand p l e room_1 s m #[(.int p0), (.int p1), (.int p2), (.int p3), (.int p4), (.int p5)] below meth c TY oY cY lY) ∧ (TY.heap = hY) ∧ (Fr n0 oY) ∧ (n0 ≤ hY.size) ∧ (cY ≤ 6) ∧ (lY ≤ 60) ∧ (((0 : Int64) < vv) ↔ (u5_0 = 1 ∧ (0 : Int32) < pe)) ∧ (Exa Z hY bx "com/example/kiseki/kiseki/tracing/DroppedItems") ∧ (Fld Z hY bx "com/example/kiseki/kiseki/tracing/DroppedItems" "attributesBeforeStart" "J" (.long va)) ∧ (Fld Z hY bx "com/example/kiseki/kiseki/tracing/DroppedItems" "attributesSinceStart" "J" (.long vs)) ∧ (Fld Z hY bx "com/example/kiseki/kiseki/tracing/DroppedItems" "events" "J" (.long ve)) ∧ (Fld Z hY bx "com/example/kiseki/kiseki/tracing/DroppedItems" "links" "J" (.long vl)) ∧ (Fld Z hY bx "com/example/kiseki/kiseki/tracing/DroppedItems" "eventAttributes" "J" (.long vv)) ∧ (Fld Z hY bx "com/example/kiseki/kiseki/tracing/DroppedItems" "linkAttributes" "J" (.long vk)) ∧ (Fld Z hY bx "com/example/kiseki/kiseki/tracing/DroppedItems" "attributesElsewhere" "J" (.long (0 : Int64))) ∧ (Fld Z hY bx "com/example/kiseki/kiseki/tracing/DroppedItems" "eventsElsewhere" "J" (.long (0 : Int64))) ∧ (Fld Z hY bx "com/example/kiseki/kiseki/tracing/DroppedItems" "linksElsewhere" "J" (.long (0 : Int64))) ∧ (∀ t, Steps p.tables e below (TY.setTop (mkF m 244 #[.val (.int p0), .val (.int p1), .val (.int p2), .val (.int p3), .val (.int p4), .val (.int p5), .val (.int u1_0), .val (.int u2_0), .val (.int u3_0), .val (.int u4_0), .val (.int u5_0), .val (.int u6_0), .val (.int pa), .val (.int pl), .val (.int ps), .val (.int pe), .val (.long ea), .second, .val (.long ee), .second, .val (.long el), .second, .val (.ref bl), .val (.ref bx), .unset, .unset] [])) t → Steps p.tables e below (s₁.setTop (entryFrame m #[(.int p0), (.int p1), (.int p2), (.int p3), (.int p4), (.int p5)] maxLocals)) t) := by
    have pre64 : ∀ t, Steps p.tables e below (TC.setTop (mkF m 234 #[.val (.int p0), .val (.int p1), .val (.int p2), .val (.int p3), .val (.int p4), .val (.int p5), .val (.int u1_0), .val (.int u2_0), .val (.int u3_0), .val (.int u4_0), .val (.int u5_0), .val (.int u6_0), .val (.int pa), .val (.int pl), .val (.int ps), .val (.int pe), .val (.long ea), .second, .val (.long ee), .second, .val (.long el), .second, .val (.ref bl), .val (.ref bx), .unset, .unset] [(.int u5_0)])) t → Steps p.tables e below (s₁.setTop (entryFrame m #[(.int p0), (.int p1), (.int p2), (.int p3), (.int p4), (.int p5)] maxLocals)) t := by
      intro t k
      refine preC t ?_
      show Steps p.tables e below (TC.setTop (mkF m 232 #[.val (.int p0), .val (.int p1), .val (.int p2), .val (.int p3), .val (.int p4), .val (.int p5), .val (.int u1_0), .val (.int u2_0), .val (.int u3_0), .val (.int u4_0), .val (.int u5_0), .val (.int u6_0), .val (.int pa), .val (.int pl), .val (.int ps), .val (.int pe), .val (.long ea), .second, .val (.long ee), .second, .val (.long el), .second, .val (.ref bl), .val (.ref bx), .unset, .unset] [])) _
      refine XS.iload XC.here hx rfl (hb hby at_232) rfl ?_
      show Steps p.tables e below (TC.setTop (mkF m 234 #[.val (.int p0), .val (.int p1), .val (.int p2), .val (.int p3), .val (.int p4), .val (.int p5), .val (.int u1_0), .val (.int u2_0), .val (.int u3_0), .val (.int u4_0), .val (.int u5_0), .val (.int u6_0), .val (.int pa), .val (.int pl), .val (.int ps), .val (.int pe), .val (.long ea), .second, .val (.long ee), .second, .val (.long el), .second, .val (.ref bl), .val (.ref bx), .unset, .unset] [(.int u5_0)])) _
      exact k
    by_cases hbY : u5_0 = (0 : Int32)
    · skip
      have pre65 : ∀ t, Steps p.tables e below (TC.setTop (mkF m 244 #[.val (.int p0), .val (.int p1), .val (.int p2), .val (.int p3), .val (.int p4), .val (.int p5), .val (.int u1_0), .val (.int u2_0), .val (.int u3_0), .val (.int u4_0), .val (.int u5_0), .val (.int u6_0), .val (.int pa), .val (.int pl), .val (.int ps), .val (.int pe), .val (.long ea), .second, .val (.long ee), .second, .val (.long el), .second, .val (.ref bl), .val (.ref bx), .unset, .unset] [])) t → Steps p.tables e below (s₁.setTop (entryFrame m #[(.int p0), (.int p1), (.int p2), (.int p3), (.int p4), (.int p5)] maxLocals)) t := by
        intro t k
        refine pre64 t ?_
        refine XS.ifYes XC.here hx rfl (pc0 := 234) (pc' := 244) rfl (hb hby at_234) rfl ((if0 _ _).trans (teq hbY).1) (by decide) (by decide) ?_
        show Steps p.tables e below (TC.setTop (mkF m 244 #[.val (.int p0), .val (.int p1), .val (.int p2), .val (.int p3), .val (.int p4), .val (.int p5), .val (.int u1_0), .val (.int u2_0), .val (.int u3_0), .val (.int u4_0), .val (.int u5_0), .val (.int u6_0), .val (.int pa), .val (.int pl), .val (.int ps), .val (.int pe), .val (.long ea), .second, .val (.long ee), .second, .val (.long el), .second, .val (.ref bl), .val (.ref bx), .unset, .unset] [])) _
        exact k
      exact ⟨TC, _, hC, _, _, (0 : Int64), XC, eC, NC, ZC, (by omega), (by omega), own_B0 hbY, E1C, F0C, F1C, F2C, F3C, F4C, F5C, F6C, F7C, F8C, pre65⟩
    · skip
      obtain ⟨cq66, kq66, q66a, q66b, q66c⟩ := isOf hZ eC E1C
      obtain ⟨_, _, ⟨T66, L66, k66, n66⟩, -, X66, ⟨Lc66, hQ66, l66, y66, z66⟩, st66⟩ := XC.virtualBack hx (y := (⟨"com/example/kiseki/kiseki/tracing/DroppedItems", "countEventAttributes", "(I)V"⟩ : MethodName)) (z := (⟨"com/example/kiseki/kiseki/tracing/DroppedItems", "countEventAttributes", "(I)V"⟩ : MethodName)) hown (mvT hZ (hw _ (List.mem_of_getElem? (i := 155) rfl))) (mvT hZ (hw _ (List.mem_of_getElem? (i := 156) rfl))) (notFace_of_selects (args := #[]) (mvT hZ (hw _ (List.mem_of_getElem? (i := 158) rfl)))) (mvT hZ (hw _ (List.mem_of_getElem? (i := 158) rfl))) (mvT hZ (hw _ (List.mem_of_getElem? (i := 157) rfl))) (by decide) (backOf (W := 0) (rmCA l Z a0 hw [] bx pe va vs ve vl (0 : Int64) vk (0 : Int64) (0 : Int64) (0 : Int64) hC n0 ZC E1C F0C F1C F2C F3C F4C F5C F6C F7C F8C g_bx) hZ (hw _ (List.mem_of_getElem? (i := 159) rfl)) (hw _ (List.mem_of_getElem? (i := 80) rfl)) (by decide) (by decide)) q66a q66c (g := (mkF m 241 #[.val (.int p0), .val (.int p1), .val (.int p2), .val (.int p3), .val (.int p4), .val (.int p5), .val (.int u1_0), .val (.int u2_0), .val (.int u3_0), .val (.int u4_0), .val (.int u5_0), .val (.int u6_0), .val (.int pa), .val (.int pl), .val (.int ps), .val (.int pe), .val (.long ea), .second, .val (.long ee), .second, .val (.long el), .second, .val (.ref bl), .val (.ref bx), .unset, .unset] [(.int pe), (.ref bx)])) rfl (by rw [hml]; rfl) (Steps.refl _) (argsL := [(.int pe)]) (rest := []) (lenOf pd_12 rfl) rfl (by show 2 * 0 + _ ≤ _; exact Nat.le_of_eq rfl) (hb hby at_241) (fun _ _ => ⟨rfl, eC, (by show cC + 0 ≤ 16; omega), (by show lC + 0 ≤ 128; omega)⟩)
      dsimp only [Pt.U, Pt.locs, Pt.cells, Pt.slots] at X66 l66 y66 z66 st66 hQ66
      subst l66 y66 z66
      obtain ⟨rfl, N66q, Kq66, Eq66, G0q66, G1q66, G2q66, G3q66, G4q66, G5q66, G6q66, G7q66, G8q66⟩ := hQ66
      have N66 := Fr.app NC N66q
      have pre67 : ∀ t, Steps p.tables e below (T66.setTop (mkF m 244 #[.val (.int p0), .val (.int p1), .val (.int p2), .val (.int p3), .val (.int p4), .val (.int p5), .val (.int u1_0), .val (.int u2_0), .val (.int u3_0), .val (.int u4_0), .val (.int u5_0), .val (.int u6_0), .val (.int pa), .val (.int pl), .val (.int ps), .val (.int pe), .val (.long ea), .second, .val (.long ee), .second, .val (.long el), .second, .val (.ref bl), .val (.ref bx), .unset, .unset] [])) t → Steps p.tables e below (s₁.setTop (entryFrame m #[(.int p0), (.int p1), (.int p2), (.int p3), (.int p4), (.int p5)] maxLocals)) t := by
        intro t k
        refine pre64 t ?_
        refine XS.ifNo XC.here hx rfl (hb hby at_234) rfl ((if0 _ _).trans (feq hbY).1) ?_
        show Steps p.tables e below (TC.setTop (mkF m 237 #[.val (.int p0), .val (.int p1), .val (.int p2), .val (.int p3), .val (.int p4), .val (.int p5), .val (.int u1_0), .val (.int u2_0), .val (.int u3_0), .val (.int u4_0), .val (.int u5_0), .val (.int u6_0), .val (.int pa), .val (.int pl), .val (.int ps), .val (.int pe), .val (.long ea), .second, .val (.long ee), .second, .val (.long el), .second, .val (.ref bl), .val (.ref bx), .unset, .unset] [])) _
        refine XS.aload XC.here hx rfl (hb hby at_237) rfl (rfl) ?_
        show Steps p.tables e below (TC.setTop (mkF m 239 #[.val (.int p0), .val (.int p1), .val (.int p2), .val (.int p3), .val (.int p4), .val (.int p5), .val (.int u1_0), .val (.int u2_0), .val (.int u3_0), .val (.int u4_0), .val (.int u5_0), .val (.int u6_0), .val (.int pa), .val (.int pl), .val (.int ps), .val (.int pe), .val (.long ea), .second, .val (.long ee), .second, .val (.long el), .second, .val (.ref bl), .val (.ref bx), .unset, .unset] [(.ref bx)])) _
        refine XS.iload XC.here hx rfl (hb hby at_239) rfl ?_
        show Steps p.tables e below (TC.setTop (mkF m 241 #[.val (.int p0), .val (.int p1), .val (.int p2), .val (.int p3), .val (.int p4), .val (.int p5), .val (.int u1_0), .val (.int u2_0), .val (.int u3_0), .val (.int u4_0), .val (.int u5_0), .val (.int u6_0), .val (.int pa), .val (.int pl), .val (.int ps), .val (.int pe), .val (.long ea), .second, .val (.long ee), .second, .val (.long el), .second, .val (.ref bl), .val (.ref bx), .unset, .unset] [(.int pe), (.ref bx)])) _
        refine st66.trans ?_
        show Steps p.tables e below (T66.setTop (mkF m 244 #[.val (.int p0), .val (.int p1), .val (.int p2), .val (.int p3), .val (.int p4), .val (.int p5), .val (.int u1_0), .val (.int u2_0), .val (.int u3_0), .val (.int u4_0), .val (.int u5_0), .val (.int u6_0), .val (.int pa), .val (.int pl), .val (.int ps), .val (.int pe), .val (.long ea), .second, .val (.long ee), .second, .val (.long el), .second, .val (.ref bl), .val (.ref bx), .unset, .unset] [])) _
        exact k
      exact ⟨T66, _, T66.heap, _, _, ((0 : Int64) + pe.toInt64), X66, rfl, N66, (Nat.le_trans ZC Kq66.1), (by omega), (by omega), own_D1 hz5 hbY npe, Eq66, G0q66, G1q66, G2q66, G3q66, G4q66, G5q66, G6q66, G7q66, G8q66, pre67⟩
  obtain ⟨TE, oE, hE, cE, lE, XE, eE, NE, ZE, hcE, hlE, E1E, F0E, F1E, F2E, F3E, F4E, F5E, preE⟩ : ∃ (TE : State) (oE : List Loc) (hE : Heap) (cE : Nat) (lE : Nat), (Stand p l e room_1 s m #[(.int p0), (.int p1), (.int p2), (.int p3), (.int p4), (.int p5)] below meth c TE oE cE lE) ∧ (TE.heap = hE) ∧ (Fr n0 oE) ∧ (n0 ≤ hE.size) ∧ (cE ≤ 6) ∧ (lE ≤ 60) ∧ (Exa Z hE bx "com/example/kiseki/kiseki/tracing/DroppedItems") ∧ (Fld Z hE bx "com/example/kiseki/kiseki/tracing/DroppedItems" "attributesBeforeStart" "J" (.long va)) ∧ (Fld Z hE bx "com/example/kiseki/kiseki/tracing/DroppedItems" "attributesSinceStart" "J" (.long vs)) ∧ (Fld Z hE bx "com/example/kiseki/kiseki/tracing/DroppedItems" "events" "J" (.long ve)) ∧ (Fld Z hE bx "com/example/kiseki/kiseki/tracing/DroppedItems" "links" "J" (.long vl)) ∧ (Fld Z hE bx "com/example/kiseki/kiseki/tracing/DroppedItems" "eventAttributes" "J" (.long vv)) ∧ (Fld Z hE bx "com/example/kiseki/kiseki/tracing/DroppedItems" "linkAttributes" "J" (.long vk)) ∧ (∀ t, Steps p.tables e below (TE.setTop (mkF m 262 #[.val (.int p0), .val (.int p1), .val (.int p2), .val (.int p3), .val (.int p4), .val (.int p5), .val (.int u1_0), .val (.int u2_0), .val (.int u3_0), .val (.int u4_0), .val (.int u5_0), .val (.int u6_0), .val (.int pa), .val (.int pl), .val (.int ps), .val (.int pe), .val (.long ea), .second, .val (.long ee), .second, .val (.long el), .second, .val (.ref bl), .val (.ref bx), .unset, .unset] [])) t → Steps p.tables e below (s₁.setTop (entryFrame m #[(.int p0), (.int p1), (.int p2), (.int p3), (.int p4), (.int p5)] maxLocals)) t) := by
    have pre68 : ∀ t, Steps p.tables e below (TY.setTop (mkF m 246 #[.val (.int p0), .val (.int p1), .val (.int p2), .val (.int p3), .val (.int p4), .val (.int p5), .val (.int u1_0), .val (.int u2_0), .val (.int u3_0), .val (.int u4_0), .val (.int u5_0), .val (.int u6_0), .val (.int pa), .val (.int pl), .val (.int ps), .val (.int pe), .val (.long ea), .second, .val (.long ee), .second, .val (.long el), .second, .val (.ref bl), .val (.ref bx), .unset, .unset] [(.int u6_0)])) t → Steps p.tables e below (s₁.setTop (entryFrame m #[(.int p0), (.int p1), (.int p2), (.int p3), (.int p4), (.int p5)] maxLocals)) t := by
      intro t k
      refine preY t ?_
      show Steps p.tables e below (TY.setTop (mkF m 244 #[.val (.int p0), .val (.int p1), .val (.int p2), .val (.int p3), .val (.int p4), .val (.int p5), .val (.int u1_0), .val (.int u2_0), .val (.int u3_0), .val (.int u4_0), .val (.int u5_0), .val (.int u6_0), .val (.int pa), .val (.int pl), .val (.int ps), .val (.int pe), .val (.long ea), .second, .val (.long ee), .second, .val (.long el), .second, .val (.ref bl), .val (.ref bx), .unset, .unset] [])) _
      refine XS.iload XY.here hx rfl (hb hby at_244) rfl ?_
      show Steps p.tables e below (TY.setTop (mkF m 246 #[.val (.int p0), .val (.int p1), .val (.int p2), .val (.int p3), .val (.int p4), .val (.int p5), .val (.int u1_0), .val (.int u2_0), .val (.int u3_0), .val (.int u4_0), .val (.int u5_0), .val (.int u6_0), .val (.int pa), .val (.int pl), .val (.int ps), .val (.int pe), .val (.long ea), .second, .val (.long ee), .second, .val (.long el), .second, .val (.ref bl), .val (.ref bx), .unset, .unset] [(.int u6_0)])) _
      exact k
    by_cases hbE : u6_0 = (0 : Int32)
    · skip
      have pre69 : ∀ t, Steps p.tables e below (TY.setTop (mkF m 262 #[.val (.int p0), .val (.int p1), .val (.int p2), .val (.int p3), .val (.int p4), .val (.int p5), .val (.int u1_0), .val (.int u2_0), .val (.int u3_0), .val (.int u4_0), .val (.int u5_0), .val (.int u6_0), .val (.int pa), .val (.int pl), .val (.int ps), .val (.int pe), .val (.long ea), .second, .val (.long ee), .second, .val (.long el), .second, .val (.ref bl), .val (.ref bx), .unset, .unset] [])) t → Steps p.tables e below (s₁.setTop (entryFrame m #[(.int p0), (.int p1), (.int p2), (.int p3), (.int p4), (.int p5)] maxLocals)) t := by
        intro t k
        refine pre68 t ?_
        refine XS.ifYes XY.here hx rfl (pc0 := 246) (pc' := 262) rfl (hb hby at_246) rfl ((if0 _ _).trans (teq hbE).1) (by decide) (by decide) ?_
        show Steps p.tables e below (TY.setTop (mkF m 262 #[.val (.int p0), .val (.int p1), .val (.int p2), .val (.int p3), .val (.int p4), .val (.int p5), .val (.int u1_0), .val (.int u2_0), .val (.int u3_0), .val (.int u4_0), .val (.int u5_0), .val (.int u6_0), .val (.int pa), .val (.int pl), .val (.int ps), .val (.int pe), .val (.long ea), .second, .val (.long ee), .second, .val (.long el), .second, .val (.ref bl), .val (.ref bx), .unset, .unset] [])) _
        exact k
      exact ⟨TY, _, hY, _, _, XY, eY, NY, ZY, (by omega), (by omega), E1Y, F0Y, F1Y, F2Y, F3Y, F4Y, F5Y, pre69⟩
    · skip
      obtain ⟨_, _, ⟨T70, L70, k70, n70⟩, -, X70, ⟨Lc70, hQ70, l70, y70, z70⟩, st70⟩ := Jvm.LawKit.callS XY hx (y := (⟨"com/example/kiseki/kiseki/tracing/DroppedItems", "withDroppedElsewhere", "(Lcom/example/kiseki/kiseki/tracing/DroppedItems;JJJ)Lcom/example/kiseki/kiseki/tracing/DroppedItems;"⟩ : MethodName)) hown (mvT hZ (hw _ (List.mem_of_getElem? (i := 160) rfl))) (mvT hZ (hw _ (List.mem_of_getElem? (i := 161) rfl))) (mvT hZ (hw _ (List.mem_of_getElem? (i := 80) rfl))) (mvT hZ (hw _ (List.mem_of_getElem? (i := 162) rfl))) (by decide) (backOf (W := 0) (rmWE l Z a0 hw [] bx ea ee el va vs ve vl vv vk (0 : Int64) (0 : Int64) (0 : Int64) hY n0 ZY E1Y F0Y F1Y F2Y F3Y F4Y F5Y F6Y F7Y F8Y g_bx) hZ (hw _ (List.mem_of_getElem? (i := 162) rfl)) (hw _ (List.mem_of_getElem? (i := 80) rfl)) (by decide) (by decide)) (g := (mkF m 257 #[.val (.int p0), .val (.int p1), .val (.int p2), .val (.int p3), .val (.int p4), .val (.int p5), .val (.int u1_0), .val (.int u2_0), .val (.int u3_0), .val (.int u4_0), .val (.int u5_0), .val (.int u6_0), .val (.int pa), .val (.int pl), .val (.int ps), .val (.int pe), .val (.long ea), .second, .val (.long ee), .second, .val (.long el), .second, .val (.ref bl), .val (.ref bx), .unset, .unset] [(.long el), (.long ee), (.long ea), (.ref bx)])) rfl (by rw [hml]; rfl) (argsL := [(.ref bx), (.long ea), (.long ee), (.long el)]) (rest := []) (lenOf pd_13 rfl) rfl (by show 2 * 0 + _ ≤ _; exact Nat.le_of_eq rfl) (hb hby at_257) (fun _ _ => ⟨rfl, eY, (by show cY + 0 ≤ 16; omega), (by show lY + 0 ≤ 128; omega)⟩)
      dsimp only [Pt.U, Pt.locs, Pt.cells, Pt.slots] at X70 l70 y70 z70 st70 hQ70
      subst l70 y70 z70
      obtain ⟨rfl, N70q, Kq70, Eq70, G0q70, G1q70, G2q70, G3q70, G4q70, G5q70⟩ := hQ70
      have N70 := Fr.app NY N70q
      have pre71 : ∀ t, Steps p.tables e below (T70.setTop (mkF m 262 #[.val (.int p0), .val (.int p1), .val (.int p2), .val (.int p3), .val (.int p4), .val (.int p5), .val (.int u1_0), .val (.int u2_0), .val (.int u3_0), .val (.int u4_0), .val (.int u5_0), .val (.int u6_0), .val (.int pa), .val (.int pl), .val (.int ps), .val (.int pe), .val (.long ea), .second, .val (.long ee), .second, .val (.long el), .second, .val (.ref bl), .val (.ref bx), .unset, .unset] [])) t → Steps p.tables e below (s₁.setTop (entryFrame m #[(.int p0), (.int p1), (.int p2), (.int p3), (.int p4), (.int p5)] maxLocals)) t := by
        intro t k
        refine pre68 t ?_
        refine XS.ifNo XY.here hx rfl (hb hby at_246) rfl ((if0 _ _).trans (feq hbE).1) ?_
        show Steps p.tables e below (TY.setTop (mkF m 249 #[.val (.int p0), .val (.int p1), .val (.int p2), .val (.int p3), .val (.int p4), .val (.int p5), .val (.int u1_0), .val (.int u2_0), .val (.int u3_0), .val (.int u4_0), .val (.int u5_0), .val (.int u6_0), .val (.int pa), .val (.int pl), .val (.int ps), .val (.int pe), .val (.long ea), .second, .val (.long ee), .second, .val (.long el), .second, .val (.ref bl), .val (.ref bx), .unset, .unset] [])) _
        refine XS.aload XY.here hx rfl (hb hby at_249) rfl (rfl) ?_
        show Steps p.tables e below (TY.setTop (mkF m 251 #[.val (.int p0), .val (.int p1), .val (.int p2), .val (.int p3), .val (.int p4), .val (.int p5), .val (.int u1_0), .val (.int u2_0), .val (.int u3_0), .val (.int u4_0), .val (.int u5_0), .val (.int u6_0), .val (.int pa), .val (.int pl), .val (.int ps), .val (.int pe), .val (.long ea), .second, .val (.long ee), .second, .val (.long el), .second, .val (.ref bl), .val (.ref bx), .unset, .unset] [(.ref bx)])) _
        refine XS.lload XY.here hx rfl (hb hby at_251) rfl ?_
        show Steps p.tables e below (TY.setTop (mkF m 253 #[.val (.int p0), .val (.int p1), .val (.int p2), .val (.int p3), .val (.int p4), .val (.int p5), .val (.int u1_0), .val (.int u2_0), .val (.int u3_0), .val (.int u4_0), .val (.int u5_0), .val (.int u6_0), .val (.int pa), .val (.int pl), .val (.int ps), .val (.int pe), .val (.long ea), .second, .val (.long ee), .second, .val (.long el), .second, .val (.ref bl), .val (.ref bx), .unset, .unset] [(.long ea), (.ref bx)])) _
        refine XS.lload XY.here hx rfl (hb hby at_253) rfl ?_
        show Steps p.tables e below (TY.setTop (mkF m 255 #[.val (.int p0), .val (.int p1), .val (.int p2), .val (.int p3), .val (.int p4), .val (.int p5), .val (.int u1_0), .val (.int u2_0), .val (.int u3_0), .val (.int u4_0), .val (.int u5_0), .val (.int u6_0), .val (.int pa), .val (.int pl), .val (.int ps), .val (.int pe), .val (.long ea), .second, .val (.long ee), .second, .val (.long el), .second, .val (.ref bl), .val (.ref bx), .unset, .unset] [(.long ee), (.long ea), (.ref bx)])) _
        refine XS.lload XY.here hx rfl (hb hby at_255) rfl ?_
        show Steps p.tables e below (TY.setTop (mkF m 257 #[.val (.int p0), .val (.int p1), .val (.int p2), .val (.int p3), .val (.int p4), .val (.int p5), .val (.int u1_0), .val (.int u2_0), .val (.int u3_0), .val (.int u4_0), .val (.int u5_0), .val (.int u6_0), .val (.int pa), .val (.int pl), .val (.int ps), .val (.int pe), .val (.long ea), .second, .val (.long ee), .second, .val (.long el), .second, .val (.ref bl), .val (.ref bx), .unset, .unset] [(.long el), (.long ee), (.long ea), (.ref bx)])) _
        refine st70 _ ?_
        show Steps p.tables e below (T70.setTop (mkF m 260 #[.val (.int p0), .val (.int p1), .val (.int p2), .val (.int p3), .val (.int p4), .val (.int p5), .val (.int u1_0), .val (.int u2_0), .val (.int u3_0), .val (.int u4_0), .val (.int u5_0), .val (.int u6_0), .val (.int pa), .val (.int pl), .val (.int ps), .val (.int pe), .val (.long ea), .second, .val (.long ee), .second, .val (.long el), .second, .val (.ref bl), .val (.ref bx), .unset, .unset] [(.ref bx)])) _
        refine XS.astore X70.here hx rfl (hb hby at_260) rfl (rfl) (l' := #[.val (.int p0), .val (.int p1), .val (.int p2), .val (.int p3), .val (.int p4), .val (.int p5), .val (.int u1_0), .val (.int u2_0), .val (.int u3_0), .val (.int u4_0), .val (.int u5_0), .val (.int u6_0), .val (.int pa), .val (.int pl), .val (.int ps), .val (.int pe), .val (.long ea), .second, .val (.long ee), .second, .val (.long el), .second, .val (.ref bl), .val (.ref bx), .unset, .unset]) rfl ?_
        show Steps p.tables e below (T70.setTop (mkF m 262 #[.val (.int p0), .val (.int p1), .val (.int p2), .val (.int p3), .val (.int p4), .val (.int p5), .val (.int u1_0), .val (.int u2_0), .val (.int u3_0), .val (.int u4_0), .val (.int u5_0), .val (.int u6_0), .val (.int pa), .val (.int pl), .val (.int ps), .val (.int pe), .val (.long ea), .second, .val (.long ee), .second, .val (.long el), .second, .val (.ref bl), .val (.ref bx), .unset, .unset] [])) _
        exact k
      exact ⟨T70, _, T70.heap, _, _, X70, rfl, N70, (Nat.le_trans ZY Kq70.1), (by omega), (by omega), Eq70, G0q70, G1q70, G2q70, G3q70, G4q70, G5q70, pre71⟩
  obtain ⟨_, _, ⟨T72, L72, k72, n72⟩, -, X72, ⟨Lc72, hQ72, l72, y72, z72⟩, st72⟩ := Jvm.LawKit.callS XE hx (y := (⟨"java/lang/Math", "max", "(II)I"⟩ : MethodName)) hown (mvT hZ (hw _ (List.mem_of_getElem? (i := 131) rfl))) (mvT hZ (hw _ (List.mem_of_getElem? (i := 45) rfl))) (mvT hZ (hw _ (List.mem_of_getElem? (i := 46) rfl))) (mvT hZ (hw _ (List.mem_of_getElem? (i := 47) rfl))) (by decide) (backOf (W := 0) (rmM l Z a0 hw [] (0 : Int32) p2  hE n0 ZE ) hZ (hw _ (List.mem_of_getElem? (i := 47) rfl)) (hw _ (List.mem_of_getElem? (i := 46) rfl)) (by decide) (by decide)) (g := (mkF m 264 #[.val (.int p0), .val (.int p1), .val (.int p2), .val (.int p3), .val (.int p4), .val (.int p5), .val (.int u1_0), .val (.int u2_0), .val (.int u3_0), .val (.int u4_0), .val (.int u5_0), .val (.int u6_0), .val (.int pa), .val (.int pl), .val (.int ps), .val (.int pe), .val (.long ea), .second, .val (.long ee), .second, .val (.long el), .second, .val (.ref bl), .val (.ref bx), .unset, .unset] [(.int p2), (.int (0 : Int32))])) rfl (by rw [hml]; rfl) (argsL := [(.int (0 : Int32)), (.int p2)]) (rest := []) (lenOf pd_1 rfl) rfl (by show 2 * 0 + _ ≤ _; exact Nat.le_of_eq rfl) (hb hby at_264) (fun _ _ => ⟨rfl, eE, (by show cE + 0 ≤ 16; omega), (by show lE + 0 ≤ 128; omega)⟩)
  dsimp only [Pt.U, Pt.locs, Pt.cells, Pt.slots] at X72 l72 y72 z72 st72 hQ72
  subst l72 y72 z72
  obtain ⟨rfl, N72q, hq72⟩ := hQ72
  have N72 := Fr.app NE N72q
  have pre73 : ∀ t, Steps p.tables e below (T72.setTop (mkF m 272 #[.val (.int p0), .val (.int p1), .val (.int p2), .val (.int p3), .val (.int p4), .val (.int p5), .val (.int u1_0), .val (.int u2_0), .val (.int u3_0), .val (.int u4_0), .val (.int u5_0), .val (.int u6_0), .val (.int pa), .val (.int pl), .val (.int ps), .val (.int pe), .val (.long ea), .second, .val (.long ee), .second, .val (.long el), .second, .val (.ref bl), .val (.ref bx), .val (.int (own_max (0 : Int32) p2)), .val (.int (0 : Int32))] [])) t → Steps p.tables e below (s₁.setTop (entryFrame m #[(.int p0), (.int p1), (.int p2), (.int p3), (.int p4), (.int p5)] maxLocals)) t := by
    intro t k
    refine preE t ?_
    show Steps p.tables e below (TE.setTop (mkF m 262 #[.val (.int p0), .val (.int p1), .val (.int p2), .val (.int p3), .val (.int p4), .val (.int p5), .val (.int u1_0), .val (.int u2_0), .val (.int u3_0), .val (.int u4_0), .val (.int u5_0), .val (.int u6_0), .val (.int pa), .val (.int pl), .val (.int ps), .val (.int pe), .val (.long ea), .second, .val (.long ee), .second, .val (.long el), .second, .val (.ref bl), .val (.ref bx), .unset, .unset] [])) _
    refine XS.iconst XE.here hx rfl (hb hby at_262) ?_
    show Steps p.tables e below (TE.setTop (mkF m 263 #[.val (.int p0), .val (.int p1), .val (.int p2), .val (.int p3), .val (.int p4), .val (.int p5), .val (.int u1_0), .val (.int u2_0), .val (.int u3_0), .val (.int u4_0), .val (.int u5_0), .val (.int u6_0), .val (.int pa), .val (.int pl), .val (.int ps), .val (.int pe), .val (.long ea), .second, .val (.long ee), .second, .val (.long el), .second, .val (.ref bl), .val (.ref bx), .unset, .unset] [(.int (0 : Int32))])) _
    refine XS.iloadN XE.here hx rfl (hb hby at_263) rfl ?_
    show Steps p.tables e below (TE.setTop (mkF m 264 #[.val (.int p0), .val (.int p1), .val (.int p2), .val (.int p3), .val (.int p4), .val (.int p5), .val (.int u1_0), .val (.int u2_0), .val (.int u3_0), .val (.int u4_0), .val (.int u5_0), .val (.int u6_0), .val (.int pa), .val (.int pl), .val (.int ps), .val (.int pe), .val (.long ea), .second, .val (.long ee), .second, .val (.long el), .second, .val (.ref bl), .val (.ref bx), .unset, .unset] [(.int p2), (.int (0 : Int32))])) _
    refine st72 _ ?_
    show Steps p.tables e below (T72.setTop (mkF m 267 #[.val (.int p0), .val (.int p1), .val (.int p2), .val (.int p3), .val (.int p4), .val (.int p5), .val (.int u1_0), .val (.int u2_0), .val (.int u3_0), .val (.int u4_0), .val (.int u5_0), .val (.int u6_0), .val (.int pa), .val (.int pl), .val (.int ps), .val (.int pe), .val (.long ea), .second, .val (.long ee), .second, .val (.long el), .second, .val (.ref bl), .val (.ref bx), .unset, .unset] [(.int (own_max (0 : Int32) p2))])) _
    refine XS.istore X72.here hx rfl (hb hby at_267) rfl (l' := #[.val (.int p0), .val (.int p1), .val (.int p2), .val (.int p3), .val (.int p4), .val (.int p5), .val (.int u1_0), .val (.int u2_0), .val (.int u3_0), .val (.int u4_0), .val (.int u5_0), .val (.int u6_0), .val (.int pa), .val (.int pl), .val (.int ps), .val (.int pe), .val (.long ea), .second, .val (.long ee), .second, .val (.long el), .second, .val (.ref bl), .val (.ref bx), .val (.int (own_max (0 : Int32) p2)), .unset]) rfl ?_
    show Steps p.tables e below (T72.setTop (mkF m 269 #[.val (.int p0), .val (.int p1), .val (.int p2), .val (.int p3), .val (.int p4), .val (.int p5), .val (.int u1_0), .val (.int u2_0), .val (.int u3_0), .val (.int u4_0), .val (.int u5_0), .val (.int u6_0), .val (.int pa), .val (.int pl), .val (.int ps), .val (.int pe), .val (.long ea), .second, .val (.long ee), .second, .val (.long el), .second, .val (.ref bl), .val (.ref bx), .val (.int (own_max (0 : Int32) p2)), .unset] [])) _
    refine XS.iconst X72.here hx rfl (hb hby at_269) ?_
    show Steps p.tables e below (T72.setTop (mkF m 270 #[.val (.int p0), .val (.int p1), .val (.int p2), .val (.int p3), .val (.int p4), .val (.int p5), .val (.int u1_0), .val (.int u2_0), .val (.int u3_0), .val (.int u4_0), .val (.int u5_0), .val (.int u6_0), .val (.int pa), .val (.int pl), .val (.int ps), .val (.int pe), .val (.long ea), .second, .val (.long ee), .second, .val (.long el), .second, .val (.ref bl), .val (.ref bx), .val (.int (own_max (0 : Int32) p2)), .unset] [(.int (0 : Int32))])) _
    refine XS.istore X72.here hx rfl (hb hby at_270) rfl (l' := #[.val (.int p0), .val (.int p1), .val (.int p2), .val (.int p3), .val (.int p4), .val (.int p5), .val (.int u1_0), .val (.int u2_0), .val (.int u3_0), .val (.int u4_0), .val (.int u5_0), .val (.int u6_0), .val (.int pa), .val (.int pl), .val (.int ps), .val (.int pe), .val (.long ea), .second, .val (.long ee), .second, .val (.long el), .second, .val (.ref bl), .val (.ref bx), .val (.int (own_max (0 : Int32) p2)), .val (.int (0 : Int32))]) rfl ?_
    show Steps p.tables e below (T72.setTop (mkF m 272 #[.val (.int p0), .val (.int p1), .val (.int p2), .val (.int p3), .val (.int p4), .val (.int p5), .val (.int u1_0), .val (.int u2_0), .val (.int u3_0), .val (.int u4_0), .val (.int u5_0), .val (.int u6_0), .val (.int pa), .val (.int pl), .val (.int ps), .val (.int pe), .val (.long ea), .second, .val (.long ee), .second, .val (.long el), .second, .val (.ref bl), .val (.ref bx), .val (.int (own_max (0 : Int32) p2)), .val (.int (0 : Int32))] [])) _
    exact k
  obtain ⟨TF, oF, hF, cF, lF, xF, XF, eF, NF, ZF, hcF, hlF, qF, E1F, F0F, F1F, F2F, F3F, F4F, F5F, preF⟩ : ∃ (TF : State) (oF : List Loc) (hF : Heap) (cF : Nat) (lF : Nat) (xF : Int32), (Stand p l e room_1 s m #[(.int p0), (.int p1), (.int p2), (.int p3), (.int p4), (.int p5)] below meth c TF oF cF lF) ∧ (TF.heap = hF) ∧ (Fr n0 oF) ∧ (n0 ≤ hF.size) ∧ (cF ≤ 6) ∧ (lF ≤ 60) ∧ (xF = if (u1_0 = 1 ∧ ((0 : Int32) < pa ∨ (0 : Int32) < pl ∨ (u2_0 = 1 ∧ (0 : Int32) < own_max (0 : Int32) p2))) then (1 : Int32) else 0) ∧ (Exa Z hF bx "com/example/kiseki/kiseki/tracing/DroppedItems") ∧ (Fld Z hF bx "com/example/kiseki/kiseki/tracing/DroppedItems" "attributesBeforeStart" "J" (.long va)) ∧ (Fld Z hF bx "com/example/kiseki/kiseki/tracing/DroppedItems" "attributesSinceStart" "J" (.long vs)) ∧ (Fld Z hF bx "com/example/kiseki/kiseki/tracing/DroppedItems" "events" "J" (.long ve)) ∧ (Fld Z hF bx "com/example/kiseki/kiseki/tracing/DroppedItems" "links" "J" (.long vl)) ∧ (Fld Z hF bx "com/example/kiseki/kiseki/tracing/DroppedItems" "eventAttributes" "J" (.long vv)) ∧ (Fld Z hF bx "com/example/kiseki/kiseki/tracing/DroppedItems" "linkAttributes" "J" (.long vk)) ∧ (∀ t, Steps p.tables e below (TF.setTop (mkF m 306 #[.val (.int p0), .val (.int p1), .val (.int p2), .val (.int p3), .val (.int p4), .val (.int p5), .val (.int u1_0), .val (.int u2_0), .val (.int u3_0), .val (.int u4_0), .val (.int u5_0), .val (.int u6_0), .val (.int pa), .val (.int pl), .val (.int ps), .val (.int pe), .val (.long ea), .second, .val (.long ee), .second, .val (.long el), .second, .val (.ref bl), .val (.ref bx), .val (.int (own_max (0 : Int32) p2)), .val (.int xF)] [])) t → Steps p.tables e below (s₁.setTop (entryFrame m #[(.int p0), (.int p1), (.int p2), (.int p3), (.int p4), (.int p5)] maxLocals)) t) := by
    have pre74 : ∀ t, Steps p.tables e below (T72.setTop (mkF m 274 #[.val (.int p0), .val (.int p1), .val (.int p2), .val (.int p3), .val (.int p4), .val (.int p5), .val (.int u1_0), .val (.int u2_0), .val (.int u3_0), .val (.int u4_0), .val (.int u5_0), .val (.int u6_0), .val (.int pa), .val (.int pl), .val (.int ps), .val (.int pe), .val (.long ea), .second, .val (.long ee), .second, .val (.long el), .second, .val (.ref bl), .val (.ref bx), .val (.int (own_max (0 : Int32) p2)), .val (.int (0 : Int32))] [(.int u1_0)])) t → Steps p.tables e below (s₁.setTop (entryFrame m #[(.int p0), (.int p1), (.int p2), (.int p3), (.int p4), (.int p5)] maxLocals)) t := by
      intro t k
      refine pre73 t ?_
      show Steps p.tables e below (T72.setTop (mkF m 272 #[.val (.int p0), .val (.int p1), .val (.int p2), .val (.int p3), .val (.int p4), .val (.int p5), .val (.int u1_0), .val (.int u2_0), .val (.int u3_0), .val (.int u4_0), .val (.int u5_0), .val (.int u6_0), .val (.int pa), .val (.int pl), .val (.int ps), .val (.int pe), .val (.long ea), .second, .val (.long ee), .second, .val (.long el), .second, .val (.ref bl), .val (.ref bx), .val (.int (own_max (0 : Int32) p2)), .val (.int (0 : Int32))] [])) _
      refine XS.iload X72.here hx rfl (hb hby at_272) rfl ?_
      show Steps p.tables e below (T72.setTop (mkF m 274 #[.val (.int p0), .val (.int p1), .val (.int p2), .val (.int p3), .val (.int p4), .val (.int p5), .val (.int u1_0), .val (.int u2_0), .val (.int u3_0), .val (.int u4_0), .val (.int u5_0), .val (.int u6_0), .val (.int pa), .val (.int pl), .val (.int ps), .val (.int pe), .val (.long ea), .second, .val (.long ee), .second, .val (.long el), .second, .val (.ref bl), .val (.ref bx), .val (.int (own_max (0 : Int32) p2)), .val (.int (0 : Int32))] [(.int u1_0)])) _
      exact k
    by_cases t274_0 : u1_0 = (0 : Int32)
    · skip
      have pre75 : ∀ t, Steps p.tables e below (T72.setTop (mkF m 306 #[.val (.int p0), .val (.int p1), .val (.int p2), .val (.int p3), .val (.int p4), .val (.int p5), .val (.int u1_0), .val (.int u2_0), .val (.int u3_0), .val (.int u4_0), .val (.int u5_0), .val (.int u6_0), .val (.int pa), .val (.int pl), .val (.int ps), .val (.int pe), .val (.long ea), .second, .val (.long ee), .second, .val (.long el), .second, .val (.ref bl), .val (.ref bx), .val (.int (own_max (0 : Int32) p2)), .val (.int (0 : Int32))] [])) t → Steps p.tables e below (s₁.setTop (entryFrame m #[(.int p0), (.int p1), (.int p2), (.int p3), (.int p4), (.int p5)] maxLocals)) t := by
        intro t k
        refine pre74 t ?_
        refine XS.ifYes X72.here hx rfl (pc0 := 274) (pc' := 306) rfl (hb hby at_274) rfl ((if0 _ _).trans (teq t274_0).1) (by decide) (by decide) ?_
        show Steps p.tables e below (T72.setTop (mkF m 306 #[.val (.int p0), .val (.int p1), .val (.int p2), .val (.int p3), .val (.int p4), .val (.int p5), .val (.int u1_0), .val (.int u2_0), .val (.int u3_0), .val (.int u4_0), .val (.int u5_0), .val (.int u6_0), .val (.int pa), .val (.int pl), .val (.int ps), .val (.int pe), .val (.long ea), .second, .val (.long ee), .second, .val (.long el), .second, .val (.ref bl), .val (.ref bx), .val (.int (own_max (0 : Int32) p2)), .val (.int (0 : Int32))] [])) _
        exact k
      exact ⟨T72, _, hE, _, _, (0 : Int32), X72, hq72, N72, ZE, (by omega), (by omega), by simp [t274_0], E1E, F0E, F1E, F2E, F3E, F4E, F5E, pre75⟩
    · skip
      have pre76 : ∀ t, Steps p.tables e below (T72.setTop (mkF m 279 #[.val (.int p0), .val (.int p1), .val (.int p2), .val (.int p3), .val (.int p4), .val (.int p5), .val (.int u1_0), .val (.int u2_0), .val (.int u3_0), .val (.int u4_0), .val (.int u5_0), .val (.int u6_0), .val (.int pa), .val (.int pl), .val (.int ps), .val (.int pe), .val (.long ea), .second, .val (.long ee), .second, .val (.long el), .second, .val (.ref bl), .val (.ref bx), .val (.int (own_max (0 : Int32) p2)), .val (.int (0 : Int32))] [(.int pa)])) t → Steps p.tables e below (s₁.setTop (entryFrame m #[(.int p0), (.int p1), (.int p2), (.int p3), (.int p4), (.int p5)] maxLocals)) t := by
        intro t k
        refine pre74 t ?_
        refine XS.ifNo X72.here hx rfl (hb hby at_274) rfl ((if0 _ _).trans (feq t274_0).1) ?_
        show Steps p.tables e below (T72.setTop (mkF m 277 #[.val (.int p0), .val (.int p1), .val (.int p2), .val (.int p3), .val (.int p4), .val (.int p5), .val (.int u1_0), .val (.int u2_0), .val (.int u3_0), .val (.int u4_0), .val (.int u5_0), .val (.int u6_0), .val (.int pa), .val (.int pl), .val (.int ps), .val (.int pe), .val (.long ea), .second, .val (.long ee), .second, .val (.long el), .second, .val (.ref bl), .val (.ref bx), .val (.int (own_max (0 : Int32) p2)), .val (.int (0 : Int32))] [])) _
        refine XS.iload X72.here hx rfl (hb hby at_277) rfl ?_
        show Steps p.tables e below (T72.setTop (mkF m 279 #[.val (.int p0), .val (.int p1), .val (.int p2), .val (.int p3), .val (.int p4), .val (.int p5), .val (.int u1_0), .val (.int u2_0), .val (.int u3_0), .val (.int u4_0), .val (.int u5_0), .val (.int u6_0), .val (.int pa), .val (.int pl), .val (.int ps), .val (.int pe), .val (.long ea), .second, .val (.long ee), .second, .val (.long el), .second, .val (.ref bl), .val (.ref bx), .val (.int (own_max (0 : Int32) p2)), .val (.int (0 : Int32))] [(.int pa)])) _
        exact k
      by_cases t279_1 : (0 : Int32) < pa
      · skip
        have pre77 : ∀ t, Steps p.tables e below (T72.setTop (mkF m 287 #[.val (.int p0), .val (.int p1), .val (.int p2), .val (.int p3), .val (.int p4), .val (.int p5), .val (.int u1_0), .val (.int u2_0), .val (.int u3_0), .val (.int u4_0), .val (.int u5_0), .val (.int u6_0), .val (.int pa), .val (.int pl), .val (.int ps), .val (.int pe), .val (.long ea), .second, .val (.long ee), .second, .val (.long el), .second, .val (.ref bl), .val (.ref bx), .val (.int (own_max (0 : Int32) p2)), .val (.int (1 : Int32))] [(.int pl)])) t → Steps p.tables e below (s₁.setTop (entryFrame m #[(.int p0), (.int p1), (.int p2), (.int p3), (.int p4), (.int p5)] maxLocals)) t := by
          intro t k
          refine pre76 t ?_
          refine XS.ifNo X72.here hx rfl (hb hby at_279) rfl ((if0 _ _).trans (tlt t279_1).2.2.2) ?_
          show Steps p.tables e below (T72.setTop (mkF m 282 #[.val (.int p0), .val (.int p1), .val (.int p2), .val (.int p3), .val (.int p4), .val (.int p5), .val (.int u1_0), .val (.int u2_0), .val (.int u3_0), .val (.int u4_0), .val (.int u5_0), .val (.int u6_0), .val (.int pa), .val (.int pl), .val (.int ps), .val (.int pe), .val (.long ea), .second, .val (.long ee), .second, .val (.long el), .second, .val (.ref bl), .val (.ref bx), .val (.int (own_max (0 : Int32) p2)), .val (.int (0 : Int32))] [])) _
          refine XS.iconst X72.here hx rfl (hb hby at_282) ?_
          show Steps p.tables e below (T72.setTop (mkF m 283 #[.val (.int p0), .val (.int p1), .val (.int p2), .val (.int p3), .val (.int p4), .val (.int p5), .val (.int u1_0), .val (.int u2_0), .val (.int u3_0), .val (.int u4_0), .val (.int u5_0), .val (.int u6_0), .val (.int pa), .val (.int pl), .val (.int ps), .val (.int pe), .val (.long ea), .second, .val (.long ee), .second, .val (.long el), .second, .val (.ref bl), .val (.ref bx), .val (.int (own_max (0 : Int32) p2)), .val (.int (0 : Int32))] [(.int (1 : Int32))])) _
          refine XS.istore X72.here hx rfl (hb hby at_283) rfl (l' := #[.val (.int p0), .val (.int p1), .val (.int p2), .val (.int p3), .val (.int p4), .val (.int p5), .val (.int u1_0), .val (.int u2_0), .val (.int u3_0), .val (.int u4_0), .val (.int u5_0), .val (.int u6_0), .val (.int pa), .val (.int pl), .val (.int ps), .val (.int pe), .val (.long ea), .second, .val (.long ee), .second, .val (.long el), .second, .val (.ref bl), .val (.ref bx), .val (.int (own_max (0 : Int32) p2)), .val (.int (1 : Int32))]) rfl ?_
          show Steps p.tables e below (T72.setTop (mkF m 285 #[.val (.int p0), .val (.int p1), .val (.int p2), .val (.int p3), .val (.int p4), .val (.int p5), .val (.int u1_0), .val (.int u2_0), .val (.int u3_0), .val (.int u4_0), .val (.int u5_0), .val (.int u6_0), .val (.int pa), .val (.int pl), .val (.int ps), .val (.int pe), .val (.long ea), .second, .val (.long ee), .second, .val (.long el), .second, .val (.ref bl), .val (.ref bx), .val (.int (own_max (0 : Int32) p2)), .val (.int (1 : Int32))] [])) _
          refine XS.iload X72.here hx rfl (hb hby at_285) rfl ?_
          show Steps p.tables e below (T72.setTop (mkF m 287 #[.val (.int p0), .val (.int p1), .val (.int p2), .val (.int p3), .val (.int p4), .val (.int p5), .val (.int u1_0), .val (.int u2_0), .val (.int u3_0), .val (.int u4_0), .val (.int u5_0), .val (.int u6_0), .val (.int pa), .val (.int pl), .val (.int ps), .val (.int pe), .val (.long ea), .second, .val (.long ee), .second, .val (.long el), .second, .val (.ref bl), .val (.ref bx), .val (.int (own_max (0 : Int32) p2)), .val (.int (1 : Int32))] [(.int pl)])) _
          exact k
        by_cases t287_2 : (0 : Int32) < pl
        · skip
          have pre78 : ∀ t, Steps p.tables e below (T72.setTop (mkF m 295 #[.val (.int p0), .val (.int p1), .val (.int p2), .val (.int p3), .val (.int p4), .val (.int p5), .val (.int u1_0), .val (.int u2_0), .val (.int u3_0), .val (.int u4_0), .val (.int u5_0), .val (.int u6_0), .val (.int pa), .val (.int pl), .val (.int ps), .val (.int pe), .val (.long ea), .second, .val (.long ee), .second, .val (.long el), .second, .val (.ref bl), .val (.ref bx), .val (.int (own_max (0 : Int32) p2)), .val (.int (1 : Int32))] [(.int u2_0)])) t → Steps p.tables e below (s₁.setTop (entryFrame m #[(.int p0), (.int p1), (.int p2), (.int p3), (.int p4), (.int p5)] maxLocals)) t := by
            intro t k
            refine pre77 t ?_
            refine XS.ifNo X72.here hx rfl (hb hby at_287) rfl ((if0 _ _).trans (tlt t287_2).2.2.2) ?_
            show Steps p.tables e below (T72.setTop (mkF m 290 #[.val (.int p0), .val (.int p1), .val (.int p2), .val (.int p3), .val (.int p4), .val (.int p5), .val (.int u1_0), .val (.int u2_0), .val (.int u3_0), .val (.int u4_0), .val (.int u5_0), .val (.int u6_0), .val (.int pa), .val (.int pl), .val (.int ps), .val (.int pe), .val (.long ea), .second, .val (.long ee), .second, .val (.long el), .second, .val (.ref bl), .val (.ref bx), .val (.int (own_max (0 : Int32) p2)), .val (.int (1 : Int32))] [])) _
            refine XS.iconst X72.here hx rfl (hb hby at_290) ?_
            show Steps p.tables e below (T72.setTop (mkF m 291 #[.val (.int p0), .val (.int p1), .val (.int p2), .val (.int p3), .val (.int p4), .val (.int p5), .val (.int u1_0), .val (.int u2_0), .val (.int u3_0), .val (.int u4_0), .val (.int u5_0), .val (.int u6_0), .val (.int pa), .val (.int pl), .val (.int ps), .val (.int pe), .val (.long ea), .second, .val (.long ee), .second, .val (.long el), .second, .val (.ref bl), .val (.ref bx), .val (.int (own_max (0 : Int32) p2)), .val (.int (1 : Int32))] [(.int (1 : Int32))])) _
            refine XS.istore X72.here hx rfl (hb hby at_291) rfl (l' := #[.val (.int p0), .val (.int p1), .val (.int p2), .val (.int p3), .val (.int p4), .val (.int p5), .val (.int u1_0), .val (.int u2_0), .val (.int u3_0), .val (.int u4_0), .val (.int u5_0), .val (.int u6_0), .val (.int pa), .val (.int pl), .val (.int ps), .val (.int pe), .val (.long ea), .second, .val (.long ee), .second, .val (.long el), .second, .val (.ref bl), .val (.ref bx), .val (.int (own_max (0 : Int32) p2)), .val (.int (1 : Int32))]) rfl ?_
            show Steps p.tables e below (T72.setTop (mkF m 293 #[.val (.int p0), .val (.int p1), .val (.int p2), .val (.int p3), .val (.int p4), .val (.int p5), .val (.int u1_0), .val (.int u2_0), .val (.int u3_0), .val (.int u4_0), .val (.int u5_0), .val (.int u6_0), .val (.int pa), .val (.int pl), .val (.int ps), .val (.int pe), .val (.long ea), .second, .val (.long ee), .second, .val (.long el), .second, .val (.ref bl), .val (.ref bx), .val (.int (own_max (0 : Int32) p2)), .val (.int (1 : Int32))] [])) _
            refine XS.iload X72.here hx rfl (hb hby at_293) rfl ?_
            show Steps p.tables e below (T72.setTop (mkF m 295 #[.val (.int p0), .val (.int p1), .val (.int p2), .val (.int p3), .val (.int p4), .val (.int p5), .val (.int u1_0), .val (.int u2_0), .val (.int u3_0), .val (.int u4_0), .val (.int u5_0), .val (.int u6_0), .val (.int pa), .val (.int pl), .val (.int ps), .val (.int pe), .val (.long ea), .second, .val (.long ee), .second, .val (.long el), .second, .val (.ref bl), .val (.ref bx), .val (.int (own_max (0 : Int32) p2)), .val (.int (1 : Int32))] [(.int u2_0)])) _
            exact k
          by_cases t295_3 : u2_0 = (0 : Int32)
          · skip
            have pre79 : ∀ t, Steps p.tables e below (T72.setTop (mkF m 306 #[.val (.int p0), .val (.int p1), .val (.int p2), .val (.int p3), .val (.int p4), .val (.int p5), .val (.int u1_0), .val (.int u2_0), .val (.int u3_0), .val (.int u4_0), .val (.int u5_0), .val (.int u6_0), .val (.int pa), .val (.int pl), .val (.int ps), .val (.int pe), .val (.long ea), .second, .val (.long ee), .second, .val (.long el), .second, .val (.ref bl), .val (.ref bx), .val (.int (own_max (0 : Int32) p2)), .val (.int (1 : Int32))] [])) t → Steps p.tables e below (s₁.setTop (entryFrame m #[(.int p0), (.int p1), (.int p2), (.int p3), (.int p4), (.int p5)] maxLocals)) t := by
              intro t k
              refine pre78 t ?_
              refine XS.ifYes X72.here hx rfl (pc0 := 295) (pc' := 306) rfl (hb hby at_295) rfl ((if0 _ _).trans (teq t295_3).1) (by decide) (by decide) ?_
              show Steps p.tables e below (T72.setTop (mkF m 306 #[.val (.int p0), .val (.int p1), .val (.int p2), .val (.int p3), .val (.int p4), .val (.int p5), .val (.int u1_0), .val (.int u2_0), .val (.int u3_0), .val (.int u4_0), .val (.int u5_0), .val (.int u6_0), .val (.int pa), .val (.int pl), .val (.int ps), .val (.int pe), .val (.long ea), .second, .val (.long ee), .second, .val (.long el), .second, .val (.ref bl), .val (.ref bx), .val (.int (own_max (0 : Int32) p2)), .val (.int (1 : Int32))] [])) _
              exact k
            exact ⟨T72, _, hE, _, _, (1 : Int32), X72, hq72, N72, ZE, (by omega), (by omega), by simp [own_one hz1 t274_0, t279_1, t287_2, t295_3], E1E, F0E, F1E, F2E, F3E, F4E, F5E, pre79⟩
          · skip
            have pre80 : ∀ t, Steps p.tables e below (T72.setTop (mkF m 300 #[.val (.int p0), .val (.int p1), .val (.int p2), .val (.int p3), .val (.int p4), .val (.int p5), .val (.int u1_0), .val (.int u2_0), .val (.int u3_0), .val (.int u4_0), .val (.int u5_0), .val (.int u6_0), .val (.int pa), .val (.int pl), .val (.int ps), .val (.int pe), .val (.long ea), .second, .val (.long ee), .second, .val (.long el), .second, .val (.ref bl), .val (.ref bx), .val (.int (own_max (0 : Int32) p2)), .val (.int (1 : Int32))] [(.int (own_max (0 : Int32) p2))])) t → Steps p.tables e below (s₁.setTop (entryFrame m #[(.int p0), (.int p1), (.int p2), (.int p3), (.int p4), (.int p5)] maxLocals)) t := by
              intro t k
              refine pre78 t ?_
              refine XS.ifNo X72.here hx rfl (hb hby at_295) rfl ((if0 _ _).trans (feq t295_3).1) ?_
              show Steps p.tables e below (T72.setTop (mkF m 298 #[.val (.int p0), .val (.int p1), .val (.int p2), .val (.int p3), .val (.int p4), .val (.int p5), .val (.int u1_0), .val (.int u2_0), .val (.int u3_0), .val (.int u4_0), .val (.int u5_0), .val (.int u6_0), .val (.int pa), .val (.int pl), .val (.int ps), .val (.int pe), .val (.long ea), .second, .val (.long ee), .second, .val (.long el), .second, .val (.ref bl), .val (.ref bx), .val (.int (own_max (0 : Int32) p2)), .val (.int (1 : Int32))] [])) _
              refine XS.iload X72.here hx rfl (hb hby at_298) rfl ?_
              show Steps p.tables e below (T72.setTop (mkF m 300 #[.val (.int p0), .val (.int p1), .val (.int p2), .val (.int p3), .val (.int p4), .val (.int p5), .val (.int u1_0), .val (.int u2_0), .val (.int u3_0), .val (.int u4_0), .val (.int u5_0), .val (.int u6_0), .val (.int pa), .val (.int pl), .val (.int ps), .val (.int pe), .val (.long ea), .second, .val (.long ee), .second, .val (.long el), .second, .val (.ref bl), .val (.ref bx), .val (.int (own_max (0 : Int32) p2)), .val (.int (1 : Int32))] [(.int (own_max (0 : Int32) p2))])) _
              exact k
            by_cases t300_4 : (0 : Int32) < (own_max (0 : Int32) p2)
            · skip
              have pre81 : ∀ t, Steps p.tables e below (T72.setTop (mkF m 306 #[.val (.int p0), .val (.int p1), .val (.int p2), .val (.int p3), .val (.int p4), .val (.int p5), .val (.int u1_0), .val (.int u2_0), .val (.int u3_0), .val (.int u4_0), .val (.int u5_0), .val (.int u6_0), .val (.int pa), .val (.int pl), .val (.int ps), .val (.int pe), .val (.long ea), .second, .val (.long ee), .second, .val (.long el), .second, .val (.ref bl), .val (.ref bx), .val (.int (own_max (0 : Int32) p2)), .val (.int (1 : Int32))] [])) t → Steps p.tables e below (s₁.setTop (entryFrame m #[(.int p0), (.int p1), (.int p2), (.int p3), (.int p4), (.int p5)] maxLocals)) t := by
                intro t k
                refine pre80 t ?_
                refine XS.ifNo X72.here hx rfl (hb hby at_300) rfl ((if0 _ _).trans (tlt t300_4).2.2.2) ?_
                show Steps p.tables e below (T72.setTop (mkF m 303 #[.val (.int p0), .val (.int p1), .val (.int p2), .val (.int p3), .val (.int p4), .val (.int p5), .val (.int u1_0), .val (.int u2_0), .val (.int u3_0), .val (.int u4_0), .val (.int u5_0), .val (.int u6_0), .val (.int pa), .val (.int pl), .val (.int ps), .val (.int pe), .val (.long ea), .second, .val (.long ee), .second, .val (.long el), .second, .val (.ref bl), .val (.ref bx), .val (.int (own_max (0 : Int32) p2)), .val (.int (1 : Int32))] [])) _
                refine XS.iconst X72.here hx rfl (hb hby at_303) ?_
                show Steps p.tables e below (T72.setTop (mkF m 304 #[.val (.int p0), .val (.int p1), .val (.int p2), .val (.int p3), .val (.int p4), .val (.int p5), .val (.int u1_0), .val (.int u2_0), .val (.int u3_0), .val (.int u4_0), .val (.int u5_0), .val (.int u6_0), .val (.int pa), .val (.int pl), .val (.int ps), .val (.int pe), .val (.long ea), .second, .val (.long ee), .second, .val (.long el), .second, .val (.ref bl), .val (.ref bx), .val (.int (own_max (0 : Int32) p2)), .val (.int (1 : Int32))] [(.int (1 : Int32))])) _
                refine XS.istore X72.here hx rfl (hb hby at_304) rfl (l' := #[.val (.int p0), .val (.int p1), .val (.int p2), .val (.int p3), .val (.int p4), .val (.int p5), .val (.int u1_0), .val (.int u2_0), .val (.int u3_0), .val (.int u4_0), .val (.int u5_0), .val (.int u6_0), .val (.int pa), .val (.int pl), .val (.int ps), .val (.int pe), .val (.long ea), .second, .val (.long ee), .second, .val (.long el), .second, .val (.ref bl), .val (.ref bx), .val (.int (own_max (0 : Int32) p2)), .val (.int (1 : Int32))]) rfl ?_
                show Steps p.tables e below (T72.setTop (mkF m 306 #[.val (.int p0), .val (.int p1), .val (.int p2), .val (.int p3), .val (.int p4), .val (.int p5), .val (.int u1_0), .val (.int u2_0), .val (.int u3_0), .val (.int u4_0), .val (.int u5_0), .val (.int u6_0), .val (.int pa), .val (.int pl), .val (.int ps), .val (.int pe), .val (.long ea), .second, .val (.long ee), .second, .val (.long el), .second, .val (.ref bl), .val (.ref bx), .val (.int (own_max (0 : Int32) p2)), .val (.int (1 : Int32))] [])) _
                exact k
              exact ⟨T72, _, hE, _, _, (1 : Int32), X72, hq72, N72, ZE, (by omega), (by omega), by simp [own_one hz1 t274_0, t279_1, t287_2, own_one hz2 t295_3, t300_4], E1E, F0E, F1E, F2E, F3E, F4E, F5E, pre81⟩
            · skip
              have pre82 : ∀ t, Steps p.tables e below (T72.setTop (mkF m 306 #[.val (.int p0), .val (.int p1), .val (.int p2), .val (.int p3), .val (.int p4), .val (.int p5), .val (.int u1_0), .val (.int u2_0), .val (.int u3_0), .val (.int u4_0), .val (.int u5_0), .val (.int u6_0), .val (.int pa), .val (.int pl), .val (.int ps), .val (.int pe), .val (.long ea), .second, .val (.long ee), .second, .val (.long el), .second, .val (.ref bl), .val (.ref bx), .val (.int (own_max (0 : Int32) p2)), .val (.int (1 : Int32))] [])) t → Steps p.tables e below (s₁.setTop (entryFrame m #[(.int p0), (.int p1), (.int p2), (.int p3), (.int p4), (.int p5)] maxLocals)) t := by
                intro t k
                refine pre80 t ?_
                refine XS.ifYes X72.here hx rfl (pc0 := 300) (pc' := 306) rfl (hb hby at_300) rfl ((if0 _ _).trans (flt t300_4).2.2.2) (by decide) (by decide) ?_
                show Steps p.tables e below (T72.setTop (mkF m 306 #[.val (.int p0), .val (.int p1), .val (.int p2), .val (.int p3), .val (.int p4), .val (.int p5), .val (.int u1_0), .val (.int u2_0), .val (.int u3_0), .val (.int u4_0), .val (.int u5_0), .val (.int u6_0), .val (.int pa), .val (.int pl), .val (.int ps), .val (.int pe), .val (.long ea), .second, .val (.long ee), .second, .val (.long el), .second, .val (.ref bl), .val (.ref bx), .val (.int (own_max (0 : Int32) p2)), .val (.int (1 : Int32))] [])) _
                exact k
              exact ⟨T72, _, hE, _, _, (1 : Int32), X72, hq72, N72, ZE, (by omega), (by omega), by simp [own_one hz1 t274_0, t279_1, t287_2, own_one hz2 t295_3, t300_4], E1E, F0E, F1E, F2E, F3E, F4E, F5E, pre82⟩
        · skip
          have pre83 : ∀ t, Steps p.tables e below (T72.setTop (mkF m 295 #[.val (.int p0), .val (.int p1), .val (.int p2), .val (.int p3), .val (.int p4), .val (.int p5), .val (.int u1_0), .val (.int u2_0), .val (.int u3_0), .val (.int u4_0), .val (.int u5_0), .val (.int u6_0), .val (.int pa), .val (.int pl), .val (.int ps), .val (.int pe), .val (.long ea), .second, .val (.long ee), .second, .val (.long el), .second, .val (.ref bl), .val (.ref bx), .val (.int (own_max (0 : Int32) p2)), .val (.int (1 : Int32))] [(.int u2_0)])) t → Steps p.tables e below (s₁.setTop (entryFrame m #[(.int p0), (.int p1), (.int p2), (.int p3), (.int p4), (.int p5)] maxLocals)) t := by
            intro t k
            refine pre77 t ?_
            refine XS.ifYes X72.here hx rfl (pc0 := 287) (pc' := 293) rfl (hb hby at_287) rfl ((if0 _ _).trans (flt t287_2).2.2.2) (by decide) (by decide) ?_
            show Steps p.tables e below (T72.setTop (mkF m 293 #[.val (.int p0), .val (.int p1), .val (.int p2), .val (.int p3), .val (.int p4), .val (.int p5), .val (.int u1_0), .val (.int u2_0), .val (.int u3_0), .val (.int u4_0), .val (.int u5_0), .val (.int u6_0), .val (.int pa), .val (.int pl), .val (.int ps), .val (.int pe), .val (.long ea), .second, .val (.long ee), .second, .val (.long el), .second, .val (.ref bl), .val (.ref bx), .val (.int (own_max (0 : Int32) p2)), .val (.int (1 : Int32))] [])) _
            refine XS.iload X72.here hx rfl (hb hby at_293) rfl ?_
            show Steps p.tables e below (T72.setTop (mkF m 295 #[.val (.int p0), .val (.int p1), .val (.int p2), .val (.int p3), .val (.int p4), .val (.int p5), .val (.int u1_0), .val (.int u2_0), .val (.int u3_0), .val (.int u4_0), .val (.int u5_0), .val (.int u6_0), .val (.int pa), .val (.int pl), .val (.int ps), .val (.int pe), .val (.long ea), .second, .val (.long ee), .second, .val (.long el), .second, .val (.ref bl), .val (.ref bx), .val (.int (own_max (0 : Int32) p2)), .val (.int (1 : Int32))] [(.int u2_0)])) _
            exact k
          by_cases t295_3 : u2_0 = (0 : Int32)
          · skip
            have pre84 : ∀ t, Steps p.tables e below (T72.setTop (mkF m 306 #[.val (.int p0), .val (.int p1), .val (.int p2), .val (.int p3), .val (.int p4), .val (.int p5), .val (.int u1_0), .val (.int u2_0), .val (.int u3_0), .val (.int u4_0), .val (.int u5_0), .val (.int u6_0), .val (.int pa), .val (.int pl), .val (.int ps), .val (.int pe), .val (.long ea), .second, .val (.long ee), .second, .val (.long el), .second, .val (.ref bl), .val (.ref bx), .val (.int (own_max (0 : Int32) p2)), .val (.int (1 : Int32))] [])) t → Steps p.tables e below (s₁.setTop (entryFrame m #[(.int p0), (.int p1), (.int p2), (.int p3), (.int p4), (.int p5)] maxLocals)) t := by
              intro t k
              refine pre83 t ?_
              refine XS.ifYes X72.here hx rfl (pc0 := 295) (pc' := 306) rfl (hb hby at_295) rfl ((if0 _ _).trans (teq t295_3).1) (by decide) (by decide) ?_
              show Steps p.tables e below (T72.setTop (mkF m 306 #[.val (.int p0), .val (.int p1), .val (.int p2), .val (.int p3), .val (.int p4), .val (.int p5), .val (.int u1_0), .val (.int u2_0), .val (.int u3_0), .val (.int u4_0), .val (.int u5_0), .val (.int u6_0), .val (.int pa), .val (.int pl), .val (.int ps), .val (.int pe), .val (.long ea), .second, .val (.long ee), .second, .val (.long el), .second, .val (.ref bl), .val (.ref bx), .val (.int (own_max (0 : Int32) p2)), .val (.int (1 : Int32))] [])) _
              exact k
            exact ⟨T72, _, hE, _, _, (1 : Int32), X72, hq72, N72, ZE, (by omega), (by omega), by simp [own_one hz1 t274_0, t279_1, t287_2, t295_3], E1E, F0E, F1E, F2E, F3E, F4E, F5E, pre84⟩
          · skip
            have pre85 : ∀ t, Steps p.tables e below (T72.setTop (mkF m 300 #[.val (.int p0), .val (.int p1), .val (.int p2), .val (.int p3), .val (.int p4), .val (.int p5), .val (.int u1_0), .val (.int u2_0), .val (.int u3_0), .val (.int u4_0), .val (.int u5_0), .val (.int u6_0), .val (.int pa), .val (.int pl), .val (.int ps), .val (.int pe), .val (.long ea), .second, .val (.long ee), .second, .val (.long el), .second, .val (.ref bl), .val (.ref bx), .val (.int (own_max (0 : Int32) p2)), .val (.int (1 : Int32))] [(.int (own_max (0 : Int32) p2))])) t → Steps p.tables e below (s₁.setTop (entryFrame m #[(.int p0), (.int p1), (.int p2), (.int p3), (.int p4), (.int p5)] maxLocals)) t := by
              intro t k
              refine pre83 t ?_
              refine XS.ifNo X72.here hx rfl (hb hby at_295) rfl ((if0 _ _).trans (feq t295_3).1) ?_
              show Steps p.tables e below (T72.setTop (mkF m 298 #[.val (.int p0), .val (.int p1), .val (.int p2), .val (.int p3), .val (.int p4), .val (.int p5), .val (.int u1_0), .val (.int u2_0), .val (.int u3_0), .val (.int u4_0), .val (.int u5_0), .val (.int u6_0), .val (.int pa), .val (.int pl), .val (.int ps), .val (.int pe), .val (.long ea), .second, .val (.long ee), .second, .val (.long el), .second, .val (.ref bl), .val (.ref bx), .val (.int (own_max (0 : Int32) p2)), .val (.int (1 : Int32))] [])) _
              refine XS.iload X72.here hx rfl (hb hby at_298) rfl ?_
              show Steps p.tables e below (T72.setTop (mkF m 300 #[.val (.int p0), .val (.int p1), .val (.int p2), .val (.int p3), .val (.int p4), .val (.int p5), .val (.int u1_0), .val (.int u2_0), .val (.int u3_0), .val (.int u4_0), .val (.int u5_0), .val (.int u6_0), .val (.int pa), .val (.int pl), .val (.int ps), .val (.int pe), .val (.long ea), .second, .val (.long ee), .second, .val (.long el), .second, .val (.ref bl), .val (.ref bx), .val (.int (own_max (0 : Int32) p2)), .val (.int (1 : Int32))] [(.int (own_max (0 : Int32) p2))])) _
              exact k
            by_cases t300_4 : (0 : Int32) < (own_max (0 : Int32) p2)
            · skip
              have pre86 : ∀ t, Steps p.tables e below (T72.setTop (mkF m 306 #[.val (.int p0), .val (.int p1), .val (.int p2), .val (.int p3), .val (.int p4), .val (.int p5), .val (.int u1_0), .val (.int u2_0), .val (.int u3_0), .val (.int u4_0), .val (.int u5_0), .val (.int u6_0), .val (.int pa), .val (.int pl), .val (.int ps), .val (.int pe), .val (.long ea), .second, .val (.long ee), .second, .val (.long el), .second, .val (.ref bl), .val (.ref bx), .val (.int (own_max (0 : Int32) p2)), .val (.int (1 : Int32))] [])) t → Steps p.tables e below (s₁.setTop (entryFrame m #[(.int p0), (.int p1), (.int p2), (.int p3), (.int p4), (.int p5)] maxLocals)) t := by
                intro t k
                refine pre85 t ?_
                refine XS.ifNo X72.here hx rfl (hb hby at_300) rfl ((if0 _ _).trans (tlt t300_4).2.2.2) ?_
                show Steps p.tables e below (T72.setTop (mkF m 303 #[.val (.int p0), .val (.int p1), .val (.int p2), .val (.int p3), .val (.int p4), .val (.int p5), .val (.int u1_0), .val (.int u2_0), .val (.int u3_0), .val (.int u4_0), .val (.int u5_0), .val (.int u6_0), .val (.int pa), .val (.int pl), .val (.int ps), .val (.int pe), .val (.long ea), .second, .val (.long ee), .second, .val (.long el), .second, .val (.ref bl), .val (.ref bx), .val (.int (own_max (0 : Int32) p2)), .val (.int (1 : Int32))] [])) _
                refine XS.iconst X72.here hx rfl (hb hby at_303) ?_
                show Steps p.tables e below (T72.setTop (mkF m 304 #[.val (.int p0), .val (.int p1), .val (.int p2), .val (.int p3), .val (.int p4), .val (.int p5), .val (.int u1_0), .val (.int u2_0), .val (.int u3_0), .val (.int u4_0), .val (.int u5_0), .val (.int u6_0), .val (.int pa), .val (.int pl), .val (.int ps), .val (.int pe), .val (.long ea), .second, .val (.long ee), .second, .val (.long el), .second, .val (.ref bl), .val (.ref bx), .val (.int (own_max (0 : Int32) p2)), .val (.int (1 : Int32))] [(.int (1 : Int32))])) _
                refine XS.istore X72.here hx rfl (hb hby at_304) rfl (l' := #[.val (.int p0), .val (.int p1), .val (.int p2), .val (.int p3), .val (.int p4), .val (.int p5), .val (.int u1_0), .val (.int u2_0), .val (.int u3_0), .val (.int u4_0), .val (.int u5_0), .val (.int u6_0), .val (.int pa), .val (.int pl), .val (.int ps), .val (.int pe), .val (.long ea), .second, .val (.long ee), .second, .val (.long el), .second, .val (.ref bl), .val (.ref bx), .val (.int (own_max (0 : Int32) p2)), .val (.int (1 : Int32))]) rfl ?_
                show Steps p.tables e below (T72.setTop (mkF m 306 #[.val (.int p0), .val (.int p1), .val (.int p2), .val (.int p3), .val (.int p4), .val (.int p5), .val (.int u1_0), .val (.int u2_0), .val (.int u3_0), .val (.int u4_0), .val (.int u5_0), .val (.int u6_0), .val (.int pa), .val (.int pl), .val (.int ps), .val (.int pe), .val (.long ea), .second, .val (.long ee), .second, .val (.long el), .second, .val (.ref bl), .val (.ref bx), .val (.int (own_max (0 : Int32) p2)), .val (.int (1 : Int32))] [])) _
                exact k
              exact ⟨T72, _, hE, _, _, (1 : Int32), X72, hq72, N72, ZE, (by omega), (by omega), by simp [own_one hz1 t274_0, t279_1, t287_2, own_one hz2 t295_3, t300_4], E1E, F0E, F1E, F2E, F3E, F4E, F5E, pre86⟩
            · skip
              have pre87 : ∀ t, Steps p.tables e below (T72.setTop (mkF m 306 #[.val (.int p0), .val (.int p1), .val (.int p2), .val (.int p3), .val (.int p4), .val (.int p5), .val (.int u1_0), .val (.int u2_0), .val (.int u3_0), .val (.int u4_0), .val (.int u5_0), .val (.int u6_0), .val (.int pa), .val (.int pl), .val (.int ps), .val (.int pe), .val (.long ea), .second, .val (.long ee), .second, .val (.long el), .second, .val (.ref bl), .val (.ref bx), .val (.int (own_max (0 : Int32) p2)), .val (.int (1 : Int32))] [])) t → Steps p.tables e below (s₁.setTop (entryFrame m #[(.int p0), (.int p1), (.int p2), (.int p3), (.int p4), (.int p5)] maxLocals)) t := by
                intro t k
                refine pre85 t ?_
                refine XS.ifYes X72.here hx rfl (pc0 := 300) (pc' := 306) rfl (hb hby at_300) rfl ((if0 _ _).trans (flt t300_4).2.2.2) (by decide) (by decide) ?_
                show Steps p.tables e below (T72.setTop (mkF m 306 #[.val (.int p0), .val (.int p1), .val (.int p2), .val (.int p3), .val (.int p4), .val (.int p5), .val (.int u1_0), .val (.int u2_0), .val (.int u3_0), .val (.int u4_0), .val (.int u5_0), .val (.int u6_0), .val (.int pa), .val (.int pl), .val (.int ps), .val (.int pe), .val (.long ea), .second, .val (.long ee), .second, .val (.long el), .second, .val (.ref bl), .val (.ref bx), .val (.int (own_max (0 : Int32) p2)), .val (.int (1 : Int32))] [])) _
                exact k
              exact ⟨T72, _, hE, _, _, (1 : Int32), X72, hq72, N72, ZE, (by omega), (by omega), by simp [own_one hz1 t274_0, t279_1, t287_2, own_one hz2 t295_3, t300_4], E1E, F0E, F1E, F2E, F3E, F4E, F5E, pre87⟩
      · skip
        have pre88 : ∀ t, Steps p.tables e below (T72.setTop (mkF m 287 #[.val (.int p0), .val (.int p1), .val (.int p2), .val (.int p3), .val (.int p4), .val (.int p5), .val (.int u1_0), .val (.int u2_0), .val (.int u3_0), .val (.int u4_0), .val (.int u5_0), .val (.int u6_0), .val (.int pa), .val (.int pl), .val (.int ps), .val (.int pe), .val (.long ea), .second, .val (.long ee), .second, .val (.long el), .second, .val (.ref bl), .val (.ref bx), .val (.int (own_max (0 : Int32) p2)), .val (.int (0 : Int32))] [(.int pl)])) t → Steps p.tables e below (s₁.setTop (entryFrame m #[(.int p0), (.int p1), (.int p2), (.int p3), (.int p4), (.int p5)] maxLocals)) t := by
          intro t k
          refine pre76 t ?_
          refine XS.ifYes X72.here hx rfl (pc0 := 279) (pc' := 285) rfl (hb hby at_279) rfl ((if0 _ _).trans (flt t279_1).2.2.2) (by decide) (by decide) ?_
          show Steps p.tables e below (T72.setTop (mkF m 285 #[.val (.int p0), .val (.int p1), .val (.int p2), .val (.int p3), .val (.int p4), .val (.int p5), .val (.int u1_0), .val (.int u2_0), .val (.int u3_0), .val (.int u4_0), .val (.int u5_0), .val (.int u6_0), .val (.int pa), .val (.int pl), .val (.int ps), .val (.int pe), .val (.long ea), .second, .val (.long ee), .second, .val (.long el), .second, .val (.ref bl), .val (.ref bx), .val (.int (own_max (0 : Int32) p2)), .val (.int (0 : Int32))] [])) _
          refine XS.iload X72.here hx rfl (hb hby at_285) rfl ?_
          show Steps p.tables e below (T72.setTop (mkF m 287 #[.val (.int p0), .val (.int p1), .val (.int p2), .val (.int p3), .val (.int p4), .val (.int p5), .val (.int u1_0), .val (.int u2_0), .val (.int u3_0), .val (.int u4_0), .val (.int u5_0), .val (.int u6_0), .val (.int pa), .val (.int pl), .val (.int ps), .val (.int pe), .val (.long ea), .second, .val (.long ee), .second, .val (.long el), .second, .val (.ref bl), .val (.ref bx), .val (.int (own_max (0 : Int32) p2)), .val (.int (0 : Int32))] [(.int pl)])) _
          exact k
        by_cases t287_2 : (0 : Int32) < pl
        · skip
          have pre89 : ∀ t, Steps p.tables e below (T72.setTop (mkF m 295 #[.val (.int p0), .val (.int p1), .val (.int p2), .val (.int p3), .val (.int p4), .val (.int p5), .val (.int u1_0), .val (.int u2_0), .val (.int u3_0), .val (.int u4_0), .val (.int u5_0), .val (.int u6_0), .val (.int pa), .val (.int pl), .val (.int ps), .val (.int pe), .val (.long ea), .second, .val (.long ee), .second, .val (.long el), .second, .val (.ref bl), .val (.ref bx), .val (.int (own_max (0 : Int32) p2)), .val (.int (1 : Int32))] [(.int u2_0)])) t → Steps p.tables e below (s₁.setTop (entryFrame m #[(.int p0), (.int p1), (.int p2), (.int p3), (.int p4), (.int p5)] maxLocals)) t := by
            intro t k
            refine pre88 t ?_
            refine XS.ifNo X72.here hx rfl (hb hby at_287) rfl ((if0 _ _).trans (tlt t287_2).2.2.2) ?_
            show Steps p.tables e below (T72.setTop (mkF m 290 #[.val (.int p0), .val (.int p1), .val (.int p2), .val (.int p3), .val (.int p4), .val (.int p5), .val (.int u1_0), .val (.int u2_0), .val (.int u3_0), .val (.int u4_0), .val (.int u5_0), .val (.int u6_0), .val (.int pa), .val (.int pl), .val (.int ps), .val (.int pe), .val (.long ea), .second, .val (.long ee), .second, .val (.long el), .second, .val (.ref bl), .val (.ref bx), .val (.int (own_max (0 : Int32) p2)), .val (.int (0 : Int32))] [])) _
            refine XS.iconst X72.here hx rfl (hb hby at_290) ?_
            show Steps p.tables e below (T72.setTop (mkF m 291 #[.val (.int p0), .val (.int p1), .val (.int p2), .val (.int p3), .val (.int p4), .val (.int p5), .val (.int u1_0), .val (.int u2_0), .val (.int u3_0), .val (.int u4_0), .val (.int u5_0), .val (.int u6_0), .val (.int pa), .val (.int pl), .val (.int ps), .val (.int pe), .val (.long ea), .second, .val (.long ee), .second, .val (.long el), .second, .val (.ref bl), .val (.ref bx), .val (.int (own_max (0 : Int32) p2)), .val (.int (0 : Int32))] [(.int (1 : Int32))])) _
            refine XS.istore X72.here hx rfl (hb hby at_291) rfl (l' := #[.val (.int p0), .val (.int p1), .val (.int p2), .val (.int p3), .val (.int p4), .val (.int p5), .val (.int u1_0), .val (.int u2_0), .val (.int u3_0), .val (.int u4_0), .val (.int u5_0), .val (.int u6_0), .val (.int pa), .val (.int pl), .val (.int ps), .val (.int pe), .val (.long ea), .second, .val (.long ee), .second, .val (.long el), .second, .val (.ref bl), .val (.ref bx), .val (.int (own_max (0 : Int32) p2)), .val (.int (1 : Int32))]) rfl ?_
            show Steps p.tables e below (T72.setTop (mkF m 293 #[.val (.int p0), .val (.int p1), .val (.int p2), .val (.int p3), .val (.int p4), .val (.int p5), .val (.int u1_0), .val (.int u2_0), .val (.int u3_0), .val (.int u4_0), .val (.int u5_0), .val (.int u6_0), .val (.int pa), .val (.int pl), .val (.int ps), .val (.int pe), .val (.long ea), .second, .val (.long ee), .second, .val (.long el), .second, .val (.ref bl), .val (.ref bx), .val (.int (own_max (0 : Int32) p2)), .val (.int (1 : Int32))] [])) _
            refine XS.iload X72.here hx rfl (hb hby at_293) rfl ?_
            show Steps p.tables e below (T72.setTop (mkF m 295 #[.val (.int p0), .val (.int p1), .val (.int p2), .val (.int p3), .val (.int p4), .val (.int p5), .val (.int u1_0), .val (.int u2_0), .val (.int u3_0), .val (.int u4_0), .val (.int u5_0), .val (.int u6_0), .val (.int pa), .val (.int pl), .val (.int ps), .val (.int pe), .val (.long ea), .second, .val (.long ee), .second, .val (.long el), .second, .val (.ref bl), .val (.ref bx), .val (.int (own_max (0 : Int32) p2)), .val (.int (1 : Int32))] [(.int u2_0)])) _
            exact k
          by_cases t295_3 : u2_0 = (0 : Int32)
          · skip
            have pre90 : ∀ t, Steps p.tables e below (T72.setTop (mkF m 306 #[.val (.int p0), .val (.int p1), .val (.int p2), .val (.int p3), .val (.int p4), .val (.int p5), .val (.int u1_0), .val (.int u2_0), .val (.int u3_0), .val (.int u4_0), .val (.int u5_0), .val (.int u6_0), .val (.int pa), .val (.int pl), .val (.int ps), .val (.int pe), .val (.long ea), .second, .val (.long ee), .second, .val (.long el), .second, .val (.ref bl), .val (.ref bx), .val (.int (own_max (0 : Int32) p2)), .val (.int (1 : Int32))] [])) t → Steps p.tables e below (s₁.setTop (entryFrame m #[(.int p0), (.int p1), (.int p2), (.int p3), (.int p4), (.int p5)] maxLocals)) t := by
              intro t k
              refine pre89 t ?_
              refine XS.ifYes X72.here hx rfl (pc0 := 295) (pc' := 306) rfl (hb hby at_295) rfl ((if0 _ _).trans (teq t295_3).1) (by decide) (by decide) ?_
              show Steps p.tables e below (T72.setTop (mkF m 306 #[.val (.int p0), .val (.int p1), .val (.int p2), .val (.int p3), .val (.int p4), .val (.int p5), .val (.int u1_0), .val (.int u2_0), .val (.int u3_0), .val (.int u4_0), .val (.int u5_0), .val (.int u6_0), .val (.int pa), .val (.int pl), .val (.int ps), .val (.int pe), .val (.long ea), .second, .val (.long ee), .second, .val (.long el), .second, .val (.ref bl), .val (.ref bx), .val (.int (own_max (0 : Int32) p2)), .val (.int (1 : Int32))] [])) _
              exact k
            exact ⟨T72, _, hE, _, _, (1 : Int32), X72, hq72, N72, ZE, (by omega), (by omega), by simp [own_one hz1 t274_0, t279_1, t287_2, t295_3], E1E, F0E, F1E, F2E, F3E, F4E, F5E, pre90⟩
          · skip
            have pre91 : ∀ t, Steps p.tables e below (T72.setTop (mkF m 300 #[.val (.int p0), .val (.int p1), .val (.int p2), .val (.int p3), .val (.int p4), .val (.int p5), .val (.int u1_0), .val (.int u2_0), .val (.int u3_0), .val (.int u4_0), .val (.int u5_0), .val (.int u6_0), .val (.int pa), .val (.int pl), .val (.int ps), .val (.int pe), .val (.long ea), .second, .val (.long ee), .second, .val (.long el), .second, .val (.ref bl), .val (.ref bx), .val (.int (own_max (0 : Int32) p2)), .val (.int (1 : Int32))] [(.int (own_max (0 : Int32) p2))])) t → Steps p.tables e below (s₁.setTop (entryFrame m #[(.int p0), (.int p1), (.int p2), (.int p3), (.int p4), (.int p5)] maxLocals)) t := by
              intro t k
              refine pre89 t ?_
              refine XS.ifNo X72.here hx rfl (hb hby at_295) rfl ((if0 _ _).trans (feq t295_3).1) ?_
              show Steps p.tables e below (T72.setTop (mkF m 298 #[.val (.int p0), .val (.int p1), .val (.int p2), .val (.int p3), .val (.int p4), .val (.int p5), .val (.int u1_0), .val (.int u2_0), .val (.int u3_0), .val (.int u4_0), .val (.int u5_0), .val (.int u6_0), .val (.int pa), .val (.int pl), .val (.int ps), .val (.int pe), .val (.long ea), .second, .val (.long ee), .second, .val (.long el), .second, .val (.ref bl), .val (.ref bx), .val (.int (own_max (0 : Int32) p2)), .val (.int (1 : Int32))] [])) _
              refine XS.iload X72.here hx rfl (hb hby at_298) rfl ?_
              show Steps p.tables e below (T72.setTop (mkF m 300 #[.val (.int p0), .val (.int p1), .val (.int p2), .val (.int p3), .val (.int p4), .val (.int p5), .val (.int u1_0), .val (.int u2_0), .val (.int u3_0), .val (.int u4_0), .val (.int u5_0), .val (.int u6_0), .val (.int pa), .val (.int pl), .val (.int ps), .val (.int pe), .val (.long ea), .second, .val (.long ee), .second, .val (.long el), .second, .val (.ref bl), .val (.ref bx), .val (.int (own_max (0 : Int32) p2)), .val (.int (1 : Int32))] [(.int (own_max (0 : Int32) p2))])) _
              exact k
            by_cases t300_4 : (0 : Int32) < (own_max (0 : Int32) p2)
            · skip
              have pre92 : ∀ t, Steps p.tables e below (T72.setTop (mkF m 306 #[.val (.int p0), .val (.int p1), .val (.int p2), .val (.int p3), .val (.int p4), .val (.int p5), .val (.int u1_0), .val (.int u2_0), .val (.int u3_0), .val (.int u4_0), .val (.int u5_0), .val (.int u6_0), .val (.int pa), .val (.int pl), .val (.int ps), .val (.int pe), .val (.long ea), .second, .val (.long ee), .second, .val (.long el), .second, .val (.ref bl), .val (.ref bx), .val (.int (own_max (0 : Int32) p2)), .val (.int (1 : Int32))] [])) t → Steps p.tables e below (s₁.setTop (entryFrame m #[(.int p0), (.int p1), (.int p2), (.int p3), (.int p4), (.int p5)] maxLocals)) t := by
                intro t k
                refine pre91 t ?_
                refine XS.ifNo X72.here hx rfl (hb hby at_300) rfl ((if0 _ _).trans (tlt t300_4).2.2.2) ?_
                show Steps p.tables e below (T72.setTop (mkF m 303 #[.val (.int p0), .val (.int p1), .val (.int p2), .val (.int p3), .val (.int p4), .val (.int p5), .val (.int u1_0), .val (.int u2_0), .val (.int u3_0), .val (.int u4_0), .val (.int u5_0), .val (.int u6_0), .val (.int pa), .val (.int pl), .val (.int ps), .val (.int pe), .val (.long ea), .second, .val (.long ee), .second, .val (.long el), .second, .val (.ref bl), .val (.ref bx), .val (.int (own_max (0 : Int32) p2)), .val (.int (1 : Int32))] [])) _
                refine XS.iconst X72.here hx rfl (hb hby at_303) ?_
                show Steps p.tables e below (T72.setTop (mkF m 304 #[.val (.int p0), .val (.int p1), .val (.int p2), .val (.int p3), .val (.int p4), .val (.int p5), .val (.int u1_0), .val (.int u2_0), .val (.int u3_0), .val (.int u4_0), .val (.int u5_0), .val (.int u6_0), .val (.int pa), .val (.int pl), .val (.int ps), .val (.int pe), .val (.long ea), .second, .val (.long ee), .second, .val (.long el), .second, .val (.ref bl), .val (.ref bx), .val (.int (own_max (0 : Int32) p2)), .val (.int (1 : Int32))] [(.int (1 : Int32))])) _
                refine XS.istore X72.here hx rfl (hb hby at_304) rfl (l' := #[.val (.int p0), .val (.int p1), .val (.int p2), .val (.int p3), .val (.int p4), .val (.int p5), .val (.int u1_0), .val (.int u2_0), .val (.int u3_0), .val (.int u4_0), .val (.int u5_0), .val (.int u6_0), .val (.int pa), .val (.int pl), .val (.int ps), .val (.int pe), .val (.long ea), .second, .val (.long ee), .second, .val (.long el), .second, .val (.ref bl), .val (.ref bx), .val (.int (own_max (0 : Int32) p2)), .val (.int (1 : Int32))]) rfl ?_
                show Steps p.tables e below (T72.setTop (mkF m 306 #[.val (.int p0), .val (.int p1), .val (.int p2), .val (.int p3), .val (.int p4), .val (.int p5), .val (.int u1_0), .val (.int u2_0), .val (.int u3_0), .val (.int u4_0), .val (.int u5_0), .val (.int u6_0), .val (.int pa), .val (.int pl), .val (.int ps), .val (.int pe), .val (.long ea), .second, .val (.long ee), .second, .val (.long el), .second, .val (.ref bl), .val (.ref bx), .val (.int (own_max (0 : Int32) p2)), .val (.int (1 : Int32))] [])) _
                exact k
              exact ⟨T72, _, hE, _, _, (1 : Int32), X72, hq72, N72, ZE, (by omega), (by omega), by simp [own_one hz1 t274_0, t279_1, t287_2, own_one hz2 t295_3, t300_4], E1E, F0E, F1E, F2E, F3E, F4E, F5E, pre92⟩
            · skip
              have pre93 : ∀ t, Steps p.tables e below (T72.setTop (mkF m 306 #[.val (.int p0), .val (.int p1), .val (.int p2), .val (.int p3), .val (.int p4), .val (.int p5), .val (.int u1_0), .val (.int u2_0), .val (.int u3_0), .val (.int u4_0), .val (.int u5_0), .val (.int u6_0), .val (.int pa), .val (.int pl), .val (.int ps), .val (.int pe), .val (.long ea), .second, .val (.long ee), .second, .val (.long el), .second, .val (.ref bl), .val (.ref bx), .val (.int (own_max (0 : Int32) p2)), .val (.int (1 : Int32))] [])) t → Steps p.tables e below (s₁.setTop (entryFrame m #[(.int p0), (.int p1), (.int p2), (.int p3), (.int p4), (.int p5)] maxLocals)) t := by
                intro t k
                refine pre91 t ?_
                refine XS.ifYes X72.here hx rfl (pc0 := 300) (pc' := 306) rfl (hb hby at_300) rfl ((if0 _ _).trans (flt t300_4).2.2.2) (by decide) (by decide) ?_
                show Steps p.tables e below (T72.setTop (mkF m 306 #[.val (.int p0), .val (.int p1), .val (.int p2), .val (.int p3), .val (.int p4), .val (.int p5), .val (.int u1_0), .val (.int u2_0), .val (.int u3_0), .val (.int u4_0), .val (.int u5_0), .val (.int u6_0), .val (.int pa), .val (.int pl), .val (.int ps), .val (.int pe), .val (.long ea), .second, .val (.long ee), .second, .val (.long el), .second, .val (.ref bl), .val (.ref bx), .val (.int (own_max (0 : Int32) p2)), .val (.int (1 : Int32))] [])) _
                exact k
              exact ⟨T72, _, hE, _, _, (1 : Int32), X72, hq72, N72, ZE, (by omega), (by omega), by simp [own_one hz1 t274_0, t279_1, t287_2, own_one hz2 t295_3, t300_4], E1E, F0E, F1E, F2E, F3E, F4E, F5E, pre93⟩
        · skip
          have pre94 : ∀ t, Steps p.tables e below (T72.setTop (mkF m 295 #[.val (.int p0), .val (.int p1), .val (.int p2), .val (.int p3), .val (.int p4), .val (.int p5), .val (.int u1_0), .val (.int u2_0), .val (.int u3_0), .val (.int u4_0), .val (.int u5_0), .val (.int u6_0), .val (.int pa), .val (.int pl), .val (.int ps), .val (.int pe), .val (.long ea), .second, .val (.long ee), .second, .val (.long el), .second, .val (.ref bl), .val (.ref bx), .val (.int (own_max (0 : Int32) p2)), .val (.int (0 : Int32))] [(.int u2_0)])) t → Steps p.tables e below (s₁.setTop (entryFrame m #[(.int p0), (.int p1), (.int p2), (.int p3), (.int p4), (.int p5)] maxLocals)) t := by
            intro t k
            refine pre88 t ?_
            refine XS.ifYes X72.here hx rfl (pc0 := 287) (pc' := 293) rfl (hb hby at_287) rfl ((if0 _ _).trans (flt t287_2).2.2.2) (by decide) (by decide) ?_
            show Steps p.tables e below (T72.setTop (mkF m 293 #[.val (.int p0), .val (.int p1), .val (.int p2), .val (.int p3), .val (.int p4), .val (.int p5), .val (.int u1_0), .val (.int u2_0), .val (.int u3_0), .val (.int u4_0), .val (.int u5_0), .val (.int u6_0), .val (.int pa), .val (.int pl), .val (.int ps), .val (.int pe), .val (.long ea), .second, .val (.long ee), .second, .val (.long el), .second, .val (.ref bl), .val (.ref bx), .val (.int (own_max (0 : Int32) p2)), .val (.int (0 : Int32))] [])) _
            refine XS.iload X72.here hx rfl (hb hby at_293) rfl ?_
            show Steps p.tables e below (T72.setTop (mkF m 295 #[.val (.int p0), .val (.int p1), .val (.int p2), .val (.int p3), .val (.int p4), .val (.int p5), .val (.int u1_0), .val (.int u2_0), .val (.int u3_0), .val (.int u4_0), .val (.int u5_0), .val (.int u6_0), .val (.int pa), .val (.int pl), .val (.int ps), .val (.int pe), .val (.long ea), .second, .val (.long ee), .second, .val (.long el), .second, .val (.ref bl), .val (.ref bx), .val (.int (own_max (0 : Int32) p2)), .val (.int (0 : Int32))] [(.int u2_0)])) _
            exact k
          by_cases t295_3 : u2_0 = (0 : Int32)
          · skip
            have pre95 : ∀ t, Steps p.tables e below (T72.setTop (mkF m 306 #[.val (.int p0), .val (.int p1), .val (.int p2), .val (.int p3), .val (.int p4), .val (.int p5), .val (.int u1_0), .val (.int u2_0), .val (.int u3_0), .val (.int u4_0), .val (.int u5_0), .val (.int u6_0), .val (.int pa), .val (.int pl), .val (.int ps), .val (.int pe), .val (.long ea), .second, .val (.long ee), .second, .val (.long el), .second, .val (.ref bl), .val (.ref bx), .val (.int (own_max (0 : Int32) p2)), .val (.int (0 : Int32))] [])) t → Steps p.tables e below (s₁.setTop (entryFrame m #[(.int p0), (.int p1), (.int p2), (.int p3), (.int p4), (.int p5)] maxLocals)) t := by
              intro t k
              refine pre94 t ?_
              refine XS.ifYes X72.here hx rfl (pc0 := 295) (pc' := 306) rfl (hb hby at_295) rfl ((if0 _ _).trans (teq t295_3).1) (by decide) (by decide) ?_
              show Steps p.tables e below (T72.setTop (mkF m 306 #[.val (.int p0), .val (.int p1), .val (.int p2), .val (.int p3), .val (.int p4), .val (.int p5), .val (.int u1_0), .val (.int u2_0), .val (.int u3_0), .val (.int u4_0), .val (.int u5_0), .val (.int u6_0), .val (.int pa), .val (.int pl), .val (.int ps), .val (.int pe), .val (.long ea), .second, .val (.long ee), .second, .val (.long el), .second, .val (.ref bl), .val (.ref bx), .val (.int (own_max (0 : Int32) p2)), .val (.int (0 : Int32))] [])) _
              exact k
            exact ⟨T72, _, hE, _, _, (0 : Int32), X72, hq72, N72, ZE, (by omega), (by omega), by simp [own_one hz1 t274_0, t279_1, t287_2, t295_3], E1E, F0E, F1E, F2E, F3E, F4E, F5E, pre95⟩
          · skip
            have pre96 : ∀ t, Steps p.tables e below (T72.setTop (mkF m 300 #[.val (.int p0), .val (.int p1), .val (.int p2), .val (.int p3), .val (.int p4), .val (.int p5), .val (.int u1_0), .val (.int u2_0), .val (.int u3_0), .val (.int u4_0), .val (.int u5_0), .val (.int u6_0), .val (.int pa), .val (.int pl), .val (.int ps), .val (.int pe), .val (.long ea), .second, .val (.long ee), .second, .val (.long el), .second, .val (.ref bl), .val (.ref bx), .val (.int (own_max (0 : Int32) p2)), .val (.int (0 : Int32))] [(.int (own_max (0 : Int32) p2))])) t → Steps p.tables e below (s₁.setTop (entryFrame m #[(.int p0), (.int p1), (.int p2), (.int p3), (.int p4), (.int p5)] maxLocals)) t := by
              intro t k
              refine pre94 t ?_
              refine XS.ifNo X72.here hx rfl (hb hby at_295) rfl ((if0 _ _).trans (feq t295_3).1) ?_
              show Steps p.tables e below (T72.setTop (mkF m 298 #[.val (.int p0), .val (.int p1), .val (.int p2), .val (.int p3), .val (.int p4), .val (.int p5), .val (.int u1_0), .val (.int u2_0), .val (.int u3_0), .val (.int u4_0), .val (.int u5_0), .val (.int u6_0), .val (.int pa), .val (.int pl), .val (.int ps), .val (.int pe), .val (.long ea), .second, .val (.long ee), .second, .val (.long el), .second, .val (.ref bl), .val (.ref bx), .val (.int (own_max (0 : Int32) p2)), .val (.int (0 : Int32))] [])) _
              refine XS.iload X72.here hx rfl (hb hby at_298) rfl ?_
              show Steps p.tables e below (T72.setTop (mkF m 300 #[.val (.int p0), .val (.int p1), .val (.int p2), .val (.int p3), .val (.int p4), .val (.int p5), .val (.int u1_0), .val (.int u2_0), .val (.int u3_0), .val (.int u4_0), .val (.int u5_0), .val (.int u6_0), .val (.int pa), .val (.int pl), .val (.int ps), .val (.int pe), .val (.long ea), .second, .val (.long ee), .second, .val (.long el), .second, .val (.ref bl), .val (.ref bx), .val (.int (own_max (0 : Int32) p2)), .val (.int (0 : Int32))] [(.int (own_max (0 : Int32) p2))])) _
              exact k
            by_cases t300_4 : (0 : Int32) < (own_max (0 : Int32) p2)
            · skip
              have pre97 : ∀ t, Steps p.tables e below (T72.setTop (mkF m 306 #[.val (.int p0), .val (.int p1), .val (.int p2), .val (.int p3), .val (.int p4), .val (.int p5), .val (.int u1_0), .val (.int u2_0), .val (.int u3_0), .val (.int u4_0), .val (.int u5_0), .val (.int u6_0), .val (.int pa), .val (.int pl), .val (.int ps), .val (.int pe), .val (.long ea), .second, .val (.long ee), .second, .val (.long el), .second, .val (.ref bl), .val (.ref bx), .val (.int (own_max (0 : Int32) p2)), .val (.int (1 : Int32))] [])) t → Steps p.tables e below (s₁.setTop (entryFrame m #[(.int p0), (.int p1), (.int p2), (.int p3), (.int p4), (.int p5)] maxLocals)) t := by
                intro t k
                refine pre96 t ?_
                refine XS.ifNo X72.here hx rfl (hb hby at_300) rfl ((if0 _ _).trans (tlt t300_4).2.2.2) ?_
                show Steps p.tables e below (T72.setTop (mkF m 303 #[.val (.int p0), .val (.int p1), .val (.int p2), .val (.int p3), .val (.int p4), .val (.int p5), .val (.int u1_0), .val (.int u2_0), .val (.int u3_0), .val (.int u4_0), .val (.int u5_0), .val (.int u6_0), .val (.int pa), .val (.int pl), .val (.int ps), .val (.int pe), .val (.long ea), .second, .val (.long ee), .second, .val (.long el), .second, .val (.ref bl), .val (.ref bx), .val (.int (own_max (0 : Int32) p2)), .val (.int (0 : Int32))] [])) _
                refine XS.iconst X72.here hx rfl (hb hby at_303) ?_
                show Steps p.tables e below (T72.setTop (mkF m 304 #[.val (.int p0), .val (.int p1), .val (.int p2), .val (.int p3), .val (.int p4), .val (.int p5), .val (.int u1_0), .val (.int u2_0), .val (.int u3_0), .val (.int u4_0), .val (.int u5_0), .val (.int u6_0), .val (.int pa), .val (.int pl), .val (.int ps), .val (.int pe), .val (.long ea), .second, .val (.long ee), .second, .val (.long el), .second, .val (.ref bl), .val (.ref bx), .val (.int (own_max (0 : Int32) p2)), .val (.int (0 : Int32))] [(.int (1 : Int32))])) _
                refine XS.istore X72.here hx rfl (hb hby at_304) rfl (l' := #[.val (.int p0), .val (.int p1), .val (.int p2), .val (.int p3), .val (.int p4), .val (.int p5), .val (.int u1_0), .val (.int u2_0), .val (.int u3_0), .val (.int u4_0), .val (.int u5_0), .val (.int u6_0), .val (.int pa), .val (.int pl), .val (.int ps), .val (.int pe), .val (.long ea), .second, .val (.long ee), .second, .val (.long el), .second, .val (.ref bl), .val (.ref bx), .val (.int (own_max (0 : Int32) p2)), .val (.int (1 : Int32))]) rfl ?_
                show Steps p.tables e below (T72.setTop (mkF m 306 #[.val (.int p0), .val (.int p1), .val (.int p2), .val (.int p3), .val (.int p4), .val (.int p5), .val (.int u1_0), .val (.int u2_0), .val (.int u3_0), .val (.int u4_0), .val (.int u5_0), .val (.int u6_0), .val (.int pa), .val (.int pl), .val (.int ps), .val (.int pe), .val (.long ea), .second, .val (.long ee), .second, .val (.long el), .second, .val (.ref bl), .val (.ref bx), .val (.int (own_max (0 : Int32) p2)), .val (.int (1 : Int32))] [])) _
                exact k
              exact ⟨T72, _, hE, _, _, (1 : Int32), X72, hq72, N72, ZE, (by omega), (by omega), by simp [own_one hz1 t274_0, t279_1, t287_2, own_one hz2 t295_3, t300_4], E1E, F0E, F1E, F2E, F3E, F4E, F5E, pre97⟩
            · skip
              have pre98 : ∀ t, Steps p.tables e below (T72.setTop (mkF m 306 #[.val (.int p0), .val (.int p1), .val (.int p2), .val (.int p3), .val (.int p4), .val (.int p5), .val (.int u1_0), .val (.int u2_0), .val (.int u3_0), .val (.int u4_0), .val (.int u5_0), .val (.int u6_0), .val (.int pa), .val (.int pl), .val (.int ps), .val (.int pe), .val (.long ea), .second, .val (.long ee), .second, .val (.long el), .second, .val (.ref bl), .val (.ref bx), .val (.int (own_max (0 : Int32) p2)), .val (.int (0 : Int32))] [])) t → Steps p.tables e below (s₁.setTop (entryFrame m #[(.int p0), (.int p1), (.int p2), (.int p3), (.int p4), (.int p5)] maxLocals)) t := by
                intro t k
                refine pre96 t ?_
                refine XS.ifYes X72.here hx rfl (pc0 := 300) (pc' := 306) rfl (hb hby at_300) rfl ((if0 _ _).trans (flt t300_4).2.2.2) (by decide) (by decide) ?_
                show Steps p.tables e below (T72.setTop (mkF m 306 #[.val (.int p0), .val (.int p1), .val (.int p2), .val (.int p3), .val (.int p4), .val (.int p5), .val (.int u1_0), .val (.int u2_0), .val (.int u3_0), .val (.int u4_0), .val (.int u5_0), .val (.int u6_0), .val (.int pa), .val (.int pl), .val (.int ps), .val (.int pe), .val (.long ea), .second, .val (.long ee), .second, .val (.long el), .second, .val (.ref bl), .val (.ref bx), .val (.int (own_max (0 : Int32) p2)), .val (.int (0 : Int32))] [])) _
                exact k
              exact ⟨T72, _, hE, _, _, (0 : Int32), X72, hq72, N72, ZE, (by omega), (by omega), by simp [own_one hz1 t274_0, t279_1, t287_2, own_one hz2 t295_3, t300_4], E1E, F0E, F1E, F2E, F3E, F4E, F5E, pre98⟩
  obtain ⟨TG, oG, hG, cG, lG, xG, XG, eG, NG, ZG, hcG, hlG, qG, E1G, F0G, F1G, F2G, F3G, F4G, F5G, preG⟩ : ∃ (TG : State) (oG : List Loc) (hG : Heap) (cG : Nat) (lG : Nat) (xG : Int32), (Stand p l e room_1 s m #[(.int p0), (.int p1), (.int p2), (.int p3), (.int p4), (.int p5)] below meth c TG oG cG lG) ∧ (TG.heap = hG) ∧ (Fr n0 oG) ∧ (n0 ≤ hG.size) ∧ (cG ≤ 6) ∧ (lG ≤ 60) ∧ (xG = if ((u1_0 = 1 ∧ ((0 : Int32) < pa ∨ (0 : Int32) < pl ∨ (u2_0 = 1 ∧ (0 : Int32) < own_max (0 : Int32) p2))) ∨ (u3_0 = 1 ∧ (0 : Int32) < ps)) then (1 : Int32) else 0) ∧ (Exa Z hG bx "com/example/kiseki/kiseki/tracing/DroppedItems") ∧ (Fld Z hG bx "com/example/kiseki/kiseki/tracing/DroppedItems" "attributesBeforeStart" "J" (.long va)) ∧ (Fld Z hG bx "com/example/kiseki/kiseki/tracing/DroppedItems" "attributesSinceStart" "J" (.long vs)) ∧ (Fld Z hG bx "com/example/kiseki/kiseki/tracing/DroppedItems" "events" "J" (.long ve)) ∧ (Fld Z hG bx "com/example/kiseki/kiseki/tracing/DroppedItems" "links" "J" (.long vl)) ∧ (Fld Z hG bx "com/example/kiseki/kiseki/tracing/DroppedItems" "eventAttributes" "J" (.long vv)) ∧ (Fld Z hG bx "com/example/kiseki/kiseki/tracing/DroppedItems" "linkAttributes" "J" (.long vk)) ∧ (∀ t, Steps p.tables e below (TG.setTop (mkF m 319 #[.val (.int p0), .val (.int p1), .val (.int p2), .val (.int p3), .val (.int p4), .val (.int p5), .val (.int u1_0), .val (.int u2_0), .val (.int u3_0), .val (.int u4_0), .val (.int u5_0), .val (.int u6_0), .val (.int pa), .val (.int pl), .val (.int ps), .val (.int pe), .val (.long ea), .second, .val (.long ee), .second, .val (.long el), .second, .val (.ref bl), .val (.ref bx), .val (.int (own_max (0 : Int32) p2)), .val (.int xG)] [])) t → Steps p.tables e below (s₁.setTop (entryFrame m #[(.int p0), (.int p1), (.int p2), (.int p3), (.int p4), (.int p5)] maxLocals)) t) := by
    have pre99 : ∀ t, Steps p.tables e below (TF.setTop (mkF m 308 #[.val (.int p0), .val (.int p1), .val (.int p2), .val (.int p3), .val (.int p4), .val (.int p5), .val (.int u1_0), .val (.int u2_0), .val (.int u3_0), .val (.int u4_0), .val (.int u5_0), .val (.int u6_0), .val (.int pa), .val (.int pl), .val (.int ps), .val (.int pe), .val (.long ea), .second, .val (.long ee), .second, .val (.long el), .second, .val (.ref bl), .val (.ref bx), .val (.int (own_max (0 : Int32) p2)), .val (.int xF)] [(.int u3_0)])) t → Steps p.tables e below (s₁.setTop (entryFrame m #[(.int p0), (.int p1), (.int p2), (.int p3), (.int p4), (.int p5)] maxLocals)) t := by
      intro t k
      refine preF t ?_
      show Steps p.tables e below (TF.setTop (mkF m 306 #[.val (.int p0), .val (.int p1), .val (.int p2), .val (.int p3), .val (.int p4), .val (.int p5), .val (.int u1_0), .val (.int u2_0), .val (.int u3_0), .val (.int u4_0), .val (.int u5_0), .val (.int u6_0), .val (.int pa), .val (.int pl), .val (.int ps), .val (.int pe), .val (.long ea), .second, .val (.long ee), .second, .val (.long el), .second, .val (.ref bl), .val (.ref bx), .val (.int (own_max (0 : Int32) p2)), .val (.int xF)] [])) _
      refine XS.iload XF.here hx rfl (hb hby at_306) rfl ?_
      show Steps p.tables e below (TF.setTop (mkF m 308 #[.val (.int p0), .val (.int p1), .val (.int p2), .val (.int p3), .val (.int p4), .val (.int p5), .val (.int u1_0), .val (.int u2_0), .val (.int u3_0), .val (.int u4_0), .val (.int u5_0), .val (.int u6_0), .val (.int pa), .val (.int pl), .val (.int ps), .val (.int pe), .val (.long ea), .second, .val (.long ee), .second, .val (.long el), .second, .val (.ref bl), .val (.ref bx), .val (.int (own_max (0 : Int32) p2)), .val (.int xF)] [(.int u3_0)])) _
      exact k
    by_cases t308_0 : u3_0 = (0 : Int32)
    · skip
      have pre100 : ∀ t, Steps p.tables e below (TF.setTop (mkF m 319 #[.val (.int p0), .val (.int p1), .val (.int p2), .val (.int p3), .val (.int p4), .val (.int p5), .val (.int u1_0), .val (.int u2_0), .val (.int u3_0), .val (.int u4_0), .val (.int u5_0), .val (.int u6_0), .val (.int pa), .val (.int pl), .val (.int ps), .val (.int pe), .val (.long ea), .second, .val (.long ee), .second, .val (.long el), .second, .val (.ref bl), .val (.ref bx), .val (.int (own_max (0 : Int32) p2)), .val (.int xF)] [])) t → Steps p.tables e below (s₁.setTop (entryFrame m #[(.int p0), (.int p1), (.int p2), (.int p3), (.int p4), (.int p5)] maxLocals)) t := by
        intro t k
        refine pre99 t ?_
        refine XS.ifYes XF.here hx rfl (pc0 := 308) (pc' := 319) rfl (hb hby at_308) rfl ((if0 _ _).trans (teq t308_0).1) (by decide) (by decide) ?_
        show Steps p.tables e below (TF.setTop (mkF m 319 #[.val (.int p0), .val (.int p1), .val (.int p2), .val (.int p3), .val (.int p4), .val (.int p5), .val (.int u1_0), .val (.int u2_0), .val (.int u3_0), .val (.int u4_0), .val (.int u5_0), .val (.int u6_0), .val (.int pa), .val (.int pl), .val (.int ps), .val (.int pe), .val (.long ea), .second, .val (.long ee), .second, .val (.long el), .second, .val (.ref bl), .val (.ref bx), .val (.int (own_max (0 : Int32) p2)), .val (.int xF)] [])) _
        exact k
      exact ⟨TF, _, hF, _, _, xF, XF, eF, NF, ZF, (by omega), (by omega), by simp [t308_0, qF], E1F, F0F, F1F, F2F, F3F, F4F, F5F, pre100⟩
    · skip
      have pre101 : ∀ t, Steps p.tables e below (TF.setTop (mkF m 313 #[.val (.int p0), .val (.int p1), .val (.int p2), .val (.int p3), .val (.int p4), .val (.int p5), .val (.int u1_0), .val (.int u2_0), .val (.int u3_0), .val (.int u4_0), .val (.int u5_0), .val (.int u6_0), .val (.int pa), .val (.int pl), .val (.int ps), .val (.int pe), .val (.long ea), .second, .val (.long ee), .second, .val (.long el), .second, .val (.ref bl), .val (.ref bx), .val (.int (own_max (0 : Int32) p2)), .val (.int xF)] [(.int ps)])) t → Steps p.tables e below (s₁.setTop (entryFrame m #[(.int p0), (.int p1), (.int p2), (.int p3), (.int p4), (.int p5)] maxLocals)) t := by
        intro t k
        refine pre99 t ?_
        refine XS.ifNo XF.here hx rfl (hb hby at_308) rfl ((if0 _ _).trans (feq t308_0).1) ?_
        show Steps p.tables e below (TF.setTop (mkF m 311 #[.val (.int p0), .val (.int p1), .val (.int p2), .val (.int p3), .val (.int p4), .val (.int p5), .val (.int u1_0), .val (.int u2_0), .val (.int u3_0), .val (.int u4_0), .val (.int u5_0), .val (.int u6_0), .val (.int pa), .val (.int pl), .val (.int ps), .val (.int pe), .val (.long ea), .second, .val (.long ee), .second, .val (.long el), .second, .val (.ref bl), .val (.ref bx), .val (.int (own_max (0 : Int32) p2)), .val (.int xF)] [])) _
        refine XS.iload XF.here hx rfl (hb hby at_311) rfl ?_
        show Steps p.tables e below (TF.setTop (mkF m 313 #[.val (.int p0), .val (.int p1), .val (.int p2), .val (.int p3), .val (.int p4), .val (.int p5), .val (.int u1_0), .val (.int u2_0), .val (.int u3_0), .val (.int u4_0), .val (.int u5_0), .val (.int u6_0), .val (.int pa), .val (.int pl), .val (.int ps), .val (.int pe), .val (.long ea), .second, .val (.long ee), .second, .val (.long el), .second, .val (.ref bl), .val (.ref bx), .val (.int (own_max (0 : Int32) p2)), .val (.int xF)] [(.int ps)])) _
        exact k
      by_cases t313_1 : (0 : Int32) < ps
      · skip
        have pre102 : ∀ t, Steps p.tables e below (TF.setTop (mkF m 319 #[.val (.int p0), .val (.int p1), .val (.int p2), .val (.int p3), .val (.int p4), .val (.int p5), .val (.int u1_0), .val (.int u2_0), .val (.int u3_0), .val (.int u4_0), .val (.int u5_0), .val (.int u6_0), .val (.int pa), .val (.int pl), .val (.int ps), .val (.int pe), .val (.long ea), .second, .val (.long ee), .second, .val (.long el), .second, .val (.ref bl), .val (.ref bx), .val (.int (own_max (0 : Int32) p2)), .val (.int (1 : Int32))] [])) t → Steps p.tables e below (s₁.setTop (entryFrame m #[(.int p0), (.int p1), (.int p2), (.int p3), (.int p4), (.int p5)] maxLocals)) t := by
          intro t k
          refine pre101 t ?_
          refine XS.ifNo XF.here hx rfl (hb hby at_313) rfl ((if0 _ _).trans (tlt t313_1).2.2.2) ?_
          show Steps p.tables e below (TF.setTop (mkF m 316 #[.val (.int p0), .val (.int p1), .val (.int p2), .val (.int p3), .val (.int p4), .val (.int p5), .val (.int u1_0), .val (.int u2_0), .val (.int u3_0), .val (.int u4_0), .val (.int u5_0), .val (.int u6_0), .val (.int pa), .val (.int pl), .val (.int ps), .val (.int pe), .val (.long ea), .second, .val (.long ee), .second, .val (.long el), .second, .val (.ref bl), .val (.ref bx), .val (.int (own_max (0 : Int32) p2)), .val (.int xF)] [])) _
          refine XS.iconst XF.here hx rfl (hb hby at_316) ?_
          show Steps p.tables e below (TF.setTop (mkF m 317 #[.val (.int p0), .val (.int p1), .val (.int p2), .val (.int p3), .val (.int p4), .val (.int p5), .val (.int u1_0), .val (.int u2_0), .val (.int u3_0), .val (.int u4_0), .val (.int u5_0), .val (.int u6_0), .val (.int pa), .val (.int pl), .val (.int ps), .val (.int pe), .val (.long ea), .second, .val (.long ee), .second, .val (.long el), .second, .val (.ref bl), .val (.ref bx), .val (.int (own_max (0 : Int32) p2)), .val (.int xF)] [(.int (1 : Int32))])) _
          refine XS.istore XF.here hx rfl (hb hby at_317) rfl (l' := #[.val (.int p0), .val (.int p1), .val (.int p2), .val (.int p3), .val (.int p4), .val (.int p5), .val (.int u1_0), .val (.int u2_0), .val (.int u3_0), .val (.int u4_0), .val (.int u5_0), .val (.int u6_0), .val (.int pa), .val (.int pl), .val (.int ps), .val (.int pe), .val (.long ea), .second, .val (.long ee), .second, .val (.long el), .second, .val (.ref bl), .val (.ref bx), .val (.int (own_max (0 : Int32) p2)), .val (.int (1 : Int32))]) rfl ?_
          show Steps p.tables e below (TF.setTop (mkF m 319 #[.val (.int p0), .val (.int p1), .val (.int p2), .val (.int p3), .val (.int p4), .val (.int p5), .val (.int u1_0), .val (.int u2_0), .val (.int u3_0), .val (.int u4_0), .val (.int u5_0), .val (.int u6_0), .val (.int pa), .val (.int pl), .val (.int ps), .val (.int pe), .val (.long ea), .second, .val (.long ee), .second, .val (.long el), .second, .val (.ref bl), .val (.ref bx), .val (.int (own_max (0 : Int32) p2)), .val (.int (1 : Int32))] [])) _
          exact k
        exact ⟨TF, _, hF, _, _, (1 : Int32), XF, eF, NF, ZF, (by omega), (by omega), by simp [own_one hz3 t308_0, t313_1, qF], E1F, F0F, F1F, F2F, F3F, F4F, F5F, pre102⟩
      · skip
        have pre103 : ∀ t, Steps p.tables e below (TF.setTop (mkF m 319 #[.val (.int p0), .val (.int p1), .val (.int p2), .val (.int p3), .val (.int p4), .val (.int p5), .val (.int u1_0), .val (.int u2_0), .val (.int u3_0), .val (.int u4_0), .val (.int u5_0), .val (.int u6_0), .val (.int pa), .val (.int pl), .val (.int ps), .val (.int pe), .val (.long ea), .second, .val (.long ee), .second, .val (.long el), .second, .val (.ref bl), .val (.ref bx), .val (.int (own_max (0 : Int32) p2)), .val (.int xF)] [])) t → Steps p.tables e below (s₁.setTop (entryFrame m #[(.int p0), (.int p1), (.int p2), (.int p3), (.int p4), (.int p5)] maxLocals)) t := by
          intro t k
          refine pre101 t ?_
          refine XS.ifYes XF.here hx rfl (pc0 := 313) (pc' := 319) rfl (hb hby at_313) rfl ((if0 _ _).trans (flt t313_1).2.2.2) (by decide) (by decide) ?_
          show Steps p.tables e below (TF.setTop (mkF m 319 #[.val (.int p0), .val (.int p1), .val (.int p2), .val (.int p3), .val (.int p4), .val (.int p5), .val (.int u1_0), .val (.int u2_0), .val (.int u3_0), .val (.int u4_0), .val (.int u5_0), .val (.int u6_0), .val (.int pa), .val (.int pl), .val (.int ps), .val (.int pe), .val (.long ea), .second, .val (.long ee), .second, .val (.long el), .second, .val (.ref bl), .val (.ref bx), .val (.int (own_max (0 : Int32) p2)), .val (.int xF)] [])) _
          exact k
        exact ⟨TF, _, hF, _, _, xF, XF, eF, NF, ZF, (by omega), (by omega), by simp [own_one hz3 t308_0, t313_1, qF], E1F, F0F, F1F, F2F, F3F, F4F, F5F, pre103⟩
  obtain ⟨TH, oH, hH, cH, lH, xH, XH, eH, NH, ZH, hcH, hlH, qH, E1H, F0H, F1H, F2H, F3H, F4H, F5H, preH⟩ : ∃ (TH : State) (oH : List Loc) (hH : Heap) (cH : Nat) (lH : Nat) (xH : Int32), (Stand p l e room_1 s m #[(.int p0), (.int p1), (.int p2), (.int p3), (.int p4), (.int p5)] below meth c TH oH cH lH) ∧ (TH.heap = hH) ∧ (Fr n0 oH) ∧ (n0 ≤ hH.size) ∧ (cH ≤ 6) ∧ (lH ≤ 60) ∧ (xH = if (((u1_0 = 1 ∧ ((0 : Int32) < pa ∨ (0 : Int32) < pl ∨ (u2_0 = 1 ∧ (0 : Int32) < own_max (0 : Int32) p2))) ∨ (u3_0 = 1 ∧ (0 : Int32) < ps)) ∨ u4_0 = 1) then (1 : Int32) else 0) ∧ (Exa Z hH bx "com/example/kiseki/kiseki/tracing/DroppedItems") ∧ (Fld Z hH bx "com/example/kiseki/kiseki/tracing/DroppedItems" "attributesBeforeStart" "J" (.long va)) ∧ (Fld Z hH bx "com/example/kiseki/kiseki/tracing/DroppedItems" "attributesSinceStart" "J" (.long vs)) ∧ (Fld Z hH bx "com/example/kiseki/kiseki/tracing/DroppedItems" "events" "J" (.long ve)) ∧ (Fld Z hH bx "com/example/kiseki/kiseki/tracing/DroppedItems" "links" "J" (.long vl)) ∧ (Fld Z hH bx "com/example/kiseki/kiseki/tracing/DroppedItems" "eventAttributes" "J" (.long vv)) ∧ (Fld Z hH bx "com/example/kiseki/kiseki/tracing/DroppedItems" "linkAttributes" "J" (.long vk)) ∧ (∀ t, Steps p.tables e below (TH.setTop (mkF m 327 #[.val (.int p0), .val (.int p1), .val (.int p2), .val (.int p3), .val (.int p4), .val (.int p5), .val (.int u1_0), .val (.int u2_0), .val (.int u3_0), .val (.int u4_0), .val (.int u5_0), .val (.int u6_0), .val (.int pa), .val (.int pl), .val (.int ps), .val (.int pe), .val (.long ea), .second, .val (.long ee), .second, .val (.long el), .second, .val (.ref bl), .val (.ref bx), .val (.int (own_max (0 : Int32) p2)), .val (.int xH)] [])) t → Steps p.tables e below (s₁.setTop (entryFrame m #[(.int p0), (.int p1), (.int p2), (.int p3), (.int p4), (.int p5)] maxLocals)) t) := by
    have pre104 : ∀ t, Steps p.tables e below (TG.setTop (mkF m 321 #[.val (.int p0), .val (.int p1), .val (.int p2), .val (.int p3), .val (.int p4), .val (.int p5), .val (.int u1_0), .val (.int u2_0), .val (.int u3_0), .val (.int u4_0), .val (.int u5_0), .val (.int u6_0), .val (.int pa), .val (.int pl), .val (.int ps), .val (.int pe), .val (.long ea), .second, .val (.long ee), .second, .val (.long el), .second, .val (.ref bl), .val (.ref bx), .val (.int (own_max (0 : Int32) p2)), .val (.int xG)] [(.int u4_0)])) t → Steps p.tables e below (s₁.setTop (entryFrame m #[(.int p0), (.int p1), (.int p2), (.int p3), (.int p4), (.int p5)] maxLocals)) t := by
      intro t k
      refine preG t ?_
      show Steps p.tables e below (TG.setTop (mkF m 319 #[.val (.int p0), .val (.int p1), .val (.int p2), .val (.int p3), .val (.int p4), .val (.int p5), .val (.int u1_0), .val (.int u2_0), .val (.int u3_0), .val (.int u4_0), .val (.int u5_0), .val (.int u6_0), .val (.int pa), .val (.int pl), .val (.int ps), .val (.int pe), .val (.long ea), .second, .val (.long ee), .second, .val (.long el), .second, .val (.ref bl), .val (.ref bx), .val (.int (own_max (0 : Int32) p2)), .val (.int xG)] [])) _
      refine XS.iload XG.here hx rfl (hb hby at_319) rfl ?_
      show Steps p.tables e below (TG.setTop (mkF m 321 #[.val (.int p0), .val (.int p1), .val (.int p2), .val (.int p3), .val (.int p4), .val (.int p5), .val (.int u1_0), .val (.int u2_0), .val (.int u3_0), .val (.int u4_0), .val (.int u5_0), .val (.int u6_0), .val (.int pa), .val (.int pl), .val (.int ps), .val (.int pe), .val (.long ea), .second, .val (.long ee), .second, .val (.long el), .second, .val (.ref bl), .val (.ref bx), .val (.int (own_max (0 : Int32) p2)), .val (.int xG)] [(.int u4_0)])) _
      exact k
    by_cases t321_0 : u4_0 = (0 : Int32)
    · skip
      have pre105 : ∀ t, Steps p.tables e below (TG.setTop (mkF m 327 #[.val (.int p0), .val (.int p1), .val (.int p2), .val (.int p3), .val (.int p4), .val (.int p5), .val (.int u1_0), .val (.int u2_0), .val (.int u3_0), .val (.int u4_0), .val (.int u5_0), .val (.int u6_0), .val (.int pa), .val (.int pl), .val (.int ps), .val (.int pe), .val (.long ea), .second, .val (.long ee), .second, .val (.long el), .second, .val (.ref bl), .val (.ref bx), .val (.int (own_max (0 : Int32) p2)), .val (.int xG)] [])) t → Steps p.tables e below (s₁.setTop (entryFrame m #[(.int p0), (.int p1), (.int p2), (.int p3), (.int p4), (.int p5)] maxLocals)) t := by
        intro t k
        refine pre104 t ?_
        refine XS.ifYes XG.here hx rfl (pc0 := 321) (pc' := 327) rfl (hb hby at_321) rfl ((if0 _ _).trans (teq t321_0).1) (by decide) (by decide) ?_
        show Steps p.tables e below (TG.setTop (mkF m 327 #[.val (.int p0), .val (.int p1), .val (.int p2), .val (.int p3), .val (.int p4), .val (.int p5), .val (.int u1_0), .val (.int u2_0), .val (.int u3_0), .val (.int u4_0), .val (.int u5_0), .val (.int u6_0), .val (.int pa), .val (.int pl), .val (.int ps), .val (.int pe), .val (.long ea), .second, .val (.long ee), .second, .val (.long el), .second, .val (.ref bl), .val (.ref bx), .val (.int (own_max (0 : Int32) p2)), .val (.int xG)] [])) _
        exact k
      exact ⟨TG, _, hG, _, _, xG, XG, eG, NG, ZG, (by omega), (by omega), by simp [t321_0, qG], E1G, F0G, F1G, F2G, F3G, F4G, F5G, pre105⟩
    · skip
      have pre106 : ∀ t, Steps p.tables e below (TG.setTop (mkF m 327 #[.val (.int p0), .val (.int p1), .val (.int p2), .val (.int p3), .val (.int p4), .val (.int p5), .val (.int u1_0), .val (.int u2_0), .val (.int u3_0), .val (.int u4_0), .val (.int u5_0), .val (.int u6_0), .val (.int pa), .val (.int pl), .val (.int ps), .val (.int pe), .val (.long ea), .second, .val (.long ee), .second, .val (.long el), .second, .val (.ref bl), .val (.ref bx), .val (.int (own_max (0 : Int32) p2)), .val (.int (1 : Int32))] [])) t → Steps p.tables e below (s₁.setTop (entryFrame m #[(.int p0), (.int p1), (.int p2), (.int p3), (.int p4), (.int p5)] maxLocals)) t := by
        intro t k
        refine pre104 t ?_
        refine XS.ifNo XG.here hx rfl (hb hby at_321) rfl ((if0 _ _).trans (feq t321_0).1) ?_
        show Steps p.tables e below (TG.setTop (mkF m 324 #[.val (.int p0), .val (.int p1), .val (.int p2), .val (.int p3), .val (.int p4), .val (.int p5), .val (.int u1_0), .val (.int u2_0), .val (.int u3_0), .val (.int u4_0), .val (.int u5_0), .val (.int u6_0), .val (.int pa), .val (.int pl), .val (.int ps), .val (.int pe), .val (.long ea), .second, .val (.long ee), .second, .val (.long el), .second, .val (.ref bl), .val (.ref bx), .val (.int (own_max (0 : Int32) p2)), .val (.int xG)] [])) _
        refine XS.iconst XG.here hx rfl (hb hby at_324) ?_
        show Steps p.tables e below (TG.setTop (mkF m 325 #[.val (.int p0), .val (.int p1), .val (.int p2), .val (.int p3), .val (.int p4), .val (.int p5), .val (.int u1_0), .val (.int u2_0), .val (.int u3_0), .val (.int u4_0), .val (.int u5_0), .val (.int u6_0), .val (.int pa), .val (.int pl), .val (.int ps), .val (.int pe), .val (.long ea), .second, .val (.long ee), .second, .val (.long el), .second, .val (.ref bl), .val (.ref bx), .val (.int (own_max (0 : Int32) p2)), .val (.int xG)] [(.int (1 : Int32))])) _
        refine XS.istore XG.here hx rfl (hb hby at_325) rfl (l' := #[.val (.int p0), .val (.int p1), .val (.int p2), .val (.int p3), .val (.int p4), .val (.int p5), .val (.int u1_0), .val (.int u2_0), .val (.int u3_0), .val (.int u4_0), .val (.int u5_0), .val (.int u6_0), .val (.int pa), .val (.int pl), .val (.int ps), .val (.int pe), .val (.long ea), .second, .val (.long ee), .second, .val (.long el), .second, .val (.ref bl), .val (.ref bx), .val (.int (own_max (0 : Int32) p2)), .val (.int (1 : Int32))]) rfl ?_
        show Steps p.tables e below (TG.setTop (mkF m 327 #[.val (.int p0), .val (.int p1), .val (.int p2), .val (.int p3), .val (.int p4), .val (.int p5), .val (.int u1_0), .val (.int u2_0), .val (.int u3_0), .val (.int u4_0), .val (.int u5_0), .val (.int u6_0), .val (.int pa), .val (.int pl), .val (.int ps), .val (.int pe), .val (.long ea), .second, .val (.long ee), .second, .val (.long el), .second, .val (.ref bl), .val (.ref bx), .val (.int (own_max (0 : Int32) p2)), .val (.int (1 : Int32))] [])) _
        exact k
      exact ⟨TG, _, hG, _, _, (1 : Int32), XG, eG, NG, ZG, (by omega), (by omega), by simp [own_one hz4 t321_0, qG], E1G, F0G, F1G, F2G, F3G, F4G, F5G, pre106⟩
  obtain ⟨TI, oI, hI, cI, lI, xI, XI, eI, NI, ZI, hcI, hlI, qI, E1I, F0I, F1I, F2I, F3I, F4I, F5I, preI⟩ : ∃ (TI : State) (oI : List Loc) (hI : Heap) (cI : Nat) (lI : Nat) (xI : Int32), (Stand p l e room_1 s m #[(.int p0), (.int p1), (.int p2), (.int p3), (.int p4), (.int p5)] below meth c TI oI cI lI) ∧ (TI.heap = hI) ∧ (Fr n0 oI) ∧ (n0 ≤ hI.size) ∧ (cI ≤ 6) ∧ (lI ≤ 60) ∧ (xI = if ((((u1_0 = 1 ∧ ((0 : Int32) < pa ∨ (0 : Int32) < pl ∨ (u2_0 = 1 ∧ (0 : Int32) < own_max (0 : Int32) p2))) ∨ (u3_0 = 1 ∧ (0 : Int32) < ps)) ∨ u4_0 = 1) ∨ (u5_0 = 1 ∧ (0 : Int32) < pe)) then (1 : Int32) else 0) ∧ (Exa Z hI bx "com/example/kiseki/kiseki/tracing/DroppedItems") ∧ (Fld Z hI bx "com/example/kiseki/kiseki/tracing/DroppedItems" "attributesBeforeStart" "J" (.long va)) ∧ (Fld Z hI bx "com/example/kiseki/kiseki/tracing/DroppedItems" "attributesSinceStart" "J" (.long vs)) ∧ (Fld Z hI bx "com/example/kiseki/kiseki/tracing/DroppedItems" "events" "J" (.long ve)) ∧ (Fld Z hI bx "com/example/kiseki/kiseki/tracing/DroppedItems" "links" "J" (.long vl)) ∧ (Fld Z hI bx "com/example/kiseki/kiseki/tracing/DroppedItems" "eventAttributes" "J" (.long vv)) ∧ (Fld Z hI bx "com/example/kiseki/kiseki/tracing/DroppedItems" "linkAttributes" "J" (.long vk)) ∧ (∀ t, Steps p.tables e below (TI.setTop (mkF m 340 #[.val (.int p0), .val (.int p1), .val (.int p2), .val (.int p3), .val (.int p4), .val (.int p5), .val (.int u1_0), .val (.int u2_0), .val (.int u3_0), .val (.int u4_0), .val (.int u5_0), .val (.int u6_0), .val (.int pa), .val (.int pl), .val (.int ps), .val (.int pe), .val (.long ea), .second, .val (.long ee), .second, .val (.long el), .second, .val (.ref bl), .val (.ref bx), .val (.int (own_max (0 : Int32) p2)), .val (.int xI)] [])) t → Steps p.tables e below (s₁.setTop (entryFrame m #[(.int p0), (.int p1), (.int p2), (.int p3), (.int p4), (.int p5)] maxLocals)) t) := by
    have pre107 : ∀ t, Steps p.tables e below (TH.setTop (mkF m 329 #[.val (.int p0), .val (.int p1), .val (.int p2), .val (.int p3), .val (.int p4), .val (.int p5), .val (.int u1_0), .val (.int u2_0), .val (.int u3_0), .val (.int u4_0), .val (.int u5_0), .val (.int u6_0), .val (.int pa), .val (.int pl), .val (.int ps), .val (.int pe), .val (.long ea), .second, .val (.long ee), .second, .val (.long el), .second, .val (.ref bl), .val (.ref bx), .val (.int (own_max (0 : Int32) p2)), .val (.int xH)] [(.int u5_0)])) t → Steps p.tables e below (s₁.setTop (entryFrame m #[(.int p0), (.int p1), (.int p2), (.int p3), (.int p4), (.int p5)] maxLocals)) t := by
      intro t k
      refine preH t ?_
      show Steps p.tables e below (TH.setTop (mkF m 327 #[.val (.int p0), .val (.int p1), .val (.int p2), .val (.int p3), .val (.int p4), .val (.int p5), .val (.int u1_0), .val (.int u2_0), .val (.int u3_0), .val (.int u4_0), .val (.int u5_0), .val (.int u6_0), .val (.int pa), .val (.int pl), .val (.int ps), .val (.int pe), .val (.long ea), .second, .val (.long ee), .second, .val (.long el), .second, .val (.ref bl), .val (.ref bx), .val (.int (own_max (0 : Int32) p2)), .val (.int xH)] [])) _
      refine XS.iload XH.here hx rfl (hb hby at_327) rfl ?_
      show Steps p.tables e below (TH.setTop (mkF m 329 #[.val (.int p0), .val (.int p1), .val (.int p2), .val (.int p3), .val (.int p4), .val (.int p5), .val (.int u1_0), .val (.int u2_0), .val (.int u3_0), .val (.int u4_0), .val (.int u5_0), .val (.int u6_0), .val (.int pa), .val (.int pl), .val (.int ps), .val (.int pe), .val (.long ea), .second, .val (.long ee), .second, .val (.long el), .second, .val (.ref bl), .val (.ref bx), .val (.int (own_max (0 : Int32) p2)), .val (.int xH)] [(.int u5_0)])) _
      exact k
    by_cases t329_0 : u5_0 = (0 : Int32)
    · skip
      have pre108 : ∀ t, Steps p.tables e below (TH.setTop (mkF m 340 #[.val (.int p0), .val (.int p1), .val (.int p2), .val (.int p3), .val (.int p4), .val (.int p5), .val (.int u1_0), .val (.int u2_0), .val (.int u3_0), .val (.int u4_0), .val (.int u5_0), .val (.int u6_0), .val (.int pa), .val (.int pl), .val (.int ps), .val (.int pe), .val (.long ea), .second, .val (.long ee), .second, .val (.long el), .second, .val (.ref bl), .val (.ref bx), .val (.int (own_max (0 : Int32) p2)), .val (.int xH)] [])) t → Steps p.tables e below (s₁.setTop (entryFrame m #[(.int p0), (.int p1), (.int p2), (.int p3), (.int p4), (.int p5)] maxLocals)) t := by
        intro t k
        refine pre107 t ?_
        refine XS.ifYes XH.here hx rfl (pc0 := 329) (pc' := 340) rfl (hb hby at_329) rfl ((if0 _ _).trans (teq t329_0).1) (by decide) (by decide) ?_
        show Steps p.tables e below (TH.setTop (mkF m 340 #[.val (.int p0), .val (.int p1), .val (.int p2), .val (.int p3), .val (.int p4), .val (.int p5), .val (.int u1_0), .val (.int u2_0), .val (.int u3_0), .val (.int u4_0), .val (.int u5_0), .val (.int u6_0), .val (.int pa), .val (.int pl), .val (.int ps), .val (.int pe), .val (.long ea), .second, .val (.long ee), .second, .val (.long el), .second, .val (.ref bl), .val (.ref bx), .val (.int (own_max (0 : Int32) p2)), .val (.int xH)] [])) _
        exact k
      exact ⟨TH, _, hH, _, _, xH, XH, eH, NH, ZH, (by omega), (by omega), by simp [t329_0, qH], E1H, F0H, F1H, F2H, F3H, F4H, F5H, pre108⟩
    · skip
      have pre109 : ∀ t, Steps p.tables e below (TH.setTop (mkF m 334 #[.val (.int p0), .val (.int p1), .val (.int p2), .val (.int p3), .val (.int p4), .val (.int p5), .val (.int u1_0), .val (.int u2_0), .val (.int u3_0), .val (.int u4_0), .val (.int u5_0), .val (.int u6_0), .val (.int pa), .val (.int pl), .val (.int ps), .val (.int pe), .val (.long ea), .second, .val (.long ee), .second, .val (.long el), .second, .val (.ref bl), .val (.ref bx), .val (.int (own_max (0 : Int32) p2)), .val (.int xH)] [(.int pe)])) t → Steps p.tables e below (s₁.setTop (entryFrame m #[(.int p0), (.int p1), (.int p2), (.int p3), (.int p4), (.int p5)] maxLocals)) t := by
        intro t k
        refine pre107 t ?_
        refine XS.ifNo XH.here hx rfl (hb hby at_329) rfl ((if0 _ _).trans (feq t329_0).1) ?_
        show Steps p.tables e below (TH.setTop (mkF m 332 #[.val (.int p0), .val (.int p1), .val (.int p2), .val (.int p3), .val (.int p4), .val (.int p5), .val (.int u1_0), .val (.int u2_0), .val (.int u3_0), .val (.int u4_0), .val (.int u5_0), .val (.int u6_0), .val (.int pa), .val (.int pl), .val (.int ps), .val (.int pe), .val (.long ea), .second, .val (.long ee), .second, .val (.long el), .second, .val (.ref bl), .val (.ref bx), .val (.int (own_max (0 : Int32) p2)), .val (.int xH)] [])) _
        refine XS.iload XH.here hx rfl (hb hby at_332) rfl ?_
        show Steps p.tables e below (TH.setTop (mkF m 334 #[.val (.int p0), .val (.int p1), .val (.int p2), .val (.int p3), .val (.int p4), .val (.int p5), .val (.int u1_0), .val (.int u2_0), .val (.int u3_0), .val (.int u4_0), .val (.int u5_0), .val (.int u6_0), .val (.int pa), .val (.int pl), .val (.int ps), .val (.int pe), .val (.long ea), .second, .val (.long ee), .second, .val (.long el), .second, .val (.ref bl), .val (.ref bx), .val (.int (own_max (0 : Int32) p2)), .val (.int xH)] [(.int pe)])) _
        exact k
      by_cases t334_1 : (0 : Int32) < pe
      · skip
        have pre110 : ∀ t, Steps p.tables e below (TH.setTop (mkF m 340 #[.val (.int p0), .val (.int p1), .val (.int p2), .val (.int p3), .val (.int p4), .val (.int p5), .val (.int u1_0), .val (.int u2_0), .val (.int u3_0), .val (.int u4_0), .val (.int u5_0), .val (.int u6_0), .val (.int pa), .val (.int pl), .val (.int ps), .val (.int pe), .val (.long ea), .second, .val (.long ee), .second, .val (.long el), .second, .val (.ref bl), .val (.ref bx), .val (.int (own_max (0 : Int32) p2)), .val (.int (1 : Int32))] [])) t → Steps p.tables e below (s₁.setTop (entryFrame m #[(.int p0), (.int p1), (.int p2), (.int p3), (.int p4), (.int p5)] maxLocals)) t := by
          intro t k
          refine pre109 t ?_
          refine XS.ifNo XH.here hx rfl (hb hby at_334) rfl ((if0 _ _).trans (tlt t334_1).2.2.2) ?_
          show Steps p.tables e below (TH.setTop (mkF m 337 #[.val (.int p0), .val (.int p1), .val (.int p2), .val (.int p3), .val (.int p4), .val (.int p5), .val (.int u1_0), .val (.int u2_0), .val (.int u3_0), .val (.int u4_0), .val (.int u5_0), .val (.int u6_0), .val (.int pa), .val (.int pl), .val (.int ps), .val (.int pe), .val (.long ea), .second, .val (.long ee), .second, .val (.long el), .second, .val (.ref bl), .val (.ref bx), .val (.int (own_max (0 : Int32) p2)), .val (.int xH)] [])) _
          refine XS.iconst XH.here hx rfl (hb hby at_337) ?_
          show Steps p.tables e below (TH.setTop (mkF m 338 #[.val (.int p0), .val (.int p1), .val (.int p2), .val (.int p3), .val (.int p4), .val (.int p5), .val (.int u1_0), .val (.int u2_0), .val (.int u3_0), .val (.int u4_0), .val (.int u5_0), .val (.int u6_0), .val (.int pa), .val (.int pl), .val (.int ps), .val (.int pe), .val (.long ea), .second, .val (.long ee), .second, .val (.long el), .second, .val (.ref bl), .val (.ref bx), .val (.int (own_max (0 : Int32) p2)), .val (.int xH)] [(.int (1 : Int32))])) _
          refine XS.istore XH.here hx rfl (hb hby at_338) rfl (l' := #[.val (.int p0), .val (.int p1), .val (.int p2), .val (.int p3), .val (.int p4), .val (.int p5), .val (.int u1_0), .val (.int u2_0), .val (.int u3_0), .val (.int u4_0), .val (.int u5_0), .val (.int u6_0), .val (.int pa), .val (.int pl), .val (.int ps), .val (.int pe), .val (.long ea), .second, .val (.long ee), .second, .val (.long el), .second, .val (.ref bl), .val (.ref bx), .val (.int (own_max (0 : Int32) p2)), .val (.int (1 : Int32))]) rfl ?_
          show Steps p.tables e below (TH.setTop (mkF m 340 #[.val (.int p0), .val (.int p1), .val (.int p2), .val (.int p3), .val (.int p4), .val (.int p5), .val (.int u1_0), .val (.int u2_0), .val (.int u3_0), .val (.int u4_0), .val (.int u5_0), .val (.int u6_0), .val (.int pa), .val (.int pl), .val (.int ps), .val (.int pe), .val (.long ea), .second, .val (.long ee), .second, .val (.long el), .second, .val (.ref bl), .val (.ref bx), .val (.int (own_max (0 : Int32) p2)), .val (.int (1 : Int32))] [])) _
          exact k
        exact ⟨TH, _, hH, _, _, (1 : Int32), XH, eH, NH, ZH, (by omega), (by omega), by simp [own_one hz5 t329_0, t334_1, qH], E1H, F0H, F1H, F2H, F3H, F4H, F5H, pre110⟩
      · skip
        have pre111 : ∀ t, Steps p.tables e below (TH.setTop (mkF m 340 #[.val (.int p0), .val (.int p1), .val (.int p2), .val (.int p3), .val (.int p4), .val (.int p5), .val (.int u1_0), .val (.int u2_0), .val (.int u3_0), .val (.int u4_0), .val (.int u5_0), .val (.int u6_0), .val (.int pa), .val (.int pl), .val (.int ps), .val (.int pe), .val (.long ea), .second, .val (.long ee), .second, .val (.long el), .second, .val (.ref bl), .val (.ref bx), .val (.int (own_max (0 : Int32) p2)), .val (.int xH)] [])) t → Steps p.tables e below (s₁.setTop (entryFrame m #[(.int p0), (.int p1), (.int p2), (.int p3), (.int p4), (.int p5)] maxLocals)) t := by
          intro t k
          refine pre109 t ?_
          refine XS.ifYes XH.here hx rfl (pc0 := 334) (pc' := 340) rfl (hb hby at_334) rfl ((if0 _ _).trans (flt t334_1).2.2.2) (by decide) (by decide) ?_
          show Steps p.tables e below (TH.setTop (mkF m 340 #[.val (.int p0), .val (.int p1), .val (.int p2), .val (.int p3), .val (.int p4), .val (.int p5), .val (.int u1_0), .val (.int u2_0), .val (.int u3_0), .val (.int u4_0), .val (.int u5_0), .val (.int u6_0), .val (.int pa), .val (.int pl), .val (.int ps), .val (.int pe), .val (.long ea), .second, .val (.long ee), .second, .val (.long el), .second, .val (.ref bl), .val (.ref bx), .val (.int (own_max (0 : Int32) p2)), .val (.int xH)] [])) _
          exact k
        exact ⟨TH, _, hH, _, _, xH, XH, eH, NH, ZH, (by omega), (by omega), by simp [own_one hz5 t329_0, t334_1, qH], E1H, F0H, F1H, F2H, F3H, F4H, F5H, pre111⟩
  obtain ⟨cq112, kq112, q112a, q112b, q112c⟩ := isOf hZ eI E1I
  obtain ⟨_, _, ⟨T112, L112, k112, n112⟩, -, X112, ⟨Lc112, hQ112, l112, y112, z112⟩, st112⟩ := XI.virtualBack hx (y := (⟨"com/example/kiseki/kiseki/tracing/DroppedItems", "droppedPastLimits", "()Z"⟩ : MethodName)) (z := (⟨"com/example/kiseki/kiseki/tracing/DroppedItems", "droppedPastLimits", "()Z"⟩ : MethodName)) hown (mvT hZ (hw _ (List.mem_of_getElem? (i := 132) rfl))) (mvT hZ (hw _ (List.mem_of_getElem? (i := 133) rfl))) (notFace_of_selects (args := #[]) (mvT hZ (hw _ (List.mem_of_getElem? (i := 135) rfl)))) (mvT hZ (hw _ (List.mem_of_getElem? (i := 135) rfl))) (mvT hZ (hw _ (List.mem_of_getElem? (i := 134) rfl))) (by decide) (backOf (W := 0) (rmDP l Z a0 hw [] bx va vs ve vl vv vk hI n0 ZI F0I F1I F2I F3I F4I F5I) hZ (hw _ (List.mem_of_getElem? (i := 136) rfl)) (hw _ (List.mem_of_getElem? (i := 80) rfl)) (by decide) (by decide)) q112a q112c (g := (mkF m 342 #[.val (.int p0), .val (.int p1), .val (.int p2), .val (.int p3), .val (.int p4), .val (.int p5), .val (.int u1_0), .val (.int u2_0), .val (.int u3_0), .val (.int u4_0), .val (.int u5_0), .val (.int u6_0), .val (.int pa), .val (.int pl), .val (.int ps), .val (.int pe), .val (.long ea), .second, .val (.long ee), .second, .val (.long el), .second, .val (.ref bl), .val (.ref bx), .val (.int (own_max (0 : Int32) p2)), .val (.int xI)] [(.ref bx)])) rfl (by rw [hml]; rfl) (Steps.refl _) (argsL := []) (rest := []) (lenOf pd_14 rfl) rfl (by show 2 * 0 + _ ≤ _; exact Nat.le_of_eq rfl) (hb hby at_342) (fun _ _ => ⟨rfl, eI, (by show cI + 0 ≤ 16; omega), (by show lI + 0 ≤ 128; omega)⟩)
  dsimp only [Pt.U, Pt.locs, Pt.cells, Pt.slots] at X112 l112 y112 z112 st112 hQ112
  subst l112 y112 z112
  obtain ⟨rfl, N112q, hq112⟩ := hQ112
  have N112 := Fr.app NI N112q
  have pre113 : ∀ t, Steps p.tables e below (T112.setTop (mkF m 355 #[.val (.int p0), .val (.int p1), .val (.int p2), .val (.int p3), .val (.int p4), .val (.int p5), .val (.int u1_0), .val (.int u2_0), .val (.int u3_0), .val (.int u4_0), .val (.int u5_0), .val (.int u6_0), .val (.int pa), .val (.int pl), .val (.int ps), .val (.int pe), .val (.long ea), .second, .val (.long ee), .second, .val (.long el), .second, .val (.ref bl), .val (.ref bx), .val (.int (own_max (0 : Int32) p2)), .val (.int xI)] [(.int (1 : Int32))])) t → Steps p.tables e below (s₁.setTop (entryFrame m #[(.int p0), (.int p1), (.int p2), (.int p3), (.int p4), (.int p5)] maxLocals)) t := by
    intro t k
    refine preI t ?_
    show Steps p.tables e below (TI.setTop (mkF m 340 #[.val (.int p0), .val (.int p1), .val (.int p2), .val (.int p3), .val (.int p4), .val (.int p5), .val (.int u1_0), .val (.int u2_0), .val (.int u3_0), .val (.int u4_0), .val (.int u5_0), .val (.int u6_0), .val (.int pa), .val (.int pl), .val (.int ps), .val (.int pe), .val (.long ea), .second, .val (.long ee), .second, .val (.long el), .second, .val (.ref bl), .val (.ref bx), .val (.int (own_max (0 : Int32) p2)), .val (.int xI)] [])) _
    refine XS.aload XI.here hx rfl (hb hby at_340) rfl (rfl) ?_
    show Steps p.tables e below (TI.setTop (mkF m 342 #[.val (.int p0), .val (.int p1), .val (.int p2), .val (.int p3), .val (.int p4), .val (.int p5), .val (.int u1_0), .val (.int u2_0), .val (.int u3_0), .val (.int u4_0), .val (.int u5_0), .val (.int u6_0), .val (.int pa), .val (.int pl), .val (.int ps), .val (.int pe), .val (.long ea), .second, .val (.long ee), .second, .val (.long el), .second, .val (.ref bl), .val (.ref bx), .val (.int (own_max (0 : Int32) p2)), .val (.int xI)] [(.ref bx)])) _
    refine st112.trans ?_
    show Steps p.tables e below (T112.setTop (mkF m 345 #[.val (.int p0), .val (.int p1), .val (.int p2), .val (.int p3), .val (.int p4), .val (.int p5), .val (.int u1_0), .val (.int u2_0), .val (.int u3_0), .val (.int u4_0), .val (.int u5_0), .val (.int u6_0), .val (.int pa), .val (.int pl), .val (.int ps), .val (.int pe), .val (.long ea), .second, .val (.long ee), .second, .val (.long el), .second, .val (.ref bl), .val (.ref bx), .val (.int (own_max (0 : Int32) p2)), .val (.int xI)] [(.int (own_dp va vs ve vl vv vk))])) _
    refine XS.iload X112.here hx rfl (hb hby at_345) rfl ?_
    show Steps p.tables e below (T112.setTop (mkF m 347 #[.val (.int p0), .val (.int p1), .val (.int p2), .val (.int p3), .val (.int p4), .val (.int p5), .val (.int u1_0), .val (.int u2_0), .val (.int u3_0), .val (.int u4_0), .val (.int u5_0), .val (.int u6_0), .val (.int pa), .val (.int pl), .val (.int ps), .val (.int pe), .val (.long ea), .second, .val (.long ee), .second, .val (.long el), .second, .val (.ref bl), .val (.ref bx), .val (.int (own_max (0 : Int32) p2)), .val (.int xI)] [(.int xI), (.int (own_dp va vs ve vl vv vk))])) _
    refine XS.icmpNo X112.here hx rfl (hb hby at_347) rfl (teq (own_fin fA fB fC fY qI)).2 ?_
    show Steps p.tables e below (T112.setTop (mkF m 350 #[.val (.int p0), .val (.int p1), .val (.int p2), .val (.int p3), .val (.int p4), .val (.int p5), .val (.int u1_0), .val (.int u2_0), .val (.int u3_0), .val (.int u4_0), .val (.int u5_0), .val (.int u6_0), .val (.int pa), .val (.int pl), .val (.int ps), .val (.int pe), .val (.long ea), .second, .val (.long ee), .second, .val (.long el), .second, .val (.ref bl), .val (.ref bx), .val (.int (own_max (0 : Int32) p2)), .val (.int xI)] [])) _
    refine XS.iconst X112.here hx rfl (hb hby at_350) ?_
    show Steps p.tables e below (T112.setTop (mkF m 351 #[.val (.int p0), .val (.int p1), .val (.int p2), .val (.int p3), .val (.int p4), .val (.int p5), .val (.int u1_0), .val (.int u2_0), .val (.int u3_0), .val (.int u4_0), .val (.int u5_0), .val (.int u6_0), .val (.int pa), .val (.int pl), .val (.int ps), .val (.int pe), .val (.long ea), .second, .val (.long ee), .second, .val (.long el), .second, .val (.ref bl), .val (.ref bx), .val (.int (own_max (0 : Int32) p2)), .val (.int xI)] [(.int (1 : Int32))])) _
    refine XS.goto X112.here hx rfl (pc0 := 351) (pc' := 355) rfl (hb hby at_351) (by decide) (by decide) ?_
    show Steps p.tables e below (T112.setTop (mkF m 355 #[.val (.int p0), .val (.int p1), .val (.int p2), .val (.int p3), .val (.int p4), .val (.int p5), .val (.int u1_0), .val (.int u2_0), .val (.int u3_0), .val (.int u4_0), .val (.int u5_0), .val (.int u6_0), .val (.int pa), .val (.int pl), .val (.int ps), .val (.int pe), .val (.long ea), .second, .val (.long ee), .second, .val (.long el), .second, .val (.ref bl), .val (.ref bx), .val (.int (own_max (0 : Int32) p2)), .val (.int xI)] [(.int (1 : Int32))])) _
    exact k
  obtain ⟨fs, hr, hrun, hended, hW, hsame⟩ := X112.leave (v := some (.int (1 : Int32))) (fun h => by rw [Bd.returns] at h; cases h)
  refine ⟨_, _, pre113 _ ?_, hrun, hended, _, _, rfl, ?_, ⟨_, rfl⟩, hW, hsame.mono (by show _ ≤ 16; omega) (by show _ ≤ 128; omega)⟩
  · exact retN X112 hx (t := .boolean) Bd.returns (by simp) (hb hby at_355) hr
  · show Q_rm0 Z p0 p1 p2 p3 p4 p5 aD cD aI aE h0 n0 _ T112.heap _
    rw [hq112]
    exact ⟨rfl, N112⟩
theorem own_eqI {t : Term} {k : Int32} {args : Array Value} {s : State} (h : (Jvm.Cond.eq t (.int k)).value args s none s [] = some true) : t.eval args s none [] s = some (.int k) := by
  simp only [Cond.value, Term.eval] at h
  cases ht : t.eval args s none [] s with
  | none => simp [ht] at h
  | some x => cases x <;> simp [ht] at h ⊢; exact h
theorem own_eqJ {t : Term} {k : Int64} {args : Array Value} {s : State} (h : (Jvm.Cond.eq t (.long k)).value args s none s [] = some true) : t.eval args s none [] s = some (.long k) := by
  simp only [Cond.value, Term.eval] at h
  cases ht : t.eval args s none [] s with
  | none => simp [ht] at h
  | some x => cases x <;> simp [ht] at h ⊢; exact h
set_option maxRecDepth 65536 in
set_option maxHeartbeats 40000000 in
theorem comes_1 {Post : Tables → Env → Array Value → State → Outcome → State → Prop} (hpost : ∀ tb e args s v u, (limb_1_1.after args s (.returned v) u = true ∧ limb_1_2.after args s (.returned v) u = true ∧ True) → FrameEnd s (.returned v) u (Jvm.fieldLocs frame_1_writes args s ++ Jvm.arrayLocs frame_1_arrays args s ++ Jvm.staticLocs frame_1_statics s) 16 128 → Post tb e args s (.returned v) u) :
    ArmFor flags0 classFile x code maxLocals ret World_1 tables_1 room_1 Calls_1 rest_1 Pre_1 Post := by
  intro l hfl _ _ p e ha hc hk s m args below hf hA hF happ hP
  obtain ⟨hcalls, hrest, hpre⟩ := hP
  obtain ⟨-, -, -, hnamed, -, -, -, hat⟩ := (Spec.applies_iff hf).mp happ
  obtain ⟨hg, hn⟩ := and_e (Cond.before_iff.mp (show (Jvm.Cond.and given_1 narrow_1).before args s = true from hpre))
  obtain ⟨g1, g2⟩ := and_e hg
  obtain ⟨g3, g4⟩ := and_e g2
  obtain ⟨g5, g6⟩ := and_e g4
  obtain ⟨g7, g8⟩ := and_e g6
  obtain ⟨g9, g10⟩ := and_e g8
  obtain ⟨g11, g12⟩ := and_e g10
  obtain ⟨g13, g14⟩ := and_e hn
  obtain ⟨w0, w1, w2, w3, w4, w5, rfl⟩ : ∃ w0 w1 w2 w3 w4 w5 : Value, args = #[w0, w1, w2, w3, w4, w5] := by
    have hs : args.size = 6 := by simpa [Cond.value, given_1] using g1
    obtain ⟨L⟩ := args
    match L, hs with
    | [w0, w1, w2, w3, w4, w5], _ => exact ⟨w0, w1, w2, w3, w4, w5, rfl⟩
  have hw := fun d (hd : d ∈ tables_1) => atoms_spec (ws := Jvm.Cond.code x code maxLocals ret :: tables_1) hat d (List.mem_cons_of_mem _ hd)
  obtain ⟨i0, ei0⟩ := is_v g3
  obtain rfl : w0 = (.int i0) := Option.some.inj ei0
  obtain ⟨i1, ei1⟩ := is_v g5
  obtain rfl : w1 = (.int i1) := Option.some.inj ei1
  obtain ⟨i2, ei2⟩ := is_v g7
  obtain rfl : w2 = (.int i2) := Option.some.inj ei2
  obtain ⟨i3, ei3⟩ := is_v g9
  obtain rfl : w3 = (.int i3) := Option.some.inj ei3
  obtain ⟨i4, ei4⟩ := is_v g11
  obtain rfl : w4 = (.int i4) := Option.some.inj ei4
  obtain ⟨i5, ei5⟩ := is_v g12
  obtain rfl : w5 = (.int i5) := Option.some.inj ei5
  obtain ⟨a_INVALID, ev_INVALID⟩ := exa_v g13
  have Ex_INVALID := Exa.start ev_INVALID g13
  have St_INVALID := Sta.start ev_INVALID (Or.inr ⟨(hw _ (List.mem_of_getElem? (i := 35) rfl)), (hw _ (List.mem_of_getElem? (i := 36) rfl))⟩)
  obtain ⟨a_EMPTY, ev_EMPTY⟩ := exa_v g14
  have Ex_EMPTY := Exa.start ev_EMPTY g14
  have St_EMPTY := Sta.start ev_EMPTY (Or.inr ⟨(hw _ (List.mem_of_getElem? (i := 40) rfl)), (hw _ (List.mem_of_getElem? (i := 41) rfl))⟩)
  obtain ⟨hsets, hown0⟩ := atoms_of _ (rest_1_c_eq ▸ (show rest_1_c.before _ s = true from hrest))
  have y6 := Cond.before_iff.mp (hsets _ (List.mem_of_getElem? (i := 6) rfl))
  have y8 := Cond.before_iff.mp (hsets _ (List.mem_of_getElem? (i := 8) rfl))
  obtain ⟨aD, evD⟩ := arr_v y6
  have StD := Sta.start evD (Or.inr ⟨(hw _ (List.mem_of_getElem? (i := 3) rfl)), hsets _ (List.mem_of_getElem? (i := 2) rfl)⟩)
  obtain ⟨cD, AD⟩ := Arr.start evD y6
  have SzD := own_len0 evD AD (own_eqI y8)
  obtain ⟨n, o, h1, h2, h3, _, L, rfl, ⟨rfl, N⟩, hq⟩ := rm0 l s _ hw tables_1 i0 i1 i2 i3 i4 i5 aD cD a_INVALID a_EMPTY s.heap s.heap.size (Nat.le_refl _) (Old.start s) StD St_INVALID St_EMPTY AD SzD p e ha hc hk s m _ below hf ((Spec.applies_iff_loose hf).mp happ).1 ⟨rfl, State.Warmed39.refl s, rfl⟩ trivial
  refine ⟨n, _, h1, h2, h3, hpost _ _ _ _ _ _ ⟨Cond.after_iff.mpr rfl, Cond.after_iff.mpr (eq_i res_at (Term.int_eval (1)) rfl), trivial⟩ ⟨hq.1, hq.2.1, (hq.2.2.sift fun y hy => Or.inr (N y hy)).mono (by decide) (by decide)⟩⟩
theorem main_1_1 : Claimed_1_1 := comes_1 fun _ _ _ _ _ _ h hF => ⟨h.1, hF⟩
theorem main_1_2 : Claimed_1_2 := comes_1 fun _ _ _ _ _ _ h hF => ⟨h.2.1, hF⟩
end Jvm.Pilot.@@N@@
namespace Jvm.Pilot.@@N@@
open Jvm Jvm.ClassFile Sem Op Lib Jvm.Free Jvm.Stand Jvm.Pilot.@@N@@.Jvm.D
/-! MADE BY PROGRAM (witnessworld.py) out of the Statement's table words and the real class files: 24 classes; the members and pool entries that the words name. The judged class is class 1, her method 1. -/
namespace start1
open Jvm.ClassFile
def u (s : String) : CpInfo := .utf8 (stringToUtf16 s)
/-- a pool by its gaps: so many unusable entries, then the entry; so many at the end -/
def gap : Nat → List CpInfo → List CpInfo
  | 0, r => r
  | n + 1, r => .unusable :: gap n r
def poolList (es : List (Nat × CpInfo)) (last : Nat) : List CpInfo := es.foldr (fun e r => gap e.1 (e.2 :: r)) (gap last [])
def pool (es : List (Nat × CpInfo)) (last : Nat) : Array CpInfo := ⟨poolList es last⟩
def fileOf (pool : Array CpInfo) (this : Nat) (attrs : Array Attribute := #[]) (ms : Array MethodInfo := #[]) (fl : Nat := 33) (sup : Nat := 0) (ifs : Array Nat := #[]) (fds : Array FieldInfo := #[]) : ClassFile where
  minorVersion := 0
  majorVersion := 65
  constantPool := pool
  accessFlags := fl
  thisClass := this
  superClass := sup
  interfaces := ifs
  fields := fds
  methods := ms
  attributes := attrs
def plain (name : String) (sup : Option ClassId) : Class where
  name := name
  kind := .ordinary
  loader := none
  accessFlags := 33
  super := sup
  interfaces := #[]
  cf := none
  fields := #[]
  methods := #[]
  instanceTypes := #[]
  staticTypes := #[]
  resolved := #[]
  callSites := []
  init := .initialized
  statics := none
  mirror := none

def pool0 : Array CpInfo := pool [(5, u "<init>"), (0, u "()V"), (1, .class_ 10), (1, u "java/lang/Object")] 113

def k0c0 : Code := { maxStack := 0, maxLocals := 1, code := object_method_1_code, exceptionTable := #[], attributes := #[] }
def k0m0 : Method := { name := "<init>", desc := "()V", sig := { parameters := [], returnType := none }, accessFlags := 1, code := some k0c0 }
/-- java/lang/Object -/
def k0 : Class := { plain "java/lang/Object" none with
  accessFlags := 33
  interfaces := #[]
  cf := some (fileOf pool0 8 #[] #[{ accessFlags := 1, nameIndex := 5, descriptorIndex := 6, attributes := #[] }] 33 0 #[] #[])
  fields := #[]
  methods := #[k0m0]
  instanceTypes := #[]
  staticTypes := #[]
  resolved := Array.replicate 124 none
  statics := none }

def pool1 : Array CpInfo := pool [(2, .class_ 4), (0, .nameAndType 5 6), (0, u "java/lang/Object"), (0, u "<init>"), (0, u "()V"), (0, .integer 2147483647), (0, .class_ 9), (0, u "java/util/ArrayList"), (0, .methodref 8 3), (0, .class_ 12), (0, u "com/example/kiseki/kiseki/span/LinkData"), (0, .methodref 11 14), (0, .nameAndType 5 15), (0, u "(Lcom/example/kiseki/kiseki/span/SpanContext;Lcom/example/kiseki/kiseki/span/Attributes;I)V"), (0, .methodref 8 17), (0, .nameAndType 18 19), (0, u "add"), (0, u "(Ljava/lang/Object;)Z"), (0, .methodref 21 22), (0, .class_ 23), (0, .nameAndType 24 25), (0, u "com/example/kiseki/kiseki/tracing/DroppedItems"), (0, u "atStart"), (0, u "(IILjava/util/List;)Lcom/example/kiseki/kiseki/tracing/DroppedItems;"), (0, .methodref 21 3), (0, .methodref 21 28), (0, .nameAndType 29 30), (0, u "setAttributesDroppedSinceStart"), (0, u "(I)V"), (0, .methodref 21 32), (0, .nameAndType 33 6), (0, u "countEvent"), (0, .methodref 21 35), (0, .nameAndType 36 30), (0, u "countEventAttributes"), (0, .methodref 21 38), (0, .nameAndType 39 40), (0, u "withDroppedElsewhere"), (0, u "(Lcom/example/kiseki/kiseki/tracing/DroppedItems;JJJ)Lcom/example/kiseki/kiseki/tracing/DroppedItems;"), (0, .methodref 42 43), (0, .class_ 44), (0, .nameAndType 45 46), (0, u "java/lang/Math"), (0, u "max"), (0, u "(II)I"), (0, .methodref 21 48), (0, .nameAndType 49 50), (0, u "droppedPastLimits"), (0, u "()Z"), (0, .class_ 52), (0, u "com/example/kiseki/kiseki/tracing/DroppedItemsDroppedPastLimitsPinLaw"), (2, u "law"), (0, u "(IIIIII)Z")] 3

def k1m0 : Method := { name := "<init>", desc := "()V", sig := { parameters := [], returnType := none }, accessFlags := 1, code := none }
def k1c1 : Code := { maxStack := 7, maxLocals := 26, code := code, exceptionTable := #[], attributes := #[] }
def k1m1 : Method := { name := "law", desc := "(IIIIII)Z", sig := { parameters := [.int, .int, .int, .int, .int, .int], returnType := some .boolean }, accessFlags := 9, code := some k1c1 }
/-- com/example/kiseki/kiseki/tracing/DroppedItemsDroppedPastLimitsPinLaw -/
def k1 : Class := { plain "com/example/kiseki/kiseki/tracing/DroppedItemsDroppedPastLimitsPinLaw" (some 0) with
  accessFlags := 49
  interfaces := #[]
  cf := some (fileOf pool1 51 #[] #[{ accessFlags := 1, nameIndex := 5, descriptorIndex := 6, attributes := #[] }, { accessFlags := 9, nameIndex := 55, descriptorIndex := 56, attributes := #[] }] 49 2 #[] #[])
  fields := #[]
  methods := #[k1m0, k1m1]
  instanceTypes := #[]
  staticTypes := #[]
  resolved := Array.replicate 60 none
  statics := none }

def pool2 : Array CpInfo := pool [(8, .class_ 10), (1, u "java/lang/Iterable"), (24, .class_ 36), (0, u "java/lang/Object")] 25

/-- java/lang/Iterable -/
def k2 : Class := { plain "java/lang/Iterable" (some 0) with
  accessFlags := 1537
  interfaces := #[]
  cf := some (fileOf pool2 8 #[] #[] 1537 35 #[] #[])
  fields := #[]
  methods := #[]
  instanceTypes := #[]
  staticTypes := #[]
  resolved := Array.replicate 62 none
  statics := none }

def pool3 : Array CpInfo := pool [(10, .class_ 12), (1, u "java/util/Collection"), (47, .class_ 61), (0, u "java/lang/Object"), (0, .class_ 63), (0, u "java/lang/Iterable")] 51

/-- java/util/Collection -/
def k3 : Class := { plain "java/util/Collection" (some 0) with
  accessFlags := 1537
  interfaces := #[2]
  cf := some (fileOf pool3 10 #[] #[] 1537 60 #[62] #[])
  fields := #[]
  methods := #[]
  instanceTypes := #[]
  staticTypes := #[]
  resolved := Array.replicate 115 none
  statics := none }

def pool4 : Array CpInfo := pool [(1, .methodref 2 3), (0, .class_ 4), (0, .nameAndType 5 6), (0, u "java/lang/Object"), (0, u "<init>"), (0, u "()V"), (1, .class_ 10), (1, u "java/util/AbstractCollection"), (66, .class_ 78), (0, u "java/util/Collection")] 81

def k4c0 : Code := { maxStack := 1, maxLocals := 1, code := jdk_22_method_1_code, exceptionTable := #[], attributes := #[] }
def k4m0 : Method := { name := "<init>", desc := "()V", sig := { parameters := [], returnType := none }, accessFlags := 4, code := some k4c0 }
/-- java/util/AbstractCollection -/
def k4 : Class := { plain "java/util/AbstractCollection" (some 0) with
  accessFlags := 1057
  interfaces := #[3]
  cf := some (fileOf pool4 8 #[] #[{ accessFlags := 4, nameIndex := 5, descriptorIndex := 6, attributes := #[] }] 1057 2 #[77] #[])
  fields := #[]
  methods := #[k4m0]
  instanceTypes := #[]
  staticTypes := #[]
  resolved := Array.replicate 160 none
  statics := none }

def pool5 : Array CpInfo := pool [(8, .class_ 10), (1, u "java/util/SequencedCollection"), (15, .class_ 27), (0, u "java/lang/Object"), (0, .class_ 29), (0, u "java/util/Collection")] 27

/-- java/util/SequencedCollection -/
def k5 : Class := { plain "java/util/SequencedCollection" (some 0) with
  accessFlags := 1537
  interfaces := #[3]
  cf := some (fileOf pool5 8 #[] #[] 1537 26 #[28] #[])
  fields := #[]
  methods := #[]
  instanceTypes := #[]
  staticTypes := #[]
  resolved := Array.replicate 57 none
  statics := none }

def pool6 : Array CpInfo := pool [(8, .class_ 10), (1, u "java/util/List"), (64, u "get"), (0, u "(I)Ljava/lang/Object;"), (2, u "size"), (0, u "()I"), (22, .class_ 104), (0, u "java/lang/Object"), (15, .class_ 121), (0, u "java/util/SequencedCollection")] 129

def k6m0 : Method := { name := "size", desc := "()I", sig := { parameters := [], returnType := some .int }, accessFlags := 1025, code := none }
def k6m1 : Method := { name := "get", desc := "(I)Ljava/lang/Object;", sig := { parameters := [.int], returnType := some (.object "java/lang/Object") }, accessFlags := 1025, code := none }
/-- java/util/List -/
def k6 : Class := { plain "java/util/List" (some 0) with
  accessFlags := 1537
  interfaces := #[5]
  cf := some (fileOf pool6 8 #[] #[{ accessFlags := 1025, nameIndex := 79, descriptorIndex := 80, attributes := #[] }, { accessFlags := 1025, nameIndex := 75, descriptorIndex := 76, attributes := #[] }] 1537 103 #[120] #[])
  fields := #[]
  methods := #[k6m0, k6m1]
  instanceTypes := #[]
  staticTypes := #[]
  resolved := Array.replicate 251 none
  statics := none }

def pool7 : Array CpInfo := pool [(1, .methodref 2 3), (0, .class_ 4), (0, .nameAndType 5 6), (0, u "java/util/AbstractCollection"), (0, u "<init>"), (0, u "()V"), (0, .fieldref 8 9), (0, .class_ 10), (0, .nameAndType 11 12), (0, u "java/util/AbstractList"), (0, u "modCount"), (0, u "I"), (64, .class_ 78), (0, u "java/util/AbstractList$Itr"), (3, .class_ 83), (0, u "java/util/AbstractList$ListItr"), (9, .class_ 94), (0, u "java/util/AbstractList$RandomAccessSubList"), (3, .class_ 99), (0, u "java/util/AbstractList$SubList"), (33, .class_ 134), (0, u "java/util/List"), (73, .class_ 209), (0, u "java/util/AbstractList$SubList$1"), (0, .class_ 211), (0, u "java/util/AbstractList$RandomAccessSpliterator")] 6

def k7c0 : Code := { maxStack := 2, maxLocals := 1, code := jdk_39_method_1_code, exceptionTable := #[], attributes := #[] }
def k7m0 : Method := { name := "<init>", desc := "()V", sig := { parameters := [], returnType := none }, accessFlags := 4, code := some k7c0 }
/-- java/util/AbstractList -/
def k7 : Class := { plain "java/util/AbstractList" (some 4) with
  accessFlags := 1057
  interfaces := #[6]
  cf := some (fileOf pool7 8 #[.nestMembers #[93, 98, 208, 210, 82, 77]] #[{ accessFlags := 4, nameIndex := 5, descriptorIndex := 6, attributes := #[] }] 1057 2 #[133] #[{ accessFlags := 132, nameIndex := 11, descriptorIndex := 12, attributes := #[] }])
  fields := #[{ name := "modCount", type := .int, accessFlags := 132, slot := 0, constantValue := 0 }]
  methods := #[k7m0]
  instanceTypes := #[.int]
  staticTypes := #[]
  resolved := Array.replicate 218 none
  statics := none }

def pool8 : Array CpInfo := pool [(1, .class_ 2), (0, u "java/util/RandomAccess"), (0, .class_ 4), (0, u "java/lang/Object")] 2

/-- java/util/RandomAccess -/
def k8 : Class := { plain "java/util/RandomAccess" (some 0) with
  accessFlags := 1537
  interfaces := #[]
  cf := some (fileOf pool8 1 #[] #[] 1537 3 #[] #[])
  fields := #[]
  methods := #[]
  instanceTypes := #[]
  staticTypes := #[]
  resolved := Array.replicate 7 none
  statics := none }

def pool9 : Array CpInfo := pool [(1, .class_ 2), (0, u "java/lang/Cloneable"), (0, .class_ 4), (0, u "java/lang/Object")] 2

/-- java/lang/Cloneable -/
def k9 : Class := { plain "java/lang/Cloneable" (some 0) with
  accessFlags := 1537
  interfaces := #[]
  cf := some (fileOf pool9 1 #[] #[] 1537 3 #[] #[])
  fields := #[]
  methods := #[]
  instanceTypes := #[]
  staticTypes := #[]
  resolved := Array.replicate 7 none
  statics := none }

def pool10 : Array CpInfo := pool [(1, .class_ 2), (0, u "java/io/Serializable"), (0, .class_ 4), (0, u "java/lang/Object")] 2

/-- java/io/Serializable -/
def k10 : Class := { plain "java/io/Serializable" (some 0) with
  accessFlags := 1537
  interfaces := #[]
  cf := some (fileOf pool10 1 #[] #[] 1537 3 #[] #[])
  fields := #[]
  methods := #[]
  instanceTypes := #[]
  staticTypes := #[]
  resolved := Array.replicate 7 none
  statics := none }

def pool11 : Array CpInfo := pool [(1, .methodref 2 3), (0, .class_ 4), (0, .nameAndType 5 6), (0, u "java/util/AbstractList"), (0, u "<init>"), (0, u "()V"), (0, .class_ 8), (0, u "java/lang/Object"), (0, .fieldref 10 11), (0, .class_ 12), (0, .nameAndType 13 14), (0, u "java/util/ArrayList"), (0, u "elementData"), (0, u "[Ljava/lang/Object;"), (2, u "EMPTY_ELEMENTDATA"), (21, .fieldref 10 40), (0, .nameAndType 41 14), (0, u "DEFAULTCAPACITY_EMPTY_ELEMENTDATA"), (5, u "()[Ljava/lang/Object;"), (0, .fieldref 10 49), (0, .nameAndType 50 51), (0, u "size"), (0, u "I"), (11, .fieldref 10 64), (0, .nameAndType 65 51), (0, u "modCount"), (3, .methodref 10 70), (0, .nameAndType 71 72), (0, u "grow"), (0, u "(I)[Ljava/lang/Object;"), (6, .methodref 80 81), (0, .class_ 82), (0, .nameAndType 83 84), (0, u "java/lang/Math"), (0, u "max"), (0, u "(II)I"), (11, u "(Ljava/lang/Object;)Z"), (21, .methodref 119 120), (0, .class_ 121), (0, .nameAndType 122 84), (0, u "java/util/Objects"), (0, u "checkIndex"), (0, .methodref 10 124), (0, .nameAndType 13 125), (0, u "(I)Ljava/lang/Object;"), (3, .methodref 10 130), (0, .nameAndType 71 47), (0, .methodref 10 132), (0, .nameAndType 133 134), (0, u "add"), (0, u "(Ljava/lang/Object;[Ljava/lang/Object;I)V"), (13, .class_ 149), (0, u "java/util/List"), (36, u "()I"), (75, .class_ 263), (0, u "java/util/ArrayList$ListItr"), (3, .class_ 268), (0, u "java/util/ArrayList$Itr"), (7, .class_ 277), (0, u "java/util/ArrayList$SubList"), (12, .class_ 291), (0, u "java/util/ArrayList$ArrayListSpliterator"), (37, .class_ 330), (0, u "java/util/RandomAccess"), (0, .class_ 332), (0, u "java/lang/Cloneable"), (0, .class_ 334), (0, u "java/io/Serializable"), (0, u "serialVersionUID"), (0, u "J"), (3, u "DEFAULT_CAPACITY"), (40, u "get"), (118, .class_ 501), (0, u "java/util/ArrayList$SubList$2"), (0, .class_ 503), (0, u "java/util/ArrayList$SubList$1")] 5

def k11c0 : Code := { maxStack := 2, maxLocals := 1, code := jdk_38_method_2_code, exceptionTable := #[], attributes := #[] }
def k11m0 : Method := { name := "<init>", desc := "()V", sig := { parameters := [], returnType := none }, accessFlags := 1, code := some k11c0 }
def k11c1 : Code := { maxStack := 4, maxLocals := 4, code := jdk_38_method_6_code, exceptionTable := #[], attributes := #[] }
def k11m1 : Method := { name := "grow", desc := "(I)[Ljava/lang/Object;", sig := { parameters := [.int], returnType := some (.array (.object "java/lang/Object")) }, accessFlags := 2, code := some k11c1 }
def k11c2 : Code := { maxStack := 3, maxLocals := 1, code := jdk_38_method_7_code, exceptionTable := #[], attributes := #[] }
def k11m2 : Method := { name := "grow", desc := "()[Ljava/lang/Object;", sig := { parameters := [], returnType := some (.array (.object "java/lang/Object")) }, accessFlags := 2, code := some k11c2 }
def k11c3 : Code := { maxStack := 1, maxLocals := 1, code := jdk_38_method_8_code, exceptionTable := #[], attributes := #[] }
def k11m3 : Method := { name := "size", desc := "()I", sig := { parameters := [], returnType := some .int }, accessFlags := 1, code := some k11c3 }
def k11c4 : Code := { maxStack := 2, maxLocals := 2, code := jdk_38_method_18_code, exceptionTable := #[], attributes := #[] }
def k11m4 : Method := { name := "elementData", desc := "(I)Ljava/lang/Object;", sig := { parameters := [.int], returnType := some (.object "java/lang/Object") }, accessFlags := 0, code := some k11c4 }
def k11c5 : Code := { maxStack := 2, maxLocals := 2, code := jdk_38_method_20_code, exceptionTable := #[], attributes := #[] }
def k11m5 : Method := { name := "get", desc := "(I)Ljava/lang/Object;", sig := { parameters := [.int], returnType := some (.object "java/lang/Object") }, accessFlags := 1, code := some k11c5 }
def k11c6 : Code := { maxStack := 3, maxLocals := 4, code := jdk_38_method_24_code, exceptionTable := #[], attributes := #[] }
def k11m6 : Method := { name := "add", desc := "(Ljava/lang/Object;[Ljava/lang/Object;I)V", sig := { parameters := [(.object "java/lang/Object"), (.array (.object "java/lang/Object")), .int], returnType := none }, accessFlags := 2, code := some k11c6 }
def k11c7 : Code := { maxStack := 4, maxLocals := 2, code := jdk_38_method_25_code, exceptionTable := #[], attributes := #[] }
def k11m7 : Method := { name := "add", desc := "(Ljava/lang/Object;)Z", sig := { parameters := [(.object "java/lang/Object")], returnType := some .boolean }, accessFlags := 1, code := some k11c7 }
/-- java/util/ArrayList -/
def k11 : Class := { plain "java/util/ArrayList" (some 7) with
  accessFlags := 33
  interfaces := #[6, 8, 9, 10]
  cf := some (fileOf pool11 10 #[.nestMembers #[290, 276, 500, 502, 262, 267]] #[{ accessFlags := 1, nameIndex := 5, descriptorIndex := 6, attributes := #[] }, { accessFlags := 2, nameIndex := 71, descriptorIndex := 72, attributes := #[] }, { accessFlags := 2, nameIndex := 71, descriptorIndex := 47, attributes := #[] }, { accessFlags := 1, nameIndex := 50, descriptorIndex := 186, attributes := #[] }, { accessFlags := 0, nameIndex := 13, descriptorIndex := 125, attributes := #[] }, { accessFlags := 1, nameIndex := 381, descriptorIndex := 125, attributes := #[] }, { accessFlags := 2, nameIndex := 133, descriptorIndex := 134, attributes := #[] }, { accessFlags := 1, nameIndex := 133, descriptorIndex := 96, attributes := #[] }] 33 2 #[148, 329, 331, 333] #[{ accessFlags := 26, nameIndex := 335, descriptorIndex := 336, attributes := #[] }, { accessFlags := 26, nameIndex := 340, descriptorIndex := 51, attributes := #[] }, { accessFlags := 26, nameIndex := 17, descriptorIndex := 14, attributes := #[] }, { accessFlags := 26, nameIndex := 41, descriptorIndex := 14, attributes := #[] }, { accessFlags := 128, nameIndex := 13, descriptorIndex := 14, attributes := #[] }, { accessFlags := 2, nameIndex := 50, descriptorIndex := 51, attributes := #[] }])
  fields := #[{ name := "serialVersionUID", type := .long, accessFlags := 26, slot := 0, constantValue := 0 }, { name := "DEFAULT_CAPACITY", type := .int, accessFlags := 26, slot := 1, constantValue := 0 }, { name := "EMPTY_ELEMENTDATA", type := (.array (.object "java/lang/Object")), accessFlags := 26, slot := 2, constantValue := 0 }, { name := "DEFAULTCAPACITY_EMPTY_ELEMENTDATA", type := (.array (.object "java/lang/Object")), accessFlags := 26, slot := 3, constantValue := 0 }, { name := "elementData", type := (.array (.object "java/lang/Object")), accessFlags := 128, slot := 1, constantValue := 0 }, { name := "size", type := .int, accessFlags := 2, slot := 2, constantValue := 0 }]
  methods := #[k11m0, k11m1, k11m2, k11m3, k11m4, k11m5, k11m6, k11m7]
  instanceTypes := #[.int, (.array (.object "java/lang/Object")), .int]
  staticTypes := #[.long, .int, (.array (.object "java/lang/Object")), (.array (.object "java/lang/Object"))]
  resolved := Array.replicate 509 none
  statics := some 0 }

def pool12 : Array CpInfo := pool [(2, .class_ 4), (1, u "com/example/kiseki/kiseki/span/LinkData"), (0, u "<init>"), (0, u "(Lcom/example/kiseki/kiseki/span/SpanContext;Lcom/example/kiseki/kiseki/span/Attributes;I)V"), (0, .methodref 8 9), (0, .class_ 10), (0, .nameAndType 5 11), (0, u "java/lang/Object"), (0, u "()V"), (0, .fieldref 13 14), (0, .class_ 15), (0, .nameAndType 16 17), (0, u "com/example/kiseki/kiseki/span/SpanContext"), (0, u "INVALID"), (0, u "Lcom/example/kiseki/kiseki/span/SpanContext;"), (0, .fieldref 2 19), (0, .nameAndType 20 17), (0, u "spanContext"), (0, .fieldref 22 23), (0, .class_ 24), (0, .nameAndType 25 26), (0, u "com/example/kiseki/kiseki/span/Attributes"), (0, u "EMPTY"), (0, u "Lcom/example/kiseki/kiseki/span/Attributes;"), (0, .fieldref 2 28), (0, .nameAndType 29 26), (0, u "attributes"), (0, .methodref 31 32), (0, .class_ 33), (0, .nameAndType 34 35), (0, u "java/lang/Math"), (0, u "max"), (0, u "(II)I"), (0, .fieldref 2 37), (0, .nameAndType 38 39), (0, u "droppedAttributesCount"), (0, u "I"), (16, u "()I")] 19

def k12c0 : Code := { maxStack := 3, maxLocals := 4, code := prog_33_method_2_code, exceptionTable := #[], attributes := #[] }
def k12m0 : Method := { name := "<init>", desc := "(Lcom/example/kiseki/kiseki/span/SpanContext;Lcom/example/kiseki/kiseki/span/Attributes;I)V", sig := { parameters := [(.object "com/example/kiseki/kiseki/span/SpanContext"), (.object "com/example/kiseki/kiseki/span/Attributes"), .int], returnType := none }, accessFlags := 1, code := some k12c0 }
def k12c1 : Code := { maxStack := 1, maxLocals := 1, code := prog_33_method_5_code, exceptionTable := #[], attributes := #[] }
def k12m1 : Method := { name := "droppedAttributesCount", desc := "()I", sig := { parameters := [], returnType := some .int }, accessFlags := 1, code := some k12c1 }
/-- com/example/kiseki/kiseki/span/LinkData -/
def k12 : Class := { plain "com/example/kiseki/kiseki/span/LinkData" (some 0) with
  accessFlags := 49
  interfaces := #[]
  cf := some (fileOf pool12 2 #[] #[{ accessFlags := 1, nameIndex := 5, descriptorIndex := 6, attributes := #[] }, { accessFlags := 1, nameIndex := 38, descriptorIndex := 56, attributes := #[] }] 49 8 #[] #[{ accessFlags := 18, nameIndex := 20, descriptorIndex := 17, attributes := #[] }, { accessFlags := 18, nameIndex := 29, descriptorIndex := 26, attributes := #[] }, { accessFlags := 18, nameIndex := 38, descriptorIndex := 39, attributes := #[] }])
  fields := #[{ name := "spanContext", type := (.object "com/example/kiseki/kiseki/span/SpanContext"), accessFlags := 18, slot := 0, constantValue := 0 }, { name := "attributes", type := (.object "com/example/kiseki/kiseki/span/Attributes"), accessFlags := 18, slot := 1, constantValue := 0 }, { name := "droppedAttributesCount", type := .int, accessFlags := 18, slot := 2, constantValue := 0 }]
  methods := #[k12m0, k12m1]
  instanceTypes := #[(.object "com/example/kiseki/kiseki/span/SpanContext"), (.object "com/example/kiseki/kiseki/span/Attributes"), .int]
  staticTypes := #[]
  resolved := Array.replicate 76 none
  statics := none }

def pool13 : Array CpInfo := pool [(1, .class_ 2), (0, u "com/example/kiseki/kiseki/span/SpanContext"), (1, .class_ 6), (1, u "java/lang/Object"), (4, u "traceIdHigh"), (0, u "J"), (2, u "traceIdLow"), (2, u "spanId"), (2, u "traceFlags"), (0, u "B"), (2, u "traceState"), (0, u "Lcom/example/kiseki/kiseki/span/TraceState;"), (2, u "remote"), (0, u "Z"), (11, u "INVALID"), (0, u "Lcom/example/kiseki/kiseki/span/SpanContext;"), (32, u "HEX"), (0, u "Ljava/util/HexFormat;"), (50, u "SAMPLED_FLAG"), (2, u "RANDOM_TRACE_ID_FLAG"), (1, u "LONG_HEX_LENGTH"), (0, u "I"), (1, u "TRACE_ID_HEX_LENGTH")] 33

/-- com/example/kiseki/kiseki/span/SpanContext -/
def k13 : Class := { plain "com/example/kiseki/kiseki/span/SpanContext" (some 0) with
  accessFlags := 49
  interfaces := #[]
  cf := some (fileOf pool13 1 #[] #[] 49 4 #[] #[{ accessFlags := 25, nameIndex := 42, descriptorIndex := 43, attributes := #[] }, { accessFlags := 25, nameIndex := 128, descriptorIndex := 22, attributes := #[] }, { accessFlags := 25, nameIndex := 131, descriptorIndex := 22, attributes := #[] }, { accessFlags := 26, nameIndex := 133, descriptorIndex := 134, attributes := #[] }, { accessFlags := 26, nameIndex := 136, descriptorIndex := 134, attributes := #[] }, { accessFlags := 26, nameIndex := 76, descriptorIndex := 77, attributes := #[] }, { accessFlags := 18, nameIndex := 11, descriptorIndex := 12, attributes := #[] }, { accessFlags := 18, nameIndex := 15, descriptorIndex := 12, attributes := #[] }, { accessFlags := 18, nameIndex := 18, descriptorIndex := 12, attributes := #[] }, { accessFlags := 18, nameIndex := 21, descriptorIndex := 22, attributes := #[] }, { accessFlags := 18, nameIndex := 25, descriptorIndex := 26, attributes := #[] }, { accessFlags := 18, nameIndex := 29, descriptorIndex := 30, attributes := #[] }])
  fields := #[{ name := "INVALID", type := (.object "com/example/kiseki/kiseki/span/SpanContext"), accessFlags := 25, slot := 0, constantValue := 0 }, { name := "SAMPLED_FLAG", type := .byte, accessFlags := 25, slot := 1, constantValue := 0 }, { name := "RANDOM_TRACE_ID_FLAG", type := .byte, accessFlags := 25, slot := 2, constantValue := 0 }, { name := "LONG_HEX_LENGTH", type := .int, accessFlags := 26, slot := 3, constantValue := 0 }, { name := "TRACE_ID_HEX_LENGTH", type := .int, accessFlags := 26, slot := 4, constantValue := 0 }, { name := "HEX", type := (.object "java/util/HexFormat"), accessFlags := 26, slot := 5, constantValue := 0 }, { name := "traceIdHigh", type := .long, accessFlags := 18, slot := 0, constantValue := 0 }, { name := "traceIdLow", type := .long, accessFlags := 18, slot := 1, constantValue := 0 }, { name := "spanId", type := .long, accessFlags := 18, slot := 2, constantValue := 0 }, { name := "traceFlags", type := .byte, accessFlags := 18, slot := 3, constantValue := 0 }, { name := "traceState", type := (.object "com/example/kiseki/kiseki/span/TraceState"), accessFlags := 18, slot := 4, constantValue := 0 }, { name := "remote", type := .boolean, accessFlags := 18, slot := 5, constantValue := 0 }]
  methods := #[]
  instanceTypes := #[.long, .long, .long, .byte, (.object "com/example/kiseki/kiseki/span/TraceState"), .boolean]
  staticTypes := #[(.object "com/example/kiseki/kiseki/span/SpanContext"), .byte, .byte, .int, .int, (.object "java/util/HexFormat")]
  resolved := Array.replicate 170 none
  statics := some 1 }

def pool14 : Array CpInfo := pool [(2, .class_ 4), (1, u "java/lang/Object"), (3, .class_ 10), (1, u "com/example/kiseki/kiseki/span/Attributes"), (0, u "keys"), (0, u "[Ljava/lang/String;"), (2, u "values"), (0, u "[Ljava/lang/Object;"), (2, u "size"), (0, u "I"), (0, .class_ 22), (0, u "com/example/kiseki/kiseki/span/Attributes$Builder"), (2, u "EMPTY"), (0, u "Lcom/example/kiseki/kiseki/span/Attributes;"), (50, u "NO_KEYS"), (2, u "NO_VALUES")] 21

/-- com/example/kiseki/kiseki/span/Attributes -/
def k14 : Class := { plain "com/example/kiseki/kiseki/span/Attributes" (some 0) with
  accessFlags := 49
  interfaces := #[]
  cf := some (fileOf pool14 8 #[.nestMembers #[21]] #[] 49 2 #[] #[{ accessFlags := 26, nameIndex := 77, descriptorIndex := 12, attributes := #[] }, { accessFlags := 26, nameIndex := 80, descriptorIndex := 16, attributes := #[] }, { accessFlags := 25, nameIndex := 25, descriptorIndex := 26, attributes := #[] }, { accessFlags := 18, nameIndex := 11, descriptorIndex := 12, attributes := #[] }, { accessFlags := 18, nameIndex := 15, descriptorIndex := 16, attributes := #[] }, { accessFlags := 18, nameIndex := 19, descriptorIndex := 20, attributes := #[] }])
  fields := #[{ name := "NO_KEYS", type := (.array (.object "java/lang/String")), accessFlags := 26, slot := 0, constantValue := 0 }, { name := "NO_VALUES", type := (.array (.object "java/lang/Object")), accessFlags := 26, slot := 1, constantValue := 0 }, { name := "EMPTY", type := (.object "com/example/kiseki/kiseki/span/Attributes"), accessFlags := 25, slot := 2, constantValue := 0 }, { name := "keys", type := (.array (.object "java/lang/String")), accessFlags := 18, slot := 0, constantValue := 0 }, { name := "values", type := (.array (.object "java/lang/Object")), accessFlags := 18, slot := 1, constantValue := 0 }, { name := "size", type := .int, accessFlags := 18, slot := 2, constantValue := 0 }]
  methods := #[]
  instanceTypes := #[(.array (.object "java/lang/String")), (.array (.object "java/lang/Object")), .int]
  staticTypes := #[(.array (.object "java/lang/String")), (.array (.object "java/lang/Object")), (.object "com/example/kiseki/kiseki/span/Attributes")]
  resolved := Array.replicate 102 none
  statics := some 2 }

def pool15 : Array CpInfo := pool [(1, .class_ 2), (0, u "java/lang/Math"), (1, .class_ 6), (1, u "java/lang/Object"), (0, u "<init>"), (0, u "()V"), (89, .class_ 100), (1, u "java/lang/Math$RandomNumberGeneratorHolder"), (20, u "(JJ)J"), (50, u "negativeZeroFloatBits"), (0, u "J"), (2, u "negativeZeroDoubleBits"), (21, u "max"), (2, u "min"), (43, u "$assertionsDisabled"), (0, u "Z"), (88, u "(II)I"), (2, u "twoToTheDoubleScaleDown"), (0, u "D"), (4, u "twoToTheDoubleScaleUp"), (9, u "E"), (3, u "PI"), (2, u "TAU"), (2, u "DEGREES_TO_RADIANS"), (0, u "RADIANS_TO_DEGREES")] 94

def k15m0 : Method := { name := "<init>", desc := "()V", sig := { parameters := [], returnType := none }, accessFlags := 2, code := none }
def k15c1 : Code := { maxStack := 2, maxLocals := 2, code := jdk_29_method_65_code, exceptionTable := #[], attributes := #[] }
def k15m1 : Method := { name := "max", desc := "(II)I", sig := { parameters := [.int, .int], returnType := some .int }, accessFlags := 9, code := some k15c1 }
def k15c2 : Code := { maxStack := 4, maxLocals := 4, code := jdk_29_method_70_code, exceptionTable := #[], attributes := #[] }
def k15m2 : Method := { name := "min", desc := "(JJ)J", sig := { parameters := [.long, .long], returnType := some .long }, accessFlags := 9, code := some k15c2 }
/-- java/lang/Math -/
def k15 : Class := { plain "java/lang/Math" (some 0) with
  accessFlags := 49
  interfaces := #[]
  cf := some (fileOf pool15 1 #[.nestMembers #[98]] #[{ accessFlags := 2, nameIndex := 7, descriptorIndex := 8, attributes := #[] }, { accessFlags := 9, nameIndex := 198, descriptorIndex := 335, attributes := #[] }, { accessFlags := 9, nameIndex := 201, descriptorIndex := 121, attributes := #[] }] 49 4 #[] #[{ accessFlags := 25, nameIndex := 354, descriptorIndex := 339, attributes := #[] }, { accessFlags := 25, nameIndex := 358, descriptorIndex := 339, attributes := #[] }, { accessFlags := 25, nameIndex := 361, descriptorIndex := 339, attributes := #[] }, { accessFlags := 26, nameIndex := 364, descriptorIndex := 339, attributes := #[] }, { accessFlags := 26, nameIndex := 365, descriptorIndex := 339, attributes := #[] }, { accessFlags := 26, nameIndex := 172, descriptorIndex := 173, attributes := #[] }, { accessFlags := 26, nameIndex := 176, descriptorIndex := 173, attributes := #[] }, { accessFlags := 8, nameIndex := 344, descriptorIndex := 339, attributes := #[] }, { accessFlags := 8, nameIndex := 338, descriptorIndex := 339, attributes := #[] }, { accessFlags := 4120, nameIndex := 245, descriptorIndex := 246, attributes := #[] }])
  fields := #[{ name := "E", type := .double, accessFlags := 25, slot := 0, constantValue := 0 }, { name := "PI", type := .double, accessFlags := 25, slot := 1, constantValue := 0 }, { name := "TAU", type := .double, accessFlags := 25, slot := 2, constantValue := 0 }, { name := "DEGREES_TO_RADIANS", type := .double, accessFlags := 26, slot := 3, constantValue := 0 }, { name := "RADIANS_TO_DEGREES", type := .double, accessFlags := 26, slot := 4, constantValue := 0 }, { name := "negativeZeroFloatBits", type := .long, accessFlags := 26, slot := 5, constantValue := 0 }, { name := "negativeZeroDoubleBits", type := .long, accessFlags := 26, slot := 6, constantValue := 0 }, { name := "twoToTheDoubleScaleUp", type := .double, accessFlags := 8, slot := 7, constantValue := 0 }, { name := "twoToTheDoubleScaleDown", type := .double, accessFlags := 8, slot := 8, constantValue := 0 }, { name := "$assertionsDisabled", type := .boolean, accessFlags := 4120, slot := 9, constantValue := 0 }]
  methods := #[k15m0, k15m1, k15m2]
  instanceTypes := #[]
  staticTypes := #[.double, .double, .double, .double, .double, .long, .long, .double, .double, .boolean]
  resolved := Array.replicate 460 none
  statics := none }

def pool16 : Array CpInfo := pool [(1, .methodref 2 3), (0, .class_ 4), (0, .nameAndType 5 6), (0, u "java/lang/Object"), (0, u "<init>"), (0, u "()V"), (0, .interfaceMethodref 8 9), (0, .class_ 10), (0, .nameAndType 11 12), (0, u "java/util/List"), (0, u "size"), (0, u "()I"), (0, .interfaceMethodref 8 14), (0, .nameAndType 15 16), (0, u "get"), (0, u "(I)Ljava/lang/Object;"), (0, .class_ 18), (0, u "com/example/kiseki/kiseki/span/LinkData"), (0, .methodref 17 20), (0, .nameAndType 21 12), (0, u "droppedAttributesCount"), (0, .class_ 23), (0, u "com/example/kiseki/kiseki/tracing/DroppedItems"), (0, .methodref 22 3), (0, .fieldref 22 26), (0, .nameAndType 27 28), (0, u "attributesBeforeStart"), (0, u "J"), (0, .fieldref 22 30), (0, .nameAndType 31 28), (0, u "links"), (0, .fieldref 22 33), (0, .nameAndType 34 28), (0, u "linkAttributes"), (2, .long 2147483647), (1, .methodref 40 41), (0, .class_ 42), (0, .nameAndType 43 44), (0, u "java/lang/Math"), (0, u "min"), (0, u "(JJ)J"), (0, .fieldref 22 46), (0, .nameAndType 47 28), (0, u "attributesElsewhere"), (0, .fieldref 22 49), (0, .nameAndType 50 28), (0, u "eventsElsewhere"), (0, .fieldref 22 52), (0, .nameAndType 53 28), (0, u "linksElsewhere"), (0, .fieldref 22 55), (0, .nameAndType 56 28), (0, u "attributesSinceStart"), (0, .fieldref 22 58), (0, .nameAndType 59 28), (0, u "events"), (0, .fieldref 22 61), (0, .nameAndType 62 28), (0, u "eventAttributes"), (10, u "atStart"), (0, u "(IILjava/util/List;)Lcom/example/kiseki/kiseki/tracing/DroppedItems;"), (3, u "withDroppedElsewhere"), (0, u "(Lcom/example/kiseki/kiseki/tracing/DroppedItems;JJJ)Lcom/example/kiseki/kiseki/tracing/DroppedItems;"), (0, u "setAttributesDroppedSinceStart"), (0, u "(I)V"), (0, u "countEvent"), (0, u "countEventAttributes"), (1, u "droppedPastLimits"), (0, u "()Z")] 19

def k16c0 : Code := { maxStack := 1, maxLocals := 1, code := prog_46_method_1_code, exceptionTable := #[], attributes := #[] }
def k16m0 : Method := { name := "<init>", desc := "()V", sig := { parameters := [], returnType := none }, accessFlags := 0, code := some k16c0 }
def k16c1 : Code := { maxStack := 4, maxLocals := 6, code := prog_46_method_2_code, exceptionTable := #[], attributes := #[] }
def k16m1 : Method := { name := "atStart", desc := "(IILjava/util/List;)Lcom/example/kiseki/kiseki/tracing/DroppedItems;", sig := { parameters := [.int, .int, (.object "java/util/List")], returnType := some (.object "com/example/kiseki/kiseki/tracing/DroppedItems") }, accessFlags := 8, code := some k16c1 }
def k16c2 : Code := { maxStack := 5, maxLocals := 8, code := prog_46_method_3_code, exceptionTable := #[], attributes := #[] }
def k16m2 : Method := { name := "withDroppedElsewhere", desc := "(Lcom/example/kiseki/kiseki/tracing/DroppedItems;JJJ)Lcom/example/kiseki/kiseki/tracing/DroppedItems;", sig := { parameters := [(.object "com/example/kiseki/kiseki/tracing/DroppedItems"), .long, .long, .long], returnType := some (.object "com/example/kiseki/kiseki/tracing/DroppedItems") }, accessFlags := 8, code := some k16c2 }
def k16c3 : Code := { maxStack := 3, maxLocals := 2, code := prog_46_method_4_code, exceptionTable := #[], attributes := #[] }
def k16m3 : Method := { name := "setAttributesDroppedSinceStart", desc := "(I)V", sig := { parameters := [.int], returnType := none }, accessFlags := 0, code := some k16c3 }
def k16c4 : Code := { maxStack := 5, maxLocals := 1, code := prog_46_method_5_code, exceptionTable := #[], attributes := #[] }
def k16m4 : Method := { name := "countEvent", desc := "()V", sig := { parameters := [], returnType := none }, accessFlags := 0, code := some k16c4 }
def k16c5 : Code := { maxStack := 5, maxLocals := 2, code := prog_46_method_6_code, exceptionTable := #[], attributes := #[] }
def k16m5 : Method := { name := "countEventAttributes", desc := "(I)V", sig := { parameters := [.int], returnType := none }, accessFlags := 0, code := some k16c5 }
def k16c6 : Code := { maxStack := 4, maxLocals := 1, code := prog_46_method_11_code, exceptionTable := #[], attributes := #[] }
def k16m6 : Method := { name := "droppedPastLimits", desc := "()Z", sig := { parameters := [], returnType := some .boolean }, accessFlags := 0, code := some k16c6 }
/-- com/example/kiseki/kiseki/tracing/DroppedItems -/
def k16 : Class := { plain "com/example/kiseki/kiseki/tracing/DroppedItems" (some 0) with
  accessFlags := 48
  interfaces := #[]
  cf := some (fileOf pool16 22 #[] #[{ accessFlags := 0, nameIndex := 5, descriptorIndex := 6, attributes := #[] }, { accessFlags := 8, nameIndex := 73, descriptorIndex := 74, attributes := #[] }, { accessFlags := 8, nameIndex := 78, descriptorIndex := 79, attributes := #[] }, { accessFlags := 0, nameIndex := 80, descriptorIndex := 81, attributes := #[] }, { accessFlags := 0, nameIndex := 82, descriptorIndex := 6, attributes := #[] }, { accessFlags := 0, nameIndex := 83, descriptorIndex := 81, attributes := #[] }, { accessFlags := 0, nameIndex := 85, descriptorIndex := 86, attributes := #[] }] 48 2 #[] #[{ accessFlags := 2, nameIndex := 27, descriptorIndex := 28, attributes := #[] }, { accessFlags := 2, nameIndex := 56, descriptorIndex := 28, attributes := #[] }, { accessFlags := 2, nameIndex := 59, descriptorIndex := 28, attributes := #[] }, { accessFlags := 2, nameIndex := 31, descriptorIndex := 28, attributes := #[] }, { accessFlags := 2, nameIndex := 62, descriptorIndex := 28, attributes := #[] }, { accessFlags := 2, nameIndex := 34, descriptorIndex := 28, attributes := #[] }, { accessFlags := 2, nameIndex := 47, descriptorIndex := 28, attributes := #[] }, { accessFlags := 2, nameIndex := 50, descriptorIndex := 28, attributes := #[] }, { accessFlags := 2, nameIndex := 53, descriptorIndex := 28, attributes := #[] }])
  fields := #[{ name := "attributesBeforeStart", type := .long, accessFlags := 2, slot := 0, constantValue := 0 }, { name := "attributesSinceStart", type := .long, accessFlags := 2, slot := 1, constantValue := 0 }, { name := "events", type := .long, accessFlags := 2, slot := 2, constantValue := 0 }, { name := "links", type := .long, accessFlags := 2, slot := 3, constantValue := 0 }, { name := "eventAttributes", type := .long, accessFlags := 2, slot := 4, constantValue := 0 }, { name := "linkAttributes", type := .long, accessFlags := 2, slot := 5, constantValue := 0 }, { name := "attributesElsewhere", type := .long, accessFlags := 2, slot := 6, constantValue := 0 }, { name := "eventsElsewhere", type := .long, accessFlags := 2, slot := 7, constantValue := 0 }, { name := "linksElsewhere", type := .long, accessFlags := 2, slot := 8, constantValue := 0 }]
  methods := #[k16m0, k16m1, k16m2, k16m3, k16m4, k16m5, k16m6]
  instanceTypes := #[.long, .long, .long, .long, .long, .long, .long, .long, .long]
  staticTypes := #[]
  resolved := Array.replicate 106 none
  statics := none }

def pool17 : Array CpInfo := pool [(2, .class_ 4), (1, u "java/lang/Object"), (0, u "<init>"), (0, u "()V"), (35, .class_ 44), (1, u "java/util/Objects"), (60, .methodref 106 107), (0, .class_ 108), (0, .nameAndType 109 110), (0, u "jdk/internal/util/Preconditions"), (0, u "checkIndex"), (0, u "(IILjava/util/function/BiFunction;)I"), (60, u "(II)I")] 12

def k17m0 : Method := { name := "<init>", desc := "()V", sig := { parameters := [], returnType := none }, accessFlags := 2, code := none }
def k17c1 : Code := { maxStack := 3, maxLocals := 2, code := jdk_31_method_17_code, exceptionTable := #[], attributes := #[] }
def k17m1 : Method := { name := "checkIndex", desc := "(II)I", sig := { parameters := [.int, .int], returnType := some .int }, accessFlags := 9, code := some k17c1 }
/-- java/util/Objects -/
def k17 : Class := { plain "java/util/Objects" (some 0) with
  accessFlags := 49
  interfaces := #[]
  cf := some (fileOf pool17 42 #[] #[{ accessFlags := 2, nameIndex := 5, descriptorIndex := 6, attributes := #[] }, { accessFlags := 9, nameIndex := 109, descriptorIndex := 171, attributes := #[] }] 49 2 #[] #[])
  fields := #[]
  methods := #[k17m0, k17m1]
  instanceTypes := #[]
  staticTypes := #[]
  resolved := Array.replicate 184 none
  statics := none }

def pool18 : Array CpInfo := pool [(2, .class_ 4), (1, u "java/lang/Object"), (0, u "<init>"), (0, u "()V"), (17, .class_ 26), (1, u "jdk/internal/util/Preconditions"), (6, u "checkIndex"), (21, .class_ 56), (0, u "jdk/internal/util/Preconditions$4"), (57, .class_ 115), (0, u "jdk/internal/util/Preconditions$1"), (7, u "SIOOBE_FORMATTER"), (0, u "Ljava/util/function/BiFunction;"), (0, .class_ 126), (0, u "jdk/internal/util/Preconditions$2"), (3, u "AIOOBE_FORMATTER"), (0, .class_ 132), (0, u "jdk/internal/util/Preconditions$3"), (3, u "IOOBE_FORMATTER"), (41, u "(IILjava/util/function/BiFunction;)I")] 15

def k18m0 : Method := { name := "<init>", desc := "()V", sig := { parameters := [], returnType := none }, accessFlags := 1, code := none }
def k18c1 : Code := { maxStack := 3, maxLocals := 3, code := jdk_41_method_11_code, exceptionTable := #[], attributes := #[] }
def k18m1 : Method := { name := "checkIndex", desc := "(IILjava/util/function/BiFunction;)I", sig := { parameters := [.int, .int, (.object "java/util/function/BiFunction")], returnType := some .int }, accessFlags := 9, code := some k18c1 }
/-- jdk/internal/util/Preconditions -/
def k18 : Class := { plain "jdk/internal/util/Preconditions" (some 0) with
  accessFlags := 33
  interfaces := #[]
  cf := some (fileOf pool18 24 #[.nestMembers #[55, 131, 125, 114]] #[{ accessFlags := 1, nameIndex := 5, descriptorIndex := 6, attributes := #[] }, { accessFlags := 9, nameIndex := 33, descriptorIndex := 178, attributes := #[] }] 33 2 #[] #[{ accessFlags := 25, nameIndex := 123, descriptorIndex := 124, attributes := #[] }, { accessFlags := 25, nameIndex := 130, descriptorIndex := 124, attributes := #[] }, { accessFlags := 25, nameIndex := 136, descriptorIndex := 124, attributes := #[] }])
  fields := #[{ name := "SIOOBE_FORMATTER", type := (.object "java/util/function/BiFunction"), accessFlags := 25, slot := 0, constantValue := 0 }, { name := "AIOOBE_FORMATTER", type := (.object "java/util/function/BiFunction"), accessFlags := 25, slot := 1, constantValue := 0 }, { name := "IOOBE_FORMATTER", type := (.object "java/util/function/BiFunction"), accessFlags := 25, slot := 2, constantValue := 0 }]
  methods := #[k18m0, k18m1]
  instanceTypes := #[]
  staticTypes := #[(.object "java/util/function/BiFunction"), (.object "java/util/function/BiFunction"), (.object "java/util/function/BiFunction")]
  resolved := Array.replicate 194 none
  statics := none }

/-- the primitive byte -/
def k19 : Class := { plain "byte" none with kind := .primitive 'B', accessFlags := 0x411 }
/-- [B -/
def k20 : Class := { plain "[B" (some 0) with kind := .array 19 .byte, interfaces := #[9, 10], accessFlags := 1041 }

/-- the primitive int -/
def k21 : Class := { plain "int" none with kind := .primitive 'I', accessFlags := 0x411 }
/-- [I -/
def k22 : Class := { plain "[I" (some 0) with kind := .array 21 .int, interfaces := #[9, 10], accessFlags := 1041 }

/-- [Ljava/lang/Object; -/
def k23 : Class := { plain "[Ljava/lang/Object;" (some 0) with kind := .array 0 (.object "java/lang/Object"), interfaces := #[9, 10], accessFlags := 1041 }

def heap : Heap := #[{ cls := 11, slots := #[.long 0, .int 0, .ref 5, .ref 6], vm := .statics 11 },
  { cls := 13, slots := #[.ref 3, .int 0, .int 0, .int 0, .int 0, .null], vm := .statics 13 },
  { cls := 14, slots := #[.null, .null, .ref 4], vm := .statics 14 },
  { cls := 13, slots := #[.long 0, .long 0, .long 0, .int 0, .null, .int 0], vm := .none },
  { cls := 14, slots := #[.null, .null, .int 0], vm := .none },
  { cls := 23, slots := #[], vm := .none },
  { cls := 23, slots := #[], vm := .none }]
def classes : Array Class := #[k0, k1, k2, k3, k4, k5, k6, k7, k8, k9, k10, k11, k12, k13, k14, k15, k16, k17, k18, k19, k20, k21, k22, k23]
def interned : List (Array UInt16 × Addr) := []
def slotsUsed : Nat := 22
def theMethod : MethodId := ⟨1, 1⟩
def args0 : Array Value := #[.int 5, .int 7, .int 3, .int 2, .int 1, .int 63]
def aboutOver (below : List Frame) : State where
  vm := { classes := classes, interned := interned.toArray }
  heap := heap
  slotsUsed := slotsUsed
  threads := #[{ frames := .invoking theMethod args0 :: below }]
def below0 : List Frame := [.native { method := ⟨0, 0⟩, args := #[] }]
def about1 : State := aboutOver below0
def p0 : Program := .bare "" "" ""
def e0 : Env := launch0.env 0 0 0
theorem w_frames : about1.frames = Frame.invoking theMethod args0 :: below0 := rfl
set_option maxRecDepth 65536 in
theorem w_args : argsFit about1.vm theMethod args0 = true := by decide +kernel
set_option maxRecDepth 65536 in
theorem w_heap : heapFits about1 = true := by decide +kernel
set_option maxRecDepth 65536 in
theorem w_runnable : about1.curStatus? = some .runnable := by decide +kernel
set_option maxRecDepth 65536 in
theorem w_alone : about1.alone = true := by decide +kernel
set_option maxRecDepth 65536 in
theorem w_named : about1.methodNamed? x = some theMethod := by decide +kernel
set_option maxRecDepth 65536 in
theorem w_hears : about1.hears theMethod below0 = true := by decide +kernel
set_option maxRecDepth 65536 in
theorem w_ripe : about1.ripe theMethod args0 below0 = true := by decide +kernel
theorem w_running : about1.status = .running := rfl
set_option maxRecDepth 65536 in
theorem w_room : about1.hasRoom e0.platform room_1 = true :=
  launch0.hasRoom_least _ room_1 (by decide +kernel) (by decide +kernel) (by decide +kernel) (by decide +kernel) (by decide +kernel) (by decide +kernel)
theorem allAtoms_all (ts : List Jvm.Cond) (a : Array Jvm.Value) (st : Jvm.State) : (allAtoms ts).before a st = ts.all (fun c => c.before a st) := by
  induction ts with
  | nil => rfl
  | cons c t ih =>
    show (Jvm.Cond.and c (allAtoms t)).before a st = _
    rw [Jvm.Cond.before_and, ih, List.all_cons]
def words1 : List Jvm.Cond := Jvm.Cond.code x code maxLocals ret :: tables_1
/-- a 'code' word, met by the world's own term for the bytes: nothing is compared byte by byte -/
theorem code_word {y : MethodName} {bytes : ByteArray} {mx : Nat} {rt : Option FieldType} {a : Array Value} {s : State} {m : MethodId} {meth : Method} {c : Code} (h1 : s.methodNamed? y = some m) (h2 : s.vm.method? m = some meth) (h3 : meth.code = some c) (h4 : c.code = bytes)
    (h5 : (c.maxLocals == mx && c.exceptionTable.isEmpty && decide (c.maxStack ≤ mostOperands) && decide (meth.sig.returnType = rt) && !meth.locks && decide (parseMethodDescriptor y.desc = some meth.sig)) = true) : (Jvm.Cond.code y bytes mx rt).before a s = true := by
  simp only [Bool.and_eq_true, beq_iff_eq, Bool.not_eq_true', decide_eq_true_eq] at h5
  obtain ⟨⟨⟨⟨⟨g1, g2⟩, g3⟩, g4⟩, g5⟩, g6⟩ := h5
  simp [Cond.before, Cond.holds, Cond.value, h1, h2, h3, h4, g1, g2, g3, g4, g5, g6]
def isCode : Jvm.Cond → Bool
  | .code _ _ _ _ => true
  | _ => false
theorem all_split {L : List Jvm.Cond} {P : Jvm.Cond → Bool} (h1 : L.all (fun c => isCode c || P c) = true) (h2 : ∀ c ∈ L.filter isCode, P c = true) : L.all P = true := by
  refine List.all_eq_true.mpr fun c hc => ?_
  have h := List.all_eq_true.mp h1 c hc
  rcases Bool.eq_false_or_eq_true (isCode c) with hi | hi
  · exact h2 c (List.mem_filter.mpr ⟨hc, hi⟩)
  · simpa [hi] using h
set_option maxRecDepth 65536 in
theorem w_c0 : (Jvm.Cond.code x code maxLocals ret).before args0 about1 = true := code_word (m := ⟨1, 1⟩) (meth := k1m1) (c := k1c1) (by decide +kernel) rfl rfl rfl (by decide +kernel)
set_option maxRecDepth 65536 in
theorem w_c1 : (Jvm.Cond.code ({ cls := "java/util/ArrayList", name := "<init>", desc := "()V" } : Jvm.MethodName) jdk_38_method_2_code (1 : Nat) (Option.none : Option Jvm.ClassFile.FieldType)).before args0 about1 = true := code_word (m := ⟨11, 0⟩) (meth := k11m0) (c := k11c0) (by decide +kernel) rfl rfl rfl (by decide +kernel)
set_option maxRecDepth 65536 in
theorem w_c2 : (Jvm.Cond.code ({ cls := "java/util/AbstractList", name := "<init>", desc := "()V" } : Jvm.MethodName) jdk_39_method_1_code (1 : Nat) (Option.none : Option Jvm.ClassFile.FieldType)).before args0 about1 = true := code_word (m := ⟨7, 0⟩) (meth := k7m0) (c := k7c0) (by decide +kernel) rfl rfl rfl (by decide +kernel)
set_option maxRecDepth 65536 in
theorem w_c3 : (Jvm.Cond.code ({ cls := "java/util/AbstractCollection", name := "<init>", desc := "()V" } : Jvm.MethodName) jdk_22_method_1_code (1 : Nat) (Option.none : Option Jvm.ClassFile.FieldType)).before args0 about1 = true := code_word (m := ⟨4, 0⟩) (meth := k4m0) (c := k4c0) (by decide +kernel) rfl rfl rfl (by decide +kernel)
set_option maxRecDepth 65536 in
theorem w_c4 : (Jvm.Cond.code ({ cls := "java/lang/Object", name := "<init>", desc := "()V" } : Jvm.MethodName) object_method_1_code (1 : Nat) (Option.none : Option Jvm.ClassFile.FieldType)).before args0 about1 = true := code_word (m := ⟨0, 0⟩) (meth := k0m0) (c := k0c0) (by decide +kernel) rfl rfl rfl (by decide +kernel)
set_option maxRecDepth 65536 in
theorem w_c5 : (Jvm.Cond.code ({ cls := "com/example/kiseki/kiseki/span/LinkData", name := "<init>", desc := "(Lcom/example/kiseki/kiseki/span/SpanContext;Lcom/example/kiseki/kiseki/span/Attributes;I)V" } : Jvm.MethodName) prog_33_method_2_code (4 : Nat) (Option.none : Option Jvm.ClassFile.FieldType)).before args0 about1 = true := code_word (m := ⟨12, 0⟩) (meth := k12m0) (c := k12c0) (by decide +kernel) rfl rfl rfl (by decide +kernel)
set_option maxRecDepth 65536 in
theorem w_c6 : (Jvm.Cond.code ({ cls := "java/lang/Math", name := "max", desc := "(II)I" } : Jvm.MethodName) jdk_29_method_65_code (2 : Nat) (Option.some Jvm.ClassFile.FieldType.int)).before args0 about1 = true := code_word (m := ⟨15, 1⟩) (meth := k15m1) (c := k15c1) (by decide +kernel) rfl rfl rfl (by decide +kernel)
set_option maxRecDepth 65536 in
theorem w_c7 : (Jvm.Cond.code ({ cls := "java/util/ArrayList", name := "add", desc := "(Ljava/lang/Object;)Z" } : Jvm.MethodName) jdk_38_method_25_code (2 : Nat) (Option.some Jvm.ClassFile.FieldType.boolean)).before args0 about1 = true := code_word (m := ⟨11, 7⟩) (meth := k11m7) (c := k11c7) (by decide +kernel) rfl rfl rfl (by decide +kernel)
set_option maxRecDepth 65536 in
theorem w_c8 : (Jvm.Cond.code ({ cls := "java/util/ArrayList", name := "add", desc := "(Ljava/lang/Object;[Ljava/lang/Object;I)V" } : Jvm.MethodName) jdk_38_method_24_code (4 : Nat) (Option.none : Option Jvm.ClassFile.FieldType)).before args0 about1 = true := code_word (m := ⟨11, 6⟩) (meth := k11m6) (c := k11c6) (by decide +kernel) rfl rfl rfl (by decide +kernel)
set_option maxRecDepth 65536 in
theorem w_c9 : (Jvm.Cond.code ({ cls := "java/util/ArrayList", name := "grow", desc := "()[Ljava/lang/Object;" } : Jvm.MethodName) jdk_38_method_7_code (1 : Nat) (Option.some (Jvm.ClassFile.FieldType.array (Jvm.ClassFile.FieldType.object "java/lang/Object")))).before args0 about1 = true := code_word (m := ⟨11, 2⟩) (meth := k11m2) (c := k11c2) (by decide +kernel) rfl rfl rfl (by decide +kernel)
set_option maxRecDepth 65536 in
theorem w_c10 : (Jvm.Cond.code ({ cls := "java/util/ArrayList", name := "grow", desc := "(I)[Ljava/lang/Object;" } : Jvm.MethodName) jdk_38_method_6_code (4 : Nat) (Option.some (Jvm.ClassFile.FieldType.array (Jvm.ClassFile.FieldType.object "java/lang/Object")))).before args0 about1 = true := code_word (m := ⟨11, 1⟩) (meth := k11m1) (c := k11c1) (by decide +kernel) rfl rfl rfl (by decide +kernel)
set_option maxRecDepth 65536 in
theorem w_c11 : (Jvm.Cond.code ({ cls := "com/example/kiseki/kiseki/tracing/DroppedItems", name := "atStart", desc := "(IILjava/util/List;)Lcom/example/kiseki/kiseki/tracing/DroppedItems;" } : Jvm.MethodName) prog_46_method_2_code (6 : Nat) (Option.some (Jvm.ClassFile.FieldType.object "com/example/kiseki/kiseki/tracing/DroppedItems"))).before args0 about1 = true := code_word (m := ⟨16, 1⟩) (meth := k16m1) (c := k16c1) (by decide +kernel) rfl rfl rfl (by decide +kernel)
set_option maxRecDepth 65536 in
theorem w_c12 : (Jvm.Cond.code ({ cls := "java/util/ArrayList", name := "size", desc := "()I" } : Jvm.MethodName) jdk_38_method_8_code (1 : Nat) (Option.some Jvm.ClassFile.FieldType.int)).before args0 about1 = true := code_word (m := ⟨11, 3⟩) (meth := k11m3) (c := k11c3) (by decide +kernel) rfl rfl rfl (by decide +kernel)
set_option maxRecDepth 65536 in
theorem w_c13 : (Jvm.Cond.code ({ cls := "java/util/ArrayList", name := "get", desc := "(I)Ljava/lang/Object;" } : Jvm.MethodName) jdk_38_method_20_code (2 : Nat) (Option.some (Jvm.ClassFile.FieldType.object "java/lang/Object"))).before args0 about1 = true := code_word (m := ⟨11, 5⟩) (meth := k11m5) (c := k11c5) (by decide +kernel) rfl rfl rfl (by decide +kernel)
set_option maxRecDepth 65536 in
theorem w_c14 : (Jvm.Cond.code ({ cls := "java/util/Objects", name := "checkIndex", desc := "(II)I" } : Jvm.MethodName) jdk_31_method_17_code (2 : Nat) (Option.some Jvm.ClassFile.FieldType.int)).before args0 about1 = true := code_word (m := ⟨17, 1⟩) (meth := k17m1) (c := k17c1) (by decide +kernel) rfl rfl rfl (by decide +kernel)
set_option maxRecDepth 65536 in
theorem w_c15 : (Jvm.Cond.code ({ cls := "jdk/internal/util/Preconditions", name := "checkIndex", desc := "(IILjava/util/function/BiFunction;)I" } : Jvm.MethodName) jdk_41_method_11_code (3 : Nat) (Option.some Jvm.ClassFile.FieldType.int)).before args0 about1 = true := code_word (m := ⟨18, 1⟩) (meth := k18m1) (c := k18c1) (by decide +kernel) rfl rfl rfl (by decide +kernel)
set_option maxRecDepth 65536 in
theorem w_c16 : (Jvm.Cond.code ({ cls := "java/util/ArrayList", name := "elementData", desc := "(I)Ljava/lang/Object;" } : Jvm.MethodName) jdk_38_method_18_code (2 : Nat) (Option.some (Jvm.ClassFile.FieldType.object "java/lang/Object"))).before args0 about1 = true := code_word (m := ⟨11, 4⟩) (meth := k11m4) (c := k11c4) (by decide +kernel) rfl rfl rfl (by decide +kernel)
set_option maxRecDepth 65536 in
theorem w_c17 : (Jvm.Cond.code ({ cls := "com/example/kiseki/kiseki/span/LinkData", name := "droppedAttributesCount", desc := "()I" } : Jvm.MethodName) prog_33_method_5_code (1 : Nat) (Option.some Jvm.ClassFile.FieldType.int)).before args0 about1 = true := code_word (m := ⟨12, 1⟩) (meth := k12m1) (c := k12c1) (by decide +kernel) rfl rfl rfl (by decide +kernel)
set_option maxRecDepth 65536 in
theorem w_c18 : (Jvm.Cond.code ({ cls := "com/example/kiseki/kiseki/tracing/DroppedItems", name := "<init>", desc := "()V" } : Jvm.MethodName) prog_46_method_1_code (1 : Nat) (Option.none : Option Jvm.ClassFile.FieldType)).before args0 about1 = true := code_word (m := ⟨16, 0⟩) (meth := k16m0) (c := k16c0) (by decide +kernel) rfl rfl rfl (by decide +kernel)
set_option maxRecDepth 65536 in
theorem w_c19 : (Jvm.Cond.code ({ cls := "com/example/kiseki/kiseki/tracing/DroppedItems", name := "droppedPastLimits", desc := "()Z" } : Jvm.MethodName) prog_46_method_11_code (1 : Nat) (Option.some Jvm.ClassFile.FieldType.boolean)).before args0 about1 = true := code_word (m := ⟨16, 6⟩) (meth := k16m6) (c := k16c6) (by decide +kernel) rfl rfl rfl (by decide +kernel)
set_option maxRecDepth 65536 in
theorem w_c20 : (Jvm.Cond.code ({ cls := "com/example/kiseki/kiseki/tracing/DroppedItems", name := "setAttributesDroppedSinceStart", desc := "(I)V" } : Jvm.MethodName) prog_46_method_4_code (2 : Nat) (Option.none : Option Jvm.ClassFile.FieldType)).before args0 about1 = true := code_word (m := ⟨16, 3⟩) (meth := k16m3) (c := k16c3) (by decide +kernel) rfl rfl rfl (by decide +kernel)
set_option maxRecDepth 65536 in
theorem w_c21 : (Jvm.Cond.code ({ cls := "com/example/kiseki/kiseki/tracing/DroppedItems", name := "countEvent", desc := "()V" } : Jvm.MethodName) prog_46_method_5_code (1 : Nat) (Option.none : Option Jvm.ClassFile.FieldType)).before args0 about1 = true := code_word (m := ⟨16, 4⟩) (meth := k16m4) (c := k16c4) (by decide +kernel) rfl rfl rfl (by decide +kernel)
set_option maxRecDepth 65536 in
theorem w_c22 : (Jvm.Cond.code ({ cls := "com/example/kiseki/kiseki/tracing/DroppedItems", name := "countEventAttributes", desc := "(I)V" } : Jvm.MethodName) prog_46_method_6_code (2 : Nat) (Option.none : Option Jvm.ClassFile.FieldType)).before args0 about1 = true := code_word (m := ⟨16, 5⟩) (meth := k16m5) (c := k16c5) (by decide +kernel) rfl rfl rfl (by decide +kernel)
set_option maxRecDepth 65536 in
theorem w_c23 : (Jvm.Cond.code ({ cls := "com/example/kiseki/kiseki/tracing/DroppedItems", name := "withDroppedElsewhere", desc := "(Lcom/example/kiseki/kiseki/tracing/DroppedItems;JJJ)Lcom/example/kiseki/kiseki/tracing/DroppedItems;" } : Jvm.MethodName) prog_46_method_3_code (8 : Nat) (Option.some (Jvm.ClassFile.FieldType.object "com/example/kiseki/kiseki/tracing/DroppedItems"))).before args0 about1 = true := code_word (m := ⟨16, 2⟩) (meth := k16m2) (c := k16c2) (by decide +kernel) rfl rfl rfl (by decide +kernel)
set_option maxRecDepth 65536 in
theorem w_c24 : (Jvm.Cond.code ({ cls := "java/lang/Math", name := "min", desc := "(JJ)J" } : Jvm.MethodName) jdk_29_method_70_code (4 : Nat) (Option.some Jvm.ClassFile.FieldType.long)).before args0 about1 = true := code_word (m := ⟨15, 2⟩) (meth := k15m2) (c := k15c2) (by decide +kernel) rfl rfl rfl (by decide +kernel)
def codes1 : List Jvm.Cond := [Jvm.Cond.code x code maxLocals ret, Jvm.Cond.code ({ cls := "java/util/ArrayList", name := "<init>", desc := "()V" } : Jvm.MethodName) jdk_38_method_2_code (1 : Nat) (Option.none : Option Jvm.ClassFile.FieldType), Jvm.Cond.code ({ cls := "java/util/AbstractList", name := "<init>", desc := "()V" } : Jvm.MethodName) jdk_39_method_1_code (1 : Nat) (Option.none : Option Jvm.ClassFile.FieldType), Jvm.Cond.code ({ cls := "java/util/AbstractCollection", name := "<init>", desc := "()V" } : Jvm.MethodName) jdk_22_method_1_code (1 : Nat) (Option.none : Option Jvm.ClassFile.FieldType), Jvm.Cond.code ({ cls := "java/lang/Object", name := "<init>", desc := "()V" } : Jvm.MethodName) object_method_1_code (1 : Nat) (Option.none : Option Jvm.ClassFile.FieldType), Jvm.Cond.code ({ cls := "com/example/kiseki/kiseki/span/LinkData", name := "<init>", desc := "(Lcom/example/kiseki/kiseki/span/SpanContext;Lcom/example/kiseki/kiseki/span/Attributes;I)V" } : Jvm.MethodName) prog_33_method_2_code (4 : Nat) (Option.none : Option Jvm.ClassFile.FieldType), Jvm.Cond.code ({ cls := "java/lang/Math", name := "max", desc := "(II)I" } : Jvm.MethodName) jdk_29_method_65_code (2 : Nat) (Option.some Jvm.ClassFile.FieldType.int), Jvm.Cond.code ({ cls := "java/util/ArrayList", name := "add", desc := "(Ljava/lang/Object;)Z" } : Jvm.MethodName) jdk_38_method_25_code (2 : Nat) (Option.some Jvm.ClassFile.FieldType.boolean), Jvm.Cond.code ({ cls := "java/util/ArrayList", name := "add", desc := "(Ljava/lang/Object;[Ljava/lang/Object;I)V" } : Jvm.MethodName) jdk_38_method_24_code (4 : Nat) (Option.none : Option Jvm.ClassFile.FieldType), Jvm.Cond.code ({ cls := "java/util/ArrayList", name := "grow", desc := "()[Ljava/lang/Object;" } : Jvm.MethodName) jdk_38_method_7_code (1 : Nat) (Option.some (Jvm.ClassFile.FieldType.array (Jvm.ClassFile.FieldType.object "java/lang/Object"))), Jvm.Cond.code ({ cls := "java/util/ArrayList", name := "grow", desc := "(I)[Ljava/lang/Object;" } : Jvm.MethodName) jdk_38_method_6_code (4 : Nat) (Option.some (Jvm.ClassFile.FieldType.array (Jvm.ClassFile.FieldType.object "java/lang/Object"))), Jvm.Cond.code ({ cls := "com/example/kiseki/kiseki/tracing/DroppedItems", name := "atStart", desc := "(IILjava/util/List;)Lcom/example/kiseki/kiseki/tracing/DroppedItems;" } : Jvm.MethodName) prog_46_method_2_code (6 : Nat) (Option.some (Jvm.ClassFile.FieldType.object "com/example/kiseki/kiseki/tracing/DroppedItems")), Jvm.Cond.code ({ cls := "java/util/ArrayList", name := "size", desc := "()I" } : Jvm.MethodName) jdk_38_method_8_code (1 : Nat) (Option.some Jvm.ClassFile.FieldType.int), Jvm.Cond.code ({ cls := "java/util/ArrayList", name := "get", desc := "(I)Ljava/lang/Object;" } : Jvm.MethodName) jdk_38_method_20_code (2 : Nat) (Option.some (Jvm.ClassFile.FieldType.object "java/lang/Object")), Jvm.Cond.code ({ cls := "java/util/Objects", name := "checkIndex", desc := "(II)I" } : Jvm.MethodName) jdk_31_method_17_code (2 : Nat) (Option.some Jvm.ClassFile.FieldType.int), Jvm.Cond.code ({ cls := "jdk/internal/util/Preconditions", name := "checkIndex", desc := "(IILjava/util/function/BiFunction;)I" } : Jvm.MethodName) jdk_41_method_11_code (3 : Nat) (Option.some Jvm.ClassFile.FieldType.int), Jvm.Cond.code ({ cls := "java/util/ArrayList", name := "elementData", desc := "(I)Ljava/lang/Object;" } : Jvm.MethodName) jdk_38_method_18_code (2 : Nat) (Option.some (Jvm.ClassFile.FieldType.object "java/lang/Object")), Jvm.Cond.code ({ cls := "com/example/kiseki/kiseki/span/LinkData", name := "droppedAttributesCount", desc := "()I" } : Jvm.MethodName) prog_33_method_5_code (1 : Nat) (Option.some Jvm.ClassFile.FieldType.int), Jvm.Cond.code ({ cls := "com/example/kiseki/kiseki/tracing/DroppedItems", name := "<init>", desc := "()V" } : Jvm.MethodName) prog_46_method_1_code (1 : Nat) (Option.none : Option Jvm.ClassFile.FieldType), Jvm.Cond.code ({ cls := "com/example/kiseki/kiseki/tracing/DroppedItems", name := "droppedPastLimits", desc := "()Z" } : Jvm.MethodName) prog_46_method_11_code (1 : Nat) (Option.some Jvm.ClassFile.FieldType.boolean), Jvm.Cond.code ({ cls := "com/example/kiseki/kiseki/tracing/DroppedItems", name := "setAttributesDroppedSinceStart", desc := "(I)V" } : Jvm.MethodName) prog_46_method_4_code (2 : Nat) (Option.none : Option Jvm.ClassFile.FieldType), Jvm.Cond.code ({ cls := "com/example/kiseki/kiseki/tracing/DroppedItems", name := "countEvent", desc := "()V" } : Jvm.MethodName) prog_46_method_5_code (1 : Nat) (Option.none : Option Jvm.ClassFile.FieldType), Jvm.Cond.code ({ cls := "com/example/kiseki/kiseki/tracing/DroppedItems", name := "countEventAttributes", desc := "(I)V" } : Jvm.MethodName) prog_46_method_6_code (2 : Nat) (Option.none : Option Jvm.ClassFile.FieldType), Jvm.Cond.code ({ cls := "com/example/kiseki/kiseki/tracing/DroppedItems", name := "withDroppedElsewhere", desc := "(Lcom/example/kiseki/kiseki/tracing/DroppedItems;JJJ)Lcom/example/kiseki/kiseki/tracing/DroppedItems;" } : Jvm.MethodName) prog_46_method_3_code (8 : Nat) (Option.some (Jvm.ClassFile.FieldType.object "com/example/kiseki/kiseki/tracing/DroppedItems")), Jvm.Cond.code ({ cls := "java/lang/Math", name := "min", desc := "(JJ)J" } : Jvm.MethodName) jdk_29_method_70_code (4 : Nat) (Option.some Jvm.ClassFile.FieldType.long)]
set_option maxRecDepth 65536 in
theorem codes_eq : words1.filter isCode = codes1 := rfl
theorem w_codes : ∀ c ∈ words1.filter isCode, c.before args0 about1 = true := by
  rw [codes_eq]
  intro c hc
  simp only [codes1, List.mem_cons, List.not_mem_nil, or_false] at hc
  rcases hc with rfl | rfl | rfl | rfl | rfl | rfl | rfl | rfl | rfl | rfl | rfl | rfl | rfl | rfl | rfl | rfl | rfl | rfl | rfl | rfl | rfl | rfl | rfl | rfl | rfl
  · exact w_c0
  · exact w_c1
  · exact w_c2
  · exact w_c3
  · exact w_c4
  · exact w_c5
  · exact w_c6
  · exact w_c7
  · exact w_c8
  · exact w_c9
  · exact w_c10
  · exact w_c11
  · exact w_c12
  · exact w_c13
  · exact w_c14
  · exact w_c15
  · exact w_c16
  · exact w_c17
  · exact w_c18
  · exact w_c19
  · exact w_c20
  · exact w_c21
  · exact w_c22
  · exact w_c23
  · exact w_c24
set_option maxRecDepth 65536 in
theorem w_t1 : (words1.take 24).all (fun c => isCode c || c.before args0 about1) = true := by decide +kernel
set_option maxRecDepth 65536 in
theorem w_t2 : ((words1.drop 24).take 24).all (fun c => isCode c || c.before args0 about1) = true := by decide +kernel
set_option maxRecDepth 65536 in
theorem w_t3 : (((words1.drop 24).drop 24).take 24).all (fun c => isCode c || c.before args0 about1) = true := by decide +kernel
set_option maxRecDepth 65536 in
theorem w_t4 : ((((words1.drop 24).drop 24).drop 24).take 24).all (fun c => isCode c || c.before args0 about1) = true := by decide +kernel
set_option maxRecDepth 65536 in
theorem w_t5 : (((((words1.drop 24).drop 24).drop 24).drop 24).take 24).all (fun c => isCode c || c.before args0 about1) = true := by decide +kernel
set_option maxRecDepth 65536 in
theorem w_t6 : ((((((words1.drop 24).drop 24).drop 24).drop 24).drop 24).take 24).all (fun c => isCode c || c.before args0 about1) = true := by decide +kernel
set_option maxRecDepth 65536 in
theorem w_t7 : (((((((words1.drop 24).drop 24).drop 24).drop 24).drop 24).drop 24).take 24).all (fun c => isCode c || c.before args0 about1) = true := by decide +kernel
set_option maxRecDepth 65536 in
theorem w_t8 : (((((((words1.drop 24).drop 24).drop 24).drop 24).drop 24).drop 24).drop 24).all (fun c => isCode c || c.before args0 about1) = true := by decide +kernel
theorem w_tables : (allAtoms (Jvm.Cond.code x code maxLocals ret :: tables_1)).before args0 about1 = true := by
  rw [allAtoms_all]
  show words1.all (fun c => c.before args0 about1) = true
  refine all_split ?_ w_codes
  rw [← List.take_append_drop 24 words1, List.all_append, w_t1, ← List.take_append_drop 24 (words1.drop 24), List.all_append, w_t2, ← List.take_append_drop 24 ((words1.drop 24).drop 24), List.all_append, w_t3, ← List.take_append_drop 24 (((words1.drop 24).drop 24).drop 24), List.all_append, w_t4, ← List.take_append_drop 24 ((((words1.drop 24).drop 24).drop 24).drop 24), List.all_append, w_t5, ← List.take_append_drop 24 (((((words1.drop 24).drop 24).drop 24).drop 24).drop 24), List.all_append, w_t6, ← List.take_append_drop 24 ((((((words1.drop 24).drop 24).drop 24).drop 24).drop 24).drop 24), List.all_append, w_t7, w_t8]
  rfl
set_option maxRecDepth 65536 in
theorem w_rest : rest_1_c.before args0 about1 = true := by decide +kernel
set_option maxRecDepth 65536 in
theorem w_case : (Jvm.Cond.and given_1 narrow_1).before args0 about1 = true := by decide +kernel
theorem w_applies : (headSpec (Jvm.Cond.code x code maxLocals ret :: tables_1) room_1).applies x e0.platform about1 = true :=
  (Spec.applies_iff w_frames).mpr ⟨w_running, w_runnable, w_alone, w_named, w_hears, w_ripe, w_room, w_tables⟩
theorem atStart : AtStart classFile x code maxLocals ret World_1 tables_1 room_1 Calls_1 rest_1 Pre_1 launch0 p0 e0 about1 theMethod args0 below0 :=
  ⟨lists_1, trivial, launch0.admits_env _ _ _, launch0.least_env, fairChoices_fair.cas, fairChoices_fair.clock, w_frames, w_args, w_heap, w_applies, trivial, w_rest, w_case⟩
end start1
theorem witness_1 : WitnessClaimed_1 := ⟨start1.p0, start1.e0, start1.about1, start1.theMethod, start1.args0, start1.below0, start1.atStart⟩
end Jvm.Pilot.@@N@@
