import JvmDerived
import JvmDerived.Pilot.@@N@@Statement
import JvmDerived.Pilot.@@N@@Code
set_option linter.unusedVariables false
set_option linter.unusedSimpArgs false
@@BLOCK:NumsL.lean.txt@@
namespace Jvm.Pilot.@@N@@
open Jvm Jvm.ClassFile Sem Op Lib Jvm.Free Jvm.Stand Jvm.LawKit Jvm.RoadKit Bundle Jvm.Pilot.@@N@@.Jvm.D

def own_pick (i : Int32) (aS aF aT : Addr) : Addr := if i = 0 then aS else if i = 1 then aF else aT
def own_max (i j : Int32) : Int32 := if i < j then j else i
def own_comb (u v aS aF aT : Addr) : Addr := if u = aT then aT else if v = aT then aT else if u = aF then aF else if v = aF then aF else aS
theorem ef_rmP (m : MethodId) (x0 : Int32) : entryFrame m #[(.int x0)] 1 = mkF m 0 #[.val (.int x0)] [] := by first | (simp [entryFrame, mkF, argsToLocals, Value.category]; done) | rfl
theorem pn_1 : plainName "com/example/kiseki/kiseki/tracing/ResultCodeCombinePinLaw" = true := by first | (simp [plainName, overriddenIn]; done) | decide +kernel
theorem d1_0 : decode method_2_code 0 = .ok (.iload_n 0, 1) := by decide +kernel
theorem d1_1 : decode method_2_code 1 = .ok (.ifCond .ne 7, 3) := by decide +kernel
theorem d1_4 : decode method_2_code 4 = .ok (.getstatic 7, 3) := by decide +kernel
theorem d1_7 : decode method_2_code 7 = .ok (.areturn, 1) := by decide +kernel
theorem d1_8 : decode method_2_code 8 = .ok (.iload_n 0, 1) := by decide +kernel
theorem d1_9 : decode method_2_code 9 = .ok (.iconst 1, 1) := by decide +kernel
theorem d1_10 : decode method_2_code 10 = .ok (.if_icmp .ne 7, 3) := by decide +kernel
theorem d1_13 : decode method_2_code 13 = .ok (.getstatic 13, 3) := by decide +kernel
theorem d1_16 : decode method_2_code 16 = .ok (.areturn, 1) := by decide +kernel
theorem d1_17 : decode method_2_code 17 = .ok (.getstatic 16, 3) := by decide +kernel
theorem d1_20 : decode method_2_code 20 = .ok (.areturn, 1) := by decide +kernel
def Q_rmP (Z : State) (p1 : Int32) (aS : Addr) (aF : Addr) (aT : Addr) (h0 : Heap) (n0 : Nat) (v : Option Value) (h : Heap) (L : List Loc) : Prop := v = some (.ref (own_pick p1 aS aF aT)) ∧ Fr n0 L ∧ h = h0
set_option maxRecDepth 65536 in
set_option maxHeartbeats 40000000 in
theorem rmP (l : Launch) (Z : State) (a0 : Array Value) (hw : ∀ d ∈ tables_1, d.before a0 Z = true) (ws : List Jvm.Cond) (p1 : Int32) (aS : Addr) (aF : Addr) (aT : Addr) (h0 : Heap) (n0 : Nat) (Z0 : n0 ≤ h0.size) (S_aS : Sta Z h0 "com/example/kiseki/kiseki/tracing/ResultCode" "SUCCESS" "Lcom/example/kiseki/kiseki/tracing/ResultCode;" (.ref aS)) (S_aF : Sta Z h0 "com/example/kiseki/kiseki/tracing/ResultCode" "FAILURE" "Lcom/example/kiseki/kiseki/tracing/ResultCode;" (.ref aF)) (S_aT : Sta Z h0 "com/example/kiseki/kiseki/tracing/ResultCode" "TIMEOUT" "Lcom/example/kiseki/kiseki/tracing/ResultCode;" (.ref aT)) :
    MetFree l (⟨"com/example/kiseki/kiseki/tracing/ResultCodeCombinePinLaw", "pick", "(I)Lcom/example/kiseki/kiseki/tracing/ResultCode;"⟩ : MethodName) (head1 (Jvm.Cond.code (⟨"com/example/kiseki/kiseki/tracing/ResultCodeCombinePinLaw", "pick", "(I)Lcom/example/kiseki/kiseki/tracing/ResultCode;"⟩ : MethodName) method_2_code 1 (some (.object "com/example/kiseki/kiseki/tracing/ResultCode")) :: ws) ({ frames := 0, cells := 0, slots := 0, locals := 0 } : Room)) (fun a U => a = #[(.int p1)] ∧ Z.Warmed39 U.vm ∧ U.heap = h0) (fun _ _ _ _ _ => True) (fun _ U o U' => ∃ v L, o = .returned v ∧ Q_rmP Z p1 aS aF aT h0 n0 v U'.heap L ∧ FrameEnd U o U' L ({ frames := 0, cells := 0, slots := 0, locals := 0 } : Room).cells ({ frames := 0, cells := 0, slots := 0, locals := 0 } : Room).slots) := by
  refine MetFree.of_bodySF (plainFor_of_name pn_1) hisR ?_
  intro p e s m args below meth c s₁ Bd hml0 hP hK
  obtain ⟨rfl, hZ, hh⟩ := hP
  have hx := Bd.exec
  have hby := Bd.bytes
  have hml : c.maxLocals = 1 := hml0
  have hown : s.vm.findClass "com/example/kiseki/kiseki/tracing/ResultCodeCombinePinLaw" = some m.cls := findClass_of_methodNamed Bd.named
  have hnm := (name_of_methodNamed Bd.named Bd.method).1
  have X0 : Stand p l e ({ frames := 0, cells := 0, slots := 0, locals := 0 } : Room) s m #[(.int p1)] below meth c s₁ [] 0 0 := Stand.of_body Bd
  have e0 : s₁.heap = h0 := by rw [← hh, Bd.state]; rfl
  have N0 := Fr.nil n0
  have pre0 : ∀ t, Steps p.tables e below (s₁.setTop (mkF m 0 #[.val (.int p1)] [])) t → Steps p.tables e below (s₁.setTop (entryFrame m #[(.int p1)] 1)) t := fun t k => castTop (ef_rmP m p1) k
  have pre1 : ∀ t, Steps p.tables e below (s₁.setTop (mkF m 1 #[.val (.int p1)] [(.int p1)])) t → Steps p.tables e below (s₁.setTop (entryFrame m #[(.int p1)] 1)) t := by
    intro t k
    refine pre0 t ?_
    show Steps p.tables e below (s₁.setTop (mkF m 0 #[.val (.int p1)] [])) _
    refine XS.iloadN X0.here hx rfl (hb hby d1_0) rfl ?_
    show Steps p.tables e below (s₁.setTop (mkF m 1 #[.val (.int p1)] [(.int p1)])) _
    exact k
  by_cases h1 : p1 = (0 : Int32)
  · skip
    obtain ⟨T2, X2, e2, st2⟩ := getS2 X0 hx hZ hown (host := "") (Or.inl (hw _ (List.mem_of_getElem? (i := 5) rfl))) Via.refl e0 S_aS (g := (mkF m 4 #[.val (.int p1)] [])) rfl (hb hby d1_4)
    have pre3 : ∀ t, Steps p.tables e below (T2.setTop (mkF m 7 #[.val (.int p1)] [(.ref aS)])) t → Steps p.tables e below (s₁.setTop (entryFrame m #[(.int p1)] 1)) t := by
      intro t k
      refine pre1 t ?_
      refine XS.ifNo X0.here hx rfl (hb hby d1_1) rfl ((if0 _ _).trans (teq h1).2) ?_
      show Steps p.tables e below (s₁.setTop (mkF m 4 #[.val (.int p1)] [])) _
      refine st2 _ ?_
      show Steps p.tables e below (T2.setTop (mkF m 7 #[.val (.int p1)] [(.ref aS)])) _
      exact k
    obtain ⟨fs, hr, hrun, hended, hW, hsame⟩ := X2.leave (v := some (.ref aS)) (fun h => by rw [Bd.returns] at h; cases h)
    refine ⟨_, _, pre3 _ ?_, hrun, hended, _, _, rfl, ?_, ⟨_, rfl⟩, hW, hsame.mono (by decide) (by decide)⟩
    · exact retOut X2 hx Bd.returns (by first | rfl | simp [narrow]) (Or.inr (Or.inr (Or.inr (Or.inr ⟨rfl, rfl, rfl⟩)))) (hb hby d1_7) hr
    · show Q_rmP Z p1 aS aF aT h0 n0 _ T2.heap _
      rw [e2]
      exact ⟨by simp [own_pick, h1], N0, rfl⟩
  · skip
    have pre4 : ∀ t, Steps p.tables e below (s₁.setTop (mkF m 10 #[.val (.int p1)] [(.int (1 : Int32)), (.int p1)])) t → Steps p.tables e below (s₁.setTop (entryFrame m #[(.int p1)] 1)) t := by
      intro t k
      refine pre1 t ?_
      refine XS.ifYes X0.here hx rfl (pc0 := 1) (pc' := 8) rfl (hb hby d1_1) rfl ((if0 _ _).trans (feq h1).2) (by decide) (by decide) ?_
      show Steps p.tables e below (s₁.setTop (mkF m 8 #[.val (.int p1)] [])) _
      refine XS.iloadN X0.here hx rfl (hb hby d1_8) rfl ?_
      show Steps p.tables e below (s₁.setTop (mkF m 9 #[.val (.int p1)] [(.int p1)])) _
      refine XS.iconst X0.here hx rfl (hb hby d1_9) ?_
      show Steps p.tables e below (s₁.setTop (mkF m 10 #[.val (.int p1)] [(.int (1 : Int32)), (.int p1)])) _
      exact k
    by_cases h10 : p1 = (1 : Int32)
    · skip
      obtain ⟨T5, X5, e5, st5⟩ := getS2 X0 hx hZ hown (host := "") (Or.inl (hw _ (List.mem_of_getElem? (i := 23) rfl))) Via.refl e0 S_aF (g := (mkF m 13 #[.val (.int p1)] [])) rfl (hb hby d1_13)
      have pre6 : ∀ t, Steps p.tables e below (T5.setTop (mkF m 16 #[.val (.int p1)] [(.ref aF)])) t → Steps p.tables e below (s₁.setTop (entryFrame m #[(.int p1)] 1)) t := by
        intro t k
        refine pre4 t ?_
        refine XS.icmpNo X0.here hx rfl (hb hby d1_10) rfl (teq h10).2 ?_
        show Steps p.tables e below (s₁.setTop (mkF m 13 #[.val (.int p1)] [])) _
        refine st5 _ ?_
        show Steps p.tables e below (T5.setTop (mkF m 16 #[.val (.int p1)] [(.ref aF)])) _
        exact k
      obtain ⟨fs, hr, hrun, hended, hW, hsame⟩ := X5.leave (v := some (.ref aF)) (fun h => by rw [Bd.returns] at h; cases h)
      refine ⟨_, _, pre6 _ ?_, hrun, hended, _, _, rfl, ?_, ⟨_, rfl⟩, hW, hsame.mono (by decide) (by decide)⟩
      · exact retOut X5 hx Bd.returns (by first | rfl | simp [narrow]) (Or.inr (Or.inr (Or.inr (Or.inr ⟨rfl, rfl, rfl⟩)))) (hb hby d1_16) hr
      · show Q_rmP Z p1 aS aF aT h0 n0 _ T5.heap _
        rw [e5]
        exact ⟨by simp [own_pick, h1, h10], N0, rfl⟩
    · skip
      obtain ⟨T7, X7, e7, st7⟩ := getS2 X0 hx hZ hown (host := "") (Or.inl (hw _ (List.mem_of_getElem? (i := 22) rfl))) Via.refl e0 S_aT (g := (mkF m 17 #[.val (.int p1)] [])) rfl (hb hby d1_17)
      have pre8 : ∀ t, Steps p.tables e below (T7.setTop (mkF m 20 #[.val (.int p1)] [(.ref aT)])) t → Steps p.tables e below (s₁.setTop (entryFrame m #[(.int p1)] 1)) t := by
        intro t k
        refine pre4 t ?_
        refine XS.icmpYes X0.here hx rfl (pc0 := 10) (pc' := 17) rfl (hb hby d1_10) rfl (feq h10).2 (by decide) (by decide) ?_
        show Steps p.tables e below (s₁.setTop (mkF m 17 #[.val (.int p1)] [])) _
        refine st7 _ ?_
        show Steps p.tables e below (T7.setTop (mkF m 20 #[.val (.int p1)] [(.ref aT)])) _
        exact k
      obtain ⟨fs, hr, hrun, hended, hW, hsame⟩ := X7.leave (v := some (.ref aT)) (fun h => by rw [Bd.returns] at h; cases h)
      refine ⟨_, _, pre8 _ ?_, hrun, hended, _, _, rfl, ?_, ⟨_, rfl⟩, hW, hsame.mono (by decide) (by decide)⟩
      · exact retOut X7 hx Bd.returns (by first | rfl | simp [narrow]) (Or.inr (Or.inr (Or.inr (Or.inr ⟨rfl, rfl, rfl⟩)))) (hb hby d1_20) hr
      · show Q_rmP Z p1 aS aF aT h0 n0 _ T7.heap _
        rw [e7]
        exact ⟨by simp [own_pick, h1, h10], N0, rfl⟩
theorem ef_rmM (m : MethodId) (x0 : Int32) (x1 : Int32) : entryFrame m #[(.int x0), (.int x1)] 2 = mkF m 0 #[.val (.int x0), .val (.int x1)] [] := by first | (simp [entryFrame, mkF, argsToLocals, Value.category]; done) | rfl
theorem d2_0 : decode jdk_29_method_65_code 0 = .ok (.iload_n 0, 1) := by decide +kernel
theorem d2_1 : decode jdk_29_method_65_code 1 = .ok (.iload_n 1, 1) := by decide +kernel
theorem d2_2 : decode jdk_29_method_65_code 2 = .ok (.if_icmp .lt 7, 3) := by decide +kernel
theorem d2_9 : decode jdk_29_method_65_code 9 = .ok (.iload_n 1, 1) := by decide +kernel
theorem d2_10 : decode jdk_29_method_65_code 10 = .ok (.ireturn, 1) := by decide +kernel
theorem d2_5 : decode jdk_29_method_65_code 5 = .ok (.iload_n 0, 1) := by decide +kernel
theorem d2_6 : decode jdk_29_method_65_code 6 = .ok (.goto 4, 3) := by decide +kernel
def Q_rmM (Z : State) (p1 : Int32) (p2 : Int32) (h0 : Heap) (n0 : Nat) (v : Option Value) (h : Heap) (L : List Loc) : Prop := v = some (.int (own_max p1 p2)) ∧ Fr n0 L ∧ h = h0
set_option maxRecDepth 65536 in
set_option maxHeartbeats 40000000 in
theorem rmM (l : Launch) (Z : State) (a0 : Array Value) (hw : ∀ d ∈ tables_1, d.before a0 Z = true) (ws : List Jvm.Cond) (p1 : Int32) (p2 : Int32) (h0 : Heap) (n0 : Nat) (Z0 : n0 ≤ h0.size) :
    MetFree l (⟨"java/lang/Math", "max", "(II)I"⟩ : MethodName) (head1 (Jvm.Cond.code (⟨"java/lang/Math", "max", "(II)I"⟩ : MethodName) jdk_29_method_65_code 2 (some .int) :: ws) ({ frames := 0, cells := 0, slots := 0, locals := 0 } : Room)) (fun a U => a = #[(.int p1), (.int p2)] ∧ Z.Warmed39 U.vm ∧ U.heap = h0) (fun _ _ _ _ _ => True) (fun _ U o U' => ∃ v L, o = .returned v ∧ Q_rmM Z p1 p2 h0 n0 v U'.heap L ∧ FrameEnd U o U' L ({ frames := 0, cells := 0, slots := 0, locals := 0 } : Room).cells ({ frames := 0, cells := 0, slots := 0, locals := 0 } : Room).slots) := by
  refine MetFree.of_bodySF (Jvm.Free.JP.mathPlain rfl (by decide +kernel)) hisR ?_
  intro p e s m args below meth c s₁ Bd hml0 hP hK
  obtain ⟨rfl, hZ, hh⟩ := hP
  have hx := Bd.exec
  have hby := Bd.bytes
  have hml : c.maxLocals = 2 := hml0
  have hown : s.vm.findClass "java/lang/Math" = some m.cls := findClass_of_methodNamed Bd.named
  have hnm := (name_of_methodNamed Bd.named Bd.method).1
  have X0 : Stand p l e ({ frames := 0, cells := 0, slots := 0, locals := 0 } : Room) s m #[(.int p1), (.int p2)] below meth c s₁ [] 0 0 := Stand.of_body Bd
  have e0 : s₁.heap = h0 := by rw [← hh, Bd.state]; rfl
  have N0 := Fr.nil n0
  have pre0 : ∀ t, Steps p.tables e below (s₁.setTop (mkF m 0 #[.val (.int p1), .val (.int p2)] [])) t → Steps p.tables e below (s₁.setTop (entryFrame m #[(.int p1), (.int p2)] 2)) t := fun t k => castTop (ef_rmM m p1 p2) k
  have pre1 : ∀ t, Steps p.tables e below (s₁.setTop (mkF m 2 #[.val (.int p1), .val (.int p2)] [(.int p2), (.int p1)])) t → Steps p.tables e below (s₁.setTop (entryFrame m #[(.int p1), (.int p2)] 2)) t := by
    intro t k
    refine pre0 t ?_
    show Steps p.tables e below (s₁.setTop (mkF m 0 #[.val (.int p1), .val (.int p2)] [])) _
    refine XS.iloadN X0.here hx rfl (hb hby d2_0) rfl ?_
    show Steps p.tables e below (s₁.setTop (mkF m 1 #[.val (.int p1), .val (.int p2)] [(.int p1)])) _
    refine XS.iloadN X0.here hx rfl (hb hby d2_1) rfl ?_
    show Steps p.tables e below (s₁.setTop (mkF m 2 #[.val (.int p1), .val (.int p2)] [(.int p2), (.int p1)])) _
    exact k
  by_cases h2 : p1 < p2
  · skip
    have pre2 : ∀ t, Steps p.tables e below (s₁.setTop (mkF m 10 #[.val (.int p1), .val (.int p2)] [(.int p2)])) t → Steps p.tables e below (s₁.setTop (entryFrame m #[(.int p1), (.int p2)] 2)) t := by
      intro t k
      refine pre1 t ?_
      refine XS.icmpYes X0.here hx rfl (pc0 := 2) (pc' := 9) rfl (hb hby d2_2) rfl (tlt h2).1 (by decide) (by decide) ?_
      show Steps p.tables e below (s₁.setTop (mkF m 9 #[.val (.int p1), .val (.int p2)] [])) _
      refine XS.iloadN X0.here hx rfl (hb hby d2_9) rfl ?_
      show Steps p.tables e below (s₁.setTop (mkF m 10 #[.val (.int p1), .val (.int p2)] [(.int p2)])) _
      exact k
    obtain ⟨fs, hr, hrun, hended, hW, hsame⟩ := X0.leave (v := some (.int p2)) (fun h => by rw [Bd.returns] at h; cases h)
    refine ⟨_, _, pre2 _ ?_, hrun, hended, _, _, rfl, ?_, ⟨_, rfl⟩, hW, hsame.mono (by decide) (by decide)⟩
    · exact retOut X0 hx Bd.returns rfl (Or.inl ⟨rfl, Or.inl rfl, _, rfl⟩) (hb hby d2_10) hr
    · show Q_rmM Z p1 p2 h0 n0 _ s₁.heap _
      rw [e0]
      exact ⟨by simp [own_max, h2], N0, rfl⟩
  · skip
    have pre3 : ∀ t, Steps p.tables e below (s₁.setTop (mkF m 10 #[.val (.int p1), .val (.int p2)] [(.int p1)])) t → Steps p.tables e below (s₁.setTop (entryFrame m #[(.int p1), (.int p2)] 2)) t := by
      intro t k
      refine pre1 t ?_
      refine XS.icmpNo X0.here hx rfl (hb hby d2_2) rfl (flt h2).1 ?_
      show Steps p.tables e below (s₁.setTop (mkF m 5 #[.val (.int p1), .val (.int p2)] [])) _
      refine XS.iloadN X0.here hx rfl (hb hby d2_5) rfl ?_
      show Steps p.tables e below (s₁.setTop (mkF m 6 #[.val (.int p1), .val (.int p2)] [(.int p1)])) _
      refine XS.goto X0.here hx rfl (pc0 := 6) (pc' := 10) rfl (hb hby d2_6) (by decide) (by decide) ?_
      show Steps p.tables e below (s₁.setTop (mkF m 10 #[.val (.int p1), .val (.int p2)] [(.int p1)])) _
      exact k
    obtain ⟨fs, hr, hrun, hended, hW, hsame⟩ := X0.leave (v := some (.int p1)) (fun h => by rw [Bd.returns] at h; cases h)
    refine ⟨_, _, pre3 _ ?_, hrun, hended, _, _, rfl, ?_, ⟨_, rfl⟩, hW, hsame.mono (by decide) (by decide)⟩
    · exact retOut X0 hx Bd.returns rfl (Or.inl ⟨rfl, Or.inl rfl, _, rfl⟩) (hb hby d2_10) hr
    · show Q_rmM Z p1 p2 h0 n0 _ s₁.heap _
      rw [e0]
      exact ⟨by simp [own_max, h2], N0, rfl⟩
theorem ef_rmC (m : MethodId) (x0 : Addr) (x1 : Addr) : entryFrame m #[(.ref x0), (.ref x1)] 3 = mkF m 0 #[.val (.ref x0), .val (.ref x1), .unset] [] := by first | (simp [entryFrame, mkF, argsToLocals, Value.category]; done) | rfl
theorem pn_0 : plainName "com/example/kiseki/kiseki/tracing/ResultCode" = true := by first | (simp [plainName, overriddenIn]; done) | decide +kernel
theorem d3_0 : decode prog_54_method_4_code 0 = .ok (.aload_n 0, 1) := by decide +kernel
theorem d3_1 : decode prog_54_method_4_code 1 = .ok (.getstatic 10, 3) := by decide +kernel
theorem d3_4 : decode prog_54_method_4_code 4 = .ok (.if_acmp .eq 10, 3) := by decide +kernel
theorem d3_14 : decode prog_54_method_4_code 14 = .ok (.getstatic 10, 3) := by decide +kernel
theorem d3_17 : decode prog_54_method_4_code 17 = .ok (.astore_n 2, 1) := by decide +kernel
theorem d3_18 : decode prog_54_method_4_code 18 = .ok (.goto 28, 3) := by decide +kernel
theorem d3_46 : decode prog_54_method_4_code 46 = .ok (.aload_n 2, 1) := by decide +kernel
theorem d3_47 : decode prog_54_method_4_code 47 = .ok (.areturn, 1) := by decide +kernel
theorem d3_7 : decode prog_54_method_4_code 7 = .ok (.aload_n 1, 1) := by decide +kernel
theorem d3_8 : decode prog_54_method_4_code 8 = .ok (.getstatic 10, 3) := by decide +kernel
theorem d3_11 : decode prog_54_method_4_code 11 = .ok (.if_acmp .ne 10, 3) := by decide +kernel
theorem d3_21 : decode prog_54_method_4_code 21 = .ok (.aload_n 0, 1) := by decide +kernel
theorem d3_22 : decode prog_54_method_4_code 22 = .ok (.getstatic 7, 3) := by decide +kernel
theorem d3_25 : decode prog_54_method_4_code 25 = .ok (.if_acmp .eq 10, 3) := by decide +kernel
theorem d3_35 : decode prog_54_method_4_code 35 = .ok (.getstatic 7, 3) := by decide +kernel
theorem d3_38 : decode prog_54_method_4_code 38 = .ok (.astore_n 2, 1) := by decide +kernel
theorem d3_39 : decode prog_54_method_4_code 39 = .ok (.goto 7, 3) := by decide +kernel
theorem d3_28 : decode prog_54_method_4_code 28 = .ok (.aload_n 1, 1) := by decide +kernel
theorem d3_29 : decode prog_54_method_4_code 29 = .ok (.getstatic 7, 3) := by decide +kernel
theorem d3_32 : decode prog_54_method_4_code 32 = .ok (.if_acmp .ne 10, 3) := by decide +kernel
theorem d3_42 : decode prog_54_method_4_code 42 = .ok (.getstatic 3, 3) := by decide +kernel
theorem d3_45 : decode prog_54_method_4_code 45 = .ok (.astore_n 2, 1) := by decide +kernel
def Q_rmC (Z : State) (a1 : Addr) (a2 : Addr) (aS : Addr) (aF : Addr) (aT : Addr) (h0 : Heap) (n0 : Nat) (v : Option Value) (h : Heap) (L : List Loc) : Prop := v = some (.ref (own_comb a1 a2 aS aF aT)) ∧ Fr n0 L ∧ h = h0
set_option maxRecDepth 65536 in
set_option maxHeartbeats 40000000 in
theorem rmC (l : Launch) (Z : State) (a0 : Array Value) (hw : ∀ d ∈ tables_1, d.before a0 Z = true) (ws : List Jvm.Cond) (a1 : Addr) (a2 : Addr) (aS : Addr) (aF : Addr) (aT : Addr) (h0 : Heap) (n0 : Nat) (Z0 : n0 ≤ h0.size) (S_aS : Sta Z h0 "com/example/kiseki/kiseki/tracing/ResultCode" "SUCCESS" "Lcom/example/kiseki/kiseki/tracing/ResultCode;" (.ref aS)) (S_aF : Sta Z h0 "com/example/kiseki/kiseki/tracing/ResultCode" "FAILURE" "Lcom/example/kiseki/kiseki/tracing/ResultCode;" (.ref aF)) (S_aT : Sta Z h0 "com/example/kiseki/kiseki/tracing/ResultCode" "TIMEOUT" "Lcom/example/kiseki/kiseki/tracing/ResultCode;" (.ref aT)) :
    MetFree l (⟨"com/example/kiseki/kiseki/tracing/ResultCode", "combine", "(Lcom/example/kiseki/kiseki/tracing/ResultCode;)Lcom/example/kiseki/kiseki/tracing/ResultCode;"⟩ : MethodName) (head1 (Jvm.Cond.code (⟨"com/example/kiseki/kiseki/tracing/ResultCode", "combine", "(Lcom/example/kiseki/kiseki/tracing/ResultCode;)Lcom/example/kiseki/kiseki/tracing/ResultCode;"⟩ : MethodName) prog_54_method_4_code 3 (some (.object "com/example/kiseki/kiseki/tracing/ResultCode")) :: ws) ({ frames := 0, cells := 0, slots := 0, locals := 0 } : Room)) (fun a U => a = #[(.ref a1), (.ref a2)] ∧ Z.Warmed39 U.vm ∧ U.heap = h0) (fun _ _ _ _ _ => True) (fun _ U o U' => ∃ v L, o = .returned v ∧ Q_rmC Z a1 a2 aS aF aT h0 n0 v U'.heap L ∧ FrameEnd U o U' L ({ frames := 0, cells := 0, slots := 0, locals := 0 } : Room).cells ({ frames := 0, cells := 0, slots := 0, locals := 0 } : Room).slots) := by
  refine MetFree.of_bodySF (plainFor_of_name pn_0) hisR ?_
  intro p e s m args below meth c s₁ Bd hml0 hP hK
  obtain ⟨rfl, hZ, hh⟩ := hP
  have hx := Bd.exec
  have hby := Bd.bytes
  have hml : c.maxLocals = 3 := hml0
  have hown : s.vm.findClass "com/example/kiseki/kiseki/tracing/ResultCode" = some m.cls := findClass_of_methodNamed Bd.named
  have hnm := (name_of_methodNamed Bd.named Bd.method).1
  have X0 : Stand p l e ({ frames := 0, cells := 0, slots := 0, locals := 0 } : Room) s m #[(.ref a1), (.ref a2)] below meth c s₁ [] 0 0 := Stand.of_body Bd
  have e0 : s₁.heap = h0 := by rw [← hh, Bd.state]; rfl
  have N0 := Fr.nil n0
  have pre0 : ∀ t, Steps p.tables e below (s₁.setTop (mkF m 0 #[.val (.ref a1), .val (.ref a2), .unset] [])) t → Steps p.tables e below (s₁.setTop (entryFrame m #[(.ref a1), (.ref a2)] 3)) t := fun t k => castTop (ef_rmC m a1 a2) k
  obtain ⟨T1, X1, e1, st1⟩ := getS2 X0 hx hZ hown (host := "") (Or.inl (hw _ (List.mem_of_getElem? (i := 17) rfl))) Via.refl e0 S_aT (g := (mkF m 1 #[.val (.ref a1), .val (.ref a2), .unset] [(.ref a1)])) rfl (hb hby d3_1)
  have pre2 : ∀ t, Steps p.tables e below (T1.setTop (mkF m 4 #[.val (.ref a1), .val (.ref a2), .unset] [(.ref aT), (.ref a1)])) t → Steps p.tables e below (s₁.setTop (entryFrame m #[(.ref a1), (.ref a2)] 3)) t := by
    intro t k
    refine pre0 t ?_
    show Steps p.tables e below (s₁.setTop (mkF m 0 #[.val (.ref a1), .val (.ref a2), .unset] [])) _
    refine XS.aloadN X0.here hx rfl (hb hby d3_0) rfl (rfl) ?_
    show Steps p.tables e below (s₁.setTop (mkF m 1 #[.val (.ref a1), .val (.ref a2), .unset] [(.ref a1)])) _
    refine st1 _ ?_
    show Steps p.tables e below (T1.setTop (mkF m 4 #[.val (.ref a1), .val (.ref a2), .unset] [(.ref aT), (.ref a1)])) _
    exact k
  by_cases h4 : a1 = aT
  · skip
    obtain ⟨T3, X3, e3, st3⟩ := getS2 X1 hx hZ hown (host := "") (Or.inl (hw _ (List.mem_of_getElem? (i := 17) rfl))) Via.refl e1 S_aT (g := (mkF m 14 #[.val (.ref a1), .val (.ref a2), .unset] [])) rfl (hb hby d3_14)
    have pre4 : ∀ t, Steps p.tables e below (T3.setTop (mkF m 47 #[.val (.ref a1), .val (.ref a2), .val (.ref aT)] [(.ref aT)])) t → Steps p.tables e below (s₁.setTop (entryFrame m #[(.ref a1), (.ref a2)] 3)) t := by
      intro t k
      refine pre2 t ?_
      refine Jvm.RoadKit.acmp (g := (mkF m 4 #[.val (.ref a1), .val (.ref a2), .unset] [(.ref aT), (.ref a1)])) X1 hx rfl rfl rfl (pc0 := 4) (pc' := 14) (same := true) rfl (hb hby d3_4) rfl (decide_eq_true (congrArg Value.ref h4)) (by decide) (by decide) ?_
      show Steps p.tables e below (T1.setTop (mkF m 14 #[.val (.ref a1), .val (.ref a2), .unset] [])) _
      refine st3 _ ?_
      show Steps p.tables e below (T3.setTop (mkF m 17 #[.val (.ref a1), .val (.ref a2), .unset] [(.ref aT)])) _
      refine XS.astoreN X3.here hx rfl (hb hby d3_17) rfl (rfl) (l' := #[.val (.ref a1), .val (.ref a2), .val (.ref aT)]) rfl ?_
      show Steps p.tables e below (T3.setTop (mkF m 18 #[.val (.ref a1), .val (.ref a2), .val (.ref aT)] [])) _
      refine XS.goto X3.here hx rfl (pc0 := 18) (pc' := 46) rfl (hb hby d3_18) (by decide) (by decide) ?_
      show Steps p.tables e below (T3.setTop (mkF m 46 #[.val (.ref a1), .val (.ref a2), .val (.ref aT)] [])) _
      refine XS.aloadN X3.here hx rfl (hb hby d3_46) rfl (rfl) ?_
      show Steps p.tables e below (T3.setTop (mkF m 47 #[.val (.ref a1), .val (.ref a2), .val (.ref aT)] [(.ref aT)])) _
      exact k
    obtain ⟨fs, hr, hrun, hended, hW, hsame⟩ := X3.leave (v := some (.ref aT)) (fun h => by rw [Bd.returns] at h; cases h)
    refine ⟨_, _, pre4 _ ?_, hrun, hended, _, _, rfl, ?_, ⟨_, rfl⟩, hW, hsame.mono (by decide) (by decide)⟩
    · exact retOut X3 hx Bd.returns (by first | rfl | simp [narrow]) (Or.inr (Or.inr (Or.inr (Or.inr ⟨rfl, rfl, rfl⟩)))) (hb hby d3_47) hr
    · show Q_rmC Z a1 a2 aS aF aT h0 n0 _ T3.heap _
      rw [e3]
      exact ⟨by simp [own_comb, h4], N0, rfl⟩
  · skip
    obtain ⟨T5, X5, e5, st5⟩ := getS2 X1 hx hZ hown (host := "") (Or.inl (hw _ (List.mem_of_getElem? (i := 17) rfl))) Via.refl e1 S_aT (g := (mkF m 8 #[.val (.ref a1), .val (.ref a2), .unset] [(.ref a2)])) rfl (hb hby d3_8)
    have pre6 : ∀ t, Steps p.tables e below (T5.setTop (mkF m 11 #[.val (.ref a1), .val (.ref a2), .unset] [(.ref aT), (.ref a2)])) t → Steps p.tables e below (s₁.setTop (entryFrame m #[(.ref a1), (.ref a2)] 3)) t := by
      intro t k
      refine pre2 t ?_
      refine Jvm.RoadKit.acmp (g := (mkF m 4 #[.val (.ref a1), .val (.ref a2), .unset] [(.ref aT), (.ref a1)])) X1 hx rfl rfl rfl (pc0 := 4) (pc' := 7) (same := false) rfl (hb hby d3_4) rfl (decide_eq_false fun q => h4 (Value.ref.inj q)) (by decide) (by decide) ?_
      show Steps p.tables e below (T1.setTop (mkF m 7 #[.val (.ref a1), .val (.ref a2), .unset] [])) _
      refine XS.aloadN X1.here hx rfl (hb hby d3_7) rfl (rfl) ?_
      show Steps p.tables e below (T1.setTop (mkF m 8 #[.val (.ref a1), .val (.ref a2), .unset] [(.ref a2)])) _
      refine st5 _ ?_
      show Steps p.tables e below (T5.setTop (mkF m 11 #[.val (.ref a1), .val (.ref a2), .unset] [(.ref aT), (.ref a2)])) _
      exact k
    by_cases h11 : a2 = aT
    · skip
      obtain ⟨T7, X7, e7, st7⟩ := getS2 X5 hx hZ hown (host := "") (Or.inl (hw _ (List.mem_of_getElem? (i := 17) rfl))) Via.refl e5 S_aT (g := (mkF m 14 #[.val (.ref a1), .val (.ref a2), .unset] [])) rfl (hb hby d3_14)
      have pre8 : ∀ t, Steps p.tables e below (T7.setTop (mkF m 47 #[.val (.ref a1), .val (.ref a2), .val (.ref aT)] [(.ref aT)])) t → Steps p.tables e below (s₁.setTop (entryFrame m #[(.ref a1), (.ref a2)] 3)) t := by
        intro t k
        refine pre6 t ?_
        refine Jvm.RoadKit.acmp (g := (mkF m 11 #[.val (.ref a1), .val (.ref a2), .unset] [(.ref aT), (.ref a2)])) X5 hx rfl rfl rfl (pc0 := 11) (pc' := 14) (same := true) rfl (hb hby d3_11) rfl (decide_eq_true (congrArg Value.ref h11)) (by decide) (by decide) ?_
        show Steps p.tables e below (T5.setTop (mkF m 14 #[.val (.ref a1), .val (.ref a2), .unset] [])) _
        refine st7 _ ?_
        show Steps p.tables e below (T7.setTop (mkF m 17 #[.val (.ref a1), .val (.ref a2), .unset] [(.ref aT)])) _
        refine XS.astoreN X7.here hx rfl (hb hby d3_17) rfl (rfl) (l' := #[.val (.ref a1), .val (.ref a2), .val (.ref aT)]) rfl ?_
        show Steps p.tables e below (T7.setTop (mkF m 18 #[.val (.ref a1), .val (.ref a2), .val (.ref aT)] [])) _
        refine XS.goto X7.here hx rfl (pc0 := 18) (pc' := 46) rfl (hb hby d3_18) (by decide) (by decide) ?_
        show Steps p.tables e below (T7.setTop (mkF m 46 #[.val (.ref a1), .val (.ref a2), .val (.ref aT)] [])) _
        refine XS.aloadN X7.here hx rfl (hb hby d3_46) rfl (rfl) ?_
        show Steps p.tables e below (T7.setTop (mkF m 47 #[.val (.ref a1), .val (.ref a2), .val (.ref aT)] [(.ref aT)])) _
        exact k
      obtain ⟨fs, hr, hrun, hended, hW, hsame⟩ := X7.leave (v := some (.ref aT)) (fun h => by rw [Bd.returns] at h; cases h)
      refine ⟨_, _, pre8 _ ?_, hrun, hended, _, _, rfl, ?_, ⟨_, rfl⟩, hW, hsame.mono (by decide) (by decide)⟩
      · exact retOut X7 hx Bd.returns (by first | rfl | simp [narrow]) (Or.inr (Or.inr (Or.inr (Or.inr ⟨rfl, rfl, rfl⟩)))) (hb hby d3_47) hr
      · show Q_rmC Z a1 a2 aS aF aT h0 n0 _ T7.heap _
        rw [e7]
        exact ⟨by simp [own_comb, h4, h11], N0, rfl⟩
    · skip
      obtain ⟨T9, X9, e9, st9⟩ := getS2 X5 hx hZ hown (host := "") (Or.inl (hw _ (List.mem_of_getElem? (i := 19) rfl))) Via.refl e5 S_aF (g := (mkF m 22 #[.val (.ref a1), .val (.ref a2), .unset] [(.ref a1)])) rfl (hb hby d3_22)
      have pre10 : ∀ t, Steps p.tables e below (T9.setTop (mkF m 25 #[.val (.ref a1), .val (.ref a2), .unset] [(.ref aF), (.ref a1)])) t → Steps p.tables e below (s₁.setTop (entryFrame m #[(.ref a1), (.ref a2)] 3)) t := by
        intro t k
        refine pre6 t ?_
        refine Jvm.RoadKit.acmp (g := (mkF m 11 #[.val (.ref a1), .val (.ref a2), .unset] [(.ref aT), (.ref a2)])) X5 hx rfl rfl rfl (pc0 := 11) (pc' := 21) (same := false) rfl (hb hby d3_11) rfl (decide_eq_false fun q => h11 (Value.ref.inj q)) (by decide) (by decide) ?_
        show Steps p.tables e below (T5.setTop (mkF m 21 #[.val (.ref a1), .val (.ref a2), .unset] [])) _
        refine XS.aloadN X5.here hx rfl (hb hby d3_21) rfl (rfl) ?_
        show Steps p.tables e below (T5.setTop (mkF m 22 #[.val (.ref a1), .val (.ref a2), .unset] [(.ref a1)])) _
        refine st9 _ ?_
        show Steps p.tables e below (T9.setTop (mkF m 25 #[.val (.ref a1), .val (.ref a2), .unset] [(.ref aF), (.ref a1)])) _
        exact k
      by_cases h25 : a1 = aF
      · skip
        obtain ⟨T11, X11, e11, st11⟩ := getS2 X9 hx hZ hown (host := "") (Or.inl (hw _ (List.mem_of_getElem? (i := 19) rfl))) Via.refl e9 S_aF (g := (mkF m 35 #[.val (.ref a1), .val (.ref a2), .unset] [])) rfl (hb hby d3_35)
        have pre12 : ∀ t, Steps p.tables e below (T11.setTop (mkF m 47 #[.val (.ref a1), .val (.ref a2), .val (.ref aF)] [(.ref aF)])) t → Steps p.tables e below (s₁.setTop (entryFrame m #[(.ref a1), (.ref a2)] 3)) t := by
          intro t k
          refine pre10 t ?_
          refine Jvm.RoadKit.acmp (g := (mkF m 25 #[.val (.ref a1), .val (.ref a2), .unset] [(.ref aF), (.ref a1)])) X9 hx rfl rfl rfl (pc0 := 25) (pc' := 35) (same := true) rfl (hb hby d3_25) rfl (decide_eq_true (congrArg Value.ref h25)) (by decide) (by decide) ?_
          show Steps p.tables e below (T9.setTop (mkF m 35 #[.val (.ref a1), .val (.ref a2), .unset] [])) _
          refine st11 _ ?_
          show Steps p.tables e below (T11.setTop (mkF m 38 #[.val (.ref a1), .val (.ref a2), .unset] [(.ref aF)])) _
          refine XS.astoreN X11.here hx rfl (hb hby d3_38) rfl (rfl) (l' := #[.val (.ref a1), .val (.ref a2), .val (.ref aF)]) rfl ?_
          show Steps p.tables e below (T11.setTop (mkF m 39 #[.val (.ref a1), .val (.ref a2), .val (.ref aF)] [])) _
          refine XS.goto X11.here hx rfl (pc0 := 39) (pc' := 46) rfl (hb hby d3_39) (by decide) (by decide) ?_
          show Steps p.tables e below (T11.setTop (mkF m 46 #[.val (.ref a1), .val (.ref a2), .val (.ref aF)] [])) _
          refine XS.aloadN X11.here hx rfl (hb hby d3_46) rfl (rfl) ?_
          show Steps p.tables e below (T11.setTop (mkF m 47 #[.val (.ref a1), .val (.ref a2), .val (.ref aF)] [(.ref aF)])) _
          exact k
        obtain ⟨fs, hr, hrun, hended, hW, hsame⟩ := X11.leave (v := some (.ref aF)) (fun h => by rw [Bd.returns] at h; cases h)
        refine ⟨_, _, pre12 _ ?_, hrun, hended, _, _, rfl, ?_, ⟨_, rfl⟩, hW, hsame.mono (by decide) (by decide)⟩
        · exact retOut X11 hx Bd.returns (by first | rfl | simp [narrow]) (Or.inr (Or.inr (Or.inr (Or.inr ⟨rfl, rfl, rfl⟩)))) (hb hby d3_47) hr
        · show Q_rmC Z a1 a2 aS aF aT h0 n0 _ T11.heap _
          rw [e11]
          exact ⟨by simp [own_comb, h4, h11, h25], N0, rfl⟩
      · skip
        obtain ⟨T13, X13, e13, st13⟩ := getS2 X9 hx hZ hown (host := "") (Or.inl (hw _ (List.mem_of_getElem? (i := 19) rfl))) Via.refl e9 S_aF (g := (mkF m 29 #[.val (.ref a1), .val (.ref a2), .unset] [(.ref a2)])) rfl (hb hby d3_29)
        have pre14 : ∀ t, Steps p.tables e below (T13.setTop (mkF m 32 #[.val (.ref a1), .val (.ref a2), .unset] [(.ref aF), (.ref a2)])) t → Steps p.tables e below (s₁.setTop (entryFrame m #[(.ref a1), (.ref a2)] 3)) t := by
          intro t k
          refine pre10 t ?_
          refine Jvm.RoadKit.acmp (g := (mkF m 25 #[.val (.ref a1), .val (.ref a2), .unset] [(.ref aF), (.ref a1)])) X9 hx rfl rfl rfl (pc0 := 25) (pc' := 28) (same := false) rfl (hb hby d3_25) rfl (decide_eq_false fun q => h25 (Value.ref.inj q)) (by decide) (by decide) ?_
          show Steps p.tables e below (T9.setTop (mkF m 28 #[.val (.ref a1), .val (.ref a2), .unset] [])) _
          refine XS.aloadN X9.here hx rfl (hb hby d3_28) rfl (rfl) ?_
          show Steps p.tables e below (T9.setTop (mkF m 29 #[.val (.ref a1), .val (.ref a2), .unset] [(.ref a2)])) _
          refine st13 _ ?_
          show Steps p.tables e below (T13.setTop (mkF m 32 #[.val (.ref a1), .val (.ref a2), .unset] [(.ref aF), (.ref a2)])) _
          exact k
        by_cases h32 : a2 = aF
        · skip
          obtain ⟨T15, X15, e15, st15⟩ := getS2 X13 hx hZ hown (host := "") (Or.inl (hw _ (List.mem_of_getElem? (i := 19) rfl))) Via.refl e13 S_aF (g := (mkF m 35 #[.val (.ref a1), .val (.ref a2), .unset] [])) rfl (hb hby d3_35)
          have pre16 : ∀ t, Steps p.tables e below (T15.setTop (mkF m 47 #[.val (.ref a1), .val (.ref a2), .val (.ref aF)] [(.ref aF)])) t → Steps p.tables e below (s₁.setTop (entryFrame m #[(.ref a1), (.ref a2)] 3)) t := by
            intro t k
            refine pre14 t ?_
            refine Jvm.RoadKit.acmp (g := (mkF m 32 #[.val (.ref a1), .val (.ref a2), .unset] [(.ref aF), (.ref a2)])) X13 hx rfl rfl rfl (pc0 := 32) (pc' := 35) (same := true) rfl (hb hby d3_32) rfl (decide_eq_true (congrArg Value.ref h32)) (by decide) (by decide) ?_
            show Steps p.tables e below (T13.setTop (mkF m 35 #[.val (.ref a1), .val (.ref a2), .unset] [])) _
            refine st15 _ ?_
            show Steps p.tables e below (T15.setTop (mkF m 38 #[.val (.ref a1), .val (.ref a2), .unset] [(.ref aF)])) _
            refine XS.astoreN X15.here hx rfl (hb hby d3_38) rfl (rfl) (l' := #[.val (.ref a1), .val (.ref a2), .val (.ref aF)]) rfl ?_
            show Steps p.tables e below (T15.setTop (mkF m 39 #[.val (.ref a1), .val (.ref a2), .val (.ref aF)] [])) _
            refine XS.goto X15.here hx rfl (pc0 := 39) (pc' := 46) rfl (hb hby d3_39) (by decide) (by decide) ?_
            show Steps p.tables e below (T15.setTop (mkF m 46 #[.val (.ref a1), .val (.ref a2), .val (.ref aF)] [])) _
            refine XS.aloadN X15.here hx rfl (hb hby d3_46) rfl (rfl) ?_
            show Steps p.tables e below (T15.setTop (mkF m 47 #[.val (.ref a1), .val (.ref a2), .val (.ref aF)] [(.ref aF)])) _
            exact k
          obtain ⟨fs, hr, hrun, hended, hW, hsame⟩ := X15.leave (v := some (.ref aF)) (fun h => by rw [Bd.returns] at h; cases h)
          refine ⟨_, _, pre16 _ ?_, hrun, hended, _, _, rfl, ?_, ⟨_, rfl⟩, hW, hsame.mono (by decide) (by decide)⟩
          · exact retOut X15 hx Bd.returns (by first | rfl | simp [narrow]) (Or.inr (Or.inr (Or.inr (Or.inr ⟨rfl, rfl, rfl⟩)))) (hb hby d3_47) hr
          · show Q_rmC Z a1 a2 aS aF aT h0 n0 _ T15.heap _
            rw [e15]
            exact ⟨by simp [own_comb, h4, h11, h25, h32], N0, rfl⟩
        · skip
          obtain ⟨T17, X17, e17, st17⟩ := getS2 X13 hx hZ hown (host := "") (Or.inl (hw _ (List.mem_of_getElem? (i := 21) rfl))) Via.refl e13 S_aS (g := (mkF m 42 #[.val (.ref a1), .val (.ref a2), .unset] [])) rfl (hb hby d3_42)
          have pre18 : ∀ t, Steps p.tables e below (T17.setTop (mkF m 47 #[.val (.ref a1), .val (.ref a2), .val (.ref aS)] [(.ref aS)])) t → Steps p.tables e below (s₁.setTop (entryFrame m #[(.ref a1), (.ref a2)] 3)) t := by
            intro t k
            refine pre14 t ?_
            refine Jvm.RoadKit.acmp (g := (mkF m 32 #[.val (.ref a1), .val (.ref a2), .unset] [(.ref aF), (.ref a2)])) X13 hx rfl rfl rfl (pc0 := 32) (pc' := 42) (same := false) rfl (hb hby d3_32) rfl (decide_eq_false fun q => h32 (Value.ref.inj q)) (by decide) (by decide) ?_
            show Steps p.tables e below (T13.setTop (mkF m 42 #[.val (.ref a1), .val (.ref a2), .unset] [])) _
            refine st17 _ ?_
            show Steps p.tables e below (T17.setTop (mkF m 45 #[.val (.ref a1), .val (.ref a2), .unset] [(.ref aS)])) _
            refine XS.astoreN X17.here hx rfl (hb hby d3_45) rfl (rfl) (l' := #[.val (.ref a1), .val (.ref a2), .val (.ref aS)]) rfl ?_
            show Steps p.tables e below (T17.setTop (mkF m 46 #[.val (.ref a1), .val (.ref a2), .val (.ref aS)] [])) _
            refine XS.aloadN X17.here hx rfl (hb hby d3_46) rfl (rfl) ?_
            show Steps p.tables e below (T17.setTop (mkF m 47 #[.val (.ref a1), .val (.ref a2), .val (.ref aS)] [(.ref aS)])) _
            exact k
          obtain ⟨fs, hr, hrun, hended, hW, hsame⟩ := X17.leave (v := some (.ref aS)) (fun h => by rw [Bd.returns] at h; cases h)
          refine ⟨_, _, pre18 _ ?_, hrun, hended, _, _, rfl, ?_, ⟨_, rfl⟩, hW, hsame.mono (by decide) (by decide)⟩
          · exact retOut X17 hx Bd.returns (by first | rfl | simp [narrow]) (Or.inr (Or.inr (Or.inr (Or.inr ⟨rfl, rfl, rfl⟩)))) (hb hby d3_47) hr
          · show Q_rmC Z a1 a2 aS aF aT h0 n0 _ T17.heap _
            rw [e17]
            exact ⟨by simp [own_comb, h4, h11, h25, h32], N0, rfl⟩
theorem own_k {x z : Int32} (e : z = (x &&& (2147483647 : Int32)) % (3 : Int32)) : z = 0 ∨ z = 1 ∨ z = 2 := by
  have e1 : (x &&& 2147483647).toInt = x.toInt % 2 ^ 31 := Jvm.Kit.i32_mask x 2147483647 (k := 31) (by decide) (by decide)
  have e2 : z.toInt = (x &&& 2147483647).toInt % (3 : Int32).toInt := by rw [e]; exact Jvm.Kit.i32_rem_nonneg (by omega)
  rw [show (3 : Int32).toInt = 3 from rfl] at e2
  have e4 : (0 : Int32).toInt = 0 := rfl
  have e5 : (1 : Int32).toInt = 1 := rfl
  have e6 : (2 : Int32).toInt = 2 := rfl
  have : z.toInt = (0 : Int32).toInt ∨ z.toInt = (1 : Int32).toInt ∨ z.toInt = (2 : Int32).toInt := by omega
  rcases this with h | h | h
  · exact Or.inl (Int32.toInt_inj.mp h)
  · exact Or.inr (Or.inl (Int32.toInt_inj.mp h))
  · exact Or.inr (Or.inr (Int32.toInt_inj.mp h))
theorem own_law {i j : Int32} {aS aF aT : Addr} (hi : i = 0 ∨ i = 1 ∨ i = 2) (hj : j = 0 ∨ j = 1 ∨ j = 2) (n1 : aS ≠ aF) (n2 : aS ≠ aT) (n3 : aF ≠ aT) : own_comb (own_pick i aS aF aT) (own_pick j aS aF aT) aS aF aT = own_pick (own_max i j) aS aF aT := by
  have t1 : ¬ ((1 : Int32) = 0) := by decide
  have t2 : ¬ ((2 : Int32) = 0) := by decide
  have t3 : ¬ ((2 : Int32) = 1) := by decide
  rcases hi with rfl | rfl | rfl <;> rcases hj with rfl | rfl | rfl <;> simp [own_comb, own_pick, own_max, n1, n2, n3, n1.symm, n2.symm, n3.symm, t1, t2, t3] <;> decide
theorem own_exa {Z : State} {h : Heap} {i : Int32} {aS aF aT : Addr} {C : String} (h1 : Exa Z h aS C) (h2 : Exa Z h aF C) (h3 : Exa Z h aT C) : Exa Z h (own_pick i aS aF aT) C := by
  unfold own_pick; split
  · exact h1
  · split
    · exact h2
    · exact h3
theorem ef_rm0 (m : MethodId) (x0 : Int32) (x1 : Int32) : entryFrame m #[(.int x0), (.int x1)] maxLocals = mkF m 0 #[.val (.int x0), .val (.int x1), .unset, .unset, .unset, .unset, .unset] [] := by first | (simp [entryFrame, mkF, argsToLocals, Value.category, maxLocals]; done) | rfl
theorem pd_0 : parseMethodDescriptor "(I)Lcom/example/kiseki/kiseki/tracing/ResultCode;" = some ⟨[.int], some (.object "com/example/kiseki/kiseki/tracing/ResultCode")⟩ := by decide +kernel
theorem pd_1 : parseMethodDescriptor "(II)I" = some ⟨[.int, .int], some .int⟩ := by decide +kernel
theorem pd_2 : parseMethodDescriptor "(Lcom/example/kiseki/kiseki/tracing/ResultCode;)Lcom/example/kiseki/kiseki/tracing/ResultCode;" = some ⟨[(.object "com/example/kiseki/kiseki/tracing/ResultCode")], some (.object "com/example/kiseki/kiseki/tracing/ResultCode")⟩ := by decide +kernel
def Q_rm0 (Z : State) (p1 : Int32) (p2 : Int32) (aS : Addr) (aF : Addr) (aT : Addr) (h0 : Heap) (n0 : Nat) (v : Option Value) (h : Heap) (L : List Loc) : Prop := v = some (.int 1) ∧ Fr n0 L
set_option maxRecDepth 65536 in
set_option maxHeartbeats 40000000 in
theorem rm0 (l : Launch) (Z : State) (a0 : Array Value) (hw : ∀ d ∈ tables_1, d.before a0 Z = true) (ws : List Jvm.Cond) (p1 : Int32) (p2 : Int32) (aS : Addr) (aF : Addr) (aT : Addr) (h0 : Heap) (n0 : Nat) (Z0 : n0 ≤ h0.size) (S_aS : Sta Z h0 "com/example/kiseki/kiseki/tracing/ResultCode" "SUCCESS" "Lcom/example/kiseki/kiseki/tracing/ResultCode;" (.ref aS)) (S_aF : Sta Z h0 "com/example/kiseki/kiseki/tracing/ResultCode" "FAILURE" "Lcom/example/kiseki/kiseki/tracing/ResultCode;" (.ref aF)) (S_aT : Sta Z h0 "com/example/kiseki/kiseki/tracing/ResultCode" "TIMEOUT" "Lcom/example/kiseki/kiseki/tracing/ResultCode;" (.ref aT)) (E_aS : Exa Z h0 aS "com/example/kiseki/kiseki/tracing/ResultCode") (E_aF : Exa Z h0 aF "com/example/kiseki/kiseki/tracing/ResultCode") (E_aT : Exa Z h0 aT "com/example/kiseki/kiseki/tracing/ResultCode") (n1 : aS ≠ aF) (n2 : aS ≠ aT) (n3 : aF ≠ aT) :
    MetFree l x (head1 (Jvm.Cond.code x code maxLocals ret :: ws) room_1) (fun a U => a = #[(.int p1), (.int p2)] ∧ Z.Warmed39 U.vm ∧ U.heap = h0) (fun _ _ _ _ _ => True) (fun _ U o U' => ∃ v L, o = .returned v ∧ Q_rm0 Z p1 p2 aS aF aT h0 n0 v U'.heap L ∧ FrameEnd U o U' L room_1.cells room_1.slots) := by
  refine MetFree.of_bodySF (plainFor_of_name pn_1) hisR ?_
  intro p e s m args below meth c s₁ Bd hml0 hP hK
  obtain ⟨rfl, hZ, hh⟩ := hP
  have hx := Bd.exec
  have hby := Bd.bytes
  have hml : c.maxLocals = 7 := hml0
  have hown : s.vm.findClass "com/example/kiseki/kiseki/tracing/ResultCodeCombinePinLaw" = some m.cls := findClass_of_methodNamed Bd.named
  have hnm := (name_of_methodNamed Bd.named Bd.method).1
  have X0 : Stand p l e room_1 s m #[(.int p1), (.int p2)] below meth c s₁ [] 0 0 := Stand.of_body Bd
  have e0 : s₁.heap = h0 := by rw [← hh, Bd.state]; rfl
  have N0 := Fr.nil n0
  have pre0 : ∀ t, Steps p.tables e below (s₁.setTop (mkF m 0 #[.val (.int p1), .val (.int p2), .unset, .unset, .unset, .unset, .unset] [])) t → Steps p.tables e below (s₁.setTop (entryFrame m #[(.int p1), (.int p2)] maxLocals)) t := fun t k => castTop (ef_rm0 m p1 p2) k
  have pre1 : ∀ t, Steps p.tables e below (s₁.setTop (mkF m 6 #[.val (.int p1), .val (.int p2), .unset, .unset, .unset, .unset, .unset] [(.int ((p1 &&& (2147483647 : Int32)) % (3 : Int32)))])) t → Steps p.tables e below (s₁.setTop (entryFrame m #[(.int p1), (.int p2)] maxLocals)) t := by
    intro t k
    refine pre0 t ?_
    show Steps p.tables e below (s₁.setTop (mkF m 0 #[.val (.int p1), .val (.int p2), .unset, .unset, .unset, .unset, .unset] [])) _
    refine XS.iloadN X0.here hx rfl (hb hby at_0) rfl ?_
    show Steps p.tables e below (s₁.setTop (mkF m 1 #[.val (.int p1), .val (.int p2), .unset, .unset, .unset, .unset, .unset] [(.int p1)])) _
    refine X0.ldcInt hx hown (mvT hZ (hw _ (List.mem_of_getElem? (i := 0) rfl))) (g := (mkF m 1 #[.val (.int p1), .val (.int p2), .unset, .unset, .unset, .unset, .unset] [(.int p1)])) rfl (hb hby at_1) _ ?_
    show Steps p.tables e below (s₁.setTop (mkF m 3 #[.val (.int p1), .val (.int p2), .unset, .unset, .unset, .unset, .unset] [(.int (2147483647 : Int32)), (.int p1)])) _
    refine XS.iand X0.here hx rfl (hb hby at_3) rfl ?_
    show Steps p.tables e below (s₁.setTop (mkF m 4 #[.val (.int p1), .val (.int p2), .unset, .unset, .unset, .unset, .unset] [(.int (p1 &&& (2147483647 : Int32)))])) _
    refine XS.iconst X0.here hx rfl (hb hby at_4) ?_
    show Steps p.tables e below (s₁.setTop (mkF m 5 #[.val (.int p1), .val (.int p2), .unset, .unset, .unset, .unset, .unset] [(.int (3 : Int32)), (.int (p1 &&& (2147483647 : Int32)))])) _
    refine iremM X0 hx rfl (hb hby at_5) rfl (by decide) ?_
    show Steps p.tables e below (s₁.setTop (mkF m 6 #[.val (.int p1), .val (.int p2), .unset, .unset, .unset, .unset, .unset] [(.int ((p1 &&& (2147483647 : Int32)) % (3 : Int32)))])) _
    exact k
  obtain ⟨ka, hka⟩ : ∃ z : Int32, z = ((p1 &&& (2147483647 : Int32)) % (3 : Int32)) := ⟨_, rfl⟩
  rw [← hka] at pre1
  have pre2 : ∀ t, Steps p.tables e below (s₁.setTop (mkF m 13 #[.val (.int p1), .val (.int p2), .val (.int ka), .unset, .unset, .unset, .unset] [(.int ((p2 &&& (2147483647 : Int32)) % (3 : Int32)))])) t → Steps p.tables e below (s₁.setTop (entryFrame m #[(.int p1), (.int p2)] maxLocals)) t := by
    intro t k
    refine pre1 t ?_
    show Steps p.tables e below (s₁.setTop (mkF m 6 #[.val (.int p1), .val (.int p2), .unset, .unset, .unset, .unset, .unset] [(.int ka)])) _
    refine XS.istoreN X0.here hx rfl (hb hby at_6) rfl (l' := #[.val (.int p1), .val (.int p2), .val (.int ka), .unset, .unset, .unset, .unset]) rfl ?_
    show Steps p.tables e below (s₁.setTop (mkF m 7 #[.val (.int p1), .val (.int p2), .val (.int ka), .unset, .unset, .unset, .unset] [])) _
    refine XS.iloadN X0.here hx rfl (hb hby at_7) rfl ?_
    show Steps p.tables e below (s₁.setTop (mkF m 8 #[.val (.int p1), .val (.int p2), .val (.int ka), .unset, .unset, .unset, .unset] [(.int p2)])) _
    refine X0.ldcInt hx hown (mvT hZ (hw _ (List.mem_of_getElem? (i := 0) rfl))) (g := (mkF m 8 #[.val (.int p1), .val (.int p2), .val (.int ka), .unset, .unset, .unset, .unset] [(.int p2)])) rfl (hb hby at_8) _ ?_
    show Steps p.tables e below (s₁.setTop (mkF m 10 #[.val (.int p1), .val (.int p2), .val (.int ka), .unset, .unset, .unset, .unset] [(.int (2147483647 : Int32)), (.int p2)])) _
    refine XS.iand X0.here hx rfl (hb hby at_10) rfl ?_
    show Steps p.tables e below (s₁.setTop (mkF m 11 #[.val (.int p1), .val (.int p2), .val (.int ka), .unset, .unset, .unset, .unset] [(.int (p2 &&& (2147483647 : Int32)))])) _
    refine XS.iconst X0.here hx rfl (hb hby at_11) ?_
    show Steps p.tables e below (s₁.setTop (mkF m 12 #[.val (.int p1), .val (.int p2), .val (.int ka), .unset, .unset, .unset, .unset] [(.int (3 : Int32)), (.int (p2 &&& (2147483647 : Int32)))])) _
    refine iremM X0 hx rfl (hb hby at_12) rfl (by decide) ?_
    show Steps p.tables e below (s₁.setTop (mkF m 13 #[.val (.int p1), .val (.int p2), .val (.int ka), .unset, .unset, .unset, .unset] [(.int ((p2 &&& (2147483647 : Int32)) % (3 : Int32)))])) _
    exact k
  obtain ⟨kb, hkb⟩ : ∃ z : Int32, z = ((p2 &&& (2147483647 : Int32)) % (3 : Int32)) := ⟨_, rfl⟩
  rw [← hkb] at pre2
  obtain ⟨_, _, ⟨T3, L3, k3, n3⟩, -, X3, ⟨Lc3, hQ3, l3, y3, z3⟩, st3⟩ := Jvm.LawKit.callS X0 hx (y := (⟨"com/example/kiseki/kiseki/tracing/ResultCodeCombinePinLaw", "pick", "(I)Lcom/example/kiseki/kiseki/tracing/ResultCode;"⟩ : MethodName)) hown (mvT hZ (hw _ (List.mem_of_getElem? (i := 1) rfl))) (mvT hZ (hw _ (List.mem_of_getElem? (i := 2) rfl))) (mvT hZ (hw _ (List.mem_of_getElem? (i := 3) rfl))) (mvT hZ (hw _ (List.mem_of_getElem? (i := 4) rfl))) (by decide) (backOf (W := 0) (rmP l Z a0 hw [] ka aS aF aT h0 n0 Z0 S_aS S_aF S_aT) hZ (hw _ (List.mem_of_getElem? (i := 4) rfl)) (hw _ (List.mem_of_getElem? (i := 3) rfl)) (by decide) (by decide)) (g := (mkF m 15 #[.val (.int p1), .val (.int p2), .val (.int ka), .val (.int kb), .unset, .unset, .unset] [(.int ka)])) rfl (by rw [hml]; rfl) (argsL := [(.int ka)]) (rest := []) (lenOf pd_0 rfl) rfl (by show 2 * 0 + _ ≤ _; exact Nat.le_of_eq rfl) (hb hby at_15) (fun _ _ => ⟨rfl, e0, (by decide : 0 + 0 ≤ _), (by decide : 0 + 0 ≤ _)⟩)
  dsimp only [Pt.U, Pt.locs, Pt.cells, Pt.slots] at X3 l3 y3 z3 st3 hQ3
  subst l3 y3 z3
  obtain ⟨rfl, N3q, hq3⟩ := hQ3
  have N3 := Fr.app N0 N3q
  obtain ⟨_, _, ⟨T4, L4, k4, n4⟩, -, X4, ⟨Lc4, hQ4, l4, y4, z4⟩, st4⟩ := Jvm.LawKit.callS X3 hx (y := (⟨"com/example/kiseki/kiseki/tracing/ResultCodeCombinePinLaw", "pick", "(I)Lcom/example/kiseki/kiseki/tracing/ResultCode;"⟩ : MethodName)) hown (mvT hZ (hw _ (List.mem_of_getElem? (i := 1) rfl))) (mvT hZ (hw _ (List.mem_of_getElem? (i := 2) rfl))) (mvT hZ (hw _ (List.mem_of_getElem? (i := 3) rfl))) (mvT hZ (hw _ (List.mem_of_getElem? (i := 4) rfl))) (by decide) (backOf (W := 0) (rmP l Z a0 hw [] kb aS aF aT h0 n0 Z0 S_aS S_aF S_aT) hZ (hw _ (List.mem_of_getElem? (i := 4) rfl)) (hw _ (List.mem_of_getElem? (i := 3) rfl)) (by decide) (by decide)) (g := (mkF m 21 #[.val (.int p1), .val (.int p2), .val (.int ka), .val (.int kb), .val (.ref (own_pick ka aS aF aT)), .unset, .unset] [(.int kb)])) rfl (by rw [hml]; rfl) (argsL := [(.int kb)]) (rest := []) (lenOf pd_0 rfl) rfl (by show 2 * 0 + _ ≤ _; exact Nat.le_of_eq rfl) (hb hby at_21) (fun _ _ => ⟨rfl, hq3, (by decide : 0 + 0 ≤ _), (by decide : 0 + 0 ≤ _)⟩)
  dsimp only [Pt.U, Pt.locs, Pt.cells, Pt.slots] at X4 l4 y4 z4 st4 hQ4
  subst l4 y4 z4
  obtain ⟨rfl, N4q, hq4⟩ := hQ4
  have N4 := Fr.app N3 N4q
  obtain ⟨_, _, ⟨T5, L5, k5, n5⟩, -, X5, ⟨Lc5, hQ5, l5, y5, z5⟩, st5⟩ := Jvm.LawKit.callS X4 hx (y := (⟨"java/lang/Math", "max", "(II)I"⟩ : MethodName)) hown (mvT hZ (hw _ (List.mem_of_getElem? (i := 8) rfl))) (mvT hZ (hw _ (List.mem_of_getElem? (i := 9) rfl))) (mvT hZ (hw _ (List.mem_of_getElem? (i := 10) rfl))) (mvT hZ (hw _ (List.mem_of_getElem? (i := 11) rfl))) (by decide) (backOf (W := 0) (rmM l Z a0 hw [] ka kb  h0 n0 Z0 ) hZ (hw _ (List.mem_of_getElem? (i := 11) rfl)) (hw _ (List.mem_of_getElem? (i := 10) rfl)) (by decide) (by decide)) (g := (mkF m 28 #[.val (.int p1), .val (.int p2), .val (.int ka), .val (.int kb), .val (.ref (own_pick ka aS aF aT)), .val (.ref (own_pick kb aS aF aT)), .unset] [(.int kb), (.int ka)])) rfl (by rw [hml]; rfl) (argsL := [(.int ka), (.int kb)]) (rest := []) (lenOf pd_1 rfl) rfl (by show 2 * 0 + _ ≤ _; exact Nat.le_of_eq rfl) (hb hby at_28) (fun _ _ => ⟨rfl, hq4, (by decide : 0 + 0 ≤ _), (by decide : 0 + 0 ≤ _)⟩)
  dsimp only [Pt.U, Pt.locs, Pt.cells, Pt.slots] at X5 l5 y5 z5 st5 hQ5
  subst l5 y5 z5
  obtain ⟨rfl, N5q, hq5⟩ := hQ5
  have N5 := Fr.app N4 N5q
  obtain ⟨_, _, ⟨T6, L6, k6, n6⟩, -, X6, ⟨Lc6, hQ6, l6, y6, z6⟩, st6⟩ := Jvm.LawKit.callS X5 hx (y := (⟨"com/example/kiseki/kiseki/tracing/ResultCodeCombinePinLaw", "pick", "(I)Lcom/example/kiseki/kiseki/tracing/ResultCode;"⟩ : MethodName)) hown (mvT hZ (hw _ (List.mem_of_getElem? (i := 1) rfl))) (mvT hZ (hw _ (List.mem_of_getElem? (i := 2) rfl))) (mvT hZ (hw _ (List.mem_of_getElem? (i := 3) rfl))) (mvT hZ (hw _ (List.mem_of_getElem? (i := 4) rfl))) (by decide) (backOf (W := 0) (rmP l Z a0 hw [] (own_max ka kb) aS aF aT h0 n0 Z0 S_aS S_aF S_aT) hZ (hw _ (List.mem_of_getElem? (i := 4) rfl)) (hw _ (List.mem_of_getElem? (i := 3) rfl)) (by decide) (by decide)) (g := (mkF m 31 #[.val (.int p1), .val (.int p2), .val (.int ka), .val (.int kb), .val (.ref (own_pick ka aS aF aT)), .val (.ref (own_pick kb aS aF aT)), .unset] [(.int (own_max ka kb))])) rfl (by rw [hml]; rfl) (argsL := [(.int (own_max ka kb))]) (rest := []) (lenOf pd_0 rfl) rfl (by show 2 * 0 + _ ≤ _; exact Nat.le_of_eq rfl) (hb hby at_31) (fun _ _ => ⟨rfl, hq5, (by decide : 0 + 0 ≤ _), (by decide : 0 + 0 ≤ _)⟩)
  dsimp only [Pt.U, Pt.locs, Pt.cells, Pt.slots] at X6 l6 y6 z6 st6 hQ6
  subst l6 y6 z6
  obtain ⟨rfl, N6q, hq6⟩ := hQ6
  have N6 := Fr.app N5 N6q
  obtain ⟨cq7, kq7, q7a, q7b, q7c⟩ := isOf hZ hq6 (own_exa E_aS E_aF E_aT : Exa Z h0 (own_pick ka aS aF aT) _)
  obtain ⟨_, _, ⟨T7, L7, k7, n7⟩, -, X7, ⟨Lc7, hQ7, l7, y7, z7⟩, st7⟩ := X6.virtualBack hx (y := (⟨"com/example/kiseki/kiseki/tracing/ResultCode", "combine", "(Lcom/example/kiseki/kiseki/tracing/ResultCode;)Lcom/example/kiseki/kiseki/tracing/ResultCode;"⟩ : MethodName)) (z := (⟨"com/example/kiseki/kiseki/tracing/ResultCode", "combine", "(Lcom/example/kiseki/kiseki/tracing/ResultCode;)Lcom/example/kiseki/kiseki/tracing/ResultCode;"⟩ : MethodName)) hown (mvT hZ (hw _ (List.mem_of_getElem? (i := 12) rfl))) (mvT hZ (hw _ (List.mem_of_getElem? (i := 13) rfl))) (notFace_of_selects (args := #[]) (mvT hZ (hw _ (List.mem_of_getElem? (i := 15) rfl)))) (mvT hZ (hw _ (List.mem_of_getElem? (i := 15) rfl))) (mvT hZ (hw _ (List.mem_of_getElem? (i := 14) rfl))) (by decide) (backOf (W := 0) (rmC l Z a0 hw [] (own_pick ka aS aF aT) (own_pick kb aS aF aT) aS aF aT h0 n0 Z0 S_aS S_aF S_aT) hZ (hw _ (List.mem_of_getElem? (i := 16) rfl)) (hw _ (List.mem_of_getElem? (i := 6) rfl)) (by decide) (by decide)) q7a q7c (g := (mkF m 40 #[.val (.int p1), .val (.int p2), .val (.int ka), .val (.int kb), .val (.ref (own_pick ka aS aF aT)), .val (.ref (own_pick kb aS aF aT)), .val (.ref (own_pick (own_max ka kb) aS aF aT))] [(.ref (own_pick kb aS aF aT)), (.ref (own_pick ka aS aF aT))])) rfl (by rw [hml]; rfl) (Steps.refl _) (argsL := [(.ref (own_pick kb aS aF aT))]) (rest := []) (lenOf pd_2 rfl) rfl (by show 2 * 0 + _ ≤ _; exact Nat.le_of_eq rfl) (hb hby at_40) (fun _ _ => ⟨rfl, hq6, (by decide : 0 + 0 ≤ _), (by decide : 0 + 0 ≤ _)⟩)
  dsimp only [Pt.U, Pt.locs, Pt.cells, Pt.slots] at X7 l7 y7 z7 st7 hQ7
  subst l7 y7 z7
  obtain ⟨rfl, N7q, hq7⟩ := hQ7
  have N7 := Fr.app N6 N7q
  have pre8 : ∀ t, Steps p.tables e below (T7.setTop (mkF m 53 #[.val (.int p1), .val (.int p2), .val (.int ka), .val (.int kb), .val (.ref (own_pick ka aS aF aT)), .val (.ref (own_pick kb aS aF aT)), .val (.ref (own_pick (own_max ka kb) aS aF aT))] [(.int (1 : Int32))])) t → Steps p.tables e below (s₁.setTop (entryFrame m #[(.int p1), (.int p2)] maxLocals)) t := by
    intro t k
    refine pre2 t ?_
    show Steps p.tables e below (s₁.setTop (mkF m 13 #[.val (.int p1), .val (.int p2), .val (.int ka), .unset, .unset, .unset, .unset] [(.int kb)])) _
    refine XS.istoreN X0.here hx rfl (hb hby at_13) rfl (l' := #[.val (.int p1), .val (.int p2), .val (.int ka), .val (.int kb), .unset, .unset, .unset]) rfl ?_
    show Steps p.tables e below (s₁.setTop (mkF m 14 #[.val (.int p1), .val (.int p2), .val (.int ka), .val (.int kb), .unset, .unset, .unset] [])) _
    refine XS.iloadN X0.here hx rfl (hb hby at_14) rfl ?_
    show Steps p.tables e below (s₁.setTop (mkF m 15 #[.val (.int p1), .val (.int p2), .val (.int ka), .val (.int kb), .unset, .unset, .unset] [(.int ka)])) _
    refine st3 _ ?_
    show Steps p.tables e below (T3.setTop (mkF m 18 #[.val (.int p1), .val (.int p2), .val (.int ka), .val (.int kb), .unset, .unset, .unset] [(.ref (own_pick ka aS aF aT))])) _
    refine XS.astore X3.here hx rfl (hb hby at_18) rfl (rfl) (l' := #[.val (.int p1), .val (.int p2), .val (.int ka), .val (.int kb), .val (.ref (own_pick ka aS aF aT)), .unset, .unset]) rfl ?_
    show Steps p.tables e below (T3.setTop (mkF m 20 #[.val (.int p1), .val (.int p2), .val (.int ka), .val (.int kb), .val (.ref (own_pick ka aS aF aT)), .unset, .unset] [])) _
    refine XS.iloadN X3.here hx rfl (hb hby at_20) rfl ?_
    show Steps p.tables e below (T3.setTop (mkF m 21 #[.val (.int p1), .val (.int p2), .val (.int ka), .val (.int kb), .val (.ref (own_pick ka aS aF aT)), .unset, .unset] [(.int kb)])) _
    refine st4 _ ?_
    show Steps p.tables e below (T4.setTop (mkF m 24 #[.val (.int p1), .val (.int p2), .val (.int ka), .val (.int kb), .val (.ref (own_pick ka aS aF aT)), .unset, .unset] [(.ref (own_pick kb aS aF aT))])) _
    refine XS.astore X4.here hx rfl (hb hby at_24) rfl (rfl) (l' := #[.val (.int p1), .val (.int p2), .val (.int ka), .val (.int kb), .val (.ref (own_pick ka aS aF aT)), .val (.ref (own_pick kb aS aF aT)), .unset]) rfl ?_
    show Steps p.tables e below (T4.setTop (mkF m 26 #[.val (.int p1), .val (.int p2), .val (.int ka), .val (.int kb), .val (.ref (own_pick ka aS aF aT)), .val (.ref (own_pick kb aS aF aT)), .unset] [])) _
    refine XS.iloadN X4.here hx rfl (hb hby at_26) rfl ?_
    show Steps p.tables e below (T4.setTop (mkF m 27 #[.val (.int p1), .val (.int p2), .val (.int ka), .val (.int kb), .val (.ref (own_pick ka aS aF aT)), .val (.ref (own_pick kb aS aF aT)), .unset] [(.int ka)])) _
    refine XS.iloadN X4.here hx rfl (hb hby at_27) rfl ?_
    show Steps p.tables e below (T4.setTop (mkF m 28 #[.val (.int p1), .val (.int p2), .val (.int ka), .val (.int kb), .val (.ref (own_pick ka aS aF aT)), .val (.ref (own_pick kb aS aF aT)), .unset] [(.int kb), (.int ka)])) _
    refine st5 _ ?_
    show Steps p.tables e below (T5.setTop (mkF m 31 #[.val (.int p1), .val (.int p2), .val (.int ka), .val (.int kb), .val (.ref (own_pick ka aS aF aT)), .val (.ref (own_pick kb aS aF aT)), .unset] [(.int (own_max ka kb))])) _
    refine st6 _ ?_
    show Steps p.tables e below (T6.setTop (mkF m 34 #[.val (.int p1), .val (.int p2), .val (.int ka), .val (.int kb), .val (.ref (own_pick ka aS aF aT)), .val (.ref (own_pick kb aS aF aT)), .unset] [(.ref (own_pick (own_max ka kb) aS aF aT))])) _
    refine XS.astore X6.here hx rfl (hb hby at_34) rfl (rfl) (l' := #[.val (.int p1), .val (.int p2), .val (.int ka), .val (.int kb), .val (.ref (own_pick ka aS aF aT)), .val (.ref (own_pick kb aS aF aT)), .val (.ref (own_pick (own_max ka kb) aS aF aT))]) rfl ?_
    show Steps p.tables e below (T6.setTop (mkF m 36 #[.val (.int p1), .val (.int p2), .val (.int ka), .val (.int kb), .val (.ref (own_pick ka aS aF aT)), .val (.ref (own_pick kb aS aF aT)), .val (.ref (own_pick (own_max ka kb) aS aF aT))] [])) _
    refine XS.aload X6.here hx rfl (hb hby at_36) rfl (rfl) ?_
    show Steps p.tables e below (T6.setTop (mkF m 38 #[.val (.int p1), .val (.int p2), .val (.int ka), .val (.int kb), .val (.ref (own_pick ka aS aF aT)), .val (.ref (own_pick kb aS aF aT)), .val (.ref (own_pick (own_max ka kb) aS aF aT))] [(.ref (own_pick ka aS aF aT))])) _
    refine XS.aload X6.here hx rfl (hb hby at_38) rfl (rfl) ?_
    show Steps p.tables e below (T6.setTop (mkF m 40 #[.val (.int p1), .val (.int p2), .val (.int ka), .val (.int kb), .val (.ref (own_pick ka aS aF aT)), .val (.ref (own_pick kb aS aF aT)), .val (.ref (own_pick (own_max ka kb) aS aF aT))] [(.ref (own_pick kb aS aF aT)), (.ref (own_pick ka aS aF aT))])) _
    refine st7.trans ?_
    show Steps p.tables e below (T7.setTop (mkF m 43 #[.val (.int p1), .val (.int p2), .val (.int ka), .val (.int kb), .val (.ref (own_pick ka aS aF aT)), .val (.ref (own_pick kb aS aF aT)), .val (.ref (own_pick (own_max ka kb) aS aF aT))] [(.ref (own_comb (own_pick ka aS aF aT) (own_pick kb aS aF aT) aS aF aT))])) _
    refine XS.aload X7.here hx rfl (hb hby at_43) rfl (rfl) ?_
    show Steps p.tables e below (T7.setTop (mkF m 45 #[.val (.int p1), .val (.int p2), .val (.int ka), .val (.int kb), .val (.ref (own_pick ka aS aF aT)), .val (.ref (own_pick kb aS aF aT)), .val (.ref (own_pick (own_max ka kb) aS aF aT))] [(.ref (own_pick (own_max ka kb) aS aF aT)), (.ref (own_comb (own_pick ka aS aF aT) (own_pick kb aS aF aT) aS aF aT))])) _
    refine Jvm.RoadKit.acmp (g := (mkF m 45 #[.val (.int p1), .val (.int p2), .val (.int ka), .val (.int kb), .val (.ref (own_pick ka aS aF aT)), .val (.ref (own_pick kb aS aF aT)), .val (.ref (own_pick (own_max ka kb) aS aF aT))] [(.ref (own_pick (own_max ka kb) aS aF aT)), (.ref (own_comb (own_pick ka aS aF aT) (own_pick kb aS aF aT) aS aF aT))])) X7 hx rfl rfl rfl (pc0 := 45) (pc' := 48) (same := true) rfl (hb hby at_45) rfl (decide_eq_true (congrArg Value.ref (own_law (own_k hka) (own_k hkb) n1 n2 n3))) (by decide) (by decide) ?_
    show Steps p.tables e below (T7.setTop (mkF m 48 #[.val (.int p1), .val (.int p2), .val (.int ka), .val (.int kb), .val (.ref (own_pick ka aS aF aT)), .val (.ref (own_pick kb aS aF aT)), .val (.ref (own_pick (own_max ka kb) aS aF aT))] [])) _
    refine XS.iconst X7.here hx rfl (hb hby at_48) ?_
    show Steps p.tables e below (T7.setTop (mkF m 49 #[.val (.int p1), .val (.int p2), .val (.int ka), .val (.int kb), .val (.ref (own_pick ka aS aF aT)), .val (.ref (own_pick kb aS aF aT)), .val (.ref (own_pick (own_max ka kb) aS aF aT))] [(.int (1 : Int32))])) _
    refine XS.goto X7.here hx rfl (pc0 := 49) (pc' := 53) rfl (hb hby at_49) (by decide) (by decide) ?_
    show Steps p.tables e below (T7.setTop (mkF m 53 #[.val (.int p1), .val (.int p2), .val (.int ka), .val (.int kb), .val (.ref (own_pick ka aS aF aT)), .val (.ref (own_pick kb aS aF aT)), .val (.ref (own_pick (own_max ka kb) aS aF aT))] [(.int (1 : Int32))])) _
    exact k
  obtain ⟨fs, hr, hrun, hended, hW, hsame⟩ := X7.leave (v := some (.int (1 : Int32))) (fun h => by rw [Bd.returns] at h; cases h)
  refine ⟨_, _, pre8 _ ?_, hrun, hended, _, _, rfl, ?_, ⟨_, rfl⟩, hW, hsame.mono (by decide) (by decide)⟩
  · exact retN X7 hx (t := .boolean) Bd.returns (by simp) (hb hby at_53) hr
  · show Q_rm0 Z p1 p2 aS aF aT h0 n0 _ T7.heap _
    rw [hq7]
    exact ⟨rfl, N7⟩
theorem own_eqI {t : Term} {k : Int32} {args : Array Value} {s : State} (h : (Jvm.Cond.eq t (.int k)).value args s none s [] = some true) : t.eval args s none [] s = some (.int k) := by
  simp only [Cond.value, Term.eval] at h
  cases ht : t.eval args s none [] s with
  | none => simp [ht] at h
  | some x => cases x <;> simp [ht] at h ⊢; exact h
theorem own_eqJ {t : Term} {k : Int64} {args : Array Value} {s : State} (h : (Jvm.Cond.eq t (.long k)).value args s none s [] = some true) : t.eval args s none [] s = some (.long k) := by
  simp only [Cond.value, Term.eval] at h
  cases ht : t.eval args s none [] s with
  | none => simp [ht] at h
  | some x => cases x <;> simp [ht] at h ⊢; exact h
set_option maxRecDepth 65536 in
set_option maxHeartbeats 40000000 in
theorem comes_1 {Post : Tables → Env → Array Value → State → Outcome → State → Prop} (hpost : ∀ tb e args s v u, (limb_1_1.after args s (.returned v) u = true ∧ limb_1_2.after args s (.returned v) u = true ∧ True) → FrameEnd s (.returned v) u (Jvm.fieldLocs frame_1_writes args s ++ Jvm.arrayLocs frame_1_arrays args s ++ Jvm.staticLocs frame_1_statics s) 0 0 → Post tb e args s (.returned v) u) :
    ArmFor flags0 classFile x code maxLocals ret World_1 tables_1 room_1 Calls_1 rest_1 Pre_1 Post := by
  intro l hfl _ _ p e ha hc hk s m args below hf hA hF happ hP
  obtain ⟨hcalls, hrest, hpre⟩ := hP
  obtain ⟨-, -, -, hnamed, -, -, -, hat⟩ := (Spec.applies_iff hf).mp happ
  obtain ⟨hg, hn⟩ := and_e (Cond.before_iff.mp (show (Jvm.Cond.and given_1 narrow_1).before args s = true from hpre))
  obtain ⟨g1, g2⟩ := and_e hg
  obtain ⟨g3, g4⟩ := and_e g2
  obtain ⟨g5, g6⟩ := and_e hn
  obtain ⟨g7, g8⟩ := and_e g6
  obtain ⟨g9, g10⟩ := and_e g8
  obtain ⟨g11, g12⟩ := and_e g10
  obtain ⟨g13, g14⟩ := and_e g12
  obtain ⟨w0, w1, rfl⟩ : ∃ w0 w1 : Value, args = #[w0, w1] := by
    have hs : args.size = 2 := by simpa [Cond.value, given_1] using g1
    obtain ⟨L⟩ := args
    match L, hs with
    | [w0, w1], _ => exact ⟨w0, w1, rfl⟩
  have hw := fun d (hd : d ∈ tables_1) => atoms_spec (ws := Jvm.Cond.code x code maxLocals ret :: tables_1) hat d (List.mem_cons_of_mem _ hd)
  obtain ⟨i0, ei0⟩ := is_v g3
  obtain rfl : w0 = (.int i0) := Option.some.inj ei0
  obtain ⟨i1, ei1⟩ := is_v g4
  obtain rfl : w1 = (.int i1) := Option.some.inj ei1
  obtain ⟨a_SUCCESS, ev_SUCCESS⟩ := exa_v g5
  have Ex_SUCCESS := Exa.start ev_SUCCESS g5
  have St_SUCCESS := Sta.start ev_SUCCESS (Or.inr ⟨(hw _ (List.mem_of_getElem? (i := 6) rfl)), (hw _ (List.mem_of_getElem? (i := 7) rfl))⟩)
  obtain ⟨a_TIMEOUT, ev_TIMEOUT⟩ := exa_v g7
  have Ex_TIMEOUT := Exa.start ev_TIMEOUT g7
  have St_TIMEOUT := Sta.start ev_TIMEOUT (Or.inr ⟨(hw _ (List.mem_of_getElem? (i := 6) rfl)), (hw _ (List.mem_of_getElem? (i := 18) rfl))⟩)
  obtain ⟨a_FAILURE, ev_FAILURE⟩ := exa_v g13
  have Ex_FAILURE := Exa.start ev_FAILURE g13
  have St_FAILURE := Sta.start ev_FAILURE (Or.inr ⟨(hw _ (List.mem_of_getElem? (i := 6) rfl)), (hw _ (List.mem_of_getElem? (i := 20) rfl))⟩)
  have F_SUCCESS_ordinal := Fld.start ((fld_at ev_SUCCESS).symm.trans (own_eqI g9))
  have F_TIMEOUT_ordinal := Fld.start ((fld_at ev_TIMEOUT).symm.trans (own_eqI g11))
  have F_FAILURE_ordinal := Fld.start ((fld_at ev_FAILURE).symm.trans (own_eqI g14))
  obtain ⟨n, o, h1, h2, h3, _, L, rfl, ⟨rfl, N⟩, hq⟩ := rm0 l s _ hw tables_1 i0 i1 a_SUCCESS a_FAILURE a_TIMEOUT s.heap s.heap.size (Nat.le_refl _) St_SUCCESS St_FAILURE St_TIMEOUT Ex_SUCCESS Ex_FAILURE Ex_TIMEOUT (Fld.ne F_SUCCESS_ordinal F_FAILURE_ordinal (by decide)) (Fld.ne F_SUCCESS_ordinal F_TIMEOUT_ordinal (by decide)) (Fld.ne F_FAILURE_ordinal F_TIMEOUT_ordinal (by decide)) p e ha hc hk s m _ below hf ((Spec.applies_iff_loose hf).mp happ).1 ⟨rfl, State.Warmed39.refl s, rfl⟩ trivial
  refine ⟨n, _, h1, h2, h3, hpost _ _ _ _ _ _ ⟨Cond.after_iff.mpr rfl, Cond.after_iff.mpr (eq_i res_at (Term.int_eval (1)) rfl), trivial⟩ ⟨hq.1, hq.2.1, (hq.2.2.sift fun y hy => Or.inr (N y hy)).mono (by decide) (by decide)⟩⟩
theorem main_1_1 : Claimed_1_1 := comes_1 fun _ _ _ _ _ _ h hF => ⟨h.1, hF⟩
theorem main_1_2 : Claimed_1_2 := comes_1 fun _ _ _ _ _ _ h hF => ⟨h.2.1, hF⟩
end Jvm.Pilot.@@N@@
namespace Jvm.Pilot.@@N@@
open Jvm Jvm.ClassFile Sem Op Lib Jvm.Free Jvm.Stand Jvm.Pilot.@@N@@.Jvm.D
/-! MADE BY PROGRAM (witnessworld.py) out of the Statement's table words and the real class files: 13 classes; the members and pool entries that the words name. The judged class is class 1, her method 2. -/
namespace start1
open Jvm.ClassFile
def u (s : String) : CpInfo := .utf8 (stringToUtf16 s)
/-- a pool by its gaps: so many unusable entries, then the entry; so many at the end -/
def gap : Nat → List CpInfo → List CpInfo
  | 0, r => r
  | n + 1, r => .unusable :: gap n r
def poolList (es : List (Nat × CpInfo)) (last : Nat) : List CpInfo := es.foldr (fun e r => gap e.1 (e.2 :: r)) (gap last [])
def pool (es : List (Nat × CpInfo)) (last : Nat) : Array CpInfo := ⟨poolList es last⟩
def fileOf (pool : Array CpInfo) (this : Nat) (attrs : Array Attribute := #[]) (ms : Array MethodInfo := #[]) (fl : Nat := 33) (sup : Nat := 0) (ifs : Array Nat := #[]) (fds : Array FieldInfo := #[]) : ClassFile where
  minorVersion := 0
  majorVersion := 65
  constantPool := pool
  accessFlags := fl
  thisClass := this
  superClass := sup
  interfaces := ifs
  fields := fds
  methods := ms
  attributes := attrs
def plain (name : String) (sup : Option ClassId) : Class where
  name := name
  kind := .ordinary
  loader := none
  accessFlags := 33
  super := sup
  interfaces := #[]
  cf := none
  fields := #[]
  methods := #[]
  instanceTypes := #[]
  staticTypes := #[]
  resolved := #[]
  callSites := []
  init := .initialized
  statics := none
  mirror := none

def pool0 : Array CpInfo := pool [(5, u "<init>"), (0, u "()V"), (1, .class_ 10), (1, u "java/lang/Object")] 113

def k0m0 : Method := { name := "<init>", desc := "()V", sig := { parameters := [], returnType := none }, accessFlags := 1, code := none }
/-- java/lang/Object -/
def k0 : Class := { plain "java/lang/Object" none with
  accessFlags := 33
  interfaces := #[]
  cf := some (fileOf pool0 8 #[] #[{ accessFlags := 1, nameIndex := 5, descriptorIndex := 6, attributes := #[] }] 33 0 #[] #[])
  fields := #[]
  methods := #[k0m0]
  instanceTypes := #[]
  staticTypes := #[]
  resolved := Array.replicate 124 none
  statics := none }

def pool1 : Array CpInfo := pool [(2, .class_ 4), (1, u "java/lang/Object"), (0, u "<init>"), (0, u "()V"), (0, .fieldref 8 9), (0, .class_ 10), (0, .nameAndType 11 12), (0, u "com/example/kiseki/kiseki/tracing/ResultCode"), (0, u "SUCCESS"), (0, u "Lcom/example/kiseki/kiseki/tracing/ResultCode;"), (0, .fieldref 8 14), (0, .nameAndType 15 12), (0, u "FAILURE"), (0, .fieldref 8 17), (0, .nameAndType 18 12), (0, u "TIMEOUT"), (0, .integer 2147483647), (0, .methodref 21 22), (0, .class_ 23), (0, .nameAndType 24 25), (0, u "com/example/kiseki/kiseki/tracing/ResultCodeCombinePinLaw"), (0, u "pick"), (0, u "(I)Lcom/example/kiseki/kiseki/tracing/ResultCode;"), (0, .methodref 27 28), (0, .class_ 29), (0, .nameAndType 30 31), (0, u "java/lang/Math"), (0, u "max"), (0, u "(II)I"), (0, .methodref 8 33), (0, .nameAndType 34 35), (0, u "combine"), (0, u "(Lcom/example/kiseki/kiseki/tracing/ResultCode;)Lcom/example/kiseki/kiseki/tracing/ResultCode;"), (3, u "law"), (0, u "(II)Z")] 2

def k1m0 : Method := { name := "<init>", desc := "()V", sig := { parameters := [], returnType := none }, accessFlags := 1, code := none }
def k1c1 : Code := { maxStack := 2, maxLocals := 1, code := method_2_code, exceptionTable := #[], attributes := #[] }
def k1m1 : Method := { name := "pick", desc := "(I)Lcom/example/kiseki/kiseki/tracing/ResultCode;", sig := { parameters := [.int], returnType := some (.object "com/example/kiseki/kiseki/tracing/ResultCode") }, accessFlags := 10, code := some k1c1 }
def k1c2 : Code := { maxStack := 2, maxLocals := 7, code := code, exceptionTable := #[], attributes := #[] }
def k1m2 : Method := { name := "law", desc := "(II)Z", sig := { parameters := [.int, .int], returnType := some .boolean }, accessFlags := 9, code := some k1c2 }
/-- com/example/kiseki/kiseki/tracing/ResultCodeCombinePinLaw -/
def k1 : Class := { plain "com/example/kiseki/kiseki/tracing/ResultCodeCombinePinLaw" (some 0) with
  accessFlags := 49
  interfaces := #[]
  cf := some (fileOf pool1 21 #[] #[{ accessFlags := 1, nameIndex := 5, descriptorIndex := 6, attributes := #[] }, { accessFlags := 10, nameIndex := 24, descriptorIndex := 25, attributes := #[] }, { accessFlags := 9, nameIndex := 39, descriptorIndex := 40, attributes := #[] }] 49 2 #[] #[])
  fields := #[]
  methods := #[k1m0, k1m1, k1m2]
  instanceTypes := #[]
  staticTypes := #[]
  resolved := Array.replicate 43 none
  statics := none }

def pool2 : Array CpInfo := pool [(1, .class_ 2), (0, u "java/lang/constant/Constable"), (0, .class_ 4), (0, u "java/lang/Object")] 6

/-- java/lang/constant/Constable -/
def k2 : Class := { plain "java/lang/constant/Constable" (some 0) with
  accessFlags := 1537
  interfaces := #[]
  cf := some (fileOf pool2 1 #[] #[] 1537 3 #[] #[])
  fields := #[]
  methods := #[]
  instanceTypes := #[]
  staticTypes := #[]
  resolved := Array.replicate 11 none
  statics := none }

def pool3 : Array CpInfo := pool [(1, .class_ 2), (0, u "java/lang/Comparable"), (0, .class_ 4), (0, u "java/lang/Object")] 7

/-- java/lang/Comparable -/
def k3 : Class := { plain "java/lang/Comparable" (some 0) with
  accessFlags := 1537
  interfaces := #[]
  cf := some (fileOf pool3 1 #[] #[] 1537 3 #[] #[])
  fields := #[]
  methods := #[]
  instanceTypes := #[]
  staticTypes := #[]
  resolved := Array.replicate 12 none
  statics := none }

def pool4 : Array CpInfo := pool [(1, .class_ 2), (0, u "java/io/Serializable"), (0, .class_ 4), (0, u "java/lang/Object")] 2

/-- java/io/Serializable -/
def k4 : Class := { plain "java/io/Serializable" (some 0) with
  accessFlags := 1537
  interfaces := #[]
  cf := some (fileOf pool4 1 #[] #[] 1537 3 #[] #[])
  fields := #[]
  methods := #[]
  instanceTypes := #[]
  staticTypes := #[]
  resolved := Array.replicate 7 none
  statics := none }

def pool5 : Array CpInfo := pool [(2, .class_ 4), (1, u "java/lang/Enum"), (0, u "name"), (0, u "Ljava/lang/String;"), (2, u "ordinal"), (0, u "I"), (1, .class_ 14), (1, u "java/lang/Object"), (4, u "hash"), (86, .class_ 108), (1, u "java/lang/Enum$EnumDesc"), (2, .class_ 112), (0, u "java/lang/constant/Constable"), (0, .class_ 114), (0, u "java/lang/Comparable"), (0, .class_ 116), (0, u "java/io/Serializable")] 87

/-- java/lang/Enum -/
def k5 : Class := { plain "java/lang/Enum" (some 0) with
  accessFlags := 1057
  interfaces := #[2, 3, 4]
  cf := some (fileOf pool5 2 #[.nestMembers #[106]] #[] 1057 12 #[111, 113, 115] #[{ accessFlags := 18, nameIndex := 5, descriptorIndex := 6, attributes := #[] }, { accessFlags := 18, nameIndex := 9, descriptorIndex := 10, attributes := #[] }, { accessFlags := 2, nameIndex := 19, descriptorIndex := 10, attributes := #[] }])
  fields := #[{ name := "name", type := (.object "java/lang/String"), accessFlags := 18, slot := 0, constantValue := 0 }, { name := "ordinal", type := .int, accessFlags := 18, slot := 1, constantValue := 0 }, { name := "hash", type := .int, accessFlags := 2, slot := 2, constantValue := 0 }]
  methods := #[]
  instanceTypes := #[(.object "java/lang/String"), .int, .int]
  staticTypes := #[]
  resolved := Array.replicate 204 none
  statics := none }

def pool6 : Array CpInfo := pool [(1, .class_ 2), (0, u "com/example/kiseki/kiseki/tracing/ResultCode"), (0, .fieldref 1 4), (0, .nameAndType 5 6), (0, u "SUCCESS"), (0, u "Lcom/example/kiseki/kiseki/tracing/ResultCode;"), (0, .fieldref 1 8), (0, .nameAndType 9 6), (0, u "FAILURE"), (0, .fieldref 1 11), (0, .nameAndType 12 6), (0, u "TIMEOUT"), (2, u "$VALUES"), (0, u "[Lcom/example/kiseki/kiseki/tracing/ResultCode;"), (6, .class_ 25), (1, u "java/lang/Enum"), (57, u "combine"), (0, u "(Lcom/example/kiseki/kiseki/tracing/ResultCode;)Lcom/example/kiseki/kiseki/tracing/ResultCode;")] 10

def k6c0 : Code := { maxStack := 2, maxLocals := 3, code := prog_54_method_4_code, exceptionTable := #[], attributes := #[] }
def k6m0 : Method := { name := "combine", desc := "(Lcom/example/kiseki/kiseki/tracing/ResultCode;)Lcom/example/kiseki/kiseki/tracing/ResultCode;", sig := { parameters := [(.object "com/example/kiseki/kiseki/tracing/ResultCode")], returnType := some (.object "com/example/kiseki/kiseki/tracing/ResultCode") }, accessFlags := 0, code := some k6c0 }
/-- com/example/kiseki/kiseki/tracing/ResultCode -/
def k6 : Class := { plain "com/example/kiseki/kiseki/tracing/ResultCode" (some 5) with
  accessFlags := 16433
  interfaces := #[]
  cf := some (fileOf pool6 1 #[] #[{ accessFlags := 0, nameIndex := 83, descriptorIndex := 84, attributes := #[] }] 16433 23 #[] #[{ accessFlags := 16409, nameIndex := 5, descriptorIndex := 6, attributes := #[] }, { accessFlags := 16409, nameIndex := 9, descriptorIndex := 6, attributes := #[] }, { accessFlags := 16409, nameIndex := 12, descriptorIndex := 6, attributes := #[] }, { accessFlags := 4122, nameIndex := 15, descriptorIndex := 16, attributes := #[] }])
  fields := #[{ name := "SUCCESS", type := (.object "com/example/kiseki/kiseki/tracing/ResultCode"), accessFlags := 16409, slot := 0, constantValue := 0 }, { name := "FAILURE", type := (.object "com/example/kiseki/kiseki/tracing/ResultCode"), accessFlags := 16409, slot := 1, constantValue := 0 }, { name := "TIMEOUT", type := (.object "com/example/kiseki/kiseki/tracing/ResultCode"), accessFlags := 16409, slot := 2, constantValue := 0 }, { name := "$VALUES", type := (.array (.object "com/example/kiseki/kiseki/tracing/ResultCode")), accessFlags := 4122, slot := 3, constantValue := 0 }]
  methods := #[k6m0]
  instanceTypes := #[(.object "java/lang/String"), .int, .int]
  staticTypes := #[(.object "com/example/kiseki/kiseki/tracing/ResultCode"), (.object "com/example/kiseki/kiseki/tracing/ResultCode"), (.object "com/example/kiseki/kiseki/tracing/ResultCode"), (.array (.object "com/example/kiseki/kiseki/tracing/ResultCode"))]
  resolved := Array.replicate 95 none
  statics := some 0 }

def pool7 : Array CpInfo := pool [(1, .class_ 2), (0, u "java/lang/Math"), (1, .class_ 6), (1, u "java/lang/Object"), (0, u "<init>"), (0, u "()V"), (89, .class_ 100), (1, u "java/lang/Math$RandomNumberGeneratorHolder"), (71, u "negativeZeroFloatBits"), (0, u "J"), (2, u "negativeZeroDoubleBits"), (21, u "max"), (46, u "$assertionsDisabled"), (0, u "Z"), (88, u "(II)I"), (2, u "twoToTheDoubleScaleDown"), (0, u "D"), (4, u "twoToTheDoubleScaleUp"), (9, u "E"), (3, u "PI"), (2, u "TAU"), (2, u "DEGREES_TO_RADIANS"), (0, u "RADIANS_TO_DEGREES")] 94

def k7m0 : Method := { name := "<init>", desc := "()V", sig := { parameters := [], returnType := none }, accessFlags := 2, code := none }
def k7c1 : Code := { maxStack := 2, maxLocals := 2, code := jdk_29_method_65_code, exceptionTable := #[], attributes := #[] }
def k7m1 : Method := { name := "max", desc := "(II)I", sig := { parameters := [.int, .int], returnType := some .int }, accessFlags := 9, code := some k7c1 }
/-- java/lang/Math -/
def k7 : Class := { plain "java/lang/Math" (some 0) with
  accessFlags := 49
  interfaces := #[]
  cf := some (fileOf pool7 1 #[.nestMembers #[98]] #[{ accessFlags := 2, nameIndex := 7, descriptorIndex := 8, attributes := #[] }, { accessFlags := 9, nameIndex := 198, descriptorIndex := 335, attributes := #[] }] 49 4 #[] #[{ accessFlags := 25, nameIndex := 354, descriptorIndex := 339, attributes := #[] }, { accessFlags := 25, nameIndex := 358, descriptorIndex := 339, attributes := #[] }, { accessFlags := 25, nameIndex := 361, descriptorIndex := 339, attributes := #[] }, { accessFlags := 26, nameIndex := 364, descriptorIndex := 339, attributes := #[] }, { accessFlags := 26, nameIndex := 365, descriptorIndex := 339, attributes := #[] }, { accessFlags := 26, nameIndex := 172, descriptorIndex := 173, attributes := #[] }, { accessFlags := 26, nameIndex := 176, descriptorIndex := 173, attributes := #[] }, { accessFlags := 8, nameIndex := 344, descriptorIndex := 339, attributes := #[] }, { accessFlags := 8, nameIndex := 338, descriptorIndex := 339, attributes := #[] }, { accessFlags := 4120, nameIndex := 245, descriptorIndex := 246, attributes := #[] }])
  fields := #[{ name := "E", type := .double, accessFlags := 25, slot := 0, constantValue := 0 }, { name := "PI", type := .double, accessFlags := 25, slot := 1, constantValue := 0 }, { name := "TAU", type := .double, accessFlags := 25, slot := 2, constantValue := 0 }, { name := "DEGREES_TO_RADIANS", type := .double, accessFlags := 26, slot := 3, constantValue := 0 }, { name := "RADIANS_TO_DEGREES", type := .double, accessFlags := 26, slot := 4, constantValue := 0 }, { name := "negativeZeroFloatBits", type := .long, accessFlags := 26, slot := 5, constantValue := 0 }, { name := "negativeZeroDoubleBits", type := .long, accessFlags := 26, slot := 6, constantValue := 0 }, { name := "twoToTheDoubleScaleUp", type := .double, accessFlags := 8, slot := 7, constantValue := 0 }, { name := "twoToTheDoubleScaleDown", type := .double, accessFlags := 8, slot := 8, constantValue := 0 }, { name := "$assertionsDisabled", type := .boolean, accessFlags := 4120, slot := 9, constantValue := 0 }]
  methods := #[k7m0, k7m1]
  instanceTypes := #[]
  staticTypes := #[.double, .double, .double, .double, .double, .long, .long, .double, .double, .boolean]
  resolved := Array.replicate 460 none
  statics := none }

def pool8 : Array CpInfo := pool [(1, u "java/lang/Cloneable"), (0, .class_ 1), (0, u "java/lang/Object"), (0, .class_ 3)] 3

/-- java/lang/Cloneable -/
def k8 : Class := { plain "java/lang/Cloneable" (some 0) with
  accessFlags := 1537
  interfaces := #[]
  cf := some (fileOf pool8 2 #[] #[] 1537 4 #[] #[])
  fields := #[]
  methods := #[]
  instanceTypes := #[]
  staticTypes := #[]
  resolved := Array.replicate 8 none
  statics := none }

/-- the primitive byte -/
def k9 : Class := { plain "byte" none with kind := .primitive 'B', accessFlags := 0x411 }
/-- [B -/
def k10 : Class := { plain "[B" (some 0) with kind := .array 9 .byte, interfaces := #[8, 4], accessFlags := 1041 }

/-- the primitive int -/
def k11 : Class := { plain "int" none with kind := .primitive 'I', accessFlags := 0x411 }
/-- [I -/
def k12 : Class := { plain "[I" (some 0) with kind := .array 11 .int, interfaces := #[8, 4], accessFlags := 1041 }

def heap : Heap := #[{ cls := 6, slots := #[.ref 1, .ref 2, .ref 3, .null], vm := .statics 6 },
  { cls := 6, slots := #[.null, .int 0, .int 0], vm := .none },
  { cls := 6, slots := #[.null, .int 1, .int 0], vm := .none },
  { cls := 6, slots := #[.null, .int 2, .int 0], vm := .none }]
def classes : Array Class := #[k0, k1, k2, k3, k4, k5, k6, k7, k8, k9, k10, k11, k12]
def interned : List (Array UInt16 × Addr) := []
def slotsUsed : Nat := 13
def theMethod : MethodId := ⟨1, 2⟩
def args0 : Array Value := #[.int 5, .int 7]
def aboutOver (below : List Frame) : State where
  vm := { classes := classes, interned := interned.toArray }
  heap := heap
  slotsUsed := slotsUsed
  threads := #[{ frames := .invoking theMethod args0 :: below }]
def below0 : List Frame := [.native { method := ⟨0, 0⟩, args := #[] }]
def about1 : State := aboutOver below0
def p0 : Program := .bare "" "" ""
def e0 : Env := launch0.env 0 0 0
theorem w_frames : about1.frames = Frame.invoking theMethod args0 :: below0 := rfl
set_option maxRecDepth 65536 in
theorem w_args : argsFit about1.vm theMethod args0 = true := by decide +kernel
set_option maxRecDepth 65536 in
theorem w_heap : heapFits about1 = true := by decide +kernel
set_option maxRecDepth 65536 in
theorem w_runnable : about1.curStatus? = some .runnable := by decide +kernel
set_option maxRecDepth 65536 in
theorem w_alone : about1.alone = true := by decide +kernel
set_option maxRecDepth 65536 in
theorem w_named : about1.methodNamed? x = some theMethod := by decide +kernel
set_option maxRecDepth 65536 in
theorem w_hears : about1.hears theMethod below0 = true := by decide +kernel
set_option maxRecDepth 65536 in
theorem w_ripe : about1.ripe theMethod args0 below0 = true := by decide +kernel
theorem w_running : about1.status = .running := rfl
set_option maxRecDepth 65536 in
theorem w_room : about1.hasRoom e0.platform room_1 = true :=
  launch0.hasRoom_least _ room_1 (by decide +kernel) (by decide +kernel) (by decide +kernel) (by decide +kernel) (by decide +kernel) (by decide +kernel)
theorem allAtoms_all (ts : List Jvm.Cond) (a : Array Jvm.Value) (st : Jvm.State) : (allAtoms ts).before a st = ts.all (fun c => c.before a st) := by
  induction ts with
  | nil => rfl
  | cons c t ih =>
    show (Jvm.Cond.and c (allAtoms t)).before a st = _
    rw [Jvm.Cond.before_and, ih, List.all_cons]
def words1 : List Jvm.Cond := Jvm.Cond.code x code maxLocals ret :: tables_1
/-- a 'code' word, met by the world's own term for the bytes: nothing is compared byte by byte -/
theorem code_word {y : MethodName} {bytes : ByteArray} {mx : Nat} {rt : Option FieldType} {a : Array Value} {s : State} {m : MethodId} {meth : Method} {c : Code} (h1 : s.methodNamed? y = some m) (h2 : s.vm.method? m = some meth) (h3 : meth.code = some c) (h4 : c.code = bytes)
    (h5 : (c.maxLocals == mx && c.exceptionTable.isEmpty && decide (c.maxStack ≤ mostOperands) && decide (meth.sig.returnType = rt) && !meth.locks && decide (parseMethodDescriptor y.desc = some meth.sig)) = true) : (Jvm.Cond.code y bytes mx rt).before a s = true := by
  simp only [Bool.and_eq_true, beq_iff_eq, Bool.not_eq_true', decide_eq_true_eq] at h5
  obtain ⟨⟨⟨⟨⟨g1, g2⟩, g3⟩, g4⟩, g5⟩, g6⟩ := h5
  simp [Cond.before, Cond.holds, Cond.value, h1, h2, h3, h4, g1, g2, g3, g4, g5, g6]
def isCode : Jvm.Cond → Bool
  | .code _ _ _ _ => true
  | _ => false
theorem all_split {L : List Jvm.Cond} {P : Jvm.Cond → Bool} (h1 : L.all (fun c => isCode c || P c) = true) (h2 : ∀ c ∈ L.filter isCode, P c = true) : L.all P = true := by
  refine List.all_eq_true.mpr fun c hc => ?_
  have h := List.all_eq_true.mp h1 c hc
  rcases Bool.eq_false_or_eq_true (isCode c) with hi | hi
  · exact h2 c (List.mem_filter.mpr ⟨hc, hi⟩)
  · simpa [hi] using h
set_option maxRecDepth 65536 in
theorem w_c0 : (Jvm.Cond.code x code maxLocals ret).before args0 about1 = true := code_word (m := ⟨1, 2⟩) (meth := k1m2) (c := k1c2) (by decide +kernel) rfl rfl rfl (by decide +kernel)
set_option maxRecDepth 65536 in
theorem w_c1 : (Jvm.Cond.code ({ cls := "com/example/kiseki/kiseki/tracing/ResultCodeCombinePinLaw", name := "pick", desc := "(I)Lcom/example/kiseki/kiseki/tracing/ResultCode;" } : Jvm.MethodName) method_2_code (1 : Nat) (Option.some (Jvm.ClassFile.FieldType.object "com/example/kiseki/kiseki/tracing/ResultCode"))).before args0 about1 = true := code_word (m := ⟨1, 1⟩) (meth := k1m1) (c := k1c1) (by decide +kernel) rfl rfl rfl (by decide +kernel)
set_option maxRecDepth 65536 in
theorem w_c2 : (Jvm.Cond.code ({ cls := "java/lang/Math", name := "max", desc := "(II)I" } : Jvm.MethodName) jdk_29_method_65_code (2 : Nat) (Option.some Jvm.ClassFile.FieldType.int)).before args0 about1 = true := code_word (m := ⟨7, 1⟩) (meth := k7m1) (c := k7c1) (by decide +kernel) rfl rfl rfl (by decide +kernel)
set_option maxRecDepth 65536 in
theorem w_c3 : (Jvm.Cond.code ({ cls := "com/example/kiseki/kiseki/tracing/ResultCode", name := "combine", desc := "(Lcom/example/kiseki/kiseki/tracing/ResultCode;)Lcom/example/kiseki/kiseki/tracing/ResultCode;" } : Jvm.MethodName) prog_54_method_4_code (3 : Nat) (Option.some (Jvm.ClassFile.FieldType.object "com/example/kiseki/kiseki/tracing/ResultCode"))).before args0 about1 = true := code_word (m := ⟨6, 0⟩) (meth := k6m0) (c := k6c0) (by decide +kernel) rfl rfl rfl (by decide +kernel)
def codes1 : List Jvm.Cond := [Jvm.Cond.code x code maxLocals ret, Jvm.Cond.code ({ cls := "com/example/kiseki/kiseki/tracing/ResultCodeCombinePinLaw", name := "pick", desc := "(I)Lcom/example/kiseki/kiseki/tracing/ResultCode;" } : Jvm.MethodName) method_2_code (1 : Nat) (Option.some (Jvm.ClassFile.FieldType.object "com/example/kiseki/kiseki/tracing/ResultCode")), Jvm.Cond.code ({ cls := "java/lang/Math", name := "max", desc := "(II)I" } : Jvm.MethodName) jdk_29_method_65_code (2 : Nat) (Option.some Jvm.ClassFile.FieldType.int), Jvm.Cond.code ({ cls := "com/example/kiseki/kiseki/tracing/ResultCode", name := "combine", desc := "(Lcom/example/kiseki/kiseki/tracing/ResultCode;)Lcom/example/kiseki/kiseki/tracing/ResultCode;" } : Jvm.MethodName) prog_54_method_4_code (3 : Nat) (Option.some (Jvm.ClassFile.FieldType.object "com/example/kiseki/kiseki/tracing/ResultCode"))]
set_option maxRecDepth 65536 in
theorem codes_eq : words1.filter isCode = codes1 := rfl
theorem w_codes : ∀ c ∈ words1.filter isCode, c.before args0 about1 = true := by
  rw [codes_eq]
  intro c hc
  simp only [codes1, List.mem_cons, List.not_mem_nil, or_false] at hc
  rcases hc with rfl | rfl | rfl | rfl
  · exact w_c0
  · exact w_c1
  · exact w_c2
  · exact w_c3
set_option maxRecDepth 65536 in
theorem w_t1 : (words1.take 24).all (fun c => isCode c || c.before args0 about1) = true := by decide +kernel
set_option maxRecDepth 65536 in
theorem w_t2 : (words1.drop 24).all (fun c => isCode c || c.before args0 about1) = true := by decide +kernel
theorem w_tables : (allAtoms (Jvm.Cond.code x code maxLocals ret :: tables_1)).before args0 about1 = true := by
  rw [allAtoms_all]
  show words1.all (fun c => c.before args0 about1) = true
  refine all_split ?_ w_codes
  rw [← List.take_append_drop 24 words1, List.all_append, w_t1, w_t2]
  rfl
set_option maxRecDepth 65536 in
theorem w_case : (Jvm.Cond.and given_1 narrow_1).before args0 about1 = true := by decide +kernel
theorem w_applies : (headSpec (Jvm.Cond.code x code maxLocals ret :: tables_1) room_1).applies x e0.platform about1 = true :=
  (Spec.applies_iff w_frames).mpr ⟨w_running, w_runnable, w_alone, w_named, w_hears, w_ripe, w_room, w_tables⟩
theorem atStart : AtStart classFile x code maxLocals ret World_1 tables_1 room_1 Calls_1 rest_1 Pre_1 launch0 p0 e0 about1 theMethod args0 below0 :=
  ⟨lists_1, trivial, launch0.admits_env _ _ _, launch0.least_env, fairChoices_fair.cas, fairChoices_fair.clock, w_frames, w_args, w_heap, w_applies, trivial, trivial, w_case⟩
end start1
theorem witness_1 : WitnessClaimed_1 := ⟨start1.p0, start1.e0, start1.about1, start1.theMethod, start1.args0, start1.below0, start1.atStart⟩
end Jvm.Pilot.@@N@@
