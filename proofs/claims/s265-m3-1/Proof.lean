import JvmDerived
import JvmDerived.Pilot.@@N@@Statement
import JvmDerived.Pilot.@@N@@Code
set_option linter.unusedVariables false
set_option linter.unusedSimpArgs false
@@BLOCK:NumsL.lean.txt@@
namespace Jvm.Pilot.@@N@@
open Jvm Jvm.ClassFile Sem Op Lib Jvm.Free Jvm.Stand Jvm.LawKit Jvm.RoadKit Bundle Jvm.Pilot.@@N@@.Jvm.D

def own_max (i j : Int32) : Int32 := if i < j then j else i
def own_rem (a b : Int64) : Int64 := a - (a / b) * b
def own_past (q : Int64) (f : Int32) : Int64 := own_rem q f.toInt64 * (1000000000 : Int64)
def own_frac (q : Int64) (f : Int32) : Int32 := (own_rem (own_past (own_rem q f.toInt64 * (86400 : Int64)) f) f.toInt64).toInt32
theorem ef_rmM (m : MethodId) (x0 : Int32) (x1 : Int32) : entryFrame m #[(.int x0), (.int x1)] 2 = mkF m 0 #[.val (.int x0), .val (.int x1)] [] := by first | (simp [entryFrame, mkF, argsToLocals, Value.category]; done) | rfl
theorem d1_0 : decode jdk_29_method_65_code 0 = .ok (.iload_n 0, 1) := by decide +kernel
theorem d1_1 : decode jdk_29_method_65_code 1 = .ok (.iload_n 1, 1) := by decide +kernel
theorem d1_2 : decode jdk_29_method_65_code 2 = .ok (.if_icmp .lt 7, 3) := by decide +kernel
theorem d1_9 : decode jdk_29_method_65_code 9 = .ok (.iload_n 1, 1) := by decide +kernel
theorem d1_10 : decode jdk_29_method_65_code 10 = .ok (.ireturn, 1) := by decide +kernel
theorem d1_5 : decode jdk_29_method_65_code 5 = .ok (.iload_n 0, 1) := by decide +kernel
theorem d1_6 : decode jdk_29_method_65_code 6 = .ok (.goto 4, 3) := by decide +kernel
def Q_rmM (Z : State) (p1 : Int32) (p2 : Int32) (h0 : Heap) (n0 : Nat) (v : Option Value) (h : Heap) (L : List Loc) : Prop := v = some (.int (own_max p1 p2)) ∧ Fr n0 L ∧ h = h0
set_option maxRecDepth 65536 in
set_option maxHeartbeats 40000000 in
theorem rmM (l : Launch) (Z : State) (a0 : Array Value) (hw : ∀ d ∈ tables_1, d.before a0 Z = true) (ws : List Jvm.Cond) (p1 : Int32) (p2 : Int32) (h0 : Heap) (n0 : Nat) (Z0 : n0 ≤ h0.size) :
    MetFree l (⟨"java/lang/Math", "max", "(II)I"⟩ : MethodName) (head1 (Jvm.Cond.code (⟨"java/lang/Math", "max", "(II)I"⟩ : MethodName) jdk_29_method_65_code 2 (some .int) :: ws) ({ frames := 0, cells := 0, slots := 0, locals := 0 } : Room)) (fun a U => a = #[(.int p1), (.int p2)] ∧ Z.Warmed39 U.vm ∧ U.heap = h0) (fun _ _ _ _ _ => True) (fun _ U o U' => ∃ v L, o = .returned v ∧ Q_rmM Z p1 p2 h0 n0 v U'.heap L ∧ FrameEnd U o U' L ({ frames := 0, cells := 0, slots := 0, locals := 0 } : Room).cells ({ frames := 0, cells := 0, slots := 0, locals := 0 } : Room).slots) := by
  refine MetFree.of_bodySF (Jvm.Free.JP.mathPlain rfl (by decide +kernel)) hisR ?_
  intro p e s m args below meth c s₁ Bd hml0 hP hK
  obtain ⟨rfl, hZ, hh⟩ := hP
  have hx := Bd.exec
  have hby := Bd.bytes
  have hml : c.maxLocals = 2 := hml0
  have hown : s.vm.findClass "java/lang/Math" = some m.cls := findClass_of_methodNamed Bd.named
  have hnm := (name_of_methodNamed Bd.named Bd.method).1
  have X0 : Stand p l e ({ frames := 0, cells := 0, slots := 0, locals := 0 } : Room) s m #[(.int p1), (.int p2)] below meth c s₁ [] 0 0 := Stand.of_body Bd
  have e0 : s₁.heap = h0 := by rw [← hh, Bd.state]; rfl
  have N0 := Fr.nil n0
  have pre0 : ∀ t, Steps p.tables e below (s₁.setTop (mkF m 0 #[.val (.int p1), .val (.int p2)] [])) t → Steps p.tables e below (s₁.setTop (entryFrame m #[(.int p1), (.int p2)] 2)) t := fun t k => castTop (ef_rmM m p1 p2) k
  have pre1 : ∀ t, Steps p.tables e below (s₁.setTop (mkF m 2 #[.val (.int p1), .val (.int p2)] [(.int p2), (.int p1)])) t → Steps p.tables e below (s₁.setTop (entryFrame m #[(.int p1), (.int p2)] 2)) t := by
    intro t k
    refine pre0 t ?_
    show Steps p.tables e below (s₁.setTop (mkF m 0 #[.val (.int p1), .val (.int p2)] [])) _
    refine XS.iloadN X0.here hx rfl (hb hby d1_0) rfl ?_
    show Steps p.tables e below (s₁.setTop (mkF m 1 #[.val (.int p1), .val (.int p2)] [(.int p1)])) _
    refine XS.iloadN X0.here hx rfl (hb hby d1_1) rfl ?_
    show Steps p.tables e below (s₁.setTop (mkF m 2 #[.val (.int p1), .val (.int p2)] [(.int p2), (.int p1)])) _
    exact k
  by_cases h2 : p1 < p2
  · skip
    have pre2 : ∀ t, Steps p.tables e below (s₁.setTop (mkF m 10 #[.val (.int p1), .val (.int p2)] [(.int p2)])) t → Steps p.tables e below (s₁.setTop (entryFrame m #[(.int p1), (.int p2)] 2)) t := by
      intro t k
      refine pre1 t ?_
      refine XS.icmpYes X0.here hx rfl (pc0 := 2) (pc' := 9) rfl (hb hby d1_2) rfl (tlt h2).1 (by decide) (by decide) ?_
      show Steps p.tables e below (s₁.setTop (mkF m 9 #[.val (.int p1), .val (.int p2)] [])) _
      refine XS.iloadN X0.here hx rfl (hb hby d1_9) rfl ?_
      show Steps p.tables e below (s₁.setTop (mkF m 10 #[.val (.int p1), .val (.int p2)] [(.int p2)])) _
      exact k
    obtain ⟨fs, hr, hrun, hended, hW, hsame⟩ := X0.leave (v := some (.int p2)) (fun h => by rw [Bd.returns] at h; cases h)
    refine ⟨_, _, pre2 _ ?_, hrun, hended, _, _, rfl, ?_, ⟨_, rfl⟩, hW, hsame.mono (by decide) (by decide)⟩
    · exact retOut X0 hx Bd.returns rfl (Or.inl ⟨rfl, Or.inl rfl, _, rfl⟩) (hb hby d1_10) hr
    · show Q_rmM Z p1 p2 h0 n0 _ s₁.heap _
      rw [e0]
      exact ⟨by simp [own_max, h2], N0, rfl⟩
  · skip
    have pre3 : ∀ t, Steps p.tables e below (s₁.setTop (mkF m 10 #[.val (.int p1), .val (.int p2)] [(.int p1)])) t → Steps p.tables e below (s₁.setTop (entryFrame m #[(.int p1), (.int p2)] 2)) t := by
      intro t k
      refine pre1 t ?_
      refine XS.icmpNo X0.here hx rfl (hb hby d1_2) rfl (flt h2).1 ?_
      show Steps p.tables e below (s₁.setTop (mkF m 5 #[.val (.int p1), .val (.int p2)] [])) _
      refine XS.iloadN X0.here hx rfl (hb hby d1_5) rfl ?_
      show Steps p.tables e below (s₁.setTop (mkF m 6 #[.val (.int p1), .val (.int p2)] [(.int p1)])) _
      refine XS.goto X0.here hx rfl (pc0 := 6) (pc' := 10) rfl (hb hby d1_6) (by decide) (by decide) ?_
      show Steps p.tables e below (s₁.setTop (mkF m 10 #[.val (.int p1), .val (.int p2)] [(.int p1)])) _
      exact k
    obtain ⟨fs, hr, hrun, hended, hW, hsame⟩ := X0.leave (v := some (.int p1)) (fun h => by rw [Bd.returns] at h; cases h)
    refine ⟨_, _, pre3 _ ?_, hrun, hended, _, _, rfl, ?_, ⟨_, rfl⟩, hW, hsame.mono (by decide) (by decide)⟩
    · exact retOut X0 hx Bd.returns rfl (Or.inl ⟨rfl, Or.inl rfl, _, rfl⟩) (hb hby d1_10) hr
    · show Q_rmM Z p1 p2 h0 n0 _ s₁.heap _
      rw [e0]
      exact ⟨by simp [own_max, h2], N0, rfl⟩
theorem ef_rmI (m : MethodId) (x0 : Addr) (x1 : Int64) (x2 : Int32) (x3 : Int32) : entryFrame m #[(.ref x0), (.long x1), (.int x2), (.int x3)] 5 = mkF m 0 #[.val (.ref x0), .val (.long x1), .second, .val (.int x2), .val (.int x3)] [] := by first | (simp [entryFrame, mkF, argsToLocals, Value.category]; done) | rfl
theorem pn_0 : plainName "com/example/hummingbird/hummingbird/engine/RoundRobin" = true := by first | (simp [plainName, overriddenIn]; done) | decide +kernel
theorem d2_0 : decode prog_10_method_1_code 0 = .ok (.aload_n 0, 1) := by decide +kernel
theorem d2_1 : decode prog_10_method_1_code 1 = .ok (.invokespecial 1, 3) := by decide +kernel
theorem d2_4 : decode prog_10_method_1_code 4 = .ok (.iload_n 3, 1) := by decide +kernel
theorem d2_5 : decode prog_10_method_1_code 5 = .ok (.iconst 1, 1) := by decide +kernel
theorem d2_6 : decode prog_10_method_1_code 6 = .ok (.if_icmp .lt 9, 3) := by decide +kernel
theorem d2_9 : decode prog_10_method_1_code 9 = .ok (.iload 4, 2) := by decide +kernel
theorem d2_11 : decode prog_10_method_1_code 11 = .ok (.iconst 1, 1) := by decide +kernel
theorem d2_12 : decode prog_10_method_1_code 12 = .ok (.if_icmp .ge 19, 3) := by decide +kernel
theorem d2_31 : decode prog_10_method_1_code 31 = .ok (.aload_n 0, 1) := by decide +kernel
theorem d2_32 : decode prog_10_method_1_code 32 = .ok (.lload_n 1, 1) := by decide +kernel
theorem d2_33 : decode prog_10_method_1_code 33 = .ok (.putfield 16, 3) := by decide +kernel
theorem d2_36 : decode prog_10_method_1_code 36 = .ok (.aload_n 0, 1) := by decide +kernel
theorem d2_37 : decode prog_10_method_1_code 37 = .ok (.iload_n 3, 1) := by decide +kernel
theorem d2_38 : decode prog_10_method_1_code 38 = .ok (.putfield 22, 3) := by decide +kernel
theorem d2_41 : decode prog_10_method_1_code 41 = .ok (.aload_n 0, 1) := by decide +kernel
theorem d2_42 : decode prog_10_method_1_code 42 = .ok (.iload 4, 2) := by decide +kernel
theorem d2_44 : decode prog_10_method_1_code 44 = .ok (.putfield 26, 3) := by decide +kernel
theorem d2_47 : decode prog_10_method_1_code 47 = .ok (.return_, 1) := by decide +kernel
def Q_rmI (Z : State) (a1 : Addr) (q1 : Int64) (p1 : Int32) (p2 : Int32) (h0 : Heap) (n0 : Nat) (v : Option Value) (h : Heap) (L : List Loc) : Prop := v = none ∧ Fr n0 L ∧ Keep h0 h [a1] ∧ Exa Z h a1 "com/example/hummingbird/hummingbird/engine/RoundRobin" ∧ Fld Z h a1 "com/example/hummingbird/hummingbird/engine/RoundRobin" "fetchesPerDay" "I" (.int p2)
set_option maxRecDepth 65536 in
set_option maxHeartbeats 40000000 in
theorem rmI (l : Launch) (Z : State) (a0 : Array Value) (hw : ∀ d ∈ tables_1, d.before a0 Z = true) (ws : List Jvm.Cond) (a1 : Addr) (q1 : Int64) (p1 : Int32) (p2 : Int32) (h0 : Heap) (n0 : Nat) (Z0 : n0 ≤ h0.size) (F1 : Fld Z h0 a1 "com/example/hummingbird/hummingbird/engine/RoundRobin" "dayZero" "J" (.long (0 : Int64))) (F2 : Fld Z h0 a1 "com/example/hummingbird/hummingbird/engine/RoundRobin" "feeds" "I" (.int (0 : Int32))) (F3 : Fld Z h0 a1 "com/example/hummingbird/hummingbird/engine/RoundRobin" "fetchesPerDay" "I" (.int (0 : Int32))) (E1 : Exa Z h0 a1 "com/example/hummingbird/hummingbird/engine/RoundRobin") (g_a1 : n0 ≤ a1) (hc1 : ¬ (p1 < (1 : Int32))) (hc2 : ¬ (p2 < (1 : Int32))) :
    MetFree l (⟨"com/example/hummingbird/hummingbird/engine/RoundRobin", "<init>", "(JII)V"⟩ : MethodName) (head1 (Jvm.Cond.code (⟨"com/example/hummingbird/hummingbird/engine/RoundRobin", "<init>", "(JII)V"⟩ : MethodName) prog_10_method_1_code 5 none :: ws) ({ frames := 1, cells := 0, slots := 0, locals := 12 } : Room)) (fun a U => a = #[(.ref a1), (.long q1), (.int p1), (.int p2)] ∧ Z.Warmed39 U.vm ∧ U.heap = h0) (fun _ _ _ _ _ => True) (fun _ U o U' => ∃ v L, o = .returned v ∧ Q_rmI Z a1 q1 p1 p2 h0 n0 v U'.heap L ∧ FrameEnd U o U' L ({ frames := 1, cells := 0, slots := 0, locals := 12 } : Room).cells ({ frames := 1, cells := 0, slots := 0, locals := 12 } : Room).slots) := by
  refine MetFree.of_bodySF (plainFor_of_name pn_0) hisR ?_
  intro p e s m args below meth c s₁ Bd hml0 hP hK
  obtain ⟨rfl, hZ, hh⟩ := hP
  have hx := Bd.exec
  have hby := Bd.bytes
  have hml : c.maxLocals = 5 := hml0
  have hown : s.vm.findClass "com/example/hummingbird/hummingbird/engine/RoundRobin" = some m.cls := findClass_of_methodNamed Bd.named
  have hnm := (name_of_methodNamed Bd.named Bd.method).1
  have X0 : Stand p l e ({ frames := 1, cells := 0, slots := 0, locals := 12 } : Room) s m #[(.ref a1), (.long q1), (.int p1), (.int p2)] below meth c s₁ [] 0 0 := Stand.of_body Bd
  have e0 : s₁.heap = h0 := by rw [← hh, Bd.state]; rfl
  have N0 := Fr.nil n0
  have pre0 : ∀ t, Steps p.tables e below (s₁.setTop (mkF m 0 #[.val (.ref a1), .val (.long q1), .second, .val (.int p1), .val (.int p2)] [])) t → Steps p.tables e below (s₁.setTop (entryFrame m #[(.ref a1), (.long q1), (.int p1), (.int p2)] 5)) t := fun t k => castTop (ef_rmI m a1 q1 p1 p2) k
  obtain ⟨T1, X1, e1, st1⟩ := initO X0 hx hZ hown (hw _ (List.mem_of_getElem? (i := 12) rfl)) (hw _ (List.mem_of_getElem? (i := 13) rfl)) (hw _ (List.mem_of_getElem? (i := 14) rfl)) e0 (g := (mkF m 1 #[.val (.ref a1), .val (.long q1), .second, .val (.int p1), .val (.int p2)] [(.ref a1)])) rfl (by rw [hml]; rfl) rfl (hb hby d2_1) (by decide) (W := 0) (by show 2 * 0 + _ ≤ _; exact Nat.le_of_eq rfl) (by decide)
  obtain ⟨T2, h2, X2, e2, W2, st2⟩ := putF X1 hx hZ hown (host := "") (Or.inl (hw _ (List.mem_of_getElem? (i := 15) rfl))) Via.refl e1 F1 E1 (Or.inr ⟨(hw _ (List.mem_of_getElem? (i := 16) rfl)), rfl, hnm⟩) (hw _ (List.mem_of_getElem? (i := 7) rfl)) (ty := .long) (by decide) rfl rfl (g := (mkF m 33 #[.val (.ref a1), .val (.long q1), .second, .val (.int p1), .val (.int p2)] [(.long q1), (.ref a1)])) rfl rfl (hb hby d2_33)
  have Fw2 := F1.same W2
  have K2 : Keep h0 h2 [a1] := (Keep.refl h0 [a1]).wr W2 (Or.inl (List.mem_of_getElem? (i := 0) rfl))
  have N2 := Fr.snoc X2 N0 g_a1
  obtain ⟨T3, h3, X3, e3, W3, st3⟩ := putF X2 hx hZ hown (host := "") (Or.inl (hw _ (List.mem_of_getElem? (i := 17) rfl))) Via.refl e2 (F2.other W2 (Or.inr (slot_ne (Or.inr (hw _ (List.mem_of_getElem? (i := 18) rfl))) (Or.inr (hw _ (List.mem_of_getElem? (i := 16) rfl))) (by decide) (t := .int) (t' := .long) (by decide) (by decide)))) (E1.wr W2) (Or.inr ⟨(hw _ (List.mem_of_getElem? (i := 18) rfl)), rfl, hnm⟩) (hw _ (List.mem_of_getElem? (i := 7) rfl)) (ty := .int) (by decide) rfl rfl (g := (mkF m 38 #[.val (.ref a1), .val (.long q1), .second, .val (.int p1), .val (.int p2)] [(.int p1), (.ref a1)])) rfl rfl (hb hby d2_38)
  have Fw3 := (F2.other W2 (Or.inr (slot_ne (Or.inr (hw _ (List.mem_of_getElem? (i := 18) rfl))) (Or.inr (hw _ (List.mem_of_getElem? (i := 16) rfl))) (by decide) (t := .int) (t' := .long) (by decide) (by decide)))).same W3
  have K3 : Keep h0 h3 [a1] := K2.wr W3 (Or.inl (List.mem_of_getElem? (i := 0) rfl))
  have N3 := Fr.snoc X3 N2 g_a1
  obtain ⟨T4, h4, X4, e4, W4, st4⟩ := putF X3 hx hZ hown (host := "") (Or.inl (hw _ (List.mem_of_getElem? (i := 19) rfl))) Via.refl e3 ((F3.other W2 (Or.inr (slot_ne (Or.inr (hw _ (List.mem_of_getElem? (i := 20) rfl))) (Or.inr (hw _ (List.mem_of_getElem? (i := 16) rfl))) (by decide) (t := .int) (t' := .long) (by decide) (by decide)))).other W3 (Or.inr (slot_ne (Or.inr (hw _ (List.mem_of_getElem? (i := 20) rfl))) (Or.inr (hw _ (List.mem_of_getElem? (i := 18) rfl))) (by decide) (t := .int) (t' := .int) (by decide) (by decide)))) ((E1.wr W2).wr W3) (Or.inr ⟨(hw _ (List.mem_of_getElem? (i := 20) rfl)), rfl, hnm⟩) (hw _ (List.mem_of_getElem? (i := 7) rfl)) (ty := .int) (by decide) rfl rfl (g := (mkF m 44 #[.val (.ref a1), .val (.long q1), .second, .val (.int p1), .val (.int p2)] [(.int p2), (.ref a1)])) rfl rfl (hb hby d2_44)
  have Fw4 := ((F3.other W2 (Or.inr (slot_ne (Or.inr (hw _ (List.mem_of_getElem? (i := 20) rfl))) (Or.inr (hw _ (List.mem_of_getElem? (i := 16) rfl))) (by decide) (t := .int) (t' := .long) (by decide) (by decide)))).other W3 (Or.inr (slot_ne (Or.inr (hw _ (List.mem_of_getElem? (i := 20) rfl))) (Or.inr (hw _ (List.mem_of_getElem? (i := 18) rfl))) (by decide) (t := .int) (t' := .int) (by decide) (by decide)))).same W4
  have K4 : Keep h0 h4 [a1] := K3.wr W4 (Or.inl (List.mem_of_getElem? (i := 0) rfl))
  have N4 := Fr.snoc X4 N3 g_a1
  have pre5 : ∀ t, Steps p.tables e below (T4.setTop (mkF m 47 #[.val (.ref a1), .val (.long q1), .second, .val (.int p1), .val (.int p2)] [])) t → Steps p.tables e below (s₁.setTop (entryFrame m #[(.ref a1), (.long q1), (.int p1), (.int p2)] 5)) t := by
    intro t k
    refine pre0 t ?_
    show Steps p.tables e below (s₁.setTop (mkF m 0 #[.val (.ref a1), .val (.long q1), .second, .val (.int p1), .val (.int p2)] [])) _
    refine XS.aloadN X0.here hx rfl (hb hby d2_0) rfl (rfl) ?_
    show Steps p.tables e below (s₁.setTop (mkF m 1 #[.val (.ref a1), .val (.long q1), .second, .val (.int p1), .val (.int p2)] [(.ref a1)])) _
    refine st1 _ ?_
    show Steps p.tables e below (T1.setTop (mkF m 4 #[.val (.ref a1), .val (.long q1), .second, .val (.int p1), .val (.int p2)] [])) _
    refine XS.iloadN X1.here hx rfl (hb hby d2_4) rfl ?_
    show Steps p.tables e below (T1.setTop (mkF m 5 #[.val (.ref a1), .val (.long q1), .second, .val (.int p1), .val (.int p2)] [(.int p1)])) _
    refine XS.iconst X1.here hx rfl (hb hby d2_5) ?_
    show Steps p.tables e below (T1.setTop (mkF m 6 #[.val (.ref a1), .val (.long q1), .second, .val (.int p1), .val (.int p2)] [(.int (1 : Int32)), (.int p1)])) _
    refine XS.icmpNo X1.here hx rfl (hb hby d2_6) rfl (flt hc1).1 ?_
    show Steps p.tables e below (T1.setTop (mkF m 9 #[.val (.ref a1), .val (.long q1), .second, .val (.int p1), .val (.int p2)] [])) _
    refine XS.iload X1.here hx rfl (hb hby d2_9) rfl ?_
    show Steps p.tables e below (T1.setTop (mkF m 11 #[.val (.ref a1), .val (.long q1), .second, .val (.int p1), .val (.int p2)] [(.int p2)])) _
    refine XS.iconst X1.here hx rfl (hb hby d2_11) ?_
    show Steps p.tables e below (T1.setTop (mkF m 12 #[.val (.ref a1), .val (.long q1), .second, .val (.int p1), .val (.int p2)] [(.int (1 : Int32)), (.int p2)])) _
    refine XS.icmpYes X1.here hx rfl (pc0 := 12) (pc' := 31) rfl (hb hby d2_12) rfl (flt hc2).2.1 (by decide) (by decide) ?_
    show Steps p.tables e below (T1.setTop (mkF m 31 #[.val (.ref a1), .val (.long q1), .second, .val (.int p1), .val (.int p2)] [])) _
    refine XS.aloadN X1.here hx rfl (hb hby d2_31) rfl (rfl) ?_
    show Steps p.tables e below (T1.setTop (mkF m 32 #[.val (.ref a1), .val (.long q1), .second, .val (.int p1), .val (.int p2)] [(.ref a1)])) _
    refine XS.lloadN X1.here hx rfl (hb hby d2_32) rfl ?_
    show Steps p.tables e below (T1.setTop (mkF m 33 #[.val (.ref a1), .val (.long q1), .second, .val (.int p1), .val (.int p2)] [(.long q1), (.ref a1)])) _
    refine st2 _ ?_
    show Steps p.tables e below (T2.setTop (mkF m 36 #[.val (.ref a1), .val (.long q1), .second, .val (.int p1), .val (.int p2)] [])) _
    refine XS.aloadN X2.here hx rfl (hb hby d2_36) rfl (rfl) ?_
    show Steps p.tables e below (T2.setTop (mkF m 37 #[.val (.ref a1), .val (.long q1), .second, .val (.int p1), .val (.int p2)] [(.ref a1)])) _
    refine XS.iloadN X2.here hx rfl (hb hby d2_37) rfl ?_
    show Steps p.tables e below (T2.setTop (mkF m 38 #[.val (.ref a1), .val (.long q1), .second, .val (.int p1), .val (.int p2)] [(.int p1), (.ref a1)])) _
    refine st3 _ ?_
    show Steps p.tables e below (T3.setTop (mkF m 41 #[.val (.ref a1), .val (.long q1), .second, .val (.int p1), .val (.int p2)] [])) _
    refine XS.aloadN X3.here hx rfl (hb hby d2_41) rfl (rfl) ?_
    show Steps p.tables e below (T3.setTop (mkF m 42 #[.val (.ref a1), .val (.long q1), .second, .val (.int p1), .val (.int p2)] [(.ref a1)])) _
    refine XS.iload X3.here hx rfl (hb hby d2_42) rfl ?_
    show Steps p.tables e below (T3.setTop (mkF m 44 #[.val (.ref a1), .val (.long q1), .second, .val (.int p1), .val (.int p2)] [(.int p2), (.ref a1)])) _
    refine st4 _ ?_
    show Steps p.tables e below (T4.setTop (mkF m 47 #[.val (.ref a1), .val (.long q1), .second, .val (.int p1), .val (.int p2)] [])) _
    exact k
  obtain ⟨fs, hr, hrun, hended, hW, hsame⟩ := X4.leave (v := none) (fun _ => rfl)
  refine ⟨_, _, pre5 _ ?_, hrun, hended, _, _, rfl, ?_, ⟨_, rfl⟩, hW, hsame.mono (by decide) (by decide)⟩
  · exact X4.returnOut hx Bd.returns (hb hby d2_47) hr
  · show Q_rmI Z a1 q1 p1 p2 h0 n0 _ T4.heap _
    rw [e4]
    exact ⟨rfl, N4, K4, (((E1.wr W2).wr W3).wr W4), Fw4⟩
theorem ef_rmW (m : MethodId) (x0 : Addr) (x1 : Int64) : entryFrame m #[(.ref x0), (.long x1)] 3 = mkF m 0 #[.val (.ref x0), .val (.long x1), .second] [] := by first | (simp [entryFrame, mkF, argsToLocals, Value.category]; done) | rfl
theorem d5_0 : decode prog_10_method_7_code 0 = .ok (.lload_n 1, 1) := by decide +kernel
theorem d5_1 : decode prog_10_method_7_code 1 = .ok (.aload_n 0, 1) := by decide +kernel
theorem d5_2 : decode prog_10_method_7_code 2 = .ok (.getfield 26, 3) := by decide +kernel
theorem d5_5 : decode prog_10_method_7_code 5 = .ok (.i2l, 1) := by decide +kernel
theorem d5_6 : decode prog_10_method_7_code 6 = .ok (.lrem, 1) := by decide +kernel
theorem d5_7 : decode prog_10_method_7_code 7 = .ok (.getstatic 36, 3) := by decide +kernel
theorem d5_10 : decode prog_10_method_7_code 10 = .ok (.lmul, 1) := by decide +kernel
theorem d5_11 : decode prog_10_method_7_code 11 = .ok (.lreturn, 1) := by decide +kernel
def Q_rmW (Z : State) (a1 : Addr) (q1 : Int64) (p1 : Int32) (h0 : Heap) (n0 : Nat) (v : Option Value) (h : Heap) (L : List Loc) : Prop := v = some (.long (own_past q1 p1)) ∧ Fr n0 L ∧ h = h0
set_option maxRecDepth 65536 in
set_option maxHeartbeats 40000000 in
theorem rmW (l : Launch) (Z : State) (a0 : Array Value) (hw : ∀ d ∈ tables_1, d.before a0 Z = true) (ws : List Jvm.Cond) (a1 : Addr) (q1 : Int64) (p1 : Int32) (h0 : Heap) (n0 : Nat) (Z0 : n0 ≤ h0.size) (F1 : Fld Z h0 a1 "com/example/hummingbird/hummingbird/engine/RoundRobin" "fetchesPerDay" "I" (.int p1)) (S1 : Sta Z h0 "com/example/hummingbird/hummingbird/engine/RoundRobin" "NANOS_PER_SECOND" "J" (.long (1000000000 : Int64))) (hz : p1.toInt64 ≠ 0) :
    MetFree l (⟨"com/example/hummingbird/hummingbird/engine/RoundRobin", "pastWholeSecond", "(J)J"⟩ : MethodName) (head1 (Jvm.Cond.code (⟨"com/example/hummingbird/hummingbird/engine/RoundRobin", "pastWholeSecond", "(J)J"⟩ : MethodName) prog_10_method_7_code 3 (some .long) :: ws) ({ frames := 0, cells := 0, slots := 0, locals := 0 } : Room)) (fun a U => a = #[(.ref a1), (.long q1)] ∧ Z.Warmed39 U.vm ∧ U.heap = h0) (fun _ _ _ _ _ => True) (fun _ U o U' => ∃ v L, o = .returned v ∧ Q_rmW Z a1 q1 p1 h0 n0 v U'.heap L ∧ FrameEnd U o U' L ({ frames := 0, cells := 0, slots := 0, locals := 0 } : Room).cells ({ frames := 0, cells := 0, slots := 0, locals := 0 } : Room).slots) := by
  refine MetFree.of_bodySF (plainFor_of_name pn_0) hisR ?_
  intro p e s m args below meth c s₁ Bd hml0 hP hK
  obtain ⟨rfl, hZ, hh⟩ := hP
  have hx := Bd.exec
  have hby := Bd.bytes
  have hml : c.maxLocals = 3 := hml0
  have hown : s.vm.findClass "com/example/hummingbird/hummingbird/engine/RoundRobin" = some m.cls := findClass_of_methodNamed Bd.named
  have hnm := (name_of_methodNamed Bd.named Bd.method).1
  have X0 : Stand p l e ({ frames := 0, cells := 0, slots := 0, locals := 0 } : Room) s m #[(.ref a1), (.long q1)] below meth c s₁ [] 0 0 := Stand.of_body Bd
  have e0 : s₁.heap = h0 := by rw [← hh, Bd.state]; rfl
  have N0 := Fr.nil n0
  have pre0 : ∀ t, Steps p.tables e below (s₁.setTop (mkF m 0 #[.val (.ref a1), .val (.long q1), .second] [])) t → Steps p.tables e below (s₁.setTop (entryFrame m #[(.ref a1), (.long q1)] 3)) t := fun t k => castTop (ef_rmW m a1 q1) k
  obtain ⟨T1, X1, e1, st1⟩ := getF X0 hx hZ hown (host := "") (Or.inl (hw _ (List.mem_of_getElem? (i := 19) rfl))) Via.refl e0 F1 (g := (mkF m 2 #[.val (.ref a1), .val (.long q1), .second] [(.ref a1), (.long q1)])) rfl rfl (hb hby d5_2)
  obtain ⟨T2, X2, e2, st2⟩ := getS2 X1 hx hZ hown (host := "") (Or.inl (hw _ (List.mem_of_getElem? (i := 32) rfl))) Via.refl e1 S1 (g := (mkF m 7 #[.val (.ref a1), .val (.long q1), .second] [(.long (q1 - (q1 / (p1.toInt64)) * (p1.toInt64)))])) rfl (hb hby d5_7)
  have pre3 : ∀ t, Steps p.tables e below (T2.setTop (mkF m 11 #[.val (.ref a1), .val (.long q1), .second] [(.long ((q1 - (q1 / (p1.toInt64)) * (p1.toInt64)) * (1000000000 : Int64)))])) t → Steps p.tables e below (s₁.setTop (entryFrame m #[(.ref a1), (.long q1)] 3)) t := by
    intro t k
    refine pre0 t ?_
    show Steps p.tables e below (s₁.setTop (mkF m 0 #[.val (.ref a1), .val (.long q1), .second] [])) _
    refine XS.lloadN X0.here hx rfl (hb hby d5_0) rfl ?_
    show Steps p.tables e below (s₁.setTop (mkF m 1 #[.val (.ref a1), .val (.long q1), .second] [(.long q1)])) _
    refine XS.aloadN X0.here hx rfl (hb hby d5_1) rfl (rfl) ?_
    show Steps p.tables e below (s₁.setTop (mkF m 2 #[.val (.ref a1), .val (.long q1), .second] [(.ref a1), (.long q1)])) _
    refine st1 _ ?_
    show Steps p.tables e below (T1.setTop (mkF m 5 #[.val (.ref a1), .val (.long q1), .second] [(.int p1), (.long q1)])) _
    refine XS.i2l X1.here hx rfl (hb hby d5_5) rfl ?_
    show Steps p.tables e below (T1.setTop (mkF m 6 #[.val (.ref a1), .val (.long q1), .second] [(.long (p1.toInt64)), (.long q1)])) _
    refine XS.lrem X1.here hx rfl (hb hby d5_6) rfl hz ?_
    show Steps p.tables e below (T1.setTop (mkF m 7 #[.val (.ref a1), .val (.long q1), .second] [(.long (q1 - (q1 / (p1.toInt64)) * (p1.toInt64)))])) _
    refine st2 _ ?_
    show Steps p.tables e below (T2.setTop (mkF m 10 #[.val (.ref a1), .val (.long q1), .second] [(.long (1000000000 : Int64)), (.long (q1 - (q1 / (p1.toInt64)) * (p1.toInt64)))])) _
    refine XS.lmul X2.here hx rfl (hb hby d5_10) rfl ?_
    show Steps p.tables e below (T2.setTop (mkF m 11 #[.val (.ref a1), .val (.long q1), .second] [(.long ((q1 - (q1 / (p1.toInt64)) * (p1.toInt64)) * (1000000000 : Int64)))])) _
    exact k
  obtain ⟨fs, hr, hrun, hended, hW, hsame⟩ := X2.leave (v := some (.long ((q1 - (q1 / (p1.toInt64)) * (p1.toInt64)) * (1000000000 : Int64)))) (fun h => by rw [Bd.returns] at h; cases h)
  refine ⟨_, _, pre3 _ ?_, hrun, hended, _, _, rfl, ?_, ⟨_, rfl⟩, hW, hsame.mono (by decide) (by decide)⟩
  · exact retOut X2 hx Bd.returns rfl (Or.inr (Or.inl ⟨rfl, rfl, _, rfl⟩)) (hb hby d5_11) hr
  · show Q_rmW Z a1 q1 p1 h0 n0 _ T2.heap _
    rw [e2]
    exact ⟨rfl, N0, rfl⟩
theorem ef_rmF (m : MethodId) (x0 : Addr) (x1 : Int64) : entryFrame m #[(.ref x0), (.long x1)] 3 = mkF m 0 #[.val (.ref x0), .val (.long x1), .second] [] := by first | (simp [entryFrame, mkF, argsToLocals, Value.category]; done) | rfl
theorem d4_0 : decode prog_10_method_5_code 0 = .ok (.aload_n 0, 1) := by decide +kernel
theorem d4_1 : decode prog_10_method_5_code 1 = .ok (.lload_n 1, 1) := by decide +kernel
theorem d4_2 : decode prog_10_method_5_code 2 = .ok (.aload_n 0, 1) := by decide +kernel
theorem d4_3 : decode prog_10_method_5_code 3 = .ok (.getfield 26, 3) := by decide +kernel
theorem d4_6 : decode prog_10_method_5_code 6 = .ok (.i2l, 1) := by decide +kernel
theorem d4_7 : decode prog_10_method_5_code 7 = .ok (.lrem, 1) := by decide +kernel
theorem d4_8 : decode prog_10_method_5_code 8 = .ok (.getstatic 29, 3) := by decide +kernel
theorem d4_11 : decode prog_10_method_5_code 11 = .ok (.lmul, 1) := by decide +kernel
theorem d4_12 : decode prog_10_method_5_code 12 = .ok (.invokevirtual 32, 3) := by decide +kernel
theorem pd_0 : parseMethodDescriptor "(J)J" = some ⟨[.long], some .long⟩ := by decide +kernel
theorem own_selP {Z s : State} {a0 args : Array Value} {y : MethodName} {kk : Nat} (hZ : Z.Warmed39 s.vm) (wi : (Jvm.Cond.instantiable y.cls kk).before a0 Z = true) (wm : (Jvm.Cond.instanceMethod y).before a0 Z = true) (wp : (Jvm.Cond.privateMethod y).before a0 Z = true) (hy : y.cls ≠ "java/lang/invoke/MethodHandle" ∧ y.cls ≠ "java/lang/invoke/VarHandle") : (Jvm.Cond.selects y.cls y y).before args s = true := by
  have wi' : (Jvm.Cond.instantiable y.cls kk).before args s = true := mvT hZ wi
  obtain ⟨c, k, h1, h2, -, h3, -⟩ := Cond.instantiable_spec wi'
  exact selects_self_of_private h1 h2 (Bool.or_eq_false_iff.mp h3).1 (Cond.privateMethod_at (mvP hZ wp (args := #[]))) (mvT hZ wm) hy
theorem d4_15 : decode prog_10_method_5_code 15 = .ok (.aload_n 0, 1) := by decide +kernel
theorem d4_16 : decode prog_10_method_5_code 16 = .ok (.getfield 26, 3) := by decide +kernel
theorem d4_19 : decode prog_10_method_5_code 19 = .ok (.i2l, 1) := by decide +kernel
theorem d4_20 : decode prog_10_method_5_code 20 = .ok (.lrem, 1) := by decide +kernel
theorem d4_21 : decode prog_10_method_5_code 21 = .ok (.l2i, 1) := by decide +kernel
theorem d4_22 : decode prog_10_method_5_code 22 = .ok (.ireturn, 1) := by decide +kernel
def Q_rmF (Z : State) (a1 : Addr) (q1 : Int64) (p1 : Int32) (h0 : Heap) (n0 : Nat) (v : Option Value) (h : Heap) (L : List Loc) : Prop := v = some (.int (own_frac q1 p1)) ∧ Fr n0 L ∧ h = h0
set_option maxRecDepth 65536 in
set_option maxHeartbeats 40000000 in
theorem rmF (l : Launch) (Z : State) (a0 : Array Value) (hw : ∀ d ∈ tables_1, d.before a0 Z = true) (ws : List Jvm.Cond) (a1 : Addr) (q1 : Int64) (p1 : Int32) (h0 : Heap) (n0 : Nat) (Z0 : n0 ≤ h0.size) (E1 : Exa Z h0 a1 "com/example/hummingbird/hummingbird/engine/RoundRobin") (F1 : Fld Z h0 a1 "com/example/hummingbird/hummingbird/engine/RoundRobin" "fetchesPerDay" "I" (.int p1)) (S1 : Sta Z h0 "com/example/hummingbird/hummingbird/engine/RoundRobin" "NANOS_PER_SECOND" "J" (.long (1000000000 : Int64))) (S2 : Sta Z h0 "com/example/hummingbird/hummingbird/engine/RoundRobin" "SECONDS_PER_DAY" "J" (.long (86400 : Int64))) (hz : p1.toInt64 ≠ 0) :
    MetFree l (⟨"com/example/hummingbird/hummingbird/engine/RoundRobin", "fraction", "(J)I"⟩ : MethodName) (head1 (Jvm.Cond.code (⟨"com/example/hummingbird/hummingbird/engine/RoundRobin", "fraction", "(J)I"⟩ : MethodName) prog_10_method_5_code 3 (some .int) :: ws) ({ frames := 1, cells := 0, slots := 0, locals := 20 } : Room)) (fun a U => a = #[(.ref a1), (.long q1)] ∧ Z.Warmed39 U.vm ∧ U.heap = h0) (fun _ _ _ _ _ => True) (fun _ U o U' => ∃ v L, o = .returned v ∧ Q_rmF Z a1 q1 p1 h0 n0 v U'.heap L ∧ FrameEnd U o U' L ({ frames := 1, cells := 0, slots := 0, locals := 20 } : Room).cells ({ frames := 1, cells := 0, slots := 0, locals := 20 } : Room).slots) := by
  refine MetFree.of_bodySF (plainFor_of_name pn_0) hisR ?_
  intro p e s m args below meth c s₁ Bd hml0 hP hK
  obtain ⟨rfl, hZ, hh⟩ := hP
  have hx := Bd.exec
  have hby := Bd.bytes
  have hml : c.maxLocals = 3 := hml0
  have hown : s.vm.findClass "com/example/hummingbird/hummingbird/engine/RoundRobin" = some m.cls := findClass_of_methodNamed Bd.named
  have hnm := (name_of_methodNamed Bd.named Bd.method).1
  have X0 : Stand p l e ({ frames := 1, cells := 0, slots := 0, locals := 20 } : Room) s m #[(.ref a1), (.long q1)] below meth c s₁ [] 0 0 := Stand.of_body Bd
  have e0 : s₁.heap = h0 := by rw [← hh, Bd.state]; rfl
  have N0 := Fr.nil n0
  have pre0 : ∀ t, Steps p.tables e below (s₁.setTop (mkF m 0 #[.val (.ref a1), .val (.long q1), .second] [])) t → Steps p.tables e below (s₁.setTop (entryFrame m #[(.ref a1), (.long q1)] 3)) t := fun t k => castTop (ef_rmF m a1 q1) k
  obtain ⟨T1, X1, e1, st1⟩ := getF X0 hx hZ hown (host := "") (Or.inl (hw _ (List.mem_of_getElem? (i := 19) rfl))) Via.refl e0 F1 (g := (mkF m 3 #[.val (.ref a1), .val (.long q1), .second] [(.ref a1), (.long q1), (.ref a1)])) rfl rfl (hb hby d4_3)
  obtain ⟨T2, X2, e2, st2⟩ := getS2 X1 hx hZ hown (host := "") (Or.inl (hw _ (List.mem_of_getElem? (i := 26) rfl))) Via.refl e1 S2 (g := (mkF m 8 #[.val (.ref a1), .val (.long q1), .second] [(.long (q1 - (q1 / (p1.toInt64)) * (p1.toInt64))), (.ref a1)])) rfl (hb hby d4_8)
  obtain ⟨cq3, q3, q3'⟩ := E1.cell
  obtain ⟨_, _, ⟨T3, L3, k3, n3⟩, -, X3, ⟨Lc3, hQ3, l3, y3, z3⟩, st3⟩ := X2.privateBack hx (y := (⟨"com/example/hummingbird/hummingbird/engine/RoundRobin", "pastWholeSecond", "(J)J"⟩ : MethodName)) hown (mvT hZ (hw _ (List.mem_of_getElem? (i := 28) rfl))) (mvT hZ (hw _ (List.mem_of_getElem? (i := 29) rfl))) (own_selP (y := (⟨"com/example/hummingbird/hummingbird/engine/RoundRobin", "pastWholeSecond", "(J)J"⟩ : MethodName)) hZ (hw _ (List.mem_of_getElem? (i := 7) rfl)) (hw _ (List.mem_of_getElem? (i := 29) rfl)) (hw _ (List.mem_of_getElem? (i := 30) rfl)) (by decide)) (Cond.privateMethod_at (mvP hZ (hw _ (List.mem_of_getElem? (i := 30) rfl)) (args := #[]))) (mvT hZ (hw _ (List.mem_of_getElem? (i := 31) rfl))) (by decide) (backOf (W := 0) (rmW l Z a0 hw [] a1 ((q1 - (q1 / (p1.toInt64)) * (p1.toInt64)) * (86400 : Int64)) p1 h0 n0 Z0 F1 S1 hz) hZ (hw _ (List.mem_of_getElem? (i := 31) rfl)) (hw _ (List.mem_of_getElem? (i := 8) rfl)) (by decide) (by decide)) (g := (mkF m 12 #[.val (.ref a1), .val (.long q1), .second] [(.long ((q1 - (q1 / (p1.toInt64)) * (p1.toInt64)) * (86400 : Int64))), (.ref a1)])) rfl (by rw [hml]; rfl) (Steps.refl _) (a := a1) (by rw [e2]; exact q3) q3' (argsL := [(.long ((q1 - (q1 / (p1.toInt64)) * (p1.toInt64)) * (86400 : Int64)))]) (rest := []) (lenOf pd_0 rfl) rfl (by show 2 * 0 + _ ≤ _; exact Nat.le_of_eq rfl) (hb hby d4_12) (fun _ _ => ⟨rfl, e2, (by decide : 0 + 0 ≤ _), (by decide : 0 + 0 ≤ _)⟩)
  dsimp only [Pt.U, Pt.locs, Pt.cells, Pt.slots] at X3 l3 y3 z3 st3 hQ3
  subst l3 y3 z3
  obtain ⟨rfl, N3q, hq3⟩ := hQ3
  have N3 := Fr.app N0 N3q
  obtain ⟨T4, X4, e4, st4⟩ := getF X3 hx hZ hown (host := "") (Or.inl (hw _ (List.mem_of_getElem? (i := 19) rfl))) Via.refl hq3 F1 (g := (mkF m 16 #[.val (.ref a1), .val (.long q1), .second] [(.ref a1), (.long (own_past ((q1 - (q1 / (p1.toInt64)) * (p1.toInt64)) * (86400 : Int64)) p1))])) rfl rfl (hb hby d4_16)
  have pre5 : ∀ t, Steps p.tables e below (T4.setTop (mkF m 22 #[.val (.ref a1), .val (.long q1), .second] [(.int (((own_past ((q1 - (q1 / (p1.toInt64)) * (p1.toInt64)) * (86400 : Int64)) p1) - ((own_past ((q1 - (q1 / (p1.toInt64)) * (p1.toInt64)) * (86400 : Int64)) p1) / (p1.toInt64)) * (p1.toInt64)).toInt32))])) t → Steps p.tables e below (s₁.setTop (entryFrame m #[(.ref a1), (.long q1)] 3)) t := by
    intro t k
    refine pre0 t ?_
    show Steps p.tables e below (s₁.setTop (mkF m 0 #[.val (.ref a1), .val (.long q1), .second] [])) _
    refine XS.aloadN X0.here hx rfl (hb hby d4_0) rfl (rfl) ?_
    show Steps p.tables e below (s₁.setTop (mkF m 1 #[.val (.ref a1), .val (.long q1), .second] [(.ref a1)])) _
    refine XS.lloadN X0.here hx rfl (hb hby d4_1) rfl ?_
    show Steps p.tables e below (s₁.setTop (mkF m 2 #[.val (.ref a1), .val (.long q1), .second] [(.long q1), (.ref a1)])) _
    refine XS.aloadN X0.here hx rfl (hb hby d4_2) rfl (rfl) ?_
    show Steps p.tables e below (s₁.setTop (mkF m 3 #[.val (.ref a1), .val (.long q1), .second] [(.ref a1), (.long q1), (.ref a1)])) _
    refine st1 _ ?_
    show Steps p.tables e below (T1.setTop (mkF m 6 #[.val (.ref a1), .val (.long q1), .second] [(.int p1), (.long q1), (.ref a1)])) _
    refine XS.i2l X1.here hx rfl (hb hby d4_6) rfl ?_
    show Steps p.tables e below (T1.setTop (mkF m 7 #[.val (.ref a1), .val (.long q1), .second] [(.long (p1.toInt64)), (.long q1), (.ref a1)])) _
    refine XS.lrem X1.here hx rfl (hb hby d4_7) rfl hz ?_
    show Steps p.tables e below (T1.setTop (mkF m 8 #[.val (.ref a1), .val (.long q1), .second] [(.long (q1 - (q1 / (p1.toInt64)) * (p1.toInt64))), (.ref a1)])) _
    refine st2 _ ?_
    show Steps p.tables e below (T2.setTop (mkF m 11 #[.val (.ref a1), .val (.long q1), .second] [(.long (86400 : Int64)), (.long (q1 - (q1 / (p1.toInt64)) * (p1.toInt64))), (.ref a1)])) _
    refine XS.lmul X2.here hx rfl (hb hby d4_11) rfl ?_
    show Steps p.tables e below (T2.setTop (mkF m 12 #[.val (.ref a1), .val (.long q1), .second] [(.long ((q1 - (q1 / (p1.toInt64)) * (p1.toInt64)) * (86400 : Int64))), (.ref a1)])) _
    refine st3.trans ?_
    show Steps p.tables e below (T3.setTop (mkF m 15 #[.val (.ref a1), .val (.long q1), .second] [(.long (own_past ((q1 - (q1 / (p1.toInt64)) * (p1.toInt64)) * (86400 : Int64)) p1))])) _
    refine XS.aloadN X3.here hx rfl (hb hby d4_15) rfl (rfl) ?_
    show Steps p.tables e below (T3.setTop (mkF m 16 #[.val (.ref a1), .val (.long q1), .second] [(.ref a1), (.long (own_past ((q1 - (q1 / (p1.toInt64)) * (p1.toInt64)) * (86400 : Int64)) p1))])) _
    refine st4 _ ?_
    show Steps p.tables e below (T4.setTop (mkF m 19 #[.val (.ref a1), .val (.long q1), .second] [(.int p1), (.long (own_past ((q1 - (q1 / (p1.toInt64)) * (p1.toInt64)) * (86400 : Int64)) p1))])) _
    refine XS.i2l X4.here hx rfl (hb hby d4_19) rfl ?_
    show Steps p.tables e below (T4.setTop (mkF m 20 #[.val (.ref a1), .val (.long q1), .second] [(.long (p1.toInt64)), (.long (own_past ((q1 - (q1 / (p1.toInt64)) * (p1.toInt64)) * (86400 : Int64)) p1))])) _
    refine XS.lrem X4.here hx rfl (hb hby d4_20) rfl hz ?_
    show Steps p.tables e below (T4.setTop (mkF m 21 #[.val (.ref a1), .val (.long q1), .second] [(.long ((own_past ((q1 - (q1 / (p1.toInt64)) * (p1.toInt64)) * (86400 : Int64)) p1) - ((own_past ((q1 - (q1 / (p1.toInt64)) * (p1.toInt64)) * (86400 : Int64)) p1) / (p1.toInt64)) * (p1.toInt64)))])) _
    refine XS.l2i X4.here hx rfl (hb hby d4_21) rfl ?_
    show Steps p.tables e below (T4.setTop (mkF m 22 #[.val (.ref a1), .val (.long q1), .second] [(.int (((own_past ((q1 - (q1 / (p1.toInt64)) * (p1.toInt64)) * (86400 : Int64)) p1) - ((own_past ((q1 - (q1 / (p1.toInt64)) * (p1.toInt64)) * (86400 : Int64)) p1) / (p1.toInt64)) * (p1.toInt64)).toInt32))])) _
    exact k
  obtain ⟨fs, hr, hrun, hended, hW, hsame⟩ := X4.leave (v := some (.int (((own_past ((q1 - (q1 / (p1.toInt64)) * (p1.toInt64)) * (86400 : Int64)) p1) - ((own_past ((q1 - (q1 / (p1.toInt64)) * (p1.toInt64)) * (86400 : Int64)) p1) / (p1.toInt64)) * (p1.toInt64)).toInt32))) (fun h => by rw [Bd.returns] at h; cases h)
  refine ⟨_, _, pre5 _ ?_, hrun, hended, _, _, rfl, ?_, ⟨_, rfl⟩, hW, hsame.mono (by decide) (by decide)⟩
  · exact retOut X4 hx Bd.returns rfl (Or.inl ⟨rfl, Or.inl rfl, _, rfl⟩) (hb hby d4_22) hr
  · show Q_rmF Z a1 q1 p1 h0 n0 _ T4.heap _
    rw [e4]
    exact ⟨rfl, N3, rfl⟩
theorem own_m1 (a c F : Int) : (a % F * c) % F = (a * c) % F := by rw [Int.mul_emod, Int.emod_emod_of_dvd _ (Int.dvd_refl _), ← Int.mul_emod]
theorem own_m2 (a c F : Int) : (a * (c % F)) % F = (a * c) % F := by rw [Int.mul_emod, Int.emod_emod_of_dvd _ (Int.dvd_refl _), ← Int.mul_emod]
theorem own_f {x z : Int32} (e : z = own_max (1 : Int32) (x &&& (2147483647 : Int32))) : 1 ≤ z.toInt := by
  have e1 : (x &&& 2147483647).toInt = x.toInt % 2 ^ 31 := Jvm.Kit.i32_mask x 2147483647 (k := 31) (by decide) (by decide)
  have e2 : (1 : Int32).toInt = 1 := rfl
  rw [e]; unfold own_max; split
  · next h => rw [Int32.lt_iff_toInt_lt] at h; omega
  · omega
theorem own_slot {x z : Int64} (e : z = x &&& (9223372036854775807 : Int64)) : 0 ≤ z.toInt := by
  have e1 : (x &&& 9223372036854775807).toInt = x.toInt % 2 ^ 63 := Jvm.Kit.i64_mask x 9223372036854775807 (k := 63) (by decide) (by decide)
  rw [e, e1]; omega
theorem own_remI {a b : Int64} (h : 0 ≤ a.toInt) : (own_rem a b).toInt = a.toInt % b.toInt := Jvm.Kit.i64_rem_nonneg h
theorem own_step (x : Int64) (f : Int32) (c : Int64) (C : Int) (hx : 0 ≤ x.toInt) (hf : 1 ≤ f.toInt) (hc : c.toInt = C) (h0 : 0 ≤ C) (h1 : C ≤ 1000000000) : (own_rem x f.toInt64 * c).toInt = x.toInt % f.toInt * C := by
  have e0 := Jvm.Kit.i64_of_i32 f
  have hF := Int32.toInt_lt f
  have r1 : (own_rem x f.toInt64).toInt = x.toInt % f.toInt := by rw [own_remI hx, e0]
  have b1 := Int.emod_nonneg x.toInt (b := f.toInt) (by omega)
  have b2 := Int.emod_lt_of_pos x.toInt (b := f.toInt) (by omega)
  have n1 : 0 ≤ (x.toInt % f.toInt) * C := Int.mul_nonneg b1 h0
  have n2 : (x.toInt % f.toInt) * C ≤ 2147483648 * 1000000000 := Int.mul_le_mul (by omega) h1 h0 (by omega)
  rw [Jvm.Kit.i64_mul (by rw [r1, hc]; omega) (by rw [r1, hc]; omega), r1, hc]
theorem own_fracI {q : Int64} {f : Int32} (hq : 0 ≤ q.toInt) (hf : 1 ≤ f.toInt) : (own_frac q f).toInt = (q.toInt % f.toInt * 86400000000000) % f.toInt := by
  have e0 := Jvm.Kit.i64_of_i32 f
  have hF := Int32.toInt_lt f
  unfold own_frac own_past
  have m1 := own_step q f (86400 : Int64) 86400 hq hf rfl (by decide) (by decide)
  generalize own_rem q f.toInt64 * (86400 : Int64) = x1 at *
  have b1 := Int.emod_nonneg q.toInt (b := f.toInt) (by omega)
  have p1 : 0 ≤ x1.toInt := by rw [m1]; omega
  have m2 := own_step x1 f (1000000000 : Int64) 1000000000 p1 hf rfl (by decide) (by decide)
  generalize own_rem x1 f.toInt64 * (1000000000 : Int64) = x2 at *
  have b2 := Int.emod_nonneg x1.toInt (b := f.toInt) (by omega)
  have p2 : 0 ≤ x2.toInt := by rw [m2]; omega
  have r3 : (own_rem x2 f.toInt64).toInt = x2.toInt % f.toInt := by rw [own_remI p2, e0]
  have b5 := Int.emod_nonneg x2.toInt (b := f.toInt) (by omega)
  have b6 := Int.emod_lt_of_pos x2.toInt (b := f.toInt) (by omega)
  rw [Jvm.Kit.i32_of_i64 (by rw [r3]; omega) (by rw [r3]; omega), r3, m2, own_m1, m1, Int.mul_assoc, show (86400 * 1000000000 : Int) = 86400000000000 from rfl]
theorem own_expI {q : Int64} {f : Int32} (hq : 0 ≤ q.toInt) (hf : 1 ≤ f.toInt) : (own_rem (own_rem q f.toInt64 * own_rem (86400000000000 : Int64) f.toInt64) f.toInt64).toInt = (q.toInt % f.toInt * 86400000000000) % f.toInt := by
  have e0 := Jvm.Kit.i64_of_i32 f
  have hF := Int32.toInt_lt f
  have c1 : (86400000000000 : Int64).toInt = 86400000000000 := rfl
  have r1 : (own_rem q f.toInt64).toInt = q.toInt % f.toInt := by rw [own_remI hq, e0]
  have r2 : (own_rem (86400000000000 : Int64) f.toInt64).toInt = 86400000000000 % f.toInt := by rw [own_remI (by omega), e0, c1]
  have b1 := Int.emod_nonneg q.toInt (b := f.toInt) (by omega)
  have b2 := Int.emod_lt_of_pos q.toInt (b := f.toInt) (by omega)
  have b3 := Int.emod_nonneg 86400000000000 (b := f.toInt) (by omega)
  have b4 := Int.emod_lt_of_pos 86400000000000 (b := f.toInt) (by omega)
  have n1 : 0 ≤ (q.toInt % f.toInt) * (86400000000000 % f.toInt) := Int.mul_nonneg b1 b3
  have n2 : (q.toInt % f.toInt) * (86400000000000 % f.toInt) ≤ 2147483648 * 2147483648 := Int.mul_le_mul (by omega) (by omega) b3 (by omega)
  have m1 : (own_rem q f.toInt64 * own_rem (86400000000000 : Int64) f.toInt64).toInt = (q.toInt % f.toInt) * (86400000000000 % f.toInt) := by
    rw [Jvm.Kit.i64_mul (by rw [r1, r2]; omega) (by rw [r1, r2]; omega), r1, r2]
  rw [own_remI (by rw [m1]; exact n1), e0, m1, own_m2]
theorem own_final {q : Int64} {f g : Int32} (hq : 0 ≤ q.toInt) (hf : 1 ≤ f.toInt) (hg : g = own_frac q f) : ¬ (g < (0 : Int32)) ∧ g < f ∧ g.toInt64 = own_rem (own_rem q f.toInt64 * own_rem (86400000000000 : Int64) f.toInt64) f.toInt64 := by
  have h1 := own_fracI hq hf
  have h2 := own_expI hq hf
  rw [← hg] at h1
  refine ⟨?_, ?_, Int64.toInt_inj.mp (by rw [Jvm.Kit.i64_of_i32, h1, h2])⟩
  all_goals
    clear h2 hg
    have b5 := Int.emod_nonneg (q.toInt % f.toInt * 86400000000000) (b := f.toInt) (by omega)
    have b6 := Int.emod_lt_of_pos (q.toInt % f.toInt * 86400000000000) (b := f.toInt) (by omega)
    have o0 : (0 : Int32).toInt = 0 := rfl
    rw [Int32.lt_iff_toInt_lt]; omega
theorem ef_rm0 (m : MethodId) (x0 : Int64) (x1 : Int32) (x2 : Int32) (x3 : Int64) : entryFrame m #[(.long x0), (.int x1), (.int x2), (.long x3)] maxLocals = mkF m 0 #[.val (.long x0), .second, .val (.int x1), .val (.int x2), .val (.long x3), .second, .unset, .unset, .unset, .unset, .unset, .unset, .unset, .unset, .unset, .unset, .unset, .unset, .unset, .unset] [] := by first | (simp [entryFrame, mkF, argsToLocals, Value.category, maxLocals]; done) | rfl
theorem pn_1 : plainName "com/example/hummingbird/hummingbird/engine/RoundRobinFractionPinLaw" = true := by first | (simp [plainName, overriddenIn]; done) | decide +kernel
theorem pd_1 : parseMethodDescriptor "(II)I" = some ⟨[.int, .int], some .int⟩ := by decide +kernel
theorem pd_2 : parseMethodDescriptor "(JII)V" = some ⟨[.long, .int, .int], none⟩ := by decide +kernel
theorem pd_3 : parseMethodDescriptor "(J)I" = some ⟨[.long], some .int⟩ := by decide +kernel
def Q_rm0 (Z : State) (q0 : Int64) (p1 : Int32) (p2 : Int32) (q3 : Int64) (h0 : Heap) (n0 : Nat) (v : Option Value) (h : Heap) (L : List Loc) : Prop := v = some (.int 1) ∧ Fr n0 L
set_option maxRecDepth 65536 in
set_option maxHeartbeats 40000000 in
theorem rm0 (l : Launch) (Z : State) (a0 : Array Value) (hw : ∀ d ∈ tables_1, d.before a0 Z = true) (ws : List Jvm.Cond) (q0 : Int64) (p1 : Int32) (p2 : Int32) (q3 : Int64) (h0 : Heap) (n0 : Nat) (Z0 : n0 ≤ h0.size) (O0 : Old Z n0 h0) (S1 : Sta Z Z.heap "com/example/hummingbird/hummingbird/engine/RoundRobin" "NANOS_PER_SECOND" "J" (.long (1000000000 : Int64))) (S2 : Sta Z Z.heap "com/example/hummingbird/hummingbird/engine/RoundRobin" "SECONDS_PER_DAY" "J" (.long (86400 : Int64))) :
    MetFree l x (head1 (Jvm.Cond.code x code maxLocals ret :: ws) room_1) (fun a U => a = #[(.long q0), (.int p1), (.int p2), (.long q3)] ∧ Z.Warmed39 U.vm ∧ U.heap = h0) (fun _ _ _ _ _ => True) (fun _ U o U' => ∃ v L, o = .returned v ∧ Q_rm0 Z q0 p1 p2 q3 h0 n0 v U'.heap L ∧ FrameEnd U o U' L room_1.cells room_1.slots) := by
  refine MetFree.of_bodySF (plainFor_of_name pn_1) hisR ?_
  intro p e s m args below meth c s₁ Bd hml0 hP hK
  obtain ⟨rfl, hZ, hh⟩ := hP
  have hx := Bd.exec
  have hby := Bd.bytes
  have hml : c.maxLocals = 20 := hml0
  have hown : s.vm.findClass "com/example/hummingbird/hummingbird/engine/RoundRobinFractionPinLaw" = some m.cls := findClass_of_methodNamed Bd.named
  have hnm := (name_of_methodNamed Bd.named Bd.method).1
  have X0 : Stand p l e room_1 s m #[(.long q0), (.int p1), (.int p2), (.long q3)] below meth c s₁ [] 0 0 := Stand.of_body Bd
  have e0 : s₁.heap = h0 := by rw [← hh, Bd.state]; rfl
  have N0 := Fr.nil n0
  have pre0 : ∀ t, Steps p.tables e below (s₁.setTop (mkF m 0 #[.val (.long q0), .second, .val (.int p1), .val (.int p2), .val (.long q3), .second, .unset, .unset, .unset, .unset, .unset, .unset, .unset, .unset, .unset, .unset, .unset, .unset, .unset, .unset] [])) t → Steps p.tables e below (s₁.setTop (entryFrame m #[(.long q0), (.int p1), (.int p2), (.long q3)] maxLocals)) t := fun t k => castTop (ef_rm0 m q0 p1 p2 q3) k
  obtain ⟨_, _, ⟨T1, L1, k1, n1⟩, -, X1, ⟨Lc1, hQ1, l1, y1, z1⟩, st1⟩ := Jvm.LawKit.callS X0 hx (y := (⟨"java/lang/Math", "max", "(II)I"⟩ : MethodName)) hown (mvT hZ (hw _ (List.mem_of_getElem? (i := 1) rfl))) (mvT hZ (hw _ (List.mem_of_getElem? (i := 2) rfl))) (mvT hZ (hw _ (List.mem_of_getElem? (i := 3) rfl))) (mvT hZ (hw _ (List.mem_of_getElem? (i := 4) rfl))) (by decide) (backOf (W := 0) (rmM l Z a0 hw [] (1 : Int32) (p2 &&& (2147483647 : Int32))  h0 n0 Z0 ) hZ (hw _ (List.mem_of_getElem? (i := 4) rfl)) (hw _ (List.mem_of_getElem? (i := 3) rfl)) (by decide) (by decide)) (g := (mkF m 5 #[.val (.long q0), .second, .val (.int p1), .val (.int p2), .val (.long q3), .second, .unset, .unset, .unset, .unset, .unset, .unset, .unset, .unset, .unset, .unset, .unset, .unset, .unset, .unset] [(.int (p2 &&& (2147483647 : Int32))), (.int (1 : Int32))])) rfl (by rw [hml]; rfl) (argsL := [(.int (1 : Int32)), (.int (p2 &&& (2147483647 : Int32)))]) (rest := []) (lenOf pd_1 rfl) rfl (by show 2 * 0 + _ ≤ _; exact Nat.le_of_eq rfl) (hb hby at_5) (fun _ _ => ⟨rfl, e0, (by decide : 0 + 0 ≤ _), (by decide : 0 + 0 ≤ _)⟩)
  dsimp only [Pt.U, Pt.locs, Pt.cells, Pt.slots] at X1 l1 y1 z1 st1 hQ1
  subst l1 y1 z1
  obtain ⟨rfl, N1q, hq1⟩ := hQ1
  have N1 := Fr.app N0 N1q
  have pre2 : ∀ t, Steps p.tables e below (T1.setTop (mkF m 8 #[.val (.long q0), .second, .val (.int p1), .val (.int p2), .val (.long q3), .second, .unset, .unset, .unset, .unset, .unset, .unset, .unset, .unset, .unset, .unset, .unset, .unset, .unset, .unset] [(.int (own_max (1 : Int32) (p2 &&& (2147483647 : Int32))))])) t → Steps p.tables e below (s₁.setTop (entryFrame m #[(.long q0), (.int p1), (.int p2), (.long q3)] maxLocals)) t := by
    intro t k
    refine pre0 t ?_
    show Steps p.tables e below (s₁.setTop (mkF m 0 #[.val (.long q0), .second, .val (.int p1), .val (.int p2), .val (.long q3), .second, .unset, .unset, .unset, .unset, .unset, .unset, .unset, .unset, .unset, .unset, .unset, .unset, .unset, .unset] [])) _
    refine XS.iconst X0.here hx rfl (hb hby at_0) ?_
    show Steps p.tables e below (s₁.setTop (mkF m 1 #[.val (.long q0), .second, .val (.int p1), .val (.int p2), .val (.long q3), .second, .unset, .unset, .unset, .unset, .unset, .unset, .unset, .unset, .unset, .unset, .unset, .unset, .unset, .unset] [(.int (1 : Int32))])) _
    refine XS.iloadN X0.here hx rfl (hb hby at_1) rfl ?_
    show Steps p.tables e below (s₁.setTop (mkF m 2 #[.val (.long q0), .second, .val (.int p1), .val (.int p2), .val (.long q3), .second, .unset, .unset, .unset, .unset, .unset, .unset, .unset, .unset, .unset, .unset, .unset, .unset, .unset, .unset] [(.int p2), (.int (1 : Int32))])) _
    refine X0.ldcInt hx hown (mvT hZ (hw _ (List.mem_of_getElem? (i := 0) rfl))) (g := (mkF m 2 #[.val (.long q0), .second, .val (.int p1), .val (.int p2), .val (.long q3), .second, .unset, .unset, .unset, .unset, .unset, .unset, .unset, .unset, .unset, .unset, .unset, .unset, .unset, .unset] [(.int p2), (.int (1 : Int32))])) rfl (hb hby at_2) _ ?_
    show Steps p.tables e below (s₁.setTop (mkF m 4 #[.val (.long q0), .second, .val (.int p1), .val (.int p2), .val (.long q3), .second, .unset, .unset, .unset, .unset, .unset, .unset, .unset, .unset, .unset, .unset, .unset, .unset, .unset, .unset] [(.int (2147483647 : Int32)), (.int p2), (.int (1 : Int32))])) _
    refine XS.iand X0.here hx rfl (hb hby at_4) rfl ?_
    show Steps p.tables e below (s₁.setTop (mkF m 5 #[.val (.long q0), .second, .val (.int p1), .val (.int p2), .val (.long q3), .second, .unset, .unset, .unset, .unset, .unset, .unset, .unset, .unset, .unset, .unset, .unset, .unset, .unset, .unset] [(.int (p2 &&& (2147483647 : Int32))), (.int (1 : Int32))])) _
    refine st1 _ ?_
    show Steps p.tables e below (T1.setTop (mkF m 8 #[.val (.long q0), .second, .val (.int p1), .val (.int p2), .val (.long q3), .second, .unset, .unset, .unset, .unset, .unset, .unset, .unset, .unset, .unset, .unset, .unset, .unset, .unset, .unset] [(.int (own_max (1 : Int32) (p2 &&& (2147483647 : Int32))))])) _
    exact k
  obtain ⟨ff, hff⟩ : ∃ z : Int32, z = (own_max (1 : Int32) (p2 &&& (2147483647 : Int32))) := ⟨_, rfl⟩
  rw [← hff] at pre2
  have hf := own_f hff
  obtain ⟨_, _, ⟨T3, L3, k3, n3⟩, -, X3, ⟨Lc3, hQ3, l3, y3, z3⟩, st3⟩ := Jvm.LawKit.callS X1 hx (y := (⟨"java/lang/Math", "max", "(II)I"⟩ : MethodName)) hown (mvT hZ (hw _ (List.mem_of_getElem? (i := 1) rfl))) (mvT hZ (hw _ (List.mem_of_getElem? (i := 2) rfl))) (mvT hZ (hw _ (List.mem_of_getElem? (i := 3) rfl))) (mvT hZ (hw _ (List.mem_of_getElem? (i := 4) rfl))) (by decide) (backOf (W := 0) (rmM l Z a0 hw [] (1 : Int32) (p1 &&& (2147483647 : Int32))  h0 n0 Z0 ) hZ (hw _ (List.mem_of_getElem? (i := 4) rfl)) (hw _ (List.mem_of_getElem? (i := 3) rfl)) (by decide) (by decide)) (g := (mkF m 15 #[.val (.long q0), .second, .val (.int p1), .val (.int p2), .val (.long q3), .second, .val (.int ff), .unset, .unset, .unset, .unset, .unset, .unset, .unset, .unset, .unset, .unset, .unset, .unset, .unset] [(.int (p1 &&& (2147483647 : Int32))), (.int (1 : Int32))])) rfl (by rw [hml]; rfl) (argsL := [(.int (1 : Int32)), (.int (p1 &&& (2147483647 : Int32)))]) (rest := []) (lenOf pd_1 rfl) rfl (by show 2 * 0 + _ ≤ _; exact Nat.le_of_eq rfl) (hb hby at_15) (fun _ _ => ⟨rfl, hq1, (by decide : 0 + 0 ≤ _), (by decide : 0 + 0 ≤ _)⟩)
  dsimp only [Pt.U, Pt.locs, Pt.cells, Pt.slots] at X3 l3 y3 z3 st3 hQ3
  subst l3 y3 z3
  obtain ⟨rfl, N3q, hq3⟩ := hQ3
  have N3 := Fr.app N1 N3q
  have pre4 : ∀ t, Steps p.tables e below (T3.setTop (mkF m 18 #[.val (.long q0), .second, .val (.int p1), .val (.int p2), .val (.long q3), .second, .val (.int ff), .unset, .unset, .unset, .unset, .unset, .unset, .unset, .unset, .unset, .unset, .unset, .unset, .unset] [(.int (own_max (1 : Int32) (p1 &&& (2147483647 : Int32))))])) t → Steps p.tables e below (s₁.setTop (entryFrame m #[(.long q0), (.int p1), (.int p2), (.long q3)] maxLocals)) t := by
    intro t k
    refine pre2 t ?_
    show Steps p.tables e below (T1.setTop (mkF m 8 #[.val (.long q0), .second, .val (.int p1), .val (.int p2), .val (.long q3), .second, .unset, .unset, .unset, .unset, .unset, .unset, .unset, .unset, .unset, .unset, .unset, .unset, .unset, .unset] [(.int ff)])) _
    refine XS.istore X1.here hx rfl (hb hby at_8) rfl (l' := #[.val (.long q0), .second, .val (.int p1), .val (.int p2), .val (.long q3), .second, .val (.int ff), .unset, .unset, .unset, .unset, .unset, .unset, .unset, .unset, .unset, .unset, .unset, .unset, .unset]) rfl ?_
    show Steps p.tables e below (T1.setTop (mkF m 10 #[.val (.long q0), .second, .val (.int p1), .val (.int p2), .val (.long q3), .second, .val (.int ff), .unset, .unset, .unset, .unset, .unset, .unset, .unset, .unset, .unset, .unset, .unset, .unset, .unset] [])) _
    refine XS.iconst X1.here hx rfl (hb hby at_10) ?_
    show Steps p.tables e below (T1.setTop (mkF m 11 #[.val (.long q0), .second, .val (.int p1), .val (.int p2), .val (.long q3), .second, .val (.int ff), .unset, .unset, .unset, .unset, .unset, .unset, .unset, .unset, .unset, .unset, .unset, .unset, .unset] [(.int (1 : Int32))])) _
    refine XS.iloadN X1.here hx rfl (hb hby at_11) rfl ?_
    show Steps p.tables e below (T1.setTop (mkF m 12 #[.val (.long q0), .second, .val (.int p1), .val (.int p2), .val (.long q3), .second, .val (.int ff), .unset, .unset, .unset, .unset, .unset, .unset, .unset, .unset, .unset, .unset, .unset, .unset, .unset] [(.int p1), (.int (1 : Int32))])) _
    refine X1.ldcInt hx hown (mvT hZ (hw _ (List.mem_of_getElem? (i := 0) rfl))) (g := (mkF m 12 #[.val (.long q0), .second, .val (.int p1), .val (.int p2), .val (.long q3), .second, .val (.int ff), .unset, .unset, .unset, .unset, .unset, .unset, .unset, .unset, .unset, .unset, .unset, .unset, .unset] [(.int p1), (.int (1 : Int32))])) rfl (hb hby at_12) _ ?_
    show Steps p.tables e below (T1.setTop (mkF m 14 #[.val (.long q0), .second, .val (.int p1), .val (.int p2), .val (.long q3), .second, .val (.int ff), .unset, .unset, .unset, .unset, .unset, .unset, .unset, .unset, .unset, .unset, .unset, .unset, .unset] [(.int (2147483647 : Int32)), (.int p1), (.int (1 : Int32))])) _
    refine XS.iand X1.here hx rfl (hb hby at_14) rfl ?_
    show Steps p.tables e below (T1.setTop (mkF m 15 #[.val (.long q0), .second, .val (.int p1), .val (.int p2), .val (.long q3), .second, .val (.int ff), .unset, .unset, .unset, .unset, .unset, .unset, .unset, .unset, .unset, .unset, .unset, .unset, .unset] [(.int (p1 &&& (2147483647 : Int32))), (.int (1 : Int32))])) _
    refine st3 _ ?_
    show Steps p.tables e below (T3.setTop (mkF m 18 #[.val (.long q0), .second, .val (.int p1), .val (.int p2), .val (.long q3), .second, .val (.int ff), .unset, .unset, .unset, .unset, .unset, .unset, .unset, .unset, .unset, .unset, .unset, .unset, .unset] [(.int (own_max (1 : Int32) (p1 &&& (2147483647 : Int32))))])) _
    exact k
  obtain ⟨nn, hnn⟩ : ∃ z : Int32, z = (own_max (1 : Int32) (p1 &&& (2147483647 : Int32))) := ⟨_, rfl⟩
  rw [← hnn] at pre4
  have hn := own_f hnn
  have pre5 : ∀ t, Steps p.tables e below (T3.setTop (mkF m 26 #[.val (.long q0), .second, .val (.int p1), .val (.int p2), .val (.long q3), .second, .val (.int ff), .val (.int nn), .unset, .unset, .unset, .unset, .unset, .unset, .unset, .unset, .unset, .unset, .unset, .unset] [(.long (q3 &&& (9223372036854775807 : Int64)))])) t → Steps p.tables e below (s₁.setTop (entryFrame m #[(.long q0), (.int p1), (.int p2), (.long q3)] maxLocals)) t := by
    intro t k
    refine pre4 t ?_
    show Steps p.tables e below (T3.setTop (mkF m 18 #[.val (.long q0), .second, .val (.int p1), .val (.int p2), .val (.long q3), .second, .val (.int ff), .unset, .unset, .unset, .unset, .unset, .unset, .unset, .unset, .unset, .unset, .unset, .unset, .unset] [(.int nn)])) _
    refine XS.istore X3.here hx rfl (hb hby at_18) rfl (l' := #[.val (.long q0), .second, .val (.int p1), .val (.int p2), .val (.long q3), .second, .val (.int ff), .val (.int nn), .unset, .unset, .unset, .unset, .unset, .unset, .unset, .unset, .unset, .unset, .unset, .unset]) rfl ?_
    show Steps p.tables e below (T3.setTop (mkF m 20 #[.val (.long q0), .second, .val (.int p1), .val (.int p2), .val (.long q3), .second, .val (.int ff), .val (.int nn), .unset, .unset, .unset, .unset, .unset, .unset, .unset, .unset, .unset, .unset, .unset, .unset] [])) _
    refine XS.lload X3.here hx rfl (hb hby at_20) rfl ?_
    show Steps p.tables e below (T3.setTop (mkF m 22 #[.val (.long q0), .second, .val (.int p1), .val (.int p2), .val (.long q3), .second, .val (.int ff), .val (.int nn), .unset, .unset, .unset, .unset, .unset, .unset, .unset, .unset, .unset, .unset, .unset, .unset] [(.long q3)])) _
    refine X3.ldc2Long hx hown (mvT hZ (hw _ (List.mem_of_getElem? (i := 5) rfl))) (g := (mkF m 22 #[.val (.long q0), .second, .val (.int p1), .val (.int p2), .val (.long q3), .second, .val (.int ff), .val (.int nn), .unset, .unset, .unset, .unset, .unset, .unset, .unset, .unset, .unset, .unset, .unset, .unset] [(.long q3)])) rfl (hb hby at_22) _ ?_
    show Steps p.tables e below (T3.setTop (mkF m 25 #[.val (.long q0), .second, .val (.int p1), .val (.int p2), .val (.long q3), .second, .val (.int ff), .val (.int nn), .unset, .unset, .unset, .unset, .unset, .unset, .unset, .unset, .unset, .unset, .unset, .unset] [(.long (9223372036854775807 : Int64)), (.long q3)])) _
    refine XS.land X3.here hx rfl (hb hby at_25) rfl ?_
    show Steps p.tables e below (T3.setTop (mkF m 26 #[.val (.long q0), .second, .val (.int p1), .val (.int p2), .val (.long q3), .second, .val (.int ff), .val (.int nn), .unset, .unset, .unset, .unset, .unset, .unset, .unset, .unset, .unset, .unset, .unset, .unset] [(.long (q3 &&& (9223372036854775807 : Int64)))])) _
    exact k
  obtain ⟨sl, hsl⟩ : ∃ z : Int64, z = (q3 &&& (9223372036854775807 : Int64)) := ⟨_, rfl⟩
  rw [← hsl] at pre5
  have hs := own_slot hsl
  have o1 : (1 : Int32).toInt = 1 := rfl
  have o0 : (0 : Int32).toInt = 0 := rfl
  have cf1 : ¬ (ff < (1 : Int32)) := by rw [Int32.lt_iff_toInt_lt]; omega
  have cn1 : ¬ (nn < (1 : Int32)) := by rw [Int32.lt_iff_toInt_lt]; omega
  have e64 := Jvm.Kit.i64_of_i32 ff
  have hz : ff.toInt64 ≠ 0 := fun z => by rw [z] at e64; have : (0 : Int64).toInt = 0 := rfl; omega
  obtain ⟨T6, h6, X6, e6, E6, A6, D6, -, st6⟩ := newO X3 hx hZ hown (hw _ (List.mem_of_getElem? (i := 6) rfl)) (hw _ (List.mem_of_getElem? (i := 7) rfl)) (hw _ (List.mem_of_getElem? (i := 8) rfl)) hq3 (g := (mkF m 28 #[.val (.long q0), .second, .val (.int p1), .val (.int p2), .val (.long q3), .second, .val (.int ff), .val (.int nn), .val (.long sl), .second, .unset, .unset, .unset, .unset, .unset, .unset, .unset, .unset, .unset, .unset] [])) rfl (hb hby at_28) (by decide) (by decide)
  obtain ⟨b6, g6⟩ : ∃ z, z = h0.size := ⟨_, rfl⟩
  rw [← g6] at A6 D6 st6
  have F6_dayZero : Fld Z h6 b6 "com/example/hummingbird/hummingbird/engine/RoundRobin" "dayZero" "J" (.long (0 : Int64)) := D6 (Or.inr (hw _ (List.mem_of_getElem? (i := 16) rfl))) (ty := .long) (by decide)
  have F6_feeds : Fld Z h6 b6 "com/example/hummingbird/hummingbird/engine/RoundRobin" "feeds" "I" (.int (0 : Int32)) := D6 (Or.inr (hw _ (List.mem_of_getElem? (i := 18) rfl))) (ty := .int) (by decide)
  have F6_fetchesPerDay : Fld Z h6 b6 "com/example/hummingbird/hummingbird/engine/RoundRobin" "fetchesPerDay" "I" (.int (0 : Int32)) := D6 (Or.inr (hw _ (List.mem_of_getElem? (i := 20) rfl))) (ty := .int) (by decide)
  have g_b6 : n0 ≤ b6 := Nat.le_trans Z0 (Nat.le_of_eq g6.symm)
  have sz_b6 : h0.size ≤ b6 := (Nat.le_trans (Keep.refl h0 []).1 (Nat.le_of_eq g6.symm))
  have K6 : Keep h0 h6 [] := (Keep.refl h0 []).ext E6
  obtain ⟨_, _, ⟨T7, L7, k7, n7⟩, -, X7, ⟨Lc7, hQ7, l7, y7, z7⟩, st7⟩ := X6.specialBack hx (y := (⟨"com/example/hummingbird/hummingbird/engine/RoundRobin", "<init>", "(JII)V"⟩ : MethodName)) rfl hown (mvT hZ (hw _ (List.mem_of_getElem? (i := 9) rfl))) (mvT hZ (hw _ (List.mem_of_getElem? (i := 10) rfl))) (mvT hZ (hw _ (List.mem_of_getElem? (i := 11) rfl))) (by decide) (backOf (W := 1) (rmI l Z a0 hw [] b6 q0 nn ff  h6 n0 (Nat.le_trans Z0 E6.1) F6_dayZero F6_feeds F6_fetchesPerDay A6 g_b6 cn1 cf1) hZ (hw _ (List.mem_of_getElem? (i := 11) rfl)) (hw _ (List.mem_of_getElem? (i := 8) rfl)) (by decide) (by decide)) (g := (mkF m 37 #[.val (.long q0), .second, .val (.int p1), .val (.int p2), .val (.long q3), .second, .val (.int ff), .val (.int nn), .val (.long sl), .second, .unset, .unset, .unset, .unset, .unset, .unset, .unset, .unset, .unset, .unset] [(.int ff), (.int nn), (.long q0), (.ref b6), (.ref b6)])) rfl (by rw [hml]; rfl) (Steps.refl _) (a := b6) (argsL := [(.long q0), (.int nn), (.int ff)]) (rest := [(.ref b6)]) (lenOf pd_2 rfl) rfl (by show 2 * 0 + _ ≤ _; exact Nat.le_of_eq rfl) (hb hby at_37) (fun _ _ => ⟨rfl, e6, (by decide : 1 + 0 ≤ _), (by decide : 3 + 0 ≤ _)⟩)
  dsimp only [Pt.U, Pt.locs, Pt.cells, Pt.slots] at X7 l7 y7 z7 st7 hQ7
  subst l7 y7 z7
  obtain ⟨rfl, N7q, Kq7, Eq7, Fq7⟩ := hQ7
  have N7 := Fr.app N3 N7q
  have K7 : Keep h0 T7.heap [] := K6.trans Kq7 (allS (Or.inr sz_b6) all0)
  obtain ⟨cq8, kq8, q8a, q8b, q8c⟩ := isOf hZ rfl Eq7
  obtain ⟨_, _, ⟨T8, L8, k8, n8⟩, -, X8, ⟨Lc8, hQ8, l8, y8, z8⟩, st8⟩ := X7.virtualBack hx (y := (⟨"com/example/hummingbird/hummingbird/engine/RoundRobin", "fraction", "(J)I"⟩ : MethodName)) (z := (⟨"com/example/hummingbird/hummingbird/engine/RoundRobin", "fraction", "(J)I"⟩ : MethodName)) hown (mvT hZ (hw _ (List.mem_of_getElem? (i := 21) rfl))) (mvT hZ (hw _ (List.mem_of_getElem? (i := 22) rfl))) (notFace_of_selects (args := #[]) (mvT hZ (hw _ (List.mem_of_getElem? (i := 24) rfl)))) (mvT hZ (hw _ (List.mem_of_getElem? (i := 24) rfl))) (mvT hZ (hw _ (List.mem_of_getElem? (i := 23) rfl))) (by decide) (backOf (W := 0) (rmF l Z a0 hw [] b6 sl ff T7.heap n0 (Nat.le_trans (Nat.le_trans Z0 E6.1) Kq7.1) Eq7 Fq7 (S1.ext (((O0.ext E6).keep Kq7 (allS g_b6 all0))).2) (S2.ext (((O0.ext E6).keep Kq7 (allS g_b6 all0))).2) hz) hZ (hw _ (List.mem_of_getElem? (i := 25) rfl)) (hw _ (List.mem_of_getElem? (i := 8) rfl)) (by decide) (by decide)) q8a q8c (g := (mkF m 46 #[.val (.long q0), .second, .val (.int p1), .val (.int p2), .val (.long q3), .second, .val (.int ff), .val (.int nn), .val (.long sl), .second, .val (.ref b6), .unset, .unset, .unset, .unset, .unset, .unset, .unset, .unset, .unset] [(.long sl), (.ref b6)])) rfl (by rw [hml]; rfl) (Steps.refl _) (argsL := [(.long sl)]) (rest := []) (lenOf pd_3 rfl) rfl (by show 2 * 0 + _ ≤ _; exact Nat.le_of_eq rfl) (hb hby at_46) (fun _ _ => ⟨rfl, rfl, (by decide : 1 + 0 ≤ _), (by decide : 3 + 0 ≤ _)⟩)
  dsimp only [Pt.U, Pt.locs, Pt.cells, Pt.slots] at X8 l8 y8 z8 st8 hQ8
  subst l8 y8 z8
  obtain ⟨rfl, N8q, hq8⟩ := hQ8
  have N8 := Fr.app N7 N8q
  have pre9 : ∀ t, Steps p.tables e below (T8.setTop (mkF m 49 #[.val (.long q0), .second, .val (.int p1), .val (.int p2), .val (.long q3), .second, .val (.int ff), .val (.int nn), .val (.long sl), .second, .val (.ref b6), .unset, .unset, .unset, .unset, .unset, .unset, .unset, .unset, .unset] [(.int (own_frac sl ff))])) t → Steps p.tables e below (s₁.setTop (entryFrame m #[(.long q0), (.int p1), (.int p2), (.long q3)] maxLocals)) t := by
    intro t k
    refine pre5 t ?_
    show Steps p.tables e below (T3.setTop (mkF m 26 #[.val (.long q0), .second, .val (.int p1), .val (.int p2), .val (.long q3), .second, .val (.int ff), .val (.int nn), .unset, .unset, .unset, .unset, .unset, .unset, .unset, .unset, .unset, .unset, .unset, .unset] [(.long sl)])) _
    refine XS.lstore X3.here hx rfl (hb hby at_26) rfl (l' := #[.val (.long q0), .second, .val (.int p1), .val (.int p2), .val (.long q3), .second, .val (.int ff), .val (.int nn), .val (.long sl), .second, .unset, .unset, .unset, .unset, .unset, .unset, .unset, .unset, .unset, .unset]) rfl ?_
    show Steps p.tables e below (T3.setTop (mkF m 28 #[.val (.long q0), .second, .val (.int p1), .val (.int p2), .val (.long q3), .second, .val (.int ff), .val (.int nn), .val (.long sl), .second, .unset, .unset, .unset, .unset, .unset, .unset, .unset, .unset, .unset, .unset] [])) _
    refine st6 _ ?_
    show Steps p.tables e below (T6.setTop (mkF m 31 #[.val (.long q0), .second, .val (.int p1), .val (.int p2), .val (.long q3), .second, .val (.int ff), .val (.int nn), .val (.long sl), .second, .unset, .unset, .unset, .unset, .unset, .unset, .unset, .unset, .unset, .unset] [(.ref b6)])) _
    refine XS.dup X6.here hx rfl (hb hby at_31) rfl rfl ?_
    show Steps p.tables e below (T6.setTop (mkF m 32 #[.val (.long q0), .second, .val (.int p1), .val (.int p2), .val (.long q3), .second, .val (.int ff), .val (.int nn), .val (.long sl), .second, .unset, .unset, .unset, .unset, .unset, .unset, .unset, .unset, .unset, .unset] [(.ref b6), (.ref b6)])) _
    refine XS.lloadN X6.here hx rfl (hb hby at_32) rfl ?_
    show Steps p.tables e below (T6.setTop (mkF m 33 #[.val (.long q0), .second, .val (.int p1), .val (.int p2), .val (.long q3), .second, .val (.int ff), .val (.int nn), .val (.long sl), .second, .unset, .unset, .unset, .unset, .unset, .unset, .unset, .unset, .unset, .unset] [(.long q0), (.ref b6), (.ref b6)])) _
    refine XS.iload X6.here hx rfl (hb hby at_33) rfl ?_
    show Steps p.tables e below (T6.setTop (mkF m 35 #[.val (.long q0), .second, .val (.int p1), .val (.int p2), .val (.long q3), .second, .val (.int ff), .val (.int nn), .val (.long sl), .second, .unset, .unset, .unset, .unset, .unset, .unset, .unset, .unset, .unset, .unset] [(.int nn), (.long q0), (.ref b6), (.ref b6)])) _
    refine XS.iload X6.here hx rfl (hb hby at_35) rfl ?_
    show Steps p.tables e below (T6.setTop (mkF m 37 #[.val (.long q0), .second, .val (.int p1), .val (.int p2), .val (.long q3), .second, .val (.int ff), .val (.int nn), .val (.long sl), .second, .unset, .unset, .unset, .unset, .unset, .unset, .unset, .unset, .unset, .unset] [(.int ff), (.int nn), (.long q0), (.ref b6), (.ref b6)])) _
    refine st7.trans ?_
    show Steps p.tables e below (T7.setTop (mkF m 40 #[.val (.long q0), .second, .val (.int p1), .val (.int p2), .val (.long q3), .second, .val (.int ff), .val (.int nn), .val (.long sl), .second, .unset, .unset, .unset, .unset, .unset, .unset, .unset, .unset, .unset, .unset] [(.ref b6)])) _
    refine XS.astore X7.here hx rfl (hb hby at_40) rfl (rfl) (l' := #[.val (.long q0), .second, .val (.int p1), .val (.int p2), .val (.long q3), .second, .val (.int ff), .val (.int nn), .val (.long sl), .second, .val (.ref b6), .unset, .unset, .unset, .unset, .unset, .unset, .unset, .unset, .unset]) rfl ?_
    show Steps p.tables e below (T7.setTop (mkF m 42 #[.val (.long q0), .second, .val (.int p1), .val (.int p2), .val (.long q3), .second, .val (.int ff), .val (.int nn), .val (.long sl), .second, .val (.ref b6), .unset, .unset, .unset, .unset, .unset, .unset, .unset, .unset, .unset] [])) _
    refine XS.aload X7.here hx rfl (hb hby at_42) rfl (rfl) ?_
    show Steps p.tables e below (T7.setTop (mkF m 44 #[.val (.long q0), .second, .val (.int p1), .val (.int p2), .val (.long q3), .second, .val (.int ff), .val (.int nn), .val (.long sl), .second, .val (.ref b6), .unset, .unset, .unset, .unset, .unset, .unset, .unset, .unset, .unset] [(.ref b6)])) _
    refine XS.lload X7.here hx rfl (hb hby at_44) rfl ?_
    show Steps p.tables e below (T7.setTop (mkF m 46 #[.val (.long q0), .second, .val (.int p1), .val (.int p2), .val (.long q3), .second, .val (.int ff), .val (.int nn), .val (.long sl), .second, .val (.ref b6), .unset, .unset, .unset, .unset, .unset, .unset, .unset, .unset, .unset] [(.long sl), (.ref b6)])) _
    refine st8.trans ?_
    show Steps p.tables e below (T8.setTop (mkF m 49 #[.val (.long q0), .second, .val (.int p1), .val (.int p2), .val (.long q3), .second, .val (.int ff), .val (.int nn), .val (.long sl), .second, .val (.ref b6), .unset, .unset, .unset, .unset, .unset, .unset, .unset, .unset, .unset] [(.int (own_frac sl ff))])) _
    exact k
  obtain ⟨gg, hgg⟩ : ∃ z : Int32, z = (own_frac sl ff) := ⟨_, rfl⟩
  rw [← hgg] at pre9
  obtain ⟨b83, b90, b99⟩ := own_final hs hf hgg
  have pre10 : ∀ t, Steps p.tables e below (T8.setTop (mkF m 107 #[.val (.long q0), .second, .val (.int p1), .val (.int p2), .val (.long q3), .second, .val (.int ff), .val (.int nn), .val (.long sl), .second, .val (.ref b6), .val (.int gg), .val (.long (ff.toInt64)), .second, .val (.long (sl - (sl / (ff.toInt64)) * (ff.toInt64))), .second, .val (.long ((86400000000000 : Int64) - ((86400000000000 : Int64) / (ff.toInt64)) * (ff.toInt64))), .second, .val (.long (((sl - (sl / (ff.toInt64)) * (ff.toInt64)) * ((86400000000000 : Int64) - ((86400000000000 : Int64) / (ff.toInt64)) * (ff.toInt64))) - (((sl - (sl / (ff.toInt64)) * (ff.toInt64)) * ((86400000000000 : Int64) - ((86400000000000 : Int64) / (ff.toInt64)) * (ff.toInt64))) / (ff.toInt64)) * (ff.toInt64))), .second] [(.int (1 : Int32))])) t → Steps p.tables e below (s₁.setTop (entryFrame m #[(.long q0), (.int p1), (.int p2), (.long q3)] maxLocals)) t := by
    intro t k
    refine pre9 t ?_
    show Steps p.tables e below (T8.setTop (mkF m 49 #[.val (.long q0), .second, .val (.int p1), .val (.int p2), .val (.long q3), .second, .val (.int ff), .val (.int nn), .val (.long sl), .second, .val (.ref b6), .unset, .unset, .unset, .unset, .unset, .unset, .unset, .unset, .unset] [(.int gg)])) _
    refine XS.istore X8.here hx rfl (hb hby at_49) rfl (l' := #[.val (.long q0), .second, .val (.int p1), .val (.int p2), .val (.long q3), .second, .val (.int ff), .val (.int nn), .val (.long sl), .second, .val (.ref b6), .val (.int gg), .unset, .unset, .unset, .unset, .unset, .unset, .unset, .unset]) rfl ?_
    show Steps p.tables e below (T8.setTop (mkF m 51 #[.val (.long q0), .second, .val (.int p1), .val (.int p2), .val (.long q3), .second, .val (.int ff), .val (.int nn), .val (.long sl), .second, .val (.ref b6), .val (.int gg), .unset, .unset, .unset, .unset, .unset, .unset, .unset, .unset] [])) _
    refine XS.iload X8.here hx rfl (hb hby at_51) rfl ?_
    show Steps p.tables e below (T8.setTop (mkF m 53 #[.val (.long q0), .second, .val (.int p1), .val (.int p2), .val (.long q3), .second, .val (.int ff), .val (.int nn), .val (.long sl), .second, .val (.ref b6), .val (.int gg), .unset, .unset, .unset, .unset, .unset, .unset, .unset, .unset] [(.int ff)])) _
    refine XS.i2l X8.here hx rfl (hb hby at_53) rfl ?_
    show Steps p.tables e below (T8.setTop (mkF m 54 #[.val (.long q0), .second, .val (.int p1), .val (.int p2), .val (.long q3), .second, .val (.int ff), .val (.int nn), .val (.long sl), .second, .val (.ref b6), .val (.int gg), .unset, .unset, .unset, .unset, .unset, .unset, .unset, .unset] [(.long (ff.toInt64))])) _
    refine XS.lstore X8.here hx rfl (hb hby at_54) rfl (l' := #[.val (.long q0), .second, .val (.int p1), .val (.int p2), .val (.long q3), .second, .val (.int ff), .val (.int nn), .val (.long sl), .second, .val (.ref b6), .val (.int gg), .val (.long (ff.toInt64)), .second, .unset, .unset, .unset, .unset, .unset, .unset]) rfl ?_
    show Steps p.tables e below (T8.setTop (mkF m 56 #[.val (.long q0), .second, .val (.int p1), .val (.int p2), .val (.long q3), .second, .val (.int ff), .val (.int nn), .val (.long sl), .second, .val (.ref b6), .val (.int gg), .val (.long (ff.toInt64)), .second, .unset, .unset, .unset, .unset, .unset, .unset] [])) _
    refine XS.lload X8.here hx rfl (hb hby at_56) rfl ?_
    show Steps p.tables e below (T8.setTop (mkF m 58 #[.val (.long q0), .second, .val (.int p1), .val (.int p2), .val (.long q3), .second, .val (.int ff), .val (.int nn), .val (.long sl), .second, .val (.ref b6), .val (.int gg), .val (.long (ff.toInt64)), .second, .unset, .unset, .unset, .unset, .unset, .unset] [(.long sl)])) _
    refine XS.lload X8.here hx rfl (hb hby at_58) rfl ?_
    show Steps p.tables e below (T8.setTop (mkF m 60 #[.val (.long q0), .second, .val (.int p1), .val (.int p2), .val (.long q3), .second, .val (.int ff), .val (.int nn), .val (.long sl), .second, .val (.ref b6), .val (.int gg), .val (.long (ff.toInt64)), .second, .unset, .unset, .unset, .unset, .unset, .unset] [(.long (ff.toInt64)), (.long sl)])) _
    refine XS.lrem X8.here hx rfl (hb hby at_60) rfl hz ?_
    show Steps p.tables e below (T8.setTop (mkF m 61 #[.val (.long q0), .second, .val (.int p1), .val (.int p2), .val (.long q3), .second, .val (.int ff), .val (.int nn), .val (.long sl), .second, .val (.ref b6), .val (.int gg), .val (.long (ff.toInt64)), .second, .unset, .unset, .unset, .unset, .unset, .unset] [(.long (sl - (sl / (ff.toInt64)) * (ff.toInt64)))])) _
    refine XS.lstore X8.here hx rfl (hb hby at_61) rfl (l' := #[.val (.long q0), .second, .val (.int p1), .val (.int p2), .val (.long q3), .second, .val (.int ff), .val (.int nn), .val (.long sl), .second, .val (.ref b6), .val (.int gg), .val (.long (ff.toInt64)), .second, .val (.long (sl - (sl / (ff.toInt64)) * (ff.toInt64))), .second, .unset, .unset, .unset, .unset]) rfl ?_
    show Steps p.tables e below (T8.setTop (mkF m 63 #[.val (.long q0), .second, .val (.int p1), .val (.int p2), .val (.long q3), .second, .val (.int ff), .val (.int nn), .val (.long sl), .second, .val (.ref b6), .val (.int gg), .val (.long (ff.toInt64)), .second, .val (.long (sl - (sl / (ff.toInt64)) * (ff.toInt64))), .second, .unset, .unset, .unset, .unset] [])) _
    refine X8.ldc2Long hx hown (mvT hZ (hw _ (List.mem_of_getElem? (i := 34) rfl))) (g := (mkF m 63 #[.val (.long q0), .second, .val (.int p1), .val (.int p2), .val (.long q3), .second, .val (.int ff), .val (.int nn), .val (.long sl), .second, .val (.ref b6), .val (.int gg), .val (.long (ff.toInt64)), .second, .val (.long (sl - (sl / (ff.toInt64)) * (ff.toInt64))), .second, .unset, .unset, .unset, .unset] [])) rfl (hb hby at_63) _ ?_
    show Steps p.tables e below (T8.setTop (mkF m 66 #[.val (.long q0), .second, .val (.int p1), .val (.int p2), .val (.long q3), .second, .val (.int ff), .val (.int nn), .val (.long sl), .second, .val (.ref b6), .val (.int gg), .val (.long (ff.toInt64)), .second, .val (.long (sl - (sl / (ff.toInt64)) * (ff.toInt64))), .second, .unset, .unset, .unset, .unset] [(.long (86400000000000 : Int64))])) _
    refine XS.lload X8.here hx rfl (hb hby at_66) rfl ?_
    show Steps p.tables e below (T8.setTop (mkF m 68 #[.val (.long q0), .second, .val (.int p1), .val (.int p2), .val (.long q3), .second, .val (.int ff), .val (.int nn), .val (.long sl), .second, .val (.ref b6), .val (.int gg), .val (.long (ff.toInt64)), .second, .val (.long (sl - (sl / (ff.toInt64)) * (ff.toInt64))), .second, .unset, .unset, .unset, .unset] [(.long (ff.toInt64)), (.long (86400000000000 : Int64))])) _
    refine XS.lrem X8.here hx rfl (hb hby at_68) rfl hz ?_
    show Steps p.tables e below (T8.setTop (mkF m 69 #[.val (.long q0), .second, .val (.int p1), .val (.int p2), .val (.long q3), .second, .val (.int ff), .val (.int nn), .val (.long sl), .second, .val (.ref b6), .val (.int gg), .val (.long (ff.toInt64)), .second, .val (.long (sl - (sl / (ff.toInt64)) * (ff.toInt64))), .second, .unset, .unset, .unset, .unset] [(.long ((86400000000000 : Int64) - ((86400000000000 : Int64) / (ff.toInt64)) * (ff.toInt64)))])) _
    refine XS.lstore X8.here hx rfl (hb hby at_69) rfl (l' := #[.val (.long q0), .second, .val (.int p1), .val (.int p2), .val (.long q3), .second, .val (.int ff), .val (.int nn), .val (.long sl), .second, .val (.ref b6), .val (.int gg), .val (.long (ff.toInt64)), .second, .val (.long (sl - (sl / (ff.toInt64)) * (ff.toInt64))), .second, .val (.long ((86400000000000 : Int64) - ((86400000000000 : Int64) / (ff.toInt64)) * (ff.toInt64))), .second, .unset, .unset]) rfl ?_
    show Steps p.tables e below (T8.setTop (mkF m 71 #[.val (.long q0), .second, .val (.int p1), .val (.int p2), .val (.long q3), .second, .val (.int ff), .val (.int nn), .val (.long sl), .second, .val (.ref b6), .val (.int gg), .val (.long (ff.toInt64)), .second, .val (.long (sl - (sl / (ff.toInt64)) * (ff.toInt64))), .second, .val (.long ((86400000000000 : Int64) - ((86400000000000 : Int64) / (ff.toInt64)) * (ff.toInt64))), .second, .unset, .unset] [])) _
    refine XS.lload X8.here hx rfl (hb hby at_71) rfl ?_
    show Steps p.tables e below (T8.setTop (mkF m 73 #[.val (.long q0), .second, .val (.int p1), .val (.int p2), .val (.long q3), .second, .val (.int ff), .val (.int nn), .val (.long sl), .second, .val (.ref b6), .val (.int gg), .val (.long (ff.toInt64)), .second, .val (.long (sl - (sl / (ff.toInt64)) * (ff.toInt64))), .second, .val (.long ((86400000000000 : Int64) - ((86400000000000 : Int64) / (ff.toInt64)) * (ff.toInt64))), .second, .unset, .unset] [(.long (sl - (sl / (ff.toInt64)) * (ff.toInt64)))])) _
    refine XS.lload X8.here hx rfl (hb hby at_73) rfl ?_
    show Steps p.tables e below (T8.setTop (mkF m 75 #[.val (.long q0), .second, .val (.int p1), .val (.int p2), .val (.long q3), .second, .val (.int ff), .val (.int nn), .val (.long sl), .second, .val (.ref b6), .val (.int gg), .val (.long (ff.toInt64)), .second, .val (.long (sl - (sl / (ff.toInt64)) * (ff.toInt64))), .second, .val (.long ((86400000000000 : Int64) - ((86400000000000 : Int64) / (ff.toInt64)) * (ff.toInt64))), .second, .unset, .unset] [(.long ((86400000000000 : Int64) - ((86400000000000 : Int64) / (ff.toInt64)) * (ff.toInt64))), (.long (sl - (sl / (ff.toInt64)) * (ff.toInt64)))])) _
    refine XS.lmul X8.here hx rfl (hb hby at_75) rfl ?_
    show Steps p.tables e below (T8.setTop (mkF m 76 #[.val (.long q0), .second, .val (.int p1), .val (.int p2), .val (.long q3), .second, .val (.int ff), .val (.int nn), .val (.long sl), .second, .val (.ref b6), .val (.int gg), .val (.long (ff.toInt64)), .second, .val (.long (sl - (sl / (ff.toInt64)) * (ff.toInt64))), .second, .val (.long ((86400000000000 : Int64) - ((86400000000000 : Int64) / (ff.toInt64)) * (ff.toInt64))), .second, .unset, .unset] [(.long ((sl - (sl / (ff.toInt64)) * (ff.toInt64)) * ((86400000000000 : Int64) - ((86400000000000 : Int64) / (ff.toInt64)) * (ff.toInt64))))])) _
    refine XS.lload X8.here hx rfl (hb hby at_76) rfl ?_
    show Steps p.tables e below (T8.setTop (mkF m 78 #[.val (.long q0), .second, .val (.int p1), .val (.int p2), .val (.long q3), .second, .val (.int ff), .val (.int nn), .val (.long sl), .second, .val (.ref b6), .val (.int gg), .val (.long (ff.toInt64)), .second, .val (.long (sl - (sl / (ff.toInt64)) * (ff.toInt64))), .second, .val (.long ((86400000000000 : Int64) - ((86400000000000 : Int64) / (ff.toInt64)) * (ff.toInt64))), .second, .unset, .unset] [(.long (ff.toInt64)), (.long ((sl - (sl / (ff.toInt64)) * (ff.toInt64)) * ((86400000000000 : Int64) - ((86400000000000 : Int64) / (ff.toInt64)) * (ff.toInt64))))])) _
    refine XS.lrem X8.here hx rfl (hb hby at_78) rfl hz ?_
    show Steps p.tables e below (T8.setTop (mkF m 79 #[.val (.long q0), .second, .val (.int p1), .val (.int p2), .val (.long q3), .second, .val (.int ff), .val (.int nn), .val (.long sl), .second, .val (.ref b6), .val (.int gg), .val (.long (ff.toInt64)), .second, .val (.long (sl - (sl / (ff.toInt64)) * (ff.toInt64))), .second, .val (.long ((86400000000000 : Int64) - ((86400000000000 : Int64) / (ff.toInt64)) * (ff.toInt64))), .second, .unset, .unset] [(.long (((sl - (sl / (ff.toInt64)) * (ff.toInt64)) * ((86400000000000 : Int64) - ((86400000000000 : Int64) / (ff.toInt64)) * (ff.toInt64))) - (((sl - (sl / (ff.toInt64)) * (ff.toInt64)) * ((86400000000000 : Int64) - ((86400000000000 : Int64) / (ff.toInt64)) * (ff.toInt64))) / (ff.toInt64)) * (ff.toInt64)))])) _
    refine XS.lstore X8.here hx rfl (hb hby at_79) rfl (l' := #[.val (.long q0), .second, .val (.int p1), .val (.int p2), .val (.long q3), .second, .val (.int ff), .val (.int nn), .val (.long sl), .second, .val (.ref b6), .val (.int gg), .val (.long (ff.toInt64)), .second, .val (.long (sl - (sl / (ff.toInt64)) * (ff.toInt64))), .second, .val (.long ((86400000000000 : Int64) - ((86400000000000 : Int64) / (ff.toInt64)) * (ff.toInt64))), .second, .val (.long (((sl - (sl / (ff.toInt64)) * (ff.toInt64)) * ((86400000000000 : Int64) - ((86400000000000 : Int64) / (ff.toInt64)) * (ff.toInt64))) - (((sl - (sl / (ff.toInt64)) * (ff.toInt64)) * ((86400000000000 : Int64) - ((86400000000000 : Int64) / (ff.toInt64)) * (ff.toInt64))) / (ff.toInt64)) * (ff.toInt64))), .second]) rfl ?_
    show Steps p.tables e below (T8.setTop (mkF m 81 #[.val (.long q0), .second, .val (.int p1), .val (.int p2), .val (.long q3), .second, .val (.int ff), .val (.int nn), .val (.long sl), .second, .val (.ref b6), .val (.int gg), .val (.long (ff.toInt64)), .second, .val (.long (sl - (sl / (ff.toInt64)) * (ff.toInt64))), .second, .val (.long ((86400000000000 : Int64) - ((86400000000000 : Int64) / (ff.toInt64)) * (ff.toInt64))), .second, .val (.long (((sl - (sl / (ff.toInt64)) * (ff.toInt64)) * ((86400000000000 : Int64) - ((86400000000000 : Int64) / (ff.toInt64)) * (ff.toInt64))) - (((sl - (sl / (ff.toInt64)) * (ff.toInt64)) * ((86400000000000 : Int64) - ((86400000000000 : Int64) / (ff.toInt64)) * (ff.toInt64))) / (ff.toInt64)) * (ff.toInt64))), .second] [])) _
    refine XS.iload X8.here hx rfl (hb hby at_81) rfl ?_
    show Steps p.tables e below (T8.setTop (mkF m 83 #[.val (.long q0), .second, .val (.int p1), .val (.int p2), .val (.long q3), .second, .val (.int ff), .val (.int nn), .val (.long sl), .second, .val (.ref b6), .val (.int gg), .val (.long (ff.toInt64)), .second, .val (.long (sl - (sl / (ff.toInt64)) * (ff.toInt64))), .second, .val (.long ((86400000000000 : Int64) - ((86400000000000 : Int64) / (ff.toInt64)) * (ff.toInt64))), .second, .val (.long (((sl - (sl / (ff.toInt64)) * (ff.toInt64)) * ((86400000000000 : Int64) - ((86400000000000 : Int64) / (ff.toInt64)) * (ff.toInt64))) - (((sl - (sl / (ff.toInt64)) * (ff.toInt64)) * ((86400000000000 : Int64) - ((86400000000000 : Int64) / (ff.toInt64)) * (ff.toInt64))) / (ff.toInt64)) * (ff.toInt64))), .second] [(.int gg)])) _
    refine XS.ifNo X8.here hx rfl (hb hby at_83) rfl ((if0 _ _).trans (flt b83).1) ?_
    show Steps p.tables e below (T8.setTop (mkF m 86 #[.val (.long q0), .second, .val (.int p1), .val (.int p2), .val (.long q3), .second, .val (.int ff), .val (.int nn), .val (.long sl), .second, .val (.ref b6), .val (.int gg), .val (.long (ff.toInt64)), .second, .val (.long (sl - (sl / (ff.toInt64)) * (ff.toInt64))), .second, .val (.long ((86400000000000 : Int64) - ((86400000000000 : Int64) / (ff.toInt64)) * (ff.toInt64))), .second, .val (.long (((sl - (sl / (ff.toInt64)) * (ff.toInt64)) * ((86400000000000 : Int64) - ((86400000000000 : Int64) / (ff.toInt64)) * (ff.toInt64))) - (((sl - (sl / (ff.toInt64)) * (ff.toInt64)) * ((86400000000000 : Int64) - ((86400000000000 : Int64) / (ff.toInt64)) * (ff.toInt64))) / (ff.toInt64)) * (ff.toInt64))), .second] [])) _
    refine XS.iload X8.here hx rfl (hb hby at_86) rfl ?_
    show Steps p.tables e below (T8.setTop (mkF m 88 #[.val (.long q0), .second, .val (.int p1), .val (.int p2), .val (.long q3), .second, .val (.int ff), .val (.int nn), .val (.long sl), .second, .val (.ref b6), .val (.int gg), .val (.long (ff.toInt64)), .second, .val (.long (sl - (sl / (ff.toInt64)) * (ff.toInt64))), .second, .val (.long ((86400000000000 : Int64) - ((86400000000000 : Int64) / (ff.toInt64)) * (ff.toInt64))), .second, .val (.long (((sl - (sl / (ff.toInt64)) * (ff.toInt64)) * ((86400000000000 : Int64) - ((86400000000000 : Int64) / (ff.toInt64)) * (ff.toInt64))) - (((sl - (sl / (ff.toInt64)) * (ff.toInt64)) * ((86400000000000 : Int64) - ((86400000000000 : Int64) / (ff.toInt64)) * (ff.toInt64))) / (ff.toInt64)) * (ff.toInt64))), .second] [(.int gg)])) _
    refine XS.iload X8.here hx rfl (hb hby at_88) rfl ?_
    show Steps p.tables e below (T8.setTop (mkF m 90 #[.val (.long q0), .second, .val (.int p1), .val (.int p2), .val (.long q3), .second, .val (.int ff), .val (.int nn), .val (.long sl), .second, .val (.ref b6), .val (.int gg), .val (.long (ff.toInt64)), .second, .val (.long (sl - (sl / (ff.toInt64)) * (ff.toInt64))), .second, .val (.long ((86400000000000 : Int64) - ((86400000000000 : Int64) / (ff.toInt64)) * (ff.toInt64))), .second, .val (.long (((sl - (sl / (ff.toInt64)) * (ff.toInt64)) * ((86400000000000 : Int64) - ((86400000000000 : Int64) / (ff.toInt64)) * (ff.toInt64))) - (((sl - (sl / (ff.toInt64)) * (ff.toInt64)) * ((86400000000000 : Int64) - ((86400000000000 : Int64) / (ff.toInt64)) * (ff.toInt64))) / (ff.toInt64)) * (ff.toInt64))), .second] [(.int ff), (.int gg)])) _
    refine XS.icmpNo X8.here hx rfl (hb hby at_90) rfl (tlt b90).2.1 ?_
    show Steps p.tables e below (T8.setTop (mkF m 93 #[.val (.long q0), .second, .val (.int p1), .val (.int p2), .val (.long q3), .second, .val (.int ff), .val (.int nn), .val (.long sl), .second, .val (.ref b6), .val (.int gg), .val (.long (ff.toInt64)), .second, .val (.long (sl - (sl / (ff.toInt64)) * (ff.toInt64))), .second, .val (.long ((86400000000000 : Int64) - ((86400000000000 : Int64) / (ff.toInt64)) * (ff.toInt64))), .second, .val (.long (((sl - (sl / (ff.toInt64)) * (ff.toInt64)) * ((86400000000000 : Int64) - ((86400000000000 : Int64) / (ff.toInt64)) * (ff.toInt64))) - (((sl - (sl / (ff.toInt64)) * (ff.toInt64)) * ((86400000000000 : Int64) - ((86400000000000 : Int64) / (ff.toInt64)) * (ff.toInt64))) / (ff.toInt64)) * (ff.toInt64))), .second] [])) _
    refine XS.iload X8.here hx rfl (hb hby at_93) rfl ?_
    show Steps p.tables e below (T8.setTop (mkF m 95 #[.val (.long q0), .second, .val (.int p1), .val (.int p2), .val (.long q3), .second, .val (.int ff), .val (.int nn), .val (.long sl), .second, .val (.ref b6), .val (.int gg), .val (.long (ff.toInt64)), .second, .val (.long (sl - (sl / (ff.toInt64)) * (ff.toInt64))), .second, .val (.long ((86400000000000 : Int64) - ((86400000000000 : Int64) / (ff.toInt64)) * (ff.toInt64))), .second, .val (.long (((sl - (sl / (ff.toInt64)) * (ff.toInt64)) * ((86400000000000 : Int64) - ((86400000000000 : Int64) / (ff.toInt64)) * (ff.toInt64))) - (((sl - (sl / (ff.toInt64)) * (ff.toInt64)) * ((86400000000000 : Int64) - ((86400000000000 : Int64) / (ff.toInt64)) * (ff.toInt64))) / (ff.toInt64)) * (ff.toInt64))), .second] [(.int gg)])) _
    refine XS.i2l X8.here hx rfl (hb hby at_95) rfl ?_
    show Steps p.tables e below (T8.setTop (mkF m 96 #[.val (.long q0), .second, .val (.int p1), .val (.int p2), .val (.long q3), .second, .val (.int ff), .val (.int nn), .val (.long sl), .second, .val (.ref b6), .val (.int gg), .val (.long (ff.toInt64)), .second, .val (.long (sl - (sl / (ff.toInt64)) * (ff.toInt64))), .second, .val (.long ((86400000000000 : Int64) - ((86400000000000 : Int64) / (ff.toInt64)) * (ff.toInt64))), .second, .val (.long (((sl - (sl / (ff.toInt64)) * (ff.toInt64)) * ((86400000000000 : Int64) - ((86400000000000 : Int64) / (ff.toInt64)) * (ff.toInt64))) - (((sl - (sl / (ff.toInt64)) * (ff.toInt64)) * ((86400000000000 : Int64) - ((86400000000000 : Int64) / (ff.toInt64)) * (ff.toInt64))) / (ff.toInt64)) * (ff.toInt64))), .second] [(.long (gg.toInt64))])) _
    refine XS.lload X8.here hx rfl (hb hby at_96) rfl ?_
    show Steps p.tables e below (T8.setTop (mkF m 98 #[.val (.long q0), .second, .val (.int p1), .val (.int p2), .val (.long q3), .second, .val (.int ff), .val (.int nn), .val (.long sl), .second, .val (.ref b6), .val (.int gg), .val (.long (ff.toInt64)), .second, .val (.long (sl - (sl / (ff.toInt64)) * (ff.toInt64))), .second, .val (.long ((86400000000000 : Int64) - ((86400000000000 : Int64) / (ff.toInt64)) * (ff.toInt64))), .second, .val (.long (((sl - (sl / (ff.toInt64)) * (ff.toInt64)) * ((86400000000000 : Int64) - ((86400000000000 : Int64) / (ff.toInt64)) * (ff.toInt64))) - (((sl - (sl / (ff.toInt64)) * (ff.toInt64)) * ((86400000000000 : Int64) - ((86400000000000 : Int64) / (ff.toInt64)) * (ff.toInt64))) / (ff.toInt64)) * (ff.toInt64))), .second] [(.long (((sl - (sl / (ff.toInt64)) * (ff.toInt64)) * ((86400000000000 : Int64) - ((86400000000000 : Int64) / (ff.toInt64)) * (ff.toInt64))) - (((sl - (sl / (ff.toInt64)) * (ff.toInt64)) * ((86400000000000 : Int64) - ((86400000000000 : Int64) / (ff.toInt64)) * (ff.toInt64))) / (ff.toInt64)) * (ff.toInt64))), (.long (gg.toInt64))])) _
    refine XS.lcmp X8.here hx rfl (hb hby at_98) rfl ?_
    show Steps p.tables e below (T8.setTop (mkF m 99 #[.val (.long q0), .second, .val (.int p1), .val (.int p2), .val (.long q3), .second, .val (.int ff), .val (.int nn), .val (.long sl), .second, .val (.ref b6), .val (.int gg), .val (.long (ff.toInt64)), .second, .val (.long (sl - (sl / (ff.toInt64)) * (ff.toInt64))), .second, .val (.long ((86400000000000 : Int64) - ((86400000000000 : Int64) / (ff.toInt64)) * (ff.toInt64))), .second, .val (.long (((sl - (sl / (ff.toInt64)) * (ff.toInt64)) * ((86400000000000 : Int64) - ((86400000000000 : Int64) / (ff.toInt64)) * (ff.toInt64))) - (((sl - (sl / (ff.toInt64)) * (ff.toInt64)) * ((86400000000000 : Int64) - ((86400000000000 : Int64) / (ff.toInt64)) * (ff.toInt64))) / (ff.toInt64)) * (ff.toInt64))), .second] [(.int (lcmpW (gg.toInt64) (((sl - (sl / (ff.toInt64)) * (ff.toInt64)) * ((86400000000000 : Int64) - ((86400000000000 : Int64) / (ff.toInt64)) * (ff.toInt64))) - (((sl - (sl / (ff.toInt64)) * (ff.toInt64)) * ((86400000000000 : Int64) - ((86400000000000 : Int64) / (ff.toInt64)) * (ff.toInt64))) / (ff.toInt64)) * (ff.toInt64))))])) _
    refine XS.ifNo X8.here hx rfl (hb hby at_99) rfl ((if0 _ _).trans (teq ((lw_eq (gg.toInt64) (((sl - (sl / (ff.toInt64)) * (ff.toInt64)) * ((86400000000000 : Int64) - ((86400000000000 : Int64) / (ff.toInt64)) * (ff.toInt64))) - (((sl - (sl / (ff.toInt64)) * (ff.toInt64)) * ((86400000000000 : Int64) - ((86400000000000 : Int64) / (ff.toInt64)) * (ff.toInt64))) / (ff.toInt64)) * (ff.toInt64))).mpr b99)).2) ?_
    show Steps p.tables e below (T8.setTop (mkF m 102 #[.val (.long q0), .second, .val (.int p1), .val (.int p2), .val (.long q3), .second, .val (.int ff), .val (.int nn), .val (.long sl), .second, .val (.ref b6), .val (.int gg), .val (.long (ff.toInt64)), .second, .val (.long (sl - (sl / (ff.toInt64)) * (ff.toInt64))), .second, .val (.long ((86400000000000 : Int64) - ((86400000000000 : Int64) / (ff.toInt64)) * (ff.toInt64))), .second, .val (.long (((sl - (sl / (ff.toInt64)) * (ff.toInt64)) * ((86400000000000 : Int64) - ((86400000000000 : Int64) / (ff.toInt64)) * (ff.toInt64))) - (((sl - (sl / (ff.toInt64)) * (ff.toInt64)) * ((86400000000000 : Int64) - ((86400000000000 : Int64) / (ff.toInt64)) * (ff.toInt64))) / (ff.toInt64)) * (ff.toInt64))), .second] [])) _
    refine XS.iconst X8.here hx rfl (hb hby at_102) ?_
    show Steps p.tables e below (T8.setTop (mkF m 103 #[.val (.long q0), .second, .val (.int p1), .val (.int p2), .val (.long q3), .second, .val (.int ff), .val (.int nn), .val (.long sl), .second, .val (.ref b6), .val (.int gg), .val (.long (ff.toInt64)), .second, .val (.long (sl - (sl / (ff.toInt64)) * (ff.toInt64))), .second, .val (.long ((86400000000000 : Int64) - ((86400000000000 : Int64) / (ff.toInt64)) * (ff.toInt64))), .second, .val (.long (((sl - (sl / (ff.toInt64)) * (ff.toInt64)) * ((86400000000000 : Int64) - ((86400000000000 : Int64) / (ff.toInt64)) * (ff.toInt64))) - (((sl - (sl / (ff.toInt64)) * (ff.toInt64)) * ((86400000000000 : Int64) - ((86400000000000 : Int64) / (ff.toInt64)) * (ff.toInt64))) / (ff.toInt64)) * (ff.toInt64))), .second] [(.int (1 : Int32))])) _
    refine XS.goto X8.here hx rfl (pc0 := 103) (pc' := 107) rfl (hb hby at_103) (by decide) (by decide) ?_
    show Steps p.tables e below (T8.setTop (mkF m 107 #[.val (.long q0), .second, .val (.int p1), .val (.int p2), .val (.long q3), .second, .val (.int ff), .val (.int nn), .val (.long sl), .second, .val (.ref b6), .val (.int gg), .val (.long (ff.toInt64)), .second, .val (.long (sl - (sl / (ff.toInt64)) * (ff.toInt64))), .second, .val (.long ((86400000000000 : Int64) - ((86400000000000 : Int64) / (ff.toInt64)) * (ff.toInt64))), .second, .val (.long (((sl - (sl / (ff.toInt64)) * (ff.toInt64)) * ((86400000000000 : Int64) - ((86400000000000 : Int64) / (ff.toInt64)) * (ff.toInt64))) - (((sl - (sl / (ff.toInt64)) * (ff.toInt64)) * ((86400000000000 : Int64) - ((86400000000000 : Int64) / (ff.toInt64)) * (ff.toInt64))) / (ff.toInt64)) * (ff.toInt64))), .second] [(.int (1 : Int32))])) _
    exact k
  obtain ⟨fs, hr, hrun, hended, hW, hsame⟩ := X8.leave (v := some (.int (1 : Int32))) (fun h => by rw [Bd.returns] at h; cases h)
  refine ⟨_, _, pre10 _ ?_, hrun, hended, _, _, rfl, ?_, ⟨_, rfl⟩, hW, hsame.mono (by decide) (by decide)⟩
  · exact retN X8 hx (t := .boolean) Bd.returns (by simp) (hb hby at_107) hr
  · show Q_rm0 Z q0 p1 p2 q3 h0 n0 _ T8.heap _
    rw [hq8]
    exact ⟨rfl, N8⟩
theorem own_eqI {t : Term} {k : Int32} {args : Array Value} {s : State} (h : (Jvm.Cond.eq t (.int k)).value args s none s [] = some true) : t.eval args s none [] s = some (.int k) := by
  simp only [Cond.value, Term.eval] at h
  cases ht : t.eval args s none [] s with
  | none => simp [ht] at h
  | some x => cases x <;> simp [ht] at h ⊢; exact h
theorem own_eqJ {t : Term} {k : Int64} {args : Array Value} {s : State} (h : (Jvm.Cond.eq t (.long k)).value args s none s [] = some true) : t.eval args s none [] s = some (.long k) := by
  simp only [Cond.value, Term.eval] at h
  cases ht : t.eval args s none [] s with
  | none => simp [ht] at h
  | some x => cases x <;> simp [ht] at h ⊢; exact h
set_option maxRecDepth 65536 in
set_option maxHeartbeats 40000000 in
theorem comes_1 {Post : Tables → Env → Array Value → State → Outcome → State → Prop} (hpost : ∀ tb e args s v u, (limb_1_1.after args s (.returned v) u = true ∧ limb_1_2.after args s (.returned v) u = true ∧ True) → FrameEnd s (.returned v) u (Jvm.fieldLocs frame_1_writes args s ++ Jvm.arrayLocs frame_1_arrays args s ++ Jvm.staticLocs frame_1_statics s) 16 128 → Post tb e args s (.returned v) u) :
    ArmFor flags0 classFile x code maxLocals ret World_1 tables_1 room_1 Calls_1 rest_1 Pre_1 Post := by
  intro l hfl _ _ p e ha hc hk s m args below hf hA hF happ hP
  obtain ⟨hcalls, hrest, hpre⟩ := hP
  obtain ⟨-, -, -, hnamed, -, -, -, hat⟩ := (Spec.applies_iff hf).mp happ
  obtain ⟨hg, hn⟩ := and_e (Cond.before_iff.mp (show (Jvm.Cond.and given_1 narrow_1).before args s = true from hpre))
  obtain ⟨g1, g2⟩ := and_e hg
  obtain ⟨g3, g4⟩ := and_e g2
  obtain ⟨g5, g6⟩ := and_e g4
  obtain ⟨g7, g8⟩ := and_e g6
  obtain ⟨g9, g10⟩ := and_e hn
  obtain ⟨w0, w1, w2, w3, rfl⟩ : ∃ w0 w1 w2 w3 : Value, args = #[w0, w1, w2, w3] := by
    have hs : args.size = 4 := by simpa [Cond.value, given_1] using g1
    obtain ⟨L⟩ := args
    match L, hs with
    | [w0, w1, w2, w3], _ => exact ⟨w0, w1, w2, w3, rfl⟩
  have hw := fun d (hd : d ∈ tables_1) => atoms_spec (ws := Jvm.Cond.code x code maxLocals ret :: tables_1) hat d (List.mem_cons_of_mem _ hd)
  obtain ⟨i0, ei0⟩ := isL_v g3
  obtain rfl : w0 = (.long i0) := Option.some.inj ei0
  obtain ⟨i1, ei1⟩ := is_v g5
  obtain rfl : w1 = (.int i1) := Option.some.inj ei1
  obtain ⟨i2, ei2⟩ := is_v g7
  obtain rfl : w2 = (.int i2) := Option.some.inj ei2
  obtain ⟨i3, ei3⟩ := isL_v g8
  obtain rfl : w3 = (.long i3) := Option.some.inj ei3
  have St_SECONDS_PER_DAY := Sta.start (own_eqJ g9) (Or.inr ⟨(hw _ (List.mem_of_getElem? (i := 8) rfl)), (hw _ (List.mem_of_getElem? (i := 27) rfl))⟩)
  have St_NANOS_PER_SECOND := Sta.start (own_eqJ g10) (Or.inr ⟨(hw _ (List.mem_of_getElem? (i := 8) rfl)), (hw _ (List.mem_of_getElem? (i := 33) rfl))⟩)
  obtain ⟨n, o, h1, h2, h3, _, L, rfl, ⟨rfl, N⟩, hq⟩ := rm0 l s _ hw tables_1 i0 i1 i2 i3 s.heap s.heap.size (Nat.le_refl _) (Old.start s) St_NANOS_PER_SECOND St_SECONDS_PER_DAY p e ha hc hk s m _ below hf ((Spec.applies_iff_loose hf).mp happ).1 ⟨rfl, State.Warmed39.refl s, rfl⟩ trivial
  refine ⟨n, _, h1, h2, h3, hpost _ _ _ _ _ _ ⟨Cond.after_iff.mpr rfl, Cond.after_iff.mpr (eq_i res_at (Term.int_eval (1)) rfl), trivial⟩ ⟨hq.1, hq.2.1, (hq.2.2.sift fun y hy => Or.inr (N y hy)).mono (by decide) (by decide)⟩⟩
theorem main_1_1 : Claimed_1_1 := comes_1 fun _ _ _ _ _ _ h hF => ⟨h.1, hF⟩
theorem main_1_2 : Claimed_1_2 := comes_1 fun _ _ _ _ _ _ h hF => ⟨h.2.1, hF⟩
end Jvm.Pilot.@@N@@
namespace Jvm.Pilot.@@N@@
open Jvm Jvm.ClassFile Sem Op Lib Jvm.Free Jvm.Stand Jvm.Pilot.@@N@@.Jvm.D
/-! MADE BY PROGRAM (witnessworld.py) out of the Statement's table words and the real class files: 10 classes; the members and pool entries that the words name. The judged class is class 1, her method 1. -/
namespace start1
open Jvm.ClassFile
def u (s : String) : CpInfo := .utf8 (stringToUtf16 s)
/-- a pool by its gaps: so many unusable entries, then the entry; so many at the end -/
def gap : Nat → List CpInfo → List CpInfo
  | 0, r => r
  | n + 1, r => .unusable :: gap n r
def poolList (es : List (Nat × CpInfo)) (last : Nat) : List CpInfo := es.foldr (fun e r => gap e.1 (e.2 :: r)) (gap last [])
def pool (es : List (Nat × CpInfo)) (last : Nat) : Array CpInfo := ⟨poolList es last⟩
def fileOf (pool : Array CpInfo) (this : Nat) (attrs : Array Attribute := #[]) (ms : Array MethodInfo := #[]) (fl : Nat := 33) (sup : Nat := 0) (ifs : Array Nat := #[]) (fds : Array FieldInfo := #[]) : ClassFile where
  minorVersion := 0
  majorVersion := 65
  constantPool := pool
  accessFlags := fl
  thisClass := this
  superClass := sup
  interfaces := ifs
  fields := fds
  methods := ms
  attributes := attrs
def plain (name : String) (sup : Option ClassId) : Class where
  name := name
  kind := .ordinary
  loader := none
  accessFlags := 33
  super := sup
  interfaces := #[]
  cf := none
  fields := #[]
  methods := #[]
  instanceTypes := #[]
  staticTypes := #[]
  resolved := #[]
  callSites := []
  init := .initialized
  statics := none
  mirror := none

def pool0 : Array CpInfo := pool [(5, u "<init>"), (0, u "()V"), (1, .class_ 10), (1, u "java/lang/Object")] 113

def k0c0 : Code := { maxStack := 0, maxLocals := 1, code := object_method_1_code, exceptionTable := #[], attributes := #[] }
def k0m0 : Method := { name := "<init>", desc := "()V", sig := { parameters := [], returnType := none }, accessFlags := 1, code := some k0c0 }
/-- java/lang/Object -/
def k0 : Class := { plain "java/lang/Object" none with
  accessFlags := 33
  interfaces := #[]
  cf := some (fileOf pool0 8 #[] #[{ accessFlags := 1, nameIndex := 5, descriptorIndex := 6, attributes := #[] }] 33 0 #[] #[])
  fields := #[]
  methods := #[k0m0]
  instanceTypes := #[]
  staticTypes := #[]
  resolved := Array.replicate 124 none
  statics := none }

def pool1 : Array CpInfo := pool [(2, .class_ 4), (1, u "java/lang/Object"), (0, u "<init>"), (0, u "()V"), (0, .integer 2147483647), (0, .methodref 9 10), (0, .class_ 11), (0, .nameAndType 12 13), (0, u "java/lang/Math"), (0, u "max"), (0, u "(II)I"), (2, .long 9223372036854775807), (1, .class_ 19), (0, u "com/example/hummingbird/hummingbird/engine/RoundRobin"), (0, .methodref 18 21), (0, .nameAndType 5 22), (0, u "(JII)V"), (0, .methodref 18 24), (0, .nameAndType 25 26), (0, u "fraction"), (0, u "(J)I"), (0, .long 86400000000000), (1, .class_ 30), (0, u "com/example/hummingbird/hummingbird/engine/RoundRobinFractionPinLaw"), (2, u "law"), (0, u "(JIIJ)Z")] 3

def k1m0 : Method := { name := "<init>", desc := "()V", sig := { parameters := [], returnType := none }, accessFlags := 1, code := none }
def k1c1 : Code := { maxStack := 6, maxLocals := 20, code := code, exceptionTable := #[], attributes := #[] }
def k1m1 : Method := { name := "law", desc := "(JIIJ)Z", sig := { parameters := [.long, .int, .int, .long], returnType := some .boolean }, accessFlags := 9, code := some k1c1 }
/-- com/example/hummingbird/hummingbird/engine/RoundRobinFractionPinLaw -/
def k1 : Class := { plain "com/example/hummingbird/hummingbird/engine/RoundRobinFractionPinLaw" (some 0) with
  accessFlags := 49
  interfaces := #[]
  cf := some (fileOf pool1 29 #[] #[{ accessFlags := 1, nameIndex := 5, descriptorIndex := 6, attributes := #[] }, { accessFlags := 9, nameIndex := 33, descriptorIndex := 34, attributes := #[] }] 49 2 #[] #[])
  fields := #[]
  methods := #[k1m0, k1m1]
  instanceTypes := #[]
  staticTypes := #[]
  resolved := Array.replicate 38 none
  statics := none }

def pool2 : Array CpInfo := pool [(1, .class_ 2), (0, u "java/lang/Math"), (1, .class_ 6), (1, u "java/lang/Object"), (0, u "<init>"), (0, u "()V"), (89, .class_ 100), (1, u "java/lang/Math$RandomNumberGeneratorHolder"), (71, u "negativeZeroFloatBits"), (0, u "J"), (2, u "negativeZeroDoubleBits"), (21, u "max"), (46, u "$assertionsDisabled"), (0, u "Z"), (88, u "(II)I"), (2, u "twoToTheDoubleScaleDown"), (0, u "D"), (4, u "twoToTheDoubleScaleUp"), (9, u "E"), (3, u "PI"), (2, u "TAU"), (2, u "DEGREES_TO_RADIANS"), (0, u "RADIANS_TO_DEGREES")] 94

def k2m0 : Method := { name := "<init>", desc := "()V", sig := { parameters := [], returnType := none }, accessFlags := 2, code := none }
def k2c1 : Code := { maxStack := 2, maxLocals := 2, code := jdk_29_method_65_code, exceptionTable := #[], attributes := #[] }
def k2m1 : Method := { name := "max", desc := "(II)I", sig := { parameters := [.int, .int], returnType := some .int }, accessFlags := 9, code := some k2c1 }
/-- java/lang/Math -/
def k2 : Class := { plain "java/lang/Math" (some 0) with
  accessFlags := 49
  interfaces := #[]
  cf := some (fileOf pool2 1 #[.nestMembers #[98]] #[{ accessFlags := 2, nameIndex := 7, descriptorIndex := 8, attributes := #[] }, { accessFlags := 9, nameIndex := 198, descriptorIndex := 335, attributes := #[] }] 49 4 #[] #[{ accessFlags := 25, nameIndex := 354, descriptorIndex := 339, attributes := #[] }, { accessFlags := 25, nameIndex := 358, descriptorIndex := 339, attributes := #[] }, { accessFlags := 25, nameIndex := 361, descriptorIndex := 339, attributes := #[] }, { accessFlags := 26, nameIndex := 364, descriptorIndex := 339, attributes := #[] }, { accessFlags := 26, nameIndex := 365, descriptorIndex := 339, attributes := #[] }, { accessFlags := 26, nameIndex := 172, descriptorIndex := 173, attributes := #[] }, { accessFlags := 26, nameIndex := 176, descriptorIndex := 173, attributes := #[] }, { accessFlags := 8, nameIndex := 344, descriptorIndex := 339, attributes := #[] }, { accessFlags := 8, nameIndex := 338, descriptorIndex := 339, attributes := #[] }, { accessFlags := 4120, nameIndex := 245, descriptorIndex := 246, attributes := #[] }])
  fields := #[{ name := "E", type := .double, accessFlags := 25, slot := 0, constantValue := 0 }, { name := "PI", type := .double, accessFlags := 25, slot := 1, constantValue := 0 }, { name := "TAU", type := .double, accessFlags := 25, slot := 2, constantValue := 0 }, { name := "DEGREES_TO_RADIANS", type := .double, accessFlags := 26, slot := 3, constantValue := 0 }, { name := "RADIANS_TO_DEGREES", type := .double, accessFlags := 26, slot := 4, constantValue := 0 }, { name := "negativeZeroFloatBits", type := .long, accessFlags := 26, slot := 5, constantValue := 0 }, { name := "negativeZeroDoubleBits", type := .long, accessFlags := 26, slot := 6, constantValue := 0 }, { name := "twoToTheDoubleScaleUp", type := .double, accessFlags := 8, slot := 7, constantValue := 0 }, { name := "twoToTheDoubleScaleDown", type := .double, accessFlags := 8, slot := 8, constantValue := 0 }, { name := "$assertionsDisabled", type := .boolean, accessFlags := 4120, slot := 9, constantValue := 0 }]
  methods := #[k2m0, k2m1]
  instanceTypes := #[]
  staticTypes := #[.double, .double, .double, .double, .double, .long, .long, .double, .double, .boolean]
  resolved := Array.replicate 460 none
  statics := none }

def pool3 : Array CpInfo := pool [(1, .methodref 2 3), (0, .class_ 4), (0, .nameAndType 5 6), (0, u "java/lang/Object"), (0, u "<init>"), (0, u "()V"), (9, .fieldref 17 18), (0, .class_ 19), (0, .nameAndType 20 21), (0, u "com/example/hummingbird/hummingbird/engine/RoundRobin"), (0, u "dayZero"), (0, u "J"), (0, .fieldref 17 23), (0, .nameAndType 24 25), (0, u "feeds"), (0, u "I"), (0, .fieldref 17 27), (0, .nameAndType 28 25), (0, u "fetchesPerDay"), (0, .fieldref 17 30), (0, .nameAndType 31 21), (0, u "SECONDS_PER_DAY"), (0, .methodref 17 33), (0, .nameAndType 34 35), (0, u "pastWholeSecond"), (0, u "(J)J"), (0, .fieldref 17 37), (0, .nameAndType 38 21), (0, u "NANOS_PER_SECOND"), (14, u "NANOS_PER_DAY"), (12, u "(J)I"), (2, u "fraction"), (19, u "(JII)V")] 28

def k3c0 : Code := { maxStack := 4, maxLocals := 5, code := prog_10_method_1_code, exceptionTable := #[], attributes := #[] }
def k3m0 : Method := { name := "<init>", desc := "(JII)V", sig := { parameters := [.long, .int, .int], returnType := none }, accessFlags := 1, code := some k3c0 }
def k3c1 : Code := { maxStack := 5, maxLocals := 3, code := prog_10_method_5_code, exceptionTable := #[], attributes := #[] }
def k3m1 : Method := { name := "fraction", desc := "(J)I", sig := { parameters := [.long], returnType := some .int }, accessFlags := 1, code := some k3c1 }
def k3c2 : Code := { maxStack := 4, maxLocals := 3, code := prog_10_method_7_code, exceptionTable := #[], attributes := #[] }
def k3m2 : Method := { name := "pastWholeSecond", desc := "(J)J", sig := { parameters := [.long], returnType := some .long }, accessFlags := 2, code := some k3c2 }
/-- com/example/hummingbird/hummingbird/engine/RoundRobin -/
def k3 : Class := { plain "com/example/hummingbird/hummingbird/engine/RoundRobin" (some 0) with
  accessFlags := 33
  interfaces := #[]
  cf := some (fileOf pool3 17 #[] #[{ accessFlags := 1, nameIndex := 5, descriptorIndex := 89, attributes := #[] }, { accessFlags := 1, nameIndex := 69, descriptorIndex := 66, attributes := #[] }, { accessFlags := 2, nameIndex := 34, descriptorIndex := 35, attributes := #[] }] 33 2 #[] #[{ accessFlags := 26, nameIndex := 38, descriptorIndex := 21, attributes := #[] }, { accessFlags := 26, nameIndex := 31, descriptorIndex := 21, attributes := #[] }, { accessFlags := 26, nameIndex := 53, descriptorIndex := 21, attributes := #[] }, { accessFlags := 18, nameIndex := 20, descriptorIndex := 21, attributes := #[] }, { accessFlags := 18, nameIndex := 24, descriptorIndex := 25, attributes := #[] }, { accessFlags := 18, nameIndex := 28, descriptorIndex := 25, attributes := #[] }])
  fields := #[{ name := "NANOS_PER_SECOND", type := .long, accessFlags := 26, slot := 0, constantValue := 0 }, { name := "SECONDS_PER_DAY", type := .long, accessFlags := 26, slot := 1, constantValue := 0 }, { name := "NANOS_PER_DAY", type := .long, accessFlags := 26, slot := 2, constantValue := 0 }, { name := "dayZero", type := .long, accessFlags := 18, slot := 0, constantValue := 0 }, { name := "feeds", type := .int, accessFlags := 18, slot := 1, constantValue := 0 }, { name := "fetchesPerDay", type := .int, accessFlags := 18, slot := 2, constantValue := 0 }]
  methods := #[k3m0, k3m1, k3m2]
  instanceTypes := #[.long, .int, .int]
  staticTypes := #[.long, .long, .long]
  resolved := Array.replicate 118 none
  statics := some 0 }

def pool4 : Array CpInfo := pool [(1, u "java/lang/Cloneable"), (0, .class_ 1), (0, u "java/lang/Object"), (0, .class_ 3)] 3

/-- java/lang/Cloneable -/
def k4 : Class := { plain "java/lang/Cloneable" (some 0) with
  accessFlags := 1537
  interfaces := #[]
  cf := some (fileOf pool4 2 #[] #[] 1537 4 #[] #[])
  fields := #[]
  methods := #[]
  instanceTypes := #[]
  staticTypes := #[]
  resolved := Array.replicate 8 none
  statics := none }

def pool5 : Array CpInfo := pool [(1, u "java/io/Serializable"), (0, .class_ 1), (0, u "java/lang/Object"), (0, .class_ 3)] 3

/-- java/io/Serializable -/
def k5 : Class := { plain "java/io/Serializable" (some 0) with
  accessFlags := 1537
  interfaces := #[]
  cf := some (fileOf pool5 2 #[] #[] 1537 4 #[] #[])
  fields := #[]
  methods := #[]
  instanceTypes := #[]
  staticTypes := #[]
  resolved := Array.replicate 8 none
  statics := none }

/-- the primitive byte -/
def k6 : Class := { plain "byte" none with kind := .primitive 'B', accessFlags := 0x411 }
/-- [B -/
def k7 : Class := { plain "[B" (some 0) with kind := .array 6 .byte, interfaces := #[4, 5], accessFlags := 1041 }

/-- the primitive int -/
def k8 : Class := { plain "int" none with kind := .primitive 'I', accessFlags := 0x411 }
/-- [I -/
def k9 : Class := { plain "[I" (some 0) with kind := .array 8 .int, interfaces := #[4, 5], accessFlags := 1041 }

def heap : Heap := #[{ cls := 3, slots := #[.long 1000000000, .long 86400, .long 0], vm := .statics 3 }]
def classes : Array Class := #[k0, k1, k2, k3, k4, k5, k6, k7, k8, k9]
def interned : List (Array UInt16 × Addr) := []
def slotsUsed : Nat := 3
def theMethod : MethodId := ⟨1, 1⟩
def args0 : Array Value := #[.long 5, .int 3, .int 7, .long 12]
def aboutOver (below : List Frame) : State where
  vm := { classes := classes, interned := interned.toArray }
  heap := heap
  slotsUsed := slotsUsed
  threads := #[{ frames := .invoking theMethod args0 :: below }]
def below0 : List Frame := [.native { method := ⟨0, 0⟩, args := #[] }]
def about1 : State := aboutOver below0
def p0 : Program := .bare "" "" ""
def e0 : Env := launch0.env 0 0 0
theorem w_frames : about1.frames = Frame.invoking theMethod args0 :: below0 := rfl
set_option maxRecDepth 65536 in
theorem w_args : argsFit about1.vm theMethod args0 = true := by decide +kernel
set_option maxRecDepth 65536 in
theorem w_heap : heapFits about1 = true := by decide +kernel
set_option maxRecDepth 65536 in
theorem w_runnable : about1.curStatus? = some .runnable := by decide +kernel
set_option maxRecDepth 65536 in
theorem w_alone : about1.alone = true := by decide +kernel
set_option maxRecDepth 65536 in
theorem w_named : about1.methodNamed? x = some theMethod := by decide +kernel
set_option maxRecDepth 65536 in
theorem w_hears : about1.hears theMethod below0 = true := by decide +kernel
set_option maxRecDepth 65536 in
theorem w_ripe : about1.ripe theMethod args0 below0 = true := by decide +kernel
theorem w_running : about1.status = .running := rfl
set_option maxRecDepth 65536 in
theorem w_room : about1.hasRoom e0.platform room_1 = true :=
  launch0.hasRoom_least _ room_1 (by decide +kernel) (by decide +kernel) (by decide +kernel) (by decide +kernel) (by decide +kernel) (by decide +kernel)
theorem allAtoms_all (ts : List Jvm.Cond) (a : Array Jvm.Value) (st : Jvm.State) : (allAtoms ts).before a st = ts.all (fun c => c.before a st) := by
  induction ts with
  | nil => rfl
  | cons c t ih =>
    show (Jvm.Cond.and c (allAtoms t)).before a st = _
    rw [Jvm.Cond.before_and, ih, List.all_cons]
def words1 : List Jvm.Cond := Jvm.Cond.code x code maxLocals ret :: tables_1
/-- a 'code' word, met by the world's own term for the bytes: nothing is compared byte by byte -/
theorem code_word {y : MethodName} {bytes : ByteArray} {mx : Nat} {rt : Option FieldType} {a : Array Value} {s : State} {m : MethodId} {meth : Method} {c : Code} (h1 : s.methodNamed? y = some m) (h2 : s.vm.method? m = some meth) (h3 : meth.code = some c) (h4 : c.code = bytes)
    (h5 : (c.maxLocals == mx && c.exceptionTable.isEmpty && decide (c.maxStack ≤ mostOperands) && decide (meth.sig.returnType = rt) && !meth.locks && decide (parseMethodDescriptor y.desc = some meth.sig)) = true) : (Jvm.Cond.code y bytes mx rt).before a s = true := by
  simp only [Bool.and_eq_true, beq_iff_eq, Bool.not_eq_true', decide_eq_true_eq] at h5
  obtain ⟨⟨⟨⟨⟨g1, g2⟩, g3⟩, g4⟩, g5⟩, g6⟩ := h5
  simp [Cond.before, Cond.holds, Cond.value, h1, h2, h3, h4, g1, g2, g3, g4, g5, g6]
def isCode : Jvm.Cond → Bool
  | .code _ _ _ _ => true
  | _ => false
theorem all_split {L : List Jvm.Cond} {P : Jvm.Cond → Bool} (h1 : L.all (fun c => isCode c || P c) = true) (h2 : ∀ c ∈ L.filter isCode, P c = true) : L.all P = true := by
  refine List.all_eq_true.mpr fun c hc => ?_
  have h := List.all_eq_true.mp h1 c hc
  rcases Bool.eq_false_or_eq_true (isCode c) with hi | hi
  · exact h2 c (List.mem_filter.mpr ⟨hc, hi⟩)
  · simpa [hi] using h
set_option maxRecDepth 65536 in
theorem w_c0 : (Jvm.Cond.code x code maxLocals ret).before args0 about1 = true := code_word (m := ⟨1, 1⟩) (meth := k1m1) (c := k1c1) (by decide +kernel) rfl rfl rfl (by decide +kernel)
set_option maxRecDepth 65536 in
theorem w_c1 : (Jvm.Cond.code ({ cls := "java/lang/Math", name := "max", desc := "(II)I" } : Jvm.MethodName) jdk_29_method_65_code (2 : Nat) (Option.some Jvm.ClassFile.FieldType.int)).before args0 about1 = true := code_word (m := ⟨2, 1⟩) (meth := k2m1) (c := k2c1) (by decide +kernel) rfl rfl rfl (by decide +kernel)
set_option maxRecDepth 65536 in
theorem w_c2 : (Jvm.Cond.code ({ cls := "com/example/hummingbird/hummingbird/engine/RoundRobin", name := "<init>", desc := "(JII)V" } : Jvm.MethodName) prog_10_method_1_code (5 : Nat) (Option.none : Option Jvm.ClassFile.FieldType)).before args0 about1 = true := code_word (m := ⟨3, 0⟩) (meth := k3m0) (c := k3c0) (by decide +kernel) rfl rfl rfl (by decide +kernel)
set_option maxRecDepth 65536 in
theorem w_c3 : (Jvm.Cond.code ({ cls := "java/lang/Object", name := "<init>", desc := "()V" } : Jvm.MethodName) object_method_1_code (1 : Nat) (Option.none : Option Jvm.ClassFile.FieldType)).before args0 about1 = true := code_word (m := ⟨0, 0⟩) (meth := k0m0) (c := k0c0) (by decide +kernel) rfl rfl rfl (by decide +kernel)
set_option maxRecDepth 65536 in
theorem w_c4 : (Jvm.Cond.code ({ cls := "com/example/hummingbird/hummingbird/engine/RoundRobin", name := "fraction", desc := "(J)I" } : Jvm.MethodName) prog_10_method_5_code (3 : Nat) (Option.some Jvm.ClassFile.FieldType.int)).before args0 about1 = true := code_word (m := ⟨3, 1⟩) (meth := k3m1) (c := k3c1) (by decide +kernel) rfl rfl rfl (by decide +kernel)
set_option maxRecDepth 65536 in
theorem w_c5 : (Jvm.Cond.code ({ cls := "com/example/hummingbird/hummingbird/engine/RoundRobin", name := "pastWholeSecond", desc := "(J)J" } : Jvm.MethodName) prog_10_method_7_code (3 : Nat) (Option.some Jvm.ClassFile.FieldType.long)).before args0 about1 = true := code_word (m := ⟨3, 2⟩) (meth := k3m2) (c := k3c2) (by decide +kernel) rfl rfl rfl (by decide +kernel)
def codes1 : List Jvm.Cond := [Jvm.Cond.code x code maxLocals ret, Jvm.Cond.code ({ cls := "java/lang/Math", name := "max", desc := "(II)I" } : Jvm.MethodName) jdk_29_method_65_code (2 : Nat) (Option.some Jvm.ClassFile.FieldType.int), Jvm.Cond.code ({ cls := "com/example/hummingbird/hummingbird/engine/RoundRobin", name := "<init>", desc := "(JII)V" } : Jvm.MethodName) prog_10_method_1_code (5 : Nat) (Option.none : Option Jvm.ClassFile.FieldType), Jvm.Cond.code ({ cls := "java/lang/Object", name := "<init>", desc := "()V" } : Jvm.MethodName) object_method_1_code (1 : Nat) (Option.none : Option Jvm.ClassFile.FieldType), Jvm.Cond.code ({ cls := "com/example/hummingbird/hummingbird/engine/RoundRobin", name := "fraction", desc := "(J)I" } : Jvm.MethodName) prog_10_method_5_code (3 : Nat) (Option.some Jvm.ClassFile.FieldType.int), Jvm.Cond.code ({ cls := "com/example/hummingbird/hummingbird/engine/RoundRobin", name := "pastWholeSecond", desc := "(J)J" } : Jvm.MethodName) prog_10_method_7_code (3 : Nat) (Option.some Jvm.ClassFile.FieldType.long)]
set_option maxRecDepth 65536 in
theorem codes_eq : words1.filter isCode = codes1 := rfl
theorem w_codes : ∀ c ∈ words1.filter isCode, c.before args0 about1 = true := by
  rw [codes_eq]
  intro c hc
  simp only [codes1, List.mem_cons, List.not_mem_nil, or_false] at hc
  rcases hc with rfl | rfl | rfl | rfl | rfl | rfl
  · exact w_c0
  · exact w_c1
  · exact w_c2
  · exact w_c3
  · exact w_c4
  · exact w_c5
set_option maxRecDepth 65536 in
theorem w_t1 : (words1.take 24).all (fun c => isCode c || c.before args0 about1) = true := by decide +kernel
set_option maxRecDepth 65536 in
theorem w_t2 : (words1.drop 24).all (fun c => isCode c || c.before args0 about1) = true := by decide +kernel
theorem w_tables : (allAtoms (Jvm.Cond.code x code maxLocals ret :: tables_1)).before args0 about1 = true := by
  rw [allAtoms_all]
  show words1.all (fun c => c.before args0 about1) = true
  refine all_split ?_ w_codes
  rw [← List.take_append_drop 24 words1, List.all_append, w_t1, w_t2]
  rfl
set_option maxRecDepth 65536 in
theorem w_case : (Jvm.Cond.and given_1 narrow_1).before args0 about1 = true := by decide +kernel
theorem w_applies : (headSpec (Jvm.Cond.code x code maxLocals ret :: tables_1) room_1).applies x e0.platform about1 = true :=
  (Spec.applies_iff w_frames).mpr ⟨w_running, w_runnable, w_alone, w_named, w_hears, w_ripe, w_room, w_tables⟩
theorem atStart : AtStart classFile x code maxLocals ret World_1 tables_1 room_1 Calls_1 rest_1 Pre_1 launch0 p0 e0 about1 theMethod args0 below0 :=
  ⟨lists_1, trivial, launch0.admits_env _ _ _, launch0.least_env, fairChoices_fair.cas, fairChoices_fair.clock, w_frames, w_args, w_heap, w_applies, trivial, trivial, w_case⟩
end start1
theorem witness_1 : WitnessClaimed_1 := ⟨start1.p0, start1.e0, start1.about1, start1.theMethod, start1.args0, start1.below0, start1.atStart⟩
end Jvm.Pilot.@@N@@
