import JvmDerived
import JvmDerived.Pilot.@@N@@Statement
import JvmDerived.Pilot.@@N@@Code
set_option linter.unusedVariables false
set_option linter.unusedSimpArgs false
@@BLOCK:NumsL.lean.txt@@
namespace Jvm.Pilot.@@N@@
open Jvm Jvm.ClassFile Sem Op Lib Jvm.Free Jvm.Stand Jvm.LawKit Jvm.RoadKit Bundle Jvm.Pilot.@@N@@.Jvm.D

def own_e2 (v0 v1 : Int64) : Int32 := if v1 < v0 then 1 else 0
def own_e3 (v0 v1 v2 : Int64) : Int32 := if v1 < v0 then (if v2 < v1 then 2 else 1) else (if v2 < v0 then 2 else 0)
def own_e4 (v0 v1 v2 v3 : Int64) : Int32 := if v1 < v0 then (if v2 < v1 then (if v3 < v2 then 3 else 2) else (if v3 < v1 then 3 else 1)) else (if v2 < v0 then (if v3 < v2 then 3 else 2) else (if v3 < v0 then 3 else 0))
def own_e (n : Int32) (v0 v1 v2 v3 : Int64) : Int32 := if n = 1 then 0 else if n = 2 then own_e2 v0 v1 else if n = 3 then own_e3 v0 v1 v2 else own_e4 v0 v1 v2 v3
theorem ef_rmE1 (m : MethodId) (x0 : Int32) (x1 : Int64) (x2 : Int64) (x3 : Int64) (x4 : Int64) : entryFrame m #[(.int x0), (.long x1), (.long x2), (.long x3), (.long x4)] 12 = mkF m 0 #[.val (.int x0), .val (.long x1), .second, .val (.long x2), .second, .val (.long x3), .second, .val (.long x4), .second, .unset, .unset, .unset] [] := by first | (simp [entryFrame, mkF, argsToLocals, Value.category]; done) | rfl
theorem pn_1 : plainName "com/example/hummingbird/hummingbird/engine/RhythmLeastWaitingPointPinLaw" = true := by first | (simp [plainName, overriddenIn]; done) | decide +kernel
theorem d1_0 : decode method_3_code 0 = .ok (.iconst 0, 1) := by decide +kernel
theorem d1_1 : decode method_3_code 1 = .ok (.istore 9, 2) := by decide +kernel
theorem d1_3 : decode method_3_code 3 = .ok (.lload_n 1, 1) := by decide +kernel
theorem d1_4 : decode method_3_code 4 = .ok (.lstore 10, 2) := by decide +kernel
theorem d1_6 : decode method_3_code 6 = .ok (.iload_n 0, 1) := by decide +kernel
theorem d1_7 : decode method_3_code 7 = .ok (.iconst 1, 1) := by decide +kernel
theorem d1_8 : decode method_3_code 8 = .ok (.if_icmp .le 16, 3) := by decide +kernel
theorem d1_24 : decode method_3_code 24 = .ok (.iload_n 0, 1) := by decide +kernel
theorem d1_25 : decode method_3_code 25 = .ok (.iconst 2, 1) := by decide +kernel
theorem d1_26 : decode method_3_code 26 = .ok (.if_icmp .le 18, 3) := by decide +kernel
theorem d1_44 : decode method_3_code 44 = .ok (.iload_n 0, 1) := by decide +kernel
theorem d1_45 : decode method_3_code 45 = .ok (.iconst 3, 1) := by decide +kernel
theorem d1_46 : decode method_3_code 46 = .ok (.if_icmp .le 14, 3) := by decide +kernel
theorem d1_60 : decode method_3_code 60 = .ok (.iload 9, 2) := by decide +kernel
theorem d1_62 : decode method_3_code 62 = .ok (.ireturn, 1) := by decide +kernel
def Q_rmE1 (Z : State) (v0 : Int64) (v1 : Int64) (v2 : Int64) (v3 : Int64) (h0 : Heap) (n0 : Nat) (v : Option Value) (h : Heap) (L : List Loc) : Prop := v = some (.int (own_e (1 : Int32) v0 v1 v2 v3)) ∧ Fr n0 L ∧ h = h0
set_option maxRecDepth 65536 in
set_option maxHeartbeats 40000000 in
theorem rmE1 (l : Launch) (Z : State) (a0 : Array Value) (hw : ∀ d ∈ tables_1, d.before a0 Z = true) (ws : List Jvm.Cond) (v0 : Int64) (v1 : Int64) (v2 : Int64) (v3 : Int64) (h0 : Heap) (n0 : Nat) (Z0 : n0 ≤ h0.size) :
    MetFree l (⟨"com/example/hummingbird/hummingbird/engine/RhythmLeastWaitingPointPinLaw", "earliestLeast", "(IJJJJ)I"⟩ : MethodName) (head1 (Jvm.Cond.code (⟨"com/example/hummingbird/hummingbird/engine/RhythmLeastWaitingPointPinLaw", "earliestLeast", "(IJJJJ)I"⟩ : MethodName) method_3_code 12 (some .int) :: ws) ({ frames := 0, cells := 0, slots := 0, locals := 0 } : Room)) (fun a U => a = #[(.int (1 : Int32)), (.long v0), (.long v1), (.long v2), (.long v3)] ∧ Z.Warmed39 U.vm ∧ U.heap = h0) (fun _ _ _ _ _ => True) (fun _ U o U' => ∃ v L, o = .returned v ∧ Q_rmE1 Z v0 v1 v2 v3 h0 n0 v U'.heap L ∧ FrameEnd U o U' L ({ frames := 0, cells := 0, slots := 0, locals := 0 } : Room).cells ({ frames := 0, cells := 0, slots := 0, locals := 0 } : Room).slots) := by
  refine MetFree.of_bodySF (plainFor_of_name pn_1) hisR ?_
  intro p e s m args below meth c s₁ Bd hml0 hP hK
  obtain ⟨rfl, hZ, hh⟩ := hP
  have hx := Bd.exec
  have hby := Bd.bytes
  have hml : c.maxLocals = 12 := hml0
  have hown : s.vm.findClass "com/example/hummingbird/hummingbird/engine/RhythmLeastWaitingPointPinLaw" = some m.cls := findClass_of_methodNamed Bd.named
  have hnm := (name_of_methodNamed Bd.named Bd.method).1
  have X0 : Stand p l e ({ frames := 0, cells := 0, slots := 0, locals := 0 } : Room) s m #[(.int (1 : Int32)), (.long v0), (.long v1), (.long v2), (.long v3)] below meth c s₁ [] 0 0 := Stand.of_body Bd
  have e0 : s₁.heap = h0 := by rw [← hh, Bd.state]; rfl
  have N0 := Fr.nil n0
  have pre0 : ∀ t, Steps p.tables e below (s₁.setTop (mkF m 0 #[.val (.int (1 : Int32)), .val (.long v0), .second, .val (.long v1), .second, .val (.long v2), .second, .val (.long v3), .second, .unset, .unset, .unset] [])) t → Steps p.tables e below (s₁.setTop (entryFrame m #[(.int (1 : Int32)), (.long v0), (.long v1), (.long v2), (.long v3)] 12)) t := fun t k => castTop (ef_rmE1 m (1 : Int32) v0 v1 v2 v3) k
  have pre1 : ∀ t, Steps p.tables e below (s₁.setTop (mkF m 62 #[.val (.int (1 : Int32)), .val (.long v0), .second, .val (.long v1), .second, .val (.long v2), .second, .val (.long v3), .second, .val (.int (0 : Int32)), .val (.long v0), .second] [(.int (0 : Int32))])) t → Steps p.tables e below (s₁.setTop (entryFrame m #[(.int (1 : Int32)), (.long v0), (.long v1), (.long v2), (.long v3)] 12)) t := by
    intro t k
    refine pre0 t ?_
    show Steps p.tables e below (s₁.setTop (mkF m 0 #[.val (.int (1 : Int32)), .val (.long v0), .second, .val (.long v1), .second, .val (.long v2), .second, .val (.long v3), .second, .unset, .unset, .unset] [])) _
    refine XS.iconst X0.here hx rfl (hb hby d1_0) ?_
    show Steps p.tables e below (s₁.setTop (mkF m 1 #[.val (.int (1 : Int32)), .val (.long v0), .second, .val (.long v1), .second, .val (.long v2), .second, .val (.long v3), .second, .unset, .unset, .unset] [(.int (0 : Int32))])) _
    refine XS.istore X0.here hx rfl (hb hby d1_1) rfl (l' := #[.val (.int (1 : Int32)), .val (.long v0), .second, .val (.long v1), .second, .val (.long v2), .second, .val (.long v3), .second, .val (.int (0 : Int32)), .unset, .unset]) rfl ?_
    show Steps p.tables e below (s₁.setTop (mkF m 3 #[.val (.int (1 : Int32)), .val (.long v0), .second, .val (.long v1), .second, .val (.long v2), .second, .val (.long v3), .second, .val (.int (0 : Int32)), .unset, .unset] [])) _
    refine XS.lloadN X0.here hx rfl (hb hby d1_3) rfl ?_
    show Steps p.tables e below (s₁.setTop (mkF m 4 #[.val (.int (1 : Int32)), .val (.long v0), .second, .val (.long v1), .second, .val (.long v2), .second, .val (.long v3), .second, .val (.int (0 : Int32)), .unset, .unset] [(.long v0)])) _
    refine XS.lstore X0.here hx rfl (hb hby d1_4) rfl (l' := #[.val (.int (1 : Int32)), .val (.long v0), .second, .val (.long v1), .second, .val (.long v2), .second, .val (.long v3), .second, .val (.int (0 : Int32)), .val (.long v0), .second]) rfl ?_
    show Steps p.tables e below (s₁.setTop (mkF m 6 #[.val (.int (1 : Int32)), .val (.long v0), .second, .val (.long v1), .second, .val (.long v2), .second, .val (.long v3), .second, .val (.int (0 : Int32)), .val (.long v0), .second] [])) _
    refine XS.iloadN X0.here hx rfl (hb hby d1_6) rfl ?_
    show Steps p.tables e below (s₁.setTop (mkF m 7 #[.val (.int (1 : Int32)), .val (.long v0), .second, .val (.long v1), .second, .val (.long v2), .second, .val (.long v3), .second, .val (.int (0 : Int32)), .val (.long v0), .second] [(.int (1 : Int32))])) _
    refine XS.iconst X0.here hx rfl (hb hby d1_7) ?_
    show Steps p.tables e below (s₁.setTop (mkF m 8 #[.val (.int (1 : Int32)), .val (.long v0), .second, .val (.long v1), .second, .val (.long v2), .second, .val (.long v3), .second, .val (.int (0 : Int32)), .val (.long v0), .second] [(.int (1 : Int32)), (.int (1 : Int32))])) _
    refine XS.icmpYes X0.here hx rfl (pc0 := 8) (pc' := 24) rfl (hb hby d1_8) rfl (flt (by decide : ¬ ((1 : Int32) < (1 : Int32)))).2.2.2 (by decide) (by decide) ?_
    show Steps p.tables e below (s₁.setTop (mkF m 24 #[.val (.int (1 : Int32)), .val (.long v0), .second, .val (.long v1), .second, .val (.long v2), .second, .val (.long v3), .second, .val (.int (0 : Int32)), .val (.long v0), .second] [])) _
    refine XS.iloadN X0.here hx rfl (hb hby d1_24) rfl ?_
    show Steps p.tables e below (s₁.setTop (mkF m 25 #[.val (.int (1 : Int32)), .val (.long v0), .second, .val (.long v1), .second, .val (.long v2), .second, .val (.long v3), .second, .val (.int (0 : Int32)), .val (.long v0), .second] [(.int (1 : Int32))])) _
    refine XS.iconst X0.here hx rfl (hb hby d1_25) ?_
    show Steps p.tables e below (s₁.setTop (mkF m 26 #[.val (.int (1 : Int32)), .val (.long v0), .second, .val (.long v1), .second, .val (.long v2), .second, .val (.long v3), .second, .val (.int (0 : Int32)), .val (.long v0), .second] [(.int (2 : Int32)), (.int (1 : Int32))])) _
    refine XS.icmpYes X0.here hx rfl (pc0 := 26) (pc' := 44) rfl (hb hby d1_26) rfl (flt (by decide : ¬ ((2 : Int32) < (1 : Int32)))).2.2.2 (by decide) (by decide) ?_
    show Steps p.tables e below (s₁.setTop (mkF m 44 #[.val (.int (1 : Int32)), .val (.long v0), .second, .val (.long v1), .second, .val (.long v2), .second, .val (.long v3), .second, .val (.int (0 : Int32)), .val (.long v0), .second] [])) _
    refine XS.iloadN X0.here hx rfl (hb hby d1_44) rfl ?_
    show Steps p.tables e below (s₁.setTop (mkF m 45 #[.val (.int (1 : Int32)), .val (.long v0), .second, .val (.long v1), .second, .val (.long v2), .second, .val (.long v3), .second, .val (.int (0 : Int32)), .val (.long v0), .second] [(.int (1 : Int32))])) _
    refine XS.iconst X0.here hx rfl (hb hby d1_45) ?_
    show Steps p.tables e below (s₁.setTop (mkF m 46 #[.val (.int (1 : Int32)), .val (.long v0), .second, .val (.long v1), .second, .val (.long v2), .second, .val (.long v3), .second, .val (.int (0 : Int32)), .val (.long v0), .second] [(.int (3 : Int32)), (.int (1 : Int32))])) _
    refine XS.icmpYes X0.here hx rfl (pc0 := 46) (pc' := 60) rfl (hb hby d1_46) rfl (flt (by decide : ¬ ((3 : Int32) < (1 : Int32)))).2.2.2 (by decide) (by decide) ?_
    show Steps p.tables e below (s₁.setTop (mkF m 60 #[.val (.int (1 : Int32)), .val (.long v0), .second, .val (.long v1), .second, .val (.long v2), .second, .val (.long v3), .second, .val (.int (0 : Int32)), .val (.long v0), .second] [])) _
    refine XS.iload X0.here hx rfl (hb hby d1_60) rfl ?_
    show Steps p.tables e below (s₁.setTop (mkF m 62 #[.val (.int (1 : Int32)), .val (.long v0), .second, .val (.long v1), .second, .val (.long v2), .second, .val (.long v3), .second, .val (.int (0 : Int32)), .val (.long v0), .second] [(.int (0 : Int32))])) _
    exact k
  obtain ⟨fs, hr, hrun, hended, hW, hsame⟩ := X0.leave (v := some (.int (0 : Int32))) (fun h => by rw [Bd.returns] at h; cases h)
  refine ⟨_, _, pre1 _ ?_, hrun, hended, _, _, rfl, ?_, ⟨_, rfl⟩, hW, hsame.mono (by decide) (by decide)⟩
  · exact retOut X0 hx Bd.returns rfl (Or.inl ⟨rfl, Or.inl rfl, _, rfl⟩) (hb hby d1_62) hr
  · show Q_rmE1 Z v0 v1 v2 v3 h0 n0 _ s₁.heap _
    rw [e0]
    exact ⟨rfl, N0, rfl⟩
theorem ef_rmE2 (m : MethodId) (x0 : Int32) (x1 : Int64) (x2 : Int64) (x3 : Int64) (x4 : Int64) : entryFrame m #[(.int x0), (.long x1), (.long x2), (.long x3), (.long x4)] 12 = mkF m 0 #[.val (.int x0), .val (.long x1), .second, .val (.long x2), .second, .val (.long x3), .second, .val (.long x4), .second, .unset, .unset, .unset] [] := by first | (simp [entryFrame, mkF, argsToLocals, Value.category]; done) | rfl
theorem d1_11 : decode method_3_code 11 = .ok (.lload_n 3, 1) := by decide +kernel
theorem d1_12 : decode method_3_code 12 = .ok (.lload 10, 2) := by decide +kernel
theorem d1_14 : decode method_3_code 14 = .ok (.lcmp, 1) := by decide +kernel
theorem d1_15 : decode method_3_code 15 = .ok (.ifCond .ge 9, 3) := by decide +kernel
theorem d1_18 : decode method_3_code 18 = .ok (.iconst 1, 1) := by decide +kernel
theorem d1_19 : decode method_3_code 19 = .ok (.istore 9, 2) := by decide +kernel
theorem d1_21 : decode method_3_code 21 = .ok (.lload_n 3, 1) := by decide +kernel
theorem d1_22 : decode method_3_code 22 = .ok (.lstore 10, 2) := by decide +kernel
def Q_rmE2 (Z : State) (v0 : Int64) (v1 : Int64) (v2 : Int64) (v3 : Int64) (h0 : Heap) (n0 : Nat) (v : Option Value) (h : Heap) (L : List Loc) : Prop := v = some (.int (own_e (2 : Int32) v0 v1 v2 v3)) ∧ Fr n0 L ∧ h = h0
set_option maxRecDepth 65536 in
set_option maxHeartbeats 40000000 in
theorem rmE2 (l : Launch) (Z : State) (a0 : Array Value) (hw : ∀ d ∈ tables_1, d.before a0 Z = true) (ws : List Jvm.Cond) (v0 : Int64) (v1 : Int64) (v2 : Int64) (v3 : Int64) (h0 : Heap) (n0 : Nat) (Z0 : n0 ≤ h0.size) :
    MetFree l (⟨"com/example/hummingbird/hummingbird/engine/RhythmLeastWaitingPointPinLaw", "earliestLeast", "(IJJJJ)I"⟩ : MethodName) (head1 (Jvm.Cond.code (⟨"com/example/hummingbird/hummingbird/engine/RhythmLeastWaitingPointPinLaw", "earliestLeast", "(IJJJJ)I"⟩ : MethodName) method_3_code 12 (some .int) :: ws) ({ frames := 0, cells := 0, slots := 0, locals := 0 } : Room)) (fun a U => a = #[(.int (2 : Int32)), (.long v0), (.long v1), (.long v2), (.long v3)] ∧ Z.Warmed39 U.vm ∧ U.heap = h0) (fun _ _ _ _ _ => True) (fun _ U o U' => ∃ v L, o = .returned v ∧ Q_rmE2 Z v0 v1 v2 v3 h0 n0 v U'.heap L ∧ FrameEnd U o U' L ({ frames := 0, cells := 0, slots := 0, locals := 0 } : Room).cells ({ frames := 0, cells := 0, slots := 0, locals := 0 } : Room).slots) := by
  refine MetFree.of_bodySF (plainFor_of_name pn_1) hisR ?_
  intro p e s m args below meth c s₁ Bd hml0 hP hK
  obtain ⟨rfl, hZ, hh⟩ := hP
  have hx := Bd.exec
  have hby := Bd.bytes
  have hml : c.maxLocals = 12 := hml0
  have hown : s.vm.findClass "com/example/hummingbird/hummingbird/engine/RhythmLeastWaitingPointPinLaw" = some m.cls := findClass_of_methodNamed Bd.named
  have hnm := (name_of_methodNamed Bd.named Bd.method).1
  have X0 : Stand p l e ({ frames := 0, cells := 0, slots := 0, locals := 0 } : Room) s m #[(.int (2 : Int32)), (.long v0), (.long v1), (.long v2), (.long v3)] below meth c s₁ [] 0 0 := Stand.of_body Bd
  have e0 : s₁.heap = h0 := by rw [← hh, Bd.state]; rfl
  have N0 := Fr.nil n0
  have pre0 : ∀ t, Steps p.tables e below (s₁.setTop (mkF m 0 #[.val (.int (2 : Int32)), .val (.long v0), .second, .val (.long v1), .second, .val (.long v2), .second, .val (.long v3), .second, .unset, .unset, .unset] [])) t → Steps p.tables e below (s₁.setTop (entryFrame m #[(.int (2 : Int32)), (.long v0), (.long v1), (.long v2), (.long v3)] 12)) t := fun t k => castTop (ef_rmE2 m (2 : Int32) v0 v1 v2 v3) k
  have pre1 : ∀ t, Steps p.tables e below (s₁.setTop (mkF m 15 #[.val (.int (2 : Int32)), .val (.long v0), .second, .val (.long v1), .second, .val (.long v2), .second, .val (.long v3), .second, .val (.int (0 : Int32)), .val (.long v0), .second] [(.int (lcmpW v1 v0))])) t → Steps p.tables e below (s₁.setTop (entryFrame m #[(.int (2 : Int32)), (.long v0), (.long v1), (.long v2), (.long v3)] 12)) t := by
    intro t k
    refine pre0 t ?_
    show Steps p.tables e below (s₁.setTop (mkF m 0 #[.val (.int (2 : Int32)), .val (.long v0), .second, .val (.long v1), .second, .val (.long v2), .second, .val (.long v3), .second, .unset, .unset, .unset] [])) _
    refine XS.iconst X0.here hx rfl (hb hby d1_0) ?_
    show Steps p.tables e below (s₁.setTop (mkF m 1 #[.val (.int (2 : Int32)), .val (.long v0), .second, .val (.long v1), .second, .val (.long v2), .second, .val (.long v3), .second, .unset, .unset, .unset] [(.int (0 : Int32))])) _
    refine XS.istore X0.here hx rfl (hb hby d1_1) rfl (l' := #[.val (.int (2 : Int32)), .val (.long v0), .second, .val (.long v1), .second, .val (.long v2), .second, .val (.long v3), .second, .val (.int (0 : Int32)), .unset, .unset]) rfl ?_
    show Steps p.tables e below (s₁.setTop (mkF m 3 #[.val (.int (2 : Int32)), .val (.long v0), .second, .val (.long v1), .second, .val (.long v2), .second, .val (.long v3), .second, .val (.int (0 : Int32)), .unset, .unset] [])) _
    refine XS.lloadN X0.here hx rfl (hb hby d1_3) rfl ?_
    show Steps p.tables e below (s₁.setTop (mkF m 4 #[.val (.int (2 : Int32)), .val (.long v0), .second, .val (.long v1), .second, .val (.long v2), .second, .val (.long v3), .second, .val (.int (0 : Int32)), .unset, .unset] [(.long v0)])) _
    refine XS.lstore X0.here hx rfl (hb hby d1_4) rfl (l' := #[.val (.int (2 : Int32)), .val (.long v0), .second, .val (.long v1), .second, .val (.long v2), .second, .val (.long v3), .second, .val (.int (0 : Int32)), .val (.long v0), .second]) rfl ?_
    show Steps p.tables e below (s₁.setTop (mkF m 6 #[.val (.int (2 : Int32)), .val (.long v0), .second, .val (.long v1), .second, .val (.long v2), .second, .val (.long v3), .second, .val (.int (0 : Int32)), .val (.long v0), .second] [])) _
    refine XS.iloadN X0.here hx rfl (hb hby d1_6) rfl ?_
    show Steps p.tables e below (s₁.setTop (mkF m 7 #[.val (.int (2 : Int32)), .val (.long v0), .second, .val (.long v1), .second, .val (.long v2), .second, .val (.long v3), .second, .val (.int (0 : Int32)), .val (.long v0), .second] [(.int (2 : Int32))])) _
    refine XS.iconst X0.here hx rfl (hb hby d1_7) ?_
    show Steps p.tables e below (s₁.setTop (mkF m 8 #[.val (.int (2 : Int32)), .val (.long v0), .second, .val (.long v1), .second, .val (.long v2), .second, .val (.long v3), .second, .val (.int (0 : Int32)), .val (.long v0), .second] [(.int (1 : Int32)), (.int (2 : Int32))])) _
    refine XS.icmpNo X0.here hx rfl (hb hby d1_8) rfl (tlt (by decide : (1 : Int32) < (2 : Int32))).2.2.2 ?_
    show Steps p.tables e below (s₁.setTop (mkF m 11 #[.val (.int (2 : Int32)), .val (.long v0), .second, .val (.long v1), .second, .val (.long v2), .second, .val (.long v3), .second, .val (.int (0 : Int32)), .val (.long v0), .second] [])) _
    refine XS.lloadN X0.here hx rfl (hb hby d1_11) rfl ?_
    show Steps p.tables e below (s₁.setTop (mkF m 12 #[.val (.int (2 : Int32)), .val (.long v0), .second, .val (.long v1), .second, .val (.long v2), .second, .val (.long v3), .second, .val (.int (0 : Int32)), .val (.long v0), .second] [(.long v1)])) _
    refine XS.lload X0.here hx rfl (hb hby d1_12) rfl ?_
    show Steps p.tables e below (s₁.setTop (mkF m 14 #[.val (.int (2 : Int32)), .val (.long v0), .second, .val (.long v1), .second, .val (.long v2), .second, .val (.long v3), .second, .val (.int (0 : Int32)), .val (.long v0), .second] [(.long v0), (.long v1)])) _
    refine XS.lcmp X0.here hx rfl (hb hby d1_14) rfl ?_
    show Steps p.tables e below (s₁.setTop (mkF m 15 #[.val (.int (2 : Int32)), .val (.long v0), .second, .val (.long v1), .second, .val (.long v2), .second, .val (.long v3), .second, .val (.int (0 : Int32)), .val (.long v0), .second] [(.int (lcmpW v1 v0))])) _
    exact k
  by_cases c15_0 : v1 < v0
  · skip
    have pre2 : ∀ t, Steps p.tables e below (s₁.setTop (mkF m 62 #[.val (.int (2 : Int32)), .val (.long v0), .second, .val (.long v1), .second, .val (.long v2), .second, .val (.long v3), .second, .val (.int (1 : Int32)), .val (.long v1), .second] [(.int (1 : Int32))])) t → Steps p.tables e below (s₁.setTop (entryFrame m #[(.int (2 : Int32)), (.long v0), (.long v1), (.long v2), (.long v3)] 12)) t := by
      intro t k
      refine pre1 t ?_
      refine XS.ifNo X0.here hx rfl (hb hby d1_15) rfl ((if0 _ _).trans (tlt ((lw_lt v1 v0).mpr c15_0)).2.1) ?_
      show Steps p.tables e below (s₁.setTop (mkF m 18 #[.val (.int (2 : Int32)), .val (.long v0), .second, .val (.long v1), .second, .val (.long v2), .second, .val (.long v3), .second, .val (.int (0 : Int32)), .val (.long v0), .second] [])) _
      refine XS.iconst X0.here hx rfl (hb hby d1_18) ?_
      show Steps p.tables e below (s₁.setTop (mkF m 19 #[.val (.int (2 : Int32)), .val (.long v0), .second, .val (.long v1), .second, .val (.long v2), .second, .val (.long v3), .second, .val (.int (0 : Int32)), .val (.long v0), .second] [(.int (1 : Int32))])) _
      refine XS.istore X0.here hx rfl (hb hby d1_19) rfl (l' := #[.val (.int (2 : Int32)), .val (.long v0), .second, .val (.long v1), .second, .val (.long v2), .second, .val (.long v3), .second, .val (.int (1 : Int32)), .val (.long v0), .second]) rfl ?_
      show Steps p.tables e below (s₁.setTop (mkF m 21 #[.val (.int (2 : Int32)), .val (.long v0), .second, .val (.long v1), .second, .val (.long v2), .second, .val (.long v3), .second, .val (.int (1 : Int32)), .val (.long v0), .second] [])) _
      refine XS.lloadN X0.here hx rfl (hb hby d1_21) rfl ?_
      show Steps p.tables e below (s₁.setTop (mkF m 22 #[.val (.int (2 : Int32)), .val (.long v0), .second, .val (.long v1), .second, .val (.long v2), .second, .val (.long v3), .second, .val (.int (1 : Int32)), .val (.long v0), .second] [(.long v1)])) _
      refine XS.lstore X0.here hx rfl (hb hby d1_22) rfl (l' := #[.val (.int (2 : Int32)), .val (.long v0), .second, .val (.long v1), .second, .val (.long v2), .second, .val (.long v3), .second, .val (.int (1 : Int32)), .val (.long v1), .second]) rfl ?_
      show Steps p.tables e below (s₁.setTop (mkF m 24 #[.val (.int (2 : Int32)), .val (.long v0), .second, .val (.long v1), .second, .val (.long v2), .second, .val (.long v3), .second, .val (.int (1 : Int32)), .val (.long v1), .second] [])) _
      refine XS.iloadN X0.here hx rfl (hb hby d1_24) rfl ?_
      show Steps p.tables e below (s₁.setTop (mkF m 25 #[.val (.int (2 : Int32)), .val (.long v0), .second, .val (.long v1), .second, .val (.long v2), .second, .val (.long v3), .second, .val (.int (1 : Int32)), .val (.long v1), .second] [(.int (2 : Int32))])) _
      refine XS.iconst X0.here hx rfl (hb hby d1_25) ?_
      show Steps p.tables e below (s₁.setTop (mkF m 26 #[.val (.int (2 : Int32)), .val (.long v0), .second, .val (.long v1), .second, .val (.long v2), .second, .val (.long v3), .second, .val (.int (1 : Int32)), .val (.long v1), .second] [(.int (2 : Int32)), (.int (2 : Int32))])) _
      refine XS.icmpYes X0.here hx rfl (pc0 := 26) (pc' := 44) rfl (hb hby d1_26) rfl (flt (by decide : ¬ ((2 : Int32) < (2 : Int32)))).2.2.2 (by decide) (by decide) ?_
      show Steps p.tables e below (s₁.setTop (mkF m 44 #[.val (.int (2 : Int32)), .val (.long v0), .second, .val (.long v1), .second, .val (.long v2), .second, .val (.long v3), .second, .val (.int (1 : Int32)), .val (.long v1), .second] [])) _
      refine XS.iloadN X0.here hx rfl (hb hby d1_44) rfl ?_
      show Steps p.tables e below (s₁.setTop (mkF m 45 #[.val (.int (2 : Int32)), .val (.long v0), .second, .val (.long v1), .second, .val (.long v2), .second, .val (.long v3), .second, .val (.int (1 : Int32)), .val (.long v1), .second] [(.int (2 : Int32))])) _
      refine XS.iconst X0.here hx rfl (hb hby d1_45) ?_
      show Steps p.tables e below (s₁.setTop (mkF m 46 #[.val (.int (2 : Int32)), .val (.long v0), .second, .val (.long v1), .second, .val (.long v2), .second, .val (.long v3), .second, .val (.int (1 : Int32)), .val (.long v1), .second] [(.int (3 : Int32)), (.int (2 : Int32))])) _
      refine XS.icmpYes X0.here hx rfl (pc0 := 46) (pc' := 60) rfl (hb hby d1_46) rfl (flt (by decide : ¬ ((3 : Int32) < (2 : Int32)))).2.2.2 (by decide) (by decide) ?_
      show Steps p.tables e below (s₁.setTop (mkF m 60 #[.val (.int (2 : Int32)), .val (.long v0), .second, .val (.long v1), .second, .val (.long v2), .second, .val (.long v3), .second, .val (.int (1 : Int32)), .val (.long v1), .second] [])) _
      refine XS.iload X0.here hx rfl (hb hby d1_60) rfl ?_
      show Steps p.tables e below (s₁.setTop (mkF m 62 #[.val (.int (2 : Int32)), .val (.long v0), .second, .val (.long v1), .second, .val (.long v2), .second, .val (.long v3), .second, .val (.int (1 : Int32)), .val (.long v1), .second] [(.int (1 : Int32))])) _
      exact k
    obtain ⟨fs, hr, hrun, hended, hW, hsame⟩ := X0.leave (v := some (.int (1 : Int32))) (fun h => by rw [Bd.returns] at h; cases h)
    refine ⟨_, _, pre2 _ ?_, hrun, hended, _, _, rfl, ?_, ⟨_, rfl⟩, hW, hsame.mono (by decide) (by decide)⟩
    · exact retOut X0 hx Bd.returns rfl (Or.inl ⟨rfl, Or.inl rfl, _, rfl⟩) (hb hby d1_62) hr
    · show Q_rmE2 Z v0 v1 v2 v3 h0 n0 _ s₁.heap _
      rw [e0]
      exact ⟨by simp [own_e, own_e2, own_e3, own_e4, c15_0], N0, rfl⟩
  · skip
    have pre3 : ∀ t, Steps p.tables e below (s₁.setTop (mkF m 62 #[.val (.int (2 : Int32)), .val (.long v0), .second, .val (.long v1), .second, .val (.long v2), .second, .val (.long v3), .second, .val (.int (0 : Int32)), .val (.long v0), .second] [(.int (0 : Int32))])) t → Steps p.tables e below (s₁.setTop (entryFrame m #[(.int (2 : Int32)), (.long v0), (.long v1), (.long v2), (.long v3)] 12)) t := by
      intro t k
      refine pre1 t ?_
      refine XS.ifYes X0.here hx rfl (pc0 := 15) (pc' := 24) rfl (hb hby d1_15) rfl ((if0 _ _).trans (flt (mt (lw_lt v1 v0).mp c15_0)).2.1) (by decide) (by decide) ?_
      show Steps p.tables e below (s₁.setTop (mkF m 24 #[.val (.int (2 : Int32)), .val (.long v0), .second, .val (.long v1), .second, .val (.long v2), .second, .val (.long v3), .second, .val (.int (0 : Int32)), .val (.long v0), .second] [])) _
      refine XS.iloadN X0.here hx rfl (hb hby d1_24) rfl ?_
      show Steps p.tables e below (s₁.setTop (mkF m 25 #[.val (.int (2 : Int32)), .val (.long v0), .second, .val (.long v1), .second, .val (.long v2), .second, .val (.long v3), .second, .val (.int (0 : Int32)), .val (.long v0), .second] [(.int (2 : Int32))])) _
      refine XS.iconst X0.here hx rfl (hb hby d1_25) ?_
      show Steps p.tables e below (s₁.setTop (mkF m 26 #[.val (.int (2 : Int32)), .val (.long v0), .second, .val (.long v1), .second, .val (.long v2), .second, .val (.long v3), .second, .val (.int (0 : Int32)), .val (.long v0), .second] [(.int (2 : Int32)), (.int (2 : Int32))])) _
      refine XS.icmpYes X0.here hx rfl (pc0 := 26) (pc' := 44) rfl (hb hby d1_26) rfl (flt (by decide : ¬ ((2 : Int32) < (2 : Int32)))).2.2.2 (by decide) (by decide) ?_
      show Steps p.tables e below (s₁.setTop (mkF m 44 #[.val (.int (2 : Int32)), .val (.long v0), .second, .val (.long v1), .second, .val (.long v2), .second, .val (.long v3), .second, .val (.int (0 : Int32)), .val (.long v0), .second] [])) _
      refine XS.iloadN X0.here hx rfl (hb hby d1_44) rfl ?_
      show Steps p.tables e below (s₁.setTop (mkF m 45 #[.val (.int (2 : Int32)), .val (.long v0), .second, .val (.long v1), .second, .val (.long v2), .second, .val (.long v3), .second, .val (.int (0 : Int32)), .val (.long v0), .second] [(.int (2 : Int32))])) _
      refine XS.iconst X0.here hx rfl (hb hby d1_45) ?_
      show Steps p.tables e below (s₁.setTop (mkF m 46 #[.val (.int (2 : Int32)), .val (.long v0), .second, .val (.long v1), .second, .val (.long v2), .second, .val (.long v3), .second, .val (.int (0 : Int32)), .val (.long v0), .second] [(.int (3 : Int32)), (.int (2 : Int32))])) _
      refine XS.icmpYes X0.here hx rfl (pc0 := 46) (pc' := 60) rfl (hb hby d1_46) rfl (flt (by decide : ¬ ((3 : Int32) < (2 : Int32)))).2.2.2 (by decide) (by decide) ?_
      show Steps p.tables e below (s₁.setTop (mkF m 60 #[.val (.int (2 : Int32)), .val (.long v0), .second, .val (.long v1), .second, .val (.long v2), .second, .val (.long v3), .second, .val (.int (0 : Int32)), .val (.long v0), .second] [])) _
      refine XS.iload X0.here hx rfl (hb hby d1_60) rfl ?_
      show Steps p.tables e below (s₁.setTop (mkF m 62 #[.val (.int (2 : Int32)), .val (.long v0), .second, .val (.long v1), .second, .val (.long v2), .second, .val (.long v3), .second, .val (.int (0 : Int32)), .val (.long v0), .second] [(.int (0 : Int32))])) _
      exact k
    obtain ⟨fs, hr, hrun, hended, hW, hsame⟩ := X0.leave (v := some (.int (0 : Int32))) (fun h => by rw [Bd.returns] at h; cases h)
    refine ⟨_, _, pre3 _ ?_, hrun, hended, _, _, rfl, ?_, ⟨_, rfl⟩, hW, hsame.mono (by decide) (by decide)⟩
    · exact retOut X0 hx Bd.returns rfl (Or.inl ⟨rfl, Or.inl rfl, _, rfl⟩) (hb hby d1_62) hr
    · show Q_rmE2 Z v0 v1 v2 v3 h0 n0 _ s₁.heap _
      rw [e0]
      exact ⟨by simp [own_e, own_e2, own_e3, own_e4, c15_0], N0, rfl⟩
theorem ef_rmE3 (m : MethodId) (x0 : Int32) (x1 : Int64) (x2 : Int64) (x3 : Int64) (x4 : Int64) : entryFrame m #[(.int x0), (.long x1), (.long x2), (.long x3), (.long x4)] 12 = mkF m 0 #[.val (.int x0), .val (.long x1), .second, .val (.long x2), .second, .val (.long x3), .second, .val (.long x4), .second, .unset, .unset, .unset] [] := by first | (simp [entryFrame, mkF, argsToLocals, Value.category]; done) | rfl
theorem d1_29 : decode method_3_code 29 = .ok (.lload 5, 2) := by decide +kernel
theorem d1_31 : decode method_3_code 31 = .ok (.lload 10, 2) := by decide +kernel
theorem d1_33 : decode method_3_code 33 = .ok (.lcmp, 1) := by decide +kernel
theorem d1_34 : decode method_3_code 34 = .ok (.ifCond .ge 10, 3) := by decide +kernel
theorem d1_37 : decode method_3_code 37 = .ok (.iconst 2, 1) := by decide +kernel
theorem d1_38 : decode method_3_code 38 = .ok (.istore 9, 2) := by decide +kernel
theorem d1_40 : decode method_3_code 40 = .ok (.lload 5, 2) := by decide +kernel
theorem d1_42 : decode method_3_code 42 = .ok (.lstore 10, 2) := by decide +kernel
def Q_rmE3 (Z : State) (v0 : Int64) (v1 : Int64) (v2 : Int64) (v3 : Int64) (h0 : Heap) (n0 : Nat) (v : Option Value) (h : Heap) (L : List Loc) : Prop := v = some (.int (own_e (3 : Int32) v0 v1 v2 v3)) ∧ Fr n0 L ∧ h = h0
set_option maxRecDepth 65536 in
set_option maxHeartbeats 40000000 in
theorem rmE3 (l : Launch) (Z : State) (a0 : Array Value) (hw : ∀ d ∈ tables_1, d.before a0 Z = true) (ws : List Jvm.Cond) (v0 : Int64) (v1 : Int64) (v2 : Int64) (v3 : Int64) (h0 : Heap) (n0 : Nat) (Z0 : n0 ≤ h0.size) :
    MetFree l (⟨"com/example/hummingbird/hummingbird/engine/RhythmLeastWaitingPointPinLaw", "earliestLeast", "(IJJJJ)I"⟩ : MethodName) (head1 (Jvm.Cond.code (⟨"com/example/hummingbird/hummingbird/engine/RhythmLeastWaitingPointPinLaw", "earliestLeast", "(IJJJJ)I"⟩ : MethodName) method_3_code 12 (some .int) :: ws) ({ frames := 0, cells := 0, slots := 0, locals := 0 } : Room)) (fun a U => a = #[(.int (3 : Int32)), (.long v0), (.long v1), (.long v2), (.long v3)] ∧ Z.Warmed39 U.vm ∧ U.heap = h0) (fun _ _ _ _ _ => True) (fun _ U o U' => ∃ v L, o = .returned v ∧ Q_rmE3 Z v0 v1 v2 v3 h0 n0 v U'.heap L ∧ FrameEnd U o U' L ({ frames := 0, cells := 0, slots := 0, locals := 0 } : Room).cells ({ frames := 0, cells := 0, slots := 0, locals := 0 } : Room).slots) := by
  refine MetFree.of_bodySF (plainFor_of_name pn_1) hisR ?_
  intro p e s m args below meth c s₁ Bd hml0 hP hK
  obtain ⟨rfl, hZ, hh⟩ := hP
  have hx := Bd.exec
  have hby := Bd.bytes
  have hml : c.maxLocals = 12 := hml0
  have hown : s.vm.findClass "com/example/hummingbird/hummingbird/engine/RhythmLeastWaitingPointPinLaw" = some m.cls := findClass_of_methodNamed Bd.named
  have hnm := (name_of_methodNamed Bd.named Bd.method).1
  have X0 : Stand p l e ({ frames := 0, cells := 0, slots := 0, locals := 0 } : Room) s m #[(.int (3 : Int32)), (.long v0), (.long v1), (.long v2), (.long v3)] below meth c s₁ [] 0 0 := Stand.of_body Bd
  have e0 : s₁.heap = h0 := by rw [← hh, Bd.state]; rfl
  have N0 := Fr.nil n0
  have pre0 : ∀ t, Steps p.tables e below (s₁.setTop (mkF m 0 #[.val (.int (3 : Int32)), .val (.long v0), .second, .val (.long v1), .second, .val (.long v2), .second, .val (.long v3), .second, .unset, .unset, .unset] [])) t → Steps p.tables e below (s₁.setTop (entryFrame m #[(.int (3 : Int32)), (.long v0), (.long v1), (.long v2), (.long v3)] 12)) t := fun t k => castTop (ef_rmE3 m (3 : Int32) v0 v1 v2 v3) k
  have pre1 : ∀ t, Steps p.tables e below (s₁.setTop (mkF m 15 #[.val (.int (3 : Int32)), .val (.long v0), .second, .val (.long v1), .second, .val (.long v2), .second, .val (.long v3), .second, .val (.int (0 : Int32)), .val (.long v0), .second] [(.int (lcmpW v1 v0))])) t → Steps p.tables e below (s₁.setTop (entryFrame m #[(.int (3 : Int32)), (.long v0), (.long v1), (.long v2), (.long v3)] 12)) t := by
    intro t k
    refine pre0 t ?_
    show Steps p.tables e below (s₁.setTop (mkF m 0 #[.val (.int (3 : Int32)), .val (.long v0), .second, .val (.long v1), .second, .val (.long v2), .second, .val (.long v3), .second, .unset, .unset, .unset] [])) _
    refine XS.iconst X0.here hx rfl (hb hby d1_0) ?_
    show Steps p.tables e below (s₁.setTop (mkF m 1 #[.val (.int (3 : Int32)), .val (.long v0), .second, .val (.long v1), .second, .val (.long v2), .second, .val (.long v3), .second, .unset, .unset, .unset] [(.int (0 : Int32))])) _
    refine XS.istore X0.here hx rfl (hb hby d1_1) rfl (l' := #[.val (.int (3 : Int32)), .val (.long v0), .second, .val (.long v1), .second, .val (.long v2), .second, .val (.long v3), .second, .val (.int (0 : Int32)), .unset, .unset]) rfl ?_
    show Steps p.tables e below (s₁.setTop (mkF m 3 #[.val (.int (3 : Int32)), .val (.long v0), .second, .val (.long v1), .second, .val (.long v2), .second, .val (.long v3), .second, .val (.int (0 : Int32)), .unset, .unset] [])) _
    refine XS.lloadN X0.here hx rfl (hb hby d1_3) rfl ?_
    show Steps p.tables e below (s₁.setTop (mkF m 4 #[.val (.int (3 : Int32)), .val (.long v0), .second, .val (.long v1), .second, .val (.long v2), .second, .val (.long v3), .second, .val (.int (0 : Int32)), .unset, .unset] [(.long v0)])) _
    refine XS.lstore X0.here hx rfl (hb hby d1_4) rfl (l' := #[.val (.int (3 : Int32)), .val (.long v0), .second, .val (.long v1), .second, .val (.long v2), .second, .val (.long v3), .second, .val (.int (0 : Int32)), .val (.long v0), .second]) rfl ?_
    show Steps p.tables e below (s₁.setTop (mkF m 6 #[.val (.int (3 : Int32)), .val (.long v0), .second, .val (.long v1), .second, .val (.long v2), .second, .val (.long v3), .second, .val (.int (0 : Int32)), .val (.long v0), .second] [])) _
    refine XS.iloadN X0.here hx rfl (hb hby d1_6) rfl ?_
    show Steps p.tables e below (s₁.setTop (mkF m 7 #[.val (.int (3 : Int32)), .val (.long v0), .second, .val (.long v1), .second, .val (.long v2), .second, .val (.long v3), .second, .val (.int (0 : Int32)), .val (.long v0), .second] [(.int (3 : Int32))])) _
    refine XS.iconst X0.here hx rfl (hb hby d1_7) ?_
    show Steps p.tables e below (s₁.setTop (mkF m 8 #[.val (.int (3 : Int32)), .val (.long v0), .second, .val (.long v1), .second, .val (.long v2), .second, .val (.long v3), .second, .val (.int (0 : Int32)), .val (.long v0), .second] [(.int (1 : Int32)), (.int (3 : Int32))])) _
    refine XS.icmpNo X0.here hx rfl (hb hby d1_8) rfl (tlt (by decide : (1 : Int32) < (3 : Int32))).2.2.2 ?_
    show Steps p.tables e below (s₁.setTop (mkF m 11 #[.val (.int (3 : Int32)), .val (.long v0), .second, .val (.long v1), .second, .val (.long v2), .second, .val (.long v3), .second, .val (.int (0 : Int32)), .val (.long v0), .second] [])) _
    refine XS.lloadN X0.here hx rfl (hb hby d1_11) rfl ?_
    show Steps p.tables e below (s₁.setTop (mkF m 12 #[.val (.int (3 : Int32)), .val (.long v0), .second, .val (.long v1), .second, .val (.long v2), .second, .val (.long v3), .second, .val (.int (0 : Int32)), .val (.long v0), .second] [(.long v1)])) _
    refine XS.lload X0.here hx rfl (hb hby d1_12) rfl ?_
    show Steps p.tables e below (s₁.setTop (mkF m 14 #[.val (.int (3 : Int32)), .val (.long v0), .second, .val (.long v1), .second, .val (.long v2), .second, .val (.long v3), .second, .val (.int (0 : Int32)), .val (.long v0), .second] [(.long v0), (.long v1)])) _
    refine XS.lcmp X0.here hx rfl (hb hby d1_14) rfl ?_
    show Steps p.tables e below (s₁.setTop (mkF m 15 #[.val (.int (3 : Int32)), .val (.long v0), .second, .val (.long v1), .second, .val (.long v2), .second, .val (.long v3), .second, .val (.int (0 : Int32)), .val (.long v0), .second] [(.int (lcmpW v1 v0))])) _
    exact k
  by_cases c15_0 : v1 < v0
  · skip
    have pre2 : ∀ t, Steps p.tables e below (s₁.setTop (mkF m 34 #[.val (.int (3 : Int32)), .val (.long v0), .second, .val (.long v1), .second, .val (.long v2), .second, .val (.long v3), .second, .val (.int (1 : Int32)), .val (.long v1), .second] [(.int (lcmpW v2 v1))])) t → Steps p.tables e below (s₁.setTop (entryFrame m #[(.int (3 : Int32)), (.long v0), (.long v1), (.long v2), (.long v3)] 12)) t := by
      intro t k
      refine pre1 t ?_
      refine XS.ifNo X0.here hx rfl (hb hby d1_15) rfl ((if0 _ _).trans (tlt ((lw_lt v1 v0).mpr c15_0)).2.1) ?_
      show Steps p.tables e below (s₁.setTop (mkF m 18 #[.val (.int (3 : Int32)), .val (.long v0), .second, .val (.long v1), .second, .val (.long v2), .second, .val (.long v3), .second, .val (.int (0 : Int32)), .val (.long v0), .second] [])) _
      refine XS.iconst X0.here hx rfl (hb hby d1_18) ?_
      show Steps p.tables e below (s₁.setTop (mkF m 19 #[.val (.int (3 : Int32)), .val (.long v0), .second, .val (.long v1), .second, .val (.long v2), .second, .val (.long v3), .second, .val (.int (0 : Int32)), .val (.long v0), .second] [(.int (1 : Int32))])) _
      refine XS.istore X0.here hx rfl (hb hby d1_19) rfl (l' := #[.val (.int (3 : Int32)), .val (.long v0), .second, .val (.long v1), .second, .val (.long v2), .second, .val (.long v3), .second, .val (.int (1 : Int32)), .val (.long v0), .second]) rfl ?_
      show Steps p.tables e below (s₁.setTop (mkF m 21 #[.val (.int (3 : Int32)), .val (.long v0), .second, .val (.long v1), .second, .val (.long v2), .second, .val (.long v3), .second, .val (.int (1 : Int32)), .val (.long v0), .second] [])) _
      refine XS.lloadN X0.here hx rfl (hb hby d1_21) rfl ?_
      show Steps p.tables e below (s₁.setTop (mkF m 22 #[.val (.int (3 : Int32)), .val (.long v0), .second, .val (.long v1), .second, .val (.long v2), .second, .val (.long v3), .second, .val (.int (1 : Int32)), .val (.long v0), .second] [(.long v1)])) _
      refine XS.lstore X0.here hx rfl (hb hby d1_22) rfl (l' := #[.val (.int (3 : Int32)), .val (.long v0), .second, .val (.long v1), .second, .val (.long v2), .second, .val (.long v3), .second, .val (.int (1 : Int32)), .val (.long v1), .second]) rfl ?_
      show Steps p.tables e below (s₁.setTop (mkF m 24 #[.val (.int (3 : Int32)), .val (.long v0), .second, .val (.long v1), .second, .val (.long v2), .second, .val (.long v3), .second, .val (.int (1 : Int32)), .val (.long v1), .second] [])) _
      refine XS.iloadN X0.here hx rfl (hb hby d1_24) rfl ?_
      show Steps p.tables e below (s₁.setTop (mkF m 25 #[.val (.int (3 : Int32)), .val (.long v0), .second, .val (.long v1), .second, .val (.long v2), .second, .val (.long v3), .second, .val (.int (1 : Int32)), .val (.long v1), .second] [(.int (3 : Int32))])) _
      refine XS.iconst X0.here hx rfl (hb hby d1_25) ?_
      show Steps p.tables e below (s₁.setTop (mkF m 26 #[.val (.int (3 : Int32)), .val (.long v0), .second, .val (.long v1), .second, .val (.long v2), .second, .val (.long v3), .second, .val (.int (1 : Int32)), .val (.long v1), .second] [(.int (2 : Int32)), (.int (3 : Int32))])) _
      refine XS.icmpNo X0.here hx rfl (hb hby d1_26) rfl (tlt (by decide : (2 : Int32) < (3 : Int32))).2.2.2 ?_
      show Steps p.tables e below (s₁.setTop (mkF m 29 #[.val (.int (3 : Int32)), .val (.long v0), .second, .val (.long v1), .second, .val (.long v2), .second, .val (.long v3), .second, .val (.int (1 : Int32)), .val (.long v1), .second] [])) _
      refine XS.lload X0.here hx rfl (hb hby d1_29) rfl ?_
      show Steps p.tables e below (s₁.setTop (mkF m 31 #[.val (.int (3 : Int32)), .val (.long v0), .second, .val (.long v1), .second, .val (.long v2), .second, .val (.long v3), .second, .val (.int (1 : Int32)), .val (.long v1), .second] [(.long v2)])) _
      refine XS.lload X0.here hx rfl (hb hby d1_31) rfl ?_
      show Steps p.tables e below (s₁.setTop (mkF m 33 #[.val (.int (3 : Int32)), .val (.long v0), .second, .val (.long v1), .second, .val (.long v2), .second, .val (.long v3), .second, .val (.int (1 : Int32)), .val (.long v1), .second] [(.long v1), (.long v2)])) _
      refine XS.lcmp X0.here hx rfl (hb hby d1_33) rfl ?_
      show Steps p.tables e below (s₁.setTop (mkF m 34 #[.val (.int (3 : Int32)), .val (.long v0), .second, .val (.long v1), .second, .val (.long v2), .second, .val (.long v3), .second, .val (.int (1 : Int32)), .val (.long v1), .second] [(.int (lcmpW v2 v1))])) _
      exact k
    by_cases c34_1 : v2 < v1
    · skip
      have pre3 : ∀ t, Steps p.tables e below (s₁.setTop (mkF m 62 #[.val (.int (3 : Int32)), .val (.long v0), .second, .val (.long v1), .second, .val (.long v2), .second, .val (.long v3), .second, .val (.int (2 : Int32)), .val (.long v2), .second] [(.int (2 : Int32))])) t → Steps p.tables e below (s₁.setTop (entryFrame m #[(.int (3 : Int32)), (.long v0), (.long v1), (.long v2), (.long v3)] 12)) t := by
        intro t k
        refine pre2 t ?_
        refine XS.ifNo X0.here hx rfl (hb hby d1_34) rfl ((if0 _ _).trans (tlt ((lw_lt v2 v1).mpr c34_1)).2.1) ?_
        show Steps p.tables e below (s₁.setTop (mkF m 37 #[.val (.int (3 : Int32)), .val (.long v0), .second, .val (.long v1), .second, .val (.long v2), .second, .val (.long v3), .second, .val (.int (1 : Int32)), .val (.long v1), .second] [])) _
        refine XS.iconst X0.here hx rfl (hb hby d1_37) ?_
        show Steps p.tables e below (s₁.setTop (mkF m 38 #[.val (.int (3 : Int32)), .val (.long v0), .second, .val (.long v1), .second, .val (.long v2), .second, .val (.long v3), .second, .val (.int (1 : Int32)), .val (.long v1), .second] [(.int (2 : Int32))])) _
        refine XS.istore X0.here hx rfl (hb hby d1_38) rfl (l' := #[.val (.int (3 : Int32)), .val (.long v0), .second, .val (.long v1), .second, .val (.long v2), .second, .val (.long v3), .second, .val (.int (2 : Int32)), .val (.long v1), .second]) rfl ?_
        show Steps p.tables e below (s₁.setTop (mkF m 40 #[.val (.int (3 : Int32)), .val (.long v0), .second, .val (.long v1), .second, .val (.long v2), .second, .val (.long v3), .second, .val (.int (2 : Int32)), .val (.long v1), .second] [])) _
        refine XS.lload X0.here hx rfl (hb hby d1_40) rfl ?_
        show Steps p.tables e below (s₁.setTop (mkF m 42 #[.val (.int (3 : Int32)), .val (.long v0), .second, .val (.long v1), .second, .val (.long v2), .second, .val (.long v3), .second, .val (.int (2 : Int32)), .val (.long v1), .second] [(.long v2)])) _
        refine XS.lstore X0.here hx rfl (hb hby d1_42) rfl (l' := #[.val (.int (3 : Int32)), .val (.long v0), .second, .val (.long v1), .second, .val (.long v2), .second, .val (.long v3), .second, .val (.int (2 : Int32)), .val (.long v2), .second]) rfl ?_
        show Steps p.tables e below (s₁.setTop (mkF m 44 #[.val (.int (3 : Int32)), .val (.long v0), .second, .val (.long v1), .second, .val (.long v2), .second, .val (.long v3), .second, .val (.int (2 : Int32)), .val (.long v2), .second] [])) _
        refine XS.iloadN X0.here hx rfl (hb hby d1_44) rfl ?_
        show Steps p.tables e below (s₁.setTop (mkF m 45 #[.val (.int (3 : Int32)), .val (.long v0), .second, .val (.long v1), .second, .val (.long v2), .second, .val (.long v3), .second, .val (.int (2 : Int32)), .val (.long v2), .second] [(.int (3 : Int32))])) _
        refine XS.iconst X0.here hx rfl (hb hby d1_45) ?_
        show Steps p.tables e below (s₁.setTop (mkF m 46 #[.val (.int (3 : Int32)), .val (.long v0), .second, .val (.long v1), .second, .val (.long v2), .second, .val (.long v3), .second, .val (.int (2 : Int32)), .val (.long v2), .second] [(.int (3 : Int32)), (.int (3 : Int32))])) _
        refine XS.icmpYes X0.here hx rfl (pc0 := 46) (pc' := 60) rfl (hb hby d1_46) rfl (flt (by decide : ¬ ((3 : Int32) < (3 : Int32)))).2.2.2 (by decide) (by decide) ?_
        show Steps p.tables e below (s₁.setTop (mkF m 60 #[.val (.int (3 : Int32)), .val (.long v0), .second, .val (.long v1), .second, .val (.long v2), .second, .val (.long v3), .second, .val (.int (2 : Int32)), .val (.long v2), .second] [])) _
        refine XS.iload X0.here hx rfl (hb hby d1_60) rfl ?_
        show Steps p.tables e below (s₁.setTop (mkF m 62 #[.val (.int (3 : Int32)), .val (.long v0), .second, .val (.long v1), .second, .val (.long v2), .second, .val (.long v3), .second, .val (.int (2 : Int32)), .val (.long v2), .second] [(.int (2 : Int32))])) _
        exact k
      obtain ⟨fs, hr, hrun, hended, hW, hsame⟩ := X0.leave (v := some (.int (2 : Int32))) (fun h => by rw [Bd.returns] at h; cases h)
      refine ⟨_, _, pre3 _ ?_, hrun, hended, _, _, rfl, ?_, ⟨_, rfl⟩, hW, hsame.mono (by decide) (by decide)⟩
      · exact retOut X0 hx Bd.returns rfl (Or.inl ⟨rfl, Or.inl rfl, _, rfl⟩) (hb hby d1_62) hr
      · show Q_rmE3 Z v0 v1 v2 v3 h0 n0 _ s₁.heap _
        rw [e0]
        exact ⟨by simp [own_e, own_e2, own_e3, own_e4, c15_0, c34_1], N0, rfl⟩
    · skip
      have pre4 : ∀ t, Steps p.tables e below (s₁.setTop (mkF m 62 #[.val (.int (3 : Int32)), .val (.long v0), .second, .val (.long v1), .second, .val (.long v2), .second, .val (.long v3), .second, .val (.int (1 : Int32)), .val (.long v1), .second] [(.int (1 : Int32))])) t → Steps p.tables e below (s₁.setTop (entryFrame m #[(.int (3 : Int32)), (.long v0), (.long v1), (.long v2), (.long v3)] 12)) t := by
        intro t k
        refine pre2 t ?_
        refine XS.ifYes X0.here hx rfl (pc0 := 34) (pc' := 44) rfl (hb hby d1_34) rfl ((if0 _ _).trans (flt (mt (lw_lt v2 v1).mp c34_1)).2.1) (by decide) (by decide) ?_
        show Steps p.tables e below (s₁.setTop (mkF m 44 #[.val (.int (3 : Int32)), .val (.long v0), .second, .val (.long v1), .second, .val (.long v2), .second, .val (.long v3), .second, .val (.int (1 : Int32)), .val (.long v1), .second] [])) _
        refine XS.iloadN X0.here hx rfl (hb hby d1_44) rfl ?_
        show Steps p.tables e below (s₁.setTop (mkF m 45 #[.val (.int (3 : Int32)), .val (.long v0), .second, .val (.long v1), .second, .val (.long v2), .second, .val (.long v3), .second, .val (.int (1 : Int32)), .val (.long v1), .second] [(.int (3 : Int32))])) _
        refine XS.iconst X0.here hx rfl (hb hby d1_45) ?_
        show Steps p.tables e below (s₁.setTop (mkF m 46 #[.val (.int (3 : Int32)), .val (.long v0), .second, .val (.long v1), .second, .val (.long v2), .second, .val (.long v3), .second, .val (.int (1 : Int32)), .val (.long v1), .second] [(.int (3 : Int32)), (.int (3 : Int32))])) _
        refine XS.icmpYes X0.here hx rfl (pc0 := 46) (pc' := 60) rfl (hb hby d1_46) rfl (flt (by decide : ¬ ((3 : Int32) < (3 : Int32)))).2.2.2 (by decide) (by decide) ?_
        show Steps p.tables e below (s₁.setTop (mkF m 60 #[.val (.int (3 : Int32)), .val (.long v0), .second, .val (.long v1), .second, .val (.long v2), .second, .val (.long v3), .second, .val (.int (1 : Int32)), .val (.long v1), .second] [])) _
        refine XS.iload X0.here hx rfl (hb hby d1_60) rfl ?_
        show Steps p.tables e below (s₁.setTop (mkF m 62 #[.val (.int (3 : Int32)), .val (.long v0), .second, .val (.long v1), .second, .val (.long v2), .second, .val (.long v3), .second, .val (.int (1 : Int32)), .val (.long v1), .second] [(.int (1 : Int32))])) _
        exact k
      obtain ⟨fs, hr, hrun, hended, hW, hsame⟩ := X0.leave (v := some (.int (1 : Int32))) (fun h => by rw [Bd.returns] at h; cases h)
      refine ⟨_, _, pre4 _ ?_, hrun, hended, _, _, rfl, ?_, ⟨_, rfl⟩, hW, hsame.mono (by decide) (by decide)⟩
      · exact retOut X0 hx Bd.returns rfl (Or.inl ⟨rfl, Or.inl rfl, _, rfl⟩) (hb hby d1_62) hr
      · show Q_rmE3 Z v0 v1 v2 v3 h0 n0 _ s₁.heap _
        rw [e0]
        exact ⟨by simp [own_e, own_e2, own_e3, own_e4, c15_0, c34_1], N0, rfl⟩
  · skip
    have pre5 : ∀ t, Steps p.tables e below (s₁.setTop (mkF m 34 #[.val (.int (3 : Int32)), .val (.long v0), .second, .val (.long v1), .second, .val (.long v2), .second, .val (.long v3), .second, .val (.int (0 : Int32)), .val (.long v0), .second] [(.int (lcmpW v2 v0))])) t → Steps p.tables e below (s₁.setTop (entryFrame m #[(.int (3 : Int32)), (.long v0), (.long v1), (.long v2), (.long v3)] 12)) t := by
      intro t k
      refine pre1 t ?_
      refine XS.ifYes X0.here hx rfl (pc0 := 15) (pc' := 24) rfl (hb hby d1_15) rfl ((if0 _ _).trans (flt (mt (lw_lt v1 v0).mp c15_0)).2.1) (by decide) (by decide) ?_
      show Steps p.tables e below (s₁.setTop (mkF m 24 #[.val (.int (3 : Int32)), .val (.long v0), .second, .val (.long v1), .second, .val (.long v2), .second, .val (.long v3), .second, .val (.int (0 : Int32)), .val (.long v0), .second] [])) _
      refine XS.iloadN X0.here hx rfl (hb hby d1_24) rfl ?_
      show Steps p.tables e below (s₁.setTop (mkF m 25 #[.val (.int (3 : Int32)), .val (.long v0), .second, .val (.long v1), .second, .val (.long v2), .second, .val (.long v3), .second, .val (.int (0 : Int32)), .val (.long v0), .second] [(.int (3 : Int32))])) _
      refine XS.iconst X0.here hx rfl (hb hby d1_25) ?_
      show Steps p.tables e below (s₁.setTop (mkF m 26 #[.val (.int (3 : Int32)), .val (.long v0), .second, .val (.long v1), .second, .val (.long v2), .second, .val (.long v3), .second, .val (.int (0 : Int32)), .val (.long v0), .second] [(.int (2 : Int32)), (.int (3 : Int32))])) _
      refine XS.icmpNo X0.here hx rfl (hb hby d1_26) rfl (tlt (by decide : (2 : Int32) < (3 : Int32))).2.2.2 ?_
      show Steps p.tables e below (s₁.setTop (mkF m 29 #[.val (.int (3 : Int32)), .val (.long v0), .second, .val (.long v1), .second, .val (.long v2), .second, .val (.long v3), .second, .val (.int (0 : Int32)), .val (.long v0), .second] [])) _
      refine XS.lload X0.here hx rfl (hb hby d1_29) rfl ?_
      show Steps p.tables e below (s₁.setTop (mkF m 31 #[.val (.int (3 : Int32)), .val (.long v0), .second, .val (.long v1), .second, .val (.long v2), .second, .val (.long v3), .second, .val (.int (0 : Int32)), .val (.long v0), .second] [(.long v2)])) _
      refine XS.lload X0.here hx rfl (hb hby d1_31) rfl ?_
      show Steps p.tables e below (s₁.setTop (mkF m 33 #[.val (.int (3 : Int32)), .val (.long v0), .second, .val (.long v1), .second, .val (.long v2), .second, .val (.long v3), .second, .val (.int (0 : Int32)), .val (.long v0), .second] [(.long v0), (.long v2)])) _
      refine XS.lcmp X0.here hx rfl (hb hby d1_33) rfl ?_
      show Steps p.tables e below (s₁.setTop (mkF m 34 #[.val (.int (3 : Int32)), .val (.long v0), .second, .val (.long v1), .second, .val (.long v2), .second, .val (.long v3), .second, .val (.int (0 : Int32)), .val (.long v0), .second] [(.int (lcmpW v2 v0))])) _
      exact k
    by_cases c34_1 : v2 < v0
    · skip
      have pre6 : ∀ t, Steps p.tables e below (s₁.setTop (mkF m 62 #[.val (.int (3 : Int32)), .val (.long v0), .second, .val (.long v1), .second, .val (.long v2), .second, .val (.long v3), .second, .val (.int (2 : Int32)), .val (.long v2), .second] [(.int (2 : Int32))])) t → Steps p.tables e below (s₁.setTop (entryFrame m #[(.int (3 : Int32)), (.long v0), (.long v1), (.long v2), (.long v3)] 12)) t := by
        intro t k
        refine pre5 t ?_
        refine XS.ifNo X0.here hx rfl (hb hby d1_34) rfl ((if0 _ _).trans (tlt ((lw_lt v2 v0).mpr c34_1)).2.1) ?_
        show Steps p.tables e below (s₁.setTop (mkF m 37 #[.val (.int (3 : Int32)), .val (.long v0), .second, .val (.long v1), .second, .val (.long v2), .second, .val (.long v3), .second, .val (.int (0 : Int32)), .val (.long v0), .second] [])) _
        refine XS.iconst X0.here hx rfl (hb hby d1_37) ?_
        show Steps p.tables e below (s₁.setTop (mkF m 38 #[.val (.int (3 : Int32)), .val (.long v0), .second, .val (.long v1), .second, .val (.long v2), .second, .val (.long v3), .second, .val (.int (0 : Int32)), .val (.long v0), .second] [(.int (2 : Int32))])) _
        refine XS.istore X0.here hx rfl (hb hby d1_38) rfl (l' := #[.val (.int (3 : Int32)), .val (.long v0), .second, .val (.long v1), .second, .val (.long v2), .second, .val (.long v3), .second, .val (.int (2 : Int32)), .val (.long v0), .second]) rfl ?_
        show Steps p.tables e below (s₁.setTop (mkF m 40 #[.val (.int (3 : Int32)), .val (.long v0), .second, .val (.long v1), .second, .val (.long v2), .second, .val (.long v3), .second, .val (.int (2 : Int32)), .val (.long v0), .second] [])) _
        refine XS.lload X0.here hx rfl (hb hby d1_40) rfl ?_
        show Steps p.tables e below (s₁.setTop (mkF m 42 #[.val (.int (3 : Int32)), .val (.long v0), .second, .val (.long v1), .second, .val (.long v2), .second, .val (.long v3), .second, .val (.int (2 : Int32)), .val (.long v0), .second] [(.long v2)])) _
        refine XS.lstore X0.here hx rfl (hb hby d1_42) rfl (l' := #[.val (.int (3 : Int32)), .val (.long v0), .second, .val (.long v1), .second, .val (.long v2), .second, .val (.long v3), .second, .val (.int (2 : Int32)), .val (.long v2), .second]) rfl ?_
        show Steps p.tables e below (s₁.setTop (mkF m 44 #[.val (.int (3 : Int32)), .val (.long v0), .second, .val (.long v1), .second, .val (.long v2), .second, .val (.long v3), .second, .val (.int (2 : Int32)), .val (.long v2), .second] [])) _
        refine XS.iloadN X0.here hx rfl (hb hby d1_44) rfl ?_
        show Steps p.tables e below (s₁.setTop (mkF m 45 #[.val (.int (3 : Int32)), .val (.long v0), .second, .val (.long v1), .second, .val (.long v2), .second, .val (.long v3), .second, .val (.int (2 : Int32)), .val (.long v2), .second] [(.int (3 : Int32))])) _
        refine XS.iconst X0.here hx rfl (hb hby d1_45) ?_
        show Steps p.tables e below (s₁.setTop (mkF m 46 #[.val (.int (3 : Int32)), .val (.long v0), .second, .val (.long v1), .second, .val (.long v2), .second, .val (.long v3), .second, .val (.int (2 : Int32)), .val (.long v2), .second] [(.int (3 : Int32)), (.int (3 : Int32))])) _
        refine XS.icmpYes X0.here hx rfl (pc0 := 46) (pc' := 60) rfl (hb hby d1_46) rfl (flt (by decide : ¬ ((3 : Int32) < (3 : Int32)))).2.2.2 (by decide) (by decide) ?_
        show Steps p.tables e below (s₁.setTop (mkF m 60 #[.val (.int (3 : Int32)), .val (.long v0), .second, .val (.long v1), .second, .val (.long v2), .second, .val (.long v3), .second, .val (.int (2 : Int32)), .val (.long v2), .second] [])) _
        refine XS.iload X0.here hx rfl (hb hby d1_60) rfl ?_
        show Steps p.tables e below (s₁.setTop (mkF m 62 #[.val (.int (3 : Int32)), .val (.long v0), .second, .val (.long v1), .second, .val (.long v2), .second, .val (.long v3), .second, .val (.int (2 : Int32)), .val (.long v2), .second] [(.int (2 : Int32))])) _
        exact k
      obtain ⟨fs, hr, hrun, hended, hW, hsame⟩ := X0.leave (v := some (.int (2 : Int32))) (fun h => by rw [Bd.returns] at h; cases h)
      refine ⟨_, _, pre6 _ ?_, hrun, hended, _, _, rfl, ?_, ⟨_, rfl⟩, hW, hsame.mono (by decide) (by decide)⟩
      · exact retOut X0 hx Bd.returns rfl (Or.inl ⟨rfl, Or.inl rfl, _, rfl⟩) (hb hby d1_62) hr
      · show Q_rmE3 Z v0 v1 v2 v3 h0 n0 _ s₁.heap _
        rw [e0]
        exact ⟨by simp [own_e, own_e2, own_e3, own_e4, c15_0, c34_1], N0, rfl⟩
    · skip
      have pre7 : ∀ t, Steps p.tables e below (s₁.setTop (mkF m 62 #[.val (.int (3 : Int32)), .val (.long v0), .second, .val (.long v1), .second, .val (.long v2), .second, .val (.long v3), .second, .val (.int (0 : Int32)), .val (.long v0), .second] [(.int (0 : Int32))])) t → Steps p.tables e below (s₁.setTop (entryFrame m #[(.int (3 : Int32)), (.long v0), (.long v1), (.long v2), (.long v3)] 12)) t := by
        intro t k
        refine pre5 t ?_
        refine XS.ifYes X0.here hx rfl (pc0 := 34) (pc' := 44) rfl (hb hby d1_34) rfl ((if0 _ _).trans (flt (mt (lw_lt v2 v0).mp c34_1)).2.1) (by decide) (by decide) ?_
        show Steps p.tables e below (s₁.setTop (mkF m 44 #[.val (.int (3 : Int32)), .val (.long v0), .second, .val (.long v1), .second, .val (.long v2), .second, .val (.long v3), .second, .val (.int (0 : Int32)), .val (.long v0), .second] [])) _
        refine XS.iloadN X0.here hx rfl (hb hby d1_44) rfl ?_
        show Steps p.tables e below (s₁.setTop (mkF m 45 #[.val (.int (3 : Int32)), .val (.long v0), .second, .val (.long v1), .second, .val (.long v2), .second, .val (.long v3), .second, .val (.int (0 : Int32)), .val (.long v0), .second] [(.int (3 : Int32))])) _
        refine XS.iconst X0.here hx rfl (hb hby d1_45) ?_
        show Steps p.tables e below (s₁.setTop (mkF m 46 #[.val (.int (3 : Int32)), .val (.long v0), .second, .val (.long v1), .second, .val (.long v2), .second, .val (.long v3), .second, .val (.int (0 : Int32)), .val (.long v0), .second] [(.int (3 : Int32)), (.int (3 : Int32))])) _
        refine XS.icmpYes X0.here hx rfl (pc0 := 46) (pc' := 60) rfl (hb hby d1_46) rfl (flt (by decide : ¬ ((3 : Int32) < (3 : Int32)))).2.2.2 (by decide) (by decide) ?_
        show Steps p.tables e below (s₁.setTop (mkF m 60 #[.val (.int (3 : Int32)), .val (.long v0), .second, .val (.long v1), .second, .val (.long v2), .second, .val (.long v3), .second, .val (.int (0 : Int32)), .val (.long v0), .second] [])) _
        refine XS.iload X0.here hx rfl (hb hby d1_60) rfl ?_
        show Steps p.tables e below (s₁.setTop (mkF m 62 #[.val (.int (3 : Int32)), .val (.long v0), .second, .val (.long v1), .second, .val (.long v2), .second, .val (.long v3), .second, .val (.int (0 : Int32)), .val (.long v0), .second] [(.int (0 : Int32))])) _
        exact k
      obtain ⟨fs, hr, hrun, hended, hW, hsame⟩ := X0.leave (v := some (.int (0 : Int32))) (fun h => by rw [Bd.returns] at h; cases h)
      refine ⟨_, _, pre7 _ ?_, hrun, hended, _, _, rfl, ?_, ⟨_, rfl⟩, hW, hsame.mono (by decide) (by decide)⟩
      · exact retOut X0 hx Bd.returns rfl (Or.inl ⟨rfl, Or.inl rfl, _, rfl⟩) (hb hby d1_62) hr
      · show Q_rmE3 Z v0 v1 v2 v3 h0 n0 _ s₁.heap _
        rw [e0]
        exact ⟨by simp [own_e, own_e2, own_e3, own_e4, c15_0, c34_1], N0, rfl⟩
theorem ef_rmE4 (m : MethodId) (x0 : Int32) (x1 : Int64) (x2 : Int64) (x3 : Int64) (x4 : Int64) : entryFrame m #[(.int x0), (.long x1), (.long x2), (.long x3), (.long x4)] 12 = mkF m 0 #[.val (.int x0), .val (.long x1), .second, .val (.long x2), .second, .val (.long x3), .second, .val (.long x4), .second, .unset, .unset, .unset] [] := by first | (simp [entryFrame, mkF, argsToLocals, Value.category]; done) | rfl
theorem d1_49 : decode method_3_code 49 = .ok (.lload 7, 2) := by decide +kernel
theorem d1_51 : decode method_3_code 51 = .ok (.lload 10, 2) := by decide +kernel
theorem d1_53 : decode method_3_code 53 = .ok (.lcmp, 1) := by decide +kernel
theorem d1_54 : decode method_3_code 54 = .ok (.ifCond .ge 6, 3) := by decide +kernel
theorem d1_57 : decode method_3_code 57 = .ok (.iconst 3, 1) := by decide +kernel
theorem d1_58 : decode method_3_code 58 = .ok (.istore 9, 2) := by decide +kernel
def Q_rmE4 (Z : State) (v0 : Int64) (v1 : Int64) (v2 : Int64) (v3 : Int64) (h0 : Heap) (n0 : Nat) (v : Option Value) (h : Heap) (L : List Loc) : Prop := v = some (.int (own_e (4 : Int32) v0 v1 v2 v3)) ∧ Fr n0 L ∧ h = h0
set_option maxRecDepth 65536 in
set_option maxHeartbeats 40000000 in
theorem rmE4 (l : Launch) (Z : State) (a0 : Array Value) (hw : ∀ d ∈ tables_1, d.before a0 Z = true) (ws : List Jvm.Cond) (v0 : Int64) (v1 : Int64) (v2 : Int64) (v3 : Int64) (h0 : Heap) (n0 : Nat) (Z0 : n0 ≤ h0.size) :
    MetFree l (⟨"com/example/hummingbird/hummingbird/engine/RhythmLeastWaitingPointPinLaw", "earliestLeast", "(IJJJJ)I"⟩ : MethodName) (head1 (Jvm.Cond.code (⟨"com/example/hummingbird/hummingbird/engine/RhythmLeastWaitingPointPinLaw", "earliestLeast", "(IJJJJ)I"⟩ : MethodName) method_3_code 12 (some .int) :: ws) ({ frames := 0, cells := 0, slots := 0, locals := 0 } : Room)) (fun a U => a = #[(.int (4 : Int32)), (.long v0), (.long v1), (.long v2), (.long v3)] ∧ Z.Warmed39 U.vm ∧ U.heap = h0) (fun _ _ _ _ _ => True) (fun _ U o U' => ∃ v L, o = .returned v ∧ Q_rmE4 Z v0 v1 v2 v3 h0 n0 v U'.heap L ∧ FrameEnd U o U' L ({ frames := 0, cells := 0, slots := 0, locals := 0 } : Room).cells ({ frames := 0, cells := 0, slots := 0, locals := 0 } : Room).slots) := by
  refine MetFree.of_bodySF (plainFor_of_name pn_1) hisR ?_
  intro p e s m args below meth c s₁ Bd hml0 hP hK
  obtain ⟨rfl, hZ, hh⟩ := hP
  have hx := Bd.exec
  have hby := Bd.bytes
  have hml : c.maxLocals = 12 := hml0
  have hown : s.vm.findClass "com/example/hummingbird/hummingbird/engine/RhythmLeastWaitingPointPinLaw" = some m.cls := findClass_of_methodNamed Bd.named
  have hnm := (name_of_methodNamed Bd.named Bd.method).1
  have X0 : Stand p l e ({ frames := 0, cells := 0, slots := 0, locals := 0 } : Room) s m #[(.int (4 : Int32)), (.long v0), (.long v1), (.long v2), (.long v3)] below meth c s₁ [] 0 0 := Stand.of_body Bd
  have e0 : s₁.heap = h0 := by rw [← hh, Bd.state]; rfl
  have N0 := Fr.nil n0
  have pre0 : ∀ t, Steps p.tables e below (s₁.setTop (mkF m 0 #[.val (.int (4 : Int32)), .val (.long v0), .second, .val (.long v1), .second, .val (.long v2), .second, .val (.long v3), .second, .unset, .unset, .unset] [])) t → Steps p.tables e below (s₁.setTop (entryFrame m #[(.int (4 : Int32)), (.long v0), (.long v1), (.long v2), (.long v3)] 12)) t := fun t k => castTop (ef_rmE4 m (4 : Int32) v0 v1 v2 v3) k
  have pre1 : ∀ t, Steps p.tables e below (s₁.setTop (mkF m 15 #[.val (.int (4 : Int32)), .val (.long v0), .second, .val (.long v1), .second, .val (.long v2), .second, .val (.long v3), .second, .val (.int (0 : Int32)), .val (.long v0), .second] [(.int (lcmpW v1 v0))])) t → Steps p.tables e below (s₁.setTop (entryFrame m #[(.int (4 : Int32)), (.long v0), (.long v1), (.long v2), (.long v3)] 12)) t := by
    intro t k
    refine pre0 t ?_
    show Steps p.tables e below (s₁.setTop (mkF m 0 #[.val (.int (4 : Int32)), .val (.long v0), .second, .val (.long v1), .second, .val (.long v2), .second, .val (.long v3), .second, .unset, .unset, .unset] [])) _
    refine XS.iconst X0.here hx rfl (hb hby d1_0) ?_
    show Steps p.tables e below (s₁.setTop (mkF m 1 #[.val (.int (4 : Int32)), .val (.long v0), .second, .val (.long v1), .second, .val (.long v2), .second, .val (.long v3), .second, .unset, .unset, .unset] [(.int (0 : Int32))])) _
    refine XS.istore X0.here hx rfl (hb hby d1_1) rfl (l' := #[.val (.int (4 : Int32)), .val (.long v0), .second, .val (.long v1), .second, .val (.long v2), .second, .val (.long v3), .second, .val (.int (0 : Int32)), .unset, .unset]) rfl ?_
    show Steps p.tables e below (s₁.setTop (mkF m 3 #[.val (.int (4 : Int32)), .val (.long v0), .second, .val (.long v1), .second, .val (.long v2), .second, .val (.long v3), .second, .val (.int (0 : Int32)), .unset, .unset] [])) _
    refine XS.lloadN X0.here hx rfl (hb hby d1_3) rfl ?_
    show Steps p.tables e below (s₁.setTop (mkF m 4 #[.val (.int (4 : Int32)), .val (.long v0), .second, .val (.long v1), .second, .val (.long v2), .second, .val (.long v3), .second, .val (.int (0 : Int32)), .unset, .unset] [(.long v0)])) _
    refine XS.lstore X0.here hx rfl (hb hby d1_4) rfl (l' := #[.val (.int (4 : Int32)), .val (.long v0), .second, .val (.long v1), .second, .val (.long v2), .second, .val (.long v3), .second, .val (.int (0 : Int32)), .val (.long v0), .second]) rfl ?_
    show Steps p.tables e below (s₁.setTop (mkF m 6 #[.val (.int (4 : Int32)), .val (.long v0), .second, .val (.long v1), .second, .val (.long v2), .second, .val (.long v3), .second, .val (.int (0 : Int32)), .val (.long v0), .second] [])) _
    refine XS.iloadN X0.here hx rfl (hb hby d1_6) rfl ?_
    show Steps p.tables e below (s₁.setTop (mkF m 7 #[.val (.int (4 : Int32)), .val (.long v0), .second, .val (.long v1), .second, .val (.long v2), .second, .val (.long v3), .second, .val (.int (0 : Int32)), .val (.long v0), .second] [(.int (4 : Int32))])) _
    refine XS.iconst X0.here hx rfl (hb hby d1_7) ?_
    show Steps p.tables e below (s₁.setTop (mkF m 8 #[.val (.int (4 : Int32)), .val (.long v0), .second, .val (.long v1), .second, .val (.long v2), .second, .val (.long v3), .second, .val (.int (0 : Int32)), .val (.long v0), .second] [(.int (1 : Int32)), (.int (4 : Int32))])) _
    refine XS.icmpNo X0.here hx rfl (hb hby d1_8) rfl (tlt (by decide : (1 : Int32) < (4 : Int32))).2.2.2 ?_
    show Steps p.tables e below (s₁.setTop (mkF m 11 #[.val (.int (4 : Int32)), .val (.long v0), .second, .val (.long v1), .second, .val (.long v2), .second, .val (.long v3), .second, .val (.int (0 : Int32)), .val (.long v0), .second] [])) _
    refine XS.lloadN X0.here hx rfl (hb hby d1_11) rfl ?_
    show Steps p.tables e below (s₁.setTop (mkF m 12 #[.val (.int (4 : Int32)), .val (.long v0), .second, .val (.long v1), .second, .val (.long v2), .second, .val (.long v3), .second, .val (.int (0 : Int32)), .val (.long v0), .second] [(.long v1)])) _
    refine XS.lload X0.here hx rfl (hb hby d1_12) rfl ?_
    show Steps p.tables e below (s₁.setTop (mkF m 14 #[.val (.int (4 : Int32)), .val (.long v0), .second, .val (.long v1), .second, .val (.long v2), .second, .val (.long v3), .second, .val (.int (0 : Int32)), .val (.long v0), .second] [(.long v0), (.long v1)])) _
    refine XS.lcmp X0.here hx rfl (hb hby d1_14) rfl ?_
    show Steps p.tables e below (s₁.setTop (mkF m 15 #[.val (.int (4 : Int32)), .val (.long v0), .second, .val (.long v1), .second, .val (.long v2), .second, .val (.long v3), .second, .val (.int (0 : Int32)), .val (.long v0), .second] [(.int (lcmpW v1 v0))])) _
    exact k
  by_cases c15_0 : v1 < v0
  · skip
    have pre2 : ∀ t, Steps p.tables e below (s₁.setTop (mkF m 34 #[.val (.int (4 : Int32)), .val (.long v0), .second, .val (.long v1), .second, .val (.long v2), .second, .val (.long v3), .second, .val (.int (1 : Int32)), .val (.long v1), .second] [(.int (lcmpW v2 v1))])) t → Steps p.tables e below (s₁.setTop (entryFrame m #[(.int (4 : Int32)), (.long v0), (.long v1), (.long v2), (.long v3)] 12)) t := by
      intro t k
      refine pre1 t ?_
      refine XS.ifNo X0.here hx rfl (hb hby d1_15) rfl ((if0 _ _).trans (tlt ((lw_lt v1 v0).mpr c15_0)).2.1) ?_
      show Steps p.tables e below (s₁.setTop (mkF m 18 #[.val (.int (4 : Int32)), .val (.long v0), .second, .val (.long v1), .second, .val (.long v2), .second, .val (.long v3), .second, .val (.int (0 : Int32)), .val (.long v0), .second] [])) _
      refine XS.iconst X0.here hx rfl (hb hby d1_18) ?_
      show Steps p.tables e below (s₁.setTop (mkF m 19 #[.val (.int (4 : Int32)), .val (.long v0), .second, .val (.long v1), .second, .val (.long v2), .second, .val (.long v3), .second, .val (.int (0 : Int32)), .val (.long v0), .second] [(.int (1 : Int32))])) _
      refine XS.istore X0.here hx rfl (hb hby d1_19) rfl (l' := #[.val (.int (4 : Int32)), .val (.long v0), .second, .val (.long v1), .second, .val (.long v2), .second, .val (.long v3), .second, .val (.int (1 : Int32)), .val (.long v0), .second]) rfl ?_
      show Steps p.tables e below (s₁.setTop (mkF m 21 #[.val (.int (4 : Int32)), .val (.long v0), .second, .val (.long v1), .second, .val (.long v2), .second, .val (.long v3), .second, .val (.int (1 : Int32)), .val (.long v0), .second] [])) _
      refine XS.lloadN X0.here hx rfl (hb hby d1_21) rfl ?_
      show Steps p.tables e below (s₁.setTop (mkF m 22 #[.val (.int (4 : Int32)), .val (.long v0), .second, .val (.long v1), .second, .val (.long v2), .second, .val (.long v3), .second, .val (.int (1 : Int32)), .val (.long v0), .second] [(.long v1)])) _
      refine XS.lstore X0.here hx rfl (hb hby d1_22) rfl (l' := #[.val (.int (4 : Int32)), .val (.long v0), .second, .val (.long v1), .second, .val (.long v2), .second, .val (.long v3), .second, .val (.int (1 : Int32)), .val (.long v1), .second]) rfl ?_
      show Steps p.tables e below (s₁.setTop (mkF m 24 #[.val (.int (4 : Int32)), .val (.long v0), .second, .val (.long v1), .second, .val (.long v2), .second, .val (.long v3), .second, .val (.int (1 : Int32)), .val (.long v1), .second] [])) _
      refine XS.iloadN X0.here hx rfl (hb hby d1_24) rfl ?_
      show Steps p.tables e below (s₁.setTop (mkF m 25 #[.val (.int (4 : Int32)), .val (.long v0), .second, .val (.long v1), .second, .val (.long v2), .second, .val (.long v3), .second, .val (.int (1 : Int32)), .val (.long v1), .second] [(.int (4 : Int32))])) _
      refine XS.iconst X0.here hx rfl (hb hby d1_25) ?_
      show Steps p.tables e below (s₁.setTop (mkF m 26 #[.val (.int (4 : Int32)), .val (.long v0), .second, .val (.long v1), .second, .val (.long v2), .second, .val (.long v3), .second, .val (.int (1 : Int32)), .val (.long v1), .second] [(.int (2 : Int32)), (.int (4 : Int32))])) _
      refine XS.icmpNo X0.here hx rfl (hb hby d1_26) rfl (tlt (by decide : (2 : Int32) < (4 : Int32))).2.2.2 ?_
      show Steps p.tables e below (s₁.setTop (mkF m 29 #[.val (.int (4 : Int32)), .val (.long v0), .second, .val (.long v1), .second, .val (.long v2), .second, .val (.long v3), .second, .val (.int (1 : Int32)), .val (.long v1), .second] [])) _
      refine XS.lload X0.here hx rfl (hb hby d1_29) rfl ?_
      show Steps p.tables e below (s₁.setTop (mkF m 31 #[.val (.int (4 : Int32)), .val (.long v0), .second, .val (.long v1), .second, .val (.long v2), .second, .val (.long v3), .second, .val (.int (1 : Int32)), .val (.long v1), .second] [(.long v2)])) _
      refine XS.lload X0.here hx rfl (hb hby d1_31) rfl ?_
      show Steps p.tables e below (s₁.setTop (mkF m 33 #[.val (.int (4 : Int32)), .val (.long v0), .second, .val (.long v1), .second, .val (.long v2), .second, .val (.long v3), .second, .val (.int (1 : Int32)), .val (.long v1), .second] [(.long v1), (.long v2)])) _
      refine XS.lcmp X0.here hx rfl (hb hby d1_33) rfl ?_
      show Steps p.tables e below (s₁.setTop (mkF m 34 #[.val (.int (4 : Int32)), .val (.long v0), .second, .val (.long v1), .second, .val (.long v2), .second, .val (.long v3), .second, .val (.int (1 : Int32)), .val (.long v1), .second] [(.int (lcmpW v2 v1))])) _
      exact k
    by_cases c34_1 : v2 < v1
    · skip
      have pre3 : ∀ t, Steps p.tables e below (s₁.setTop (mkF m 54 #[.val (.int (4 : Int32)), .val (.long v0), .second, .val (.long v1), .second, .val (.long v2), .second, .val (.long v3), .second, .val (.int (2 : Int32)), .val (.long v2), .second] [(.int (lcmpW v3 v2))])) t → Steps p.tables e below (s₁.setTop (entryFrame m #[(.int (4 : Int32)), (.long v0), (.long v1), (.long v2), (.long v3)] 12)) t := by
        intro t k
        refine pre2 t ?_
        refine XS.ifNo X0.here hx rfl (hb hby d1_34) rfl ((if0 _ _).trans (tlt ((lw_lt v2 v1).mpr c34_1)).2.1) ?_
        show Steps p.tables e below (s₁.setTop (mkF m 37 #[.val (.int (4 : Int32)), .val (.long v0), .second, .val (.long v1), .second, .val (.long v2), .second, .val (.long v3), .second, .val (.int (1 : Int32)), .val (.long v1), .second] [])) _
        refine XS.iconst X0.here hx rfl (hb hby d1_37) ?_
        show Steps p.tables e below (s₁.setTop (mkF m 38 #[.val (.int (4 : Int32)), .val (.long v0), .second, .val (.long v1), .second, .val (.long v2), .second, .val (.long v3), .second, .val (.int (1 : Int32)), .val (.long v1), .second] [(.int (2 : Int32))])) _
        refine XS.istore X0.here hx rfl (hb hby d1_38) rfl (l' := #[.val (.int (4 : Int32)), .val (.long v0), .second, .val (.long v1), .second, .val (.long v2), .second, .val (.long v3), .second, .val (.int (2 : Int32)), .val (.long v1), .second]) rfl ?_
        show Steps p.tables e below (s₁.setTop (mkF m 40 #[.val (.int (4 : Int32)), .val (.long v0), .second, .val (.long v1), .second, .val (.long v2), .second, .val (.long v3), .second, .val (.int (2 : Int32)), .val (.long v1), .second] [])) _
        refine XS.lload X0.here hx rfl (hb hby d1_40) rfl ?_
        show Steps p.tables e below (s₁.setTop (mkF m 42 #[.val (.int (4 : Int32)), .val (.long v0), .second, .val (.long v1), .second, .val (.long v2), .second, .val (.long v3), .second, .val (.int (2 : Int32)), .val (.long v1), .second] [(.long v2)])) _
        refine XS.lstore X0.here hx rfl (hb hby d1_42) rfl (l' := #[.val (.int (4 : Int32)), .val (.long v0), .second, .val (.long v1), .second, .val (.long v2), .second, .val (.long v3), .second, .val (.int (2 : Int32)), .val (.long v2), .second]) rfl ?_
        show Steps p.tables e below (s₁.setTop (mkF m 44 #[.val (.int (4 : Int32)), .val (.long v0), .second, .val (.long v1), .second, .val (.long v2), .second, .val (.long v3), .second, .val (.int (2 : Int32)), .val (.long v2), .second] [])) _
        refine XS.iloadN X0.here hx rfl (hb hby d1_44) rfl ?_
        show Steps p.tables e below (s₁.setTop (mkF m 45 #[.val (.int (4 : Int32)), .val (.long v0), .second, .val (.long v1), .second, .val (.long v2), .second, .val (.long v3), .second, .val (.int (2 : Int32)), .val (.long v2), .second] [(.int (4 : Int32))])) _
        refine XS.iconst X0.here hx rfl (hb hby d1_45) ?_
        show Steps p.tables e below (s₁.setTop (mkF m 46 #[.val (.int (4 : Int32)), .val (.long v0), .second, .val (.long v1), .second, .val (.long v2), .second, .val (.long v3), .second, .val (.int (2 : Int32)), .val (.long v2), .second] [(.int (3 : Int32)), (.int (4 : Int32))])) _
        refine XS.icmpNo X0.here hx rfl (hb hby d1_46) rfl (tlt (by decide : (3 : Int32) < (4 : Int32))).2.2.2 ?_
        show Steps p.tables e below (s₁.setTop (mkF m 49 #[.val (.int (4 : Int32)), .val (.long v0), .second, .val (.long v1), .second, .val (.long v2), .second, .val (.long v3), .second, .val (.int (2 : Int32)), .val (.long v2), .second] [])) _
        refine XS.lload X0.here hx rfl (hb hby d1_49) rfl ?_
        show Steps p.tables e below (s₁.setTop (mkF m 51 #[.val (.int (4 : Int32)), .val (.long v0), .second, .val (.long v1), .second, .val (.long v2), .second, .val (.long v3), .second, .val (.int (2 : Int32)), .val (.long v2), .second] [(.long v3)])) _
        refine XS.lload X0.here hx rfl (hb hby d1_51) rfl ?_
        show Steps p.tables e below (s₁.setTop (mkF m 53 #[.val (.int (4 : Int32)), .val (.long v0), .second, .val (.long v1), .second, .val (.long v2), .second, .val (.long v3), .second, .val (.int (2 : Int32)), .val (.long v2), .second] [(.long v2), (.long v3)])) _
        refine XS.lcmp X0.here hx rfl (hb hby d1_53) rfl ?_
        show Steps p.tables e below (s₁.setTop (mkF m 54 #[.val (.int (4 : Int32)), .val (.long v0), .second, .val (.long v1), .second, .val (.long v2), .second, .val (.long v3), .second, .val (.int (2 : Int32)), .val (.long v2), .second] [(.int (lcmpW v3 v2))])) _
        exact k
      by_cases c54_2 : v3 < v2
      · skip
        have pre4 : ∀ t, Steps p.tables e below (s₁.setTop (mkF m 62 #[.val (.int (4 : Int32)), .val (.long v0), .second, .val (.long v1), .second, .val (.long v2), .second, .val (.long v3), .second, .val (.int (3 : Int32)), .val (.long v2), .second] [(.int (3 : Int32))])) t → Steps p.tables e below (s₁.setTop (entryFrame m #[(.int (4 : Int32)), (.long v0), (.long v1), (.long v2), (.long v3)] 12)) t := by
          intro t k
          refine pre3 t ?_
          refine XS.ifNo X0.here hx rfl (hb hby d1_54) rfl ((if0 _ _).trans (tlt ((lw_lt v3 v2).mpr c54_2)).2.1) ?_
          show Steps p.tables e below (s₁.setTop (mkF m 57 #[.val (.int (4 : Int32)), .val (.long v0), .second, .val (.long v1), .second, .val (.long v2), .second, .val (.long v3), .second, .val (.int (2 : Int32)), .val (.long v2), .second] [])) _
          refine XS.iconst X0.here hx rfl (hb hby d1_57) ?_
          show Steps p.tables e below (s₁.setTop (mkF m 58 #[.val (.int (4 : Int32)), .val (.long v0), .second, .val (.long v1), .second, .val (.long v2), .second, .val (.long v3), .second, .val (.int (2 : Int32)), .val (.long v2), .second] [(.int (3 : Int32))])) _
          refine XS.istore X0.here hx rfl (hb hby d1_58) rfl (l' := #[.val (.int (4 : Int32)), .val (.long v0), .second, .val (.long v1), .second, .val (.long v2), .second, .val (.long v3), .second, .val (.int (3 : Int32)), .val (.long v2), .second]) rfl ?_
          show Steps p.tables e below (s₁.setTop (mkF m 60 #[.val (.int (4 : Int32)), .val (.long v0), .second, .val (.long v1), .second, .val (.long v2), .second, .val (.long v3), .second, .val (.int (3 : Int32)), .val (.long v2), .second] [])) _
          refine XS.iload X0.here hx rfl (hb hby d1_60) rfl ?_
          show Steps p.tables e below (s₁.setTop (mkF m 62 #[.val (.int (4 : Int32)), .val (.long v0), .second, .val (.long v1), .second, .val (.long v2), .second, .val (.long v3), .second, .val (.int (3 : Int32)), .val (.long v2), .second] [(.int (3 : Int32))])) _
          exact k
        obtain ⟨fs, hr, hrun, hended, hW, hsame⟩ := X0.leave (v := some (.int (3 : Int32))) (fun h => by rw [Bd.returns] at h; cases h)
        refine ⟨_, _, pre4 _ ?_, hrun, hended, _, _, rfl, ?_, ⟨_, rfl⟩, hW, hsame.mono (by decide) (by decide)⟩
        · exact retOut X0 hx Bd.returns rfl (Or.inl ⟨rfl, Or.inl rfl, _, rfl⟩) (hb hby d1_62) hr
        · show Q_rmE4 Z v0 v1 v2 v3 h0 n0 _ s₁.heap _
          rw [e0]
          exact ⟨by simp [own_e, own_e2, own_e3, own_e4, c15_0, c34_1, c54_2], N0, rfl⟩
      · skip
        have pre5 : ∀ t, Steps p.tables e below (s₁.setTop (mkF m 62 #[.val (.int (4 : Int32)), .val (.long v0), .second, .val (.long v1), .second, .val (.long v2), .second, .val (.long v3), .second, .val (.int (2 : Int32)), .val (.long v2), .second] [(.int (2 : Int32))])) t → Steps p.tables e below (s₁.setTop (entryFrame m #[(.int (4 : Int32)), (.long v0), (.long v1), (.long v2), (.long v3)] 12)) t := by
          intro t k
          refine pre3 t ?_
          refine XS.ifYes X0.here hx rfl (pc0 := 54) (pc' := 60) rfl (hb hby d1_54) rfl ((if0 _ _).trans (flt (mt (lw_lt v3 v2).mp c54_2)).2.1) (by decide) (by decide) ?_
          show Steps p.tables e below (s₁.setTop (mkF m 60 #[.val (.int (4 : Int32)), .val (.long v0), .second, .val (.long v1), .second, .val (.long v2), .second, .val (.long v3), .second, .val (.int (2 : Int32)), .val (.long v2), .second] [])) _
          refine XS.iload X0.here hx rfl (hb hby d1_60) rfl ?_
          show Steps p.tables e below (s₁.setTop (mkF m 62 #[.val (.int (4 : Int32)), .val (.long v0), .second, .val (.long v1), .second, .val (.long v2), .second, .val (.long v3), .second, .val (.int (2 : Int32)), .val (.long v2), .second] [(.int (2 : Int32))])) _
          exact k
        obtain ⟨fs, hr, hrun, hended, hW, hsame⟩ := X0.leave (v := some (.int (2 : Int32))) (fun h => by rw [Bd.returns] at h; cases h)
        refine ⟨_, _, pre5 _ ?_, hrun, hended, _, _, rfl, ?_, ⟨_, rfl⟩, hW, hsame.mono (by decide) (by decide)⟩
        · exact retOut X0 hx Bd.returns rfl (Or.inl ⟨rfl, Or.inl rfl, _, rfl⟩) (hb hby d1_62) hr
        · show Q_rmE4 Z v0 v1 v2 v3 h0 n0 _ s₁.heap _
          rw [e0]
          exact ⟨by simp [own_e, own_e2, own_e3, own_e4, c15_0, c34_1, c54_2], N0, rfl⟩
    · skip
      have pre6 : ∀ t, Steps p.tables e below (s₁.setTop (mkF m 54 #[.val (.int (4 : Int32)), .val (.long v0), .second, .val (.long v1), .second, .val (.long v2), .second, .val (.long v3), .second, .val (.int (1 : Int32)), .val (.long v1), .second] [(.int (lcmpW v3 v1))])) t → Steps p.tables e below (s₁.setTop (entryFrame m #[(.int (4 : Int32)), (.long v0), (.long v1), (.long v2), (.long v3)] 12)) t := by
        intro t k
        refine pre2 t ?_
        refine XS.ifYes X0.here hx rfl (pc0 := 34) (pc' := 44) rfl (hb hby d1_34) rfl ((if0 _ _).trans (flt (mt (lw_lt v2 v1).mp c34_1)).2.1) (by decide) (by decide) ?_
        show Steps p.tables e below (s₁.setTop (mkF m 44 #[.val (.int (4 : Int32)), .val (.long v0), .second, .val (.long v1), .second, .val (.long v2), .second, .val (.long v3), .second, .val (.int (1 : Int32)), .val (.long v1), .second] [])) _
        refine XS.iloadN X0.here hx rfl (hb hby d1_44) rfl ?_
        show Steps p.tables e below (s₁.setTop (mkF m 45 #[.val (.int (4 : Int32)), .val (.long v0), .second, .val (.long v1), .second, .val (.long v2), .second, .val (.long v3), .second, .val (.int (1 : Int32)), .val (.long v1), .second] [(.int (4 : Int32))])) _
        refine XS.iconst X0.here hx rfl (hb hby d1_45) ?_
        show Steps p.tables e below (s₁.setTop (mkF m 46 #[.val (.int (4 : Int32)), .val (.long v0), .second, .val (.long v1), .second, .val (.long v2), .second, .val (.long v3), .second, .val (.int (1 : Int32)), .val (.long v1), .second] [(.int (3 : Int32)), (.int (4 : Int32))])) _
        refine XS.icmpNo X0.here hx rfl (hb hby d1_46) rfl (tlt (by decide : (3 : Int32) < (4 : Int32))).2.2.2 ?_
        show Steps p.tables e below (s₁.setTop (mkF m 49 #[.val (.int (4 : Int32)), .val (.long v0), .second, .val (.long v1), .second, .val (.long v2), .second, .val (.long v3), .second, .val (.int (1 : Int32)), .val (.long v1), .second] [])) _
        refine XS.lload X0.here hx rfl (hb hby d1_49) rfl ?_
        show Steps p.tables e below (s₁.setTop (mkF m 51 #[.val (.int (4 : Int32)), .val (.long v0), .second, .val (.long v1), .second, .val (.long v2), .second, .val (.long v3), .second, .val (.int (1 : Int32)), .val (.long v1), .second] [(.long v3)])) _
        refine XS.lload X0.here hx rfl (hb hby d1_51) rfl ?_
        show Steps p.tables e below (s₁.setTop (mkF m 53 #[.val (.int (4 : Int32)), .val (.long v0), .second, .val (.long v1), .second, .val (.long v2), .second, .val (.long v3), .second, .val (.int (1 : Int32)), .val (.long v1), .second] [(.long v1), (.long v3)])) _
        refine XS.lcmp X0.here hx rfl (hb hby d1_53) rfl ?_
        show Steps p.tables e below (s₁.setTop (mkF m 54 #[.val (.int (4 : Int32)), .val (.long v0), .second, .val (.long v1), .second, .val (.long v2), .second, .val (.long v3), .second, .val (.int (1 : Int32)), .val (.long v1), .second] [(.int (lcmpW v3 v1))])) _
        exact k
      by_cases c54_2 : v3 < v1
      · skip
        have pre7 : ∀ t, Steps p.tables e below (s₁.setTop (mkF m 62 #[.val (.int (4 : Int32)), .val (.long v0), .second, .val (.long v1), .second, .val (.long v2), .second, .val (.long v3), .second, .val (.int (3 : Int32)), .val (.long v1), .second] [(.int (3 : Int32))])) t → Steps p.tables e below (s₁.setTop (entryFrame m #[(.int (4 : Int32)), (.long v0), (.long v1), (.long v2), (.long v3)] 12)) t := by
          intro t k
          refine pre6 t ?_
          refine XS.ifNo X0.here hx rfl (hb hby d1_54) rfl ((if0 _ _).trans (tlt ((lw_lt v3 v1).mpr c54_2)).2.1) ?_
          show Steps p.tables e below (s₁.setTop (mkF m 57 #[.val (.int (4 : Int32)), .val (.long v0), .second, .val (.long v1), .second, .val (.long v2), .second, .val (.long v3), .second, .val (.int (1 : Int32)), .val (.long v1), .second] [])) _
          refine XS.iconst X0.here hx rfl (hb hby d1_57) ?_
          show Steps p.tables e below (s₁.setTop (mkF m 58 #[.val (.int (4 : Int32)), .val (.long v0), .second, .val (.long v1), .second, .val (.long v2), .second, .val (.long v3), .second, .val (.int (1 : Int32)), .val (.long v1), .second] [(.int (3 : Int32))])) _
          refine XS.istore X0.here hx rfl (hb hby d1_58) rfl (l' := #[.val (.int (4 : Int32)), .val (.long v0), .second, .val (.long v1), .second, .val (.long v2), .second, .val (.long v3), .second, .val (.int (3 : Int32)), .val (.long v1), .second]) rfl ?_
          show Steps p.tables e below (s₁.setTop (mkF m 60 #[.val (.int (4 : Int32)), .val (.long v0), .second, .val (.long v1), .second, .val (.long v2), .second, .val (.long v3), .second, .val (.int (3 : Int32)), .val (.long v1), .second] [])) _
          refine XS.iload X0.here hx rfl (hb hby d1_60) rfl ?_
          show Steps p.tables e below (s₁.setTop (mkF m 62 #[.val (.int (4 : Int32)), .val (.long v0), .second, .val (.long v1), .second, .val (.long v2), .second, .val (.long v3), .second, .val (.int (3 : Int32)), .val (.long v1), .second] [(.int (3 : Int32))])) _
          exact k
        obtain ⟨fs, hr, hrun, hended, hW, hsame⟩ := X0.leave (v := some (.int (3 : Int32))) (fun h => by rw [Bd.returns] at h; cases h)
        refine ⟨_, _, pre7 _ ?_, hrun, hended, _, _, rfl, ?_, ⟨_, rfl⟩, hW, hsame.mono (by decide) (by decide)⟩
        · exact retOut X0 hx Bd.returns rfl (Or.inl ⟨rfl, Or.inl rfl, _, rfl⟩) (hb hby d1_62) hr
        · show Q_rmE4 Z v0 v1 v2 v3 h0 n0 _ s₁.heap _
          rw [e0]
          exact ⟨by simp [own_e, own_e2, own_e3, own_e4, c15_0, c34_1, c54_2], N0, rfl⟩
      · skip
        have pre8 : ∀ t, Steps p.tables e below (s₁.setTop (mkF m 62 #[.val (.int (4 : Int32)), .val (.long v0), .second, .val (.long v1), .second, .val (.long v2), .second, .val (.long v3), .second, .val (.int (1 : Int32)), .val (.long v1), .second] [(.int (1 : Int32))])) t → Steps p.tables e below (s₁.setTop (entryFrame m #[(.int (4 : Int32)), (.long v0), (.long v1), (.long v2), (.long v3)] 12)) t := by
          intro t k
          refine pre6 t ?_
          refine XS.ifYes X0.here hx rfl (pc0 := 54) (pc' := 60) rfl (hb hby d1_54) rfl ((if0 _ _).trans (flt (mt (lw_lt v3 v1).mp c54_2)).2.1) (by decide) (by decide) ?_
          show Steps p.tables e below (s₁.setTop (mkF m 60 #[.val (.int (4 : Int32)), .val (.long v0), .second, .val (.long v1), .second, .val (.long v2), .second, .val (.long v3), .second, .val (.int (1 : Int32)), .val (.long v1), .second] [])) _
          refine XS.iload X0.here hx rfl (hb hby d1_60) rfl ?_
          show Steps p.tables e below (s₁.setTop (mkF m 62 #[.val (.int (4 : Int32)), .val (.long v0), .second, .val (.long v1), .second, .val (.long v2), .second, .val (.long v3), .second, .val (.int (1 : Int32)), .val (.long v1), .second] [(.int (1 : Int32))])) _
          exact k
        obtain ⟨fs, hr, hrun, hended, hW, hsame⟩ := X0.leave (v := some (.int (1 : Int32))) (fun h => by rw [Bd.returns] at h; cases h)
        refine ⟨_, _, pre8 _ ?_, hrun, hended, _, _, rfl, ?_, ⟨_, rfl⟩, hW, hsame.mono (by decide) (by decide)⟩
        · exact retOut X0 hx Bd.returns rfl (Or.inl ⟨rfl, Or.inl rfl, _, rfl⟩) (hb hby d1_62) hr
        · show Q_rmE4 Z v0 v1 v2 v3 h0 n0 _ s₁.heap _
          rw [e0]
          exact ⟨by simp [own_e, own_e2, own_e3, own_e4, c15_0, c34_1, c54_2], N0, rfl⟩
  · skip
    have pre9 : ∀ t, Steps p.tables e below (s₁.setTop (mkF m 34 #[.val (.int (4 : Int32)), .val (.long v0), .second, .val (.long v1), .second, .val (.long v2), .second, .val (.long v3), .second, .val (.int (0 : Int32)), .val (.long v0), .second] [(.int (lcmpW v2 v0))])) t → Steps p.tables e below (s₁.setTop (entryFrame m #[(.int (4 : Int32)), (.long v0), (.long v1), (.long v2), (.long v3)] 12)) t := by
      intro t k
      refine pre1 t ?_
      refine XS.ifYes X0.here hx rfl (pc0 := 15) (pc' := 24) rfl (hb hby d1_15) rfl ((if0 _ _).trans (flt (mt (lw_lt v1 v0).mp c15_0)).2.1) (by decide) (by decide) ?_
      show Steps p.tables e below (s₁.setTop (mkF m 24 #[.val (.int (4 : Int32)), .val (.long v0), .second, .val (.long v1), .second, .val (.long v2), .second, .val (.long v3), .second, .val (.int (0 : Int32)), .val (.long v0), .second] [])) _
      refine XS.iloadN X0.here hx rfl (hb hby d1_24) rfl ?_
      show Steps p.tables e below (s₁.setTop (mkF m 25 #[.val (.int (4 : Int32)), .val (.long v0), .second, .val (.long v1), .second, .val (.long v2), .second, .val (.long v3), .second, .val (.int (0 : Int32)), .val (.long v0), .second] [(.int (4 : Int32))])) _
      refine XS.iconst X0.here hx rfl (hb hby d1_25) ?_
      show Steps p.tables e below (s₁.setTop (mkF m 26 #[.val (.int (4 : Int32)), .val (.long v0), .second, .val (.long v1), .second, .val (.long v2), .second, .val (.long v3), .second, .val (.int (0 : Int32)), .val (.long v0), .second] [(.int (2 : Int32)), (.int (4 : Int32))])) _
      refine XS.icmpNo X0.here hx rfl (hb hby d1_26) rfl (tlt (by decide : (2 : Int32) < (4 : Int32))).2.2.2 ?_
      show Steps p.tables e below (s₁.setTop (mkF m 29 #[.val (.int (4 : Int32)), .val (.long v0), .second, .val (.long v1), .second, .val (.long v2), .second, .val (.long v3), .second, .val (.int (0 : Int32)), .val (.long v0), .second] [])) _
      refine XS.lload X0.here hx rfl (hb hby d1_29) rfl ?_
      show Steps p.tables e below (s₁.setTop (mkF m 31 #[.val (.int (4 : Int32)), .val (.long v0), .second, .val (.long v1), .second, .val (.long v2), .second, .val (.long v3), .second, .val (.int (0 : Int32)), .val (.long v0), .second] [(.long v2)])) _
      refine XS.lload X0.here hx rfl (hb hby d1_31) rfl ?_
      show Steps p.tables e below (s₁.setTop (mkF m 33 #[.val (.int (4 : Int32)), .val (.long v0), .second, .val (.long v1), .second, .val (.long v2), .second, .val (.long v3), .second, .val (.int (0 : Int32)), .val (.long v0), .second] [(.long v0), (.long v2)])) _
      refine XS.lcmp X0.here hx rfl (hb hby d1_33) rfl ?_
      show Steps p.tables e below (s₁.setTop (mkF m 34 #[.val (.int (4 : Int32)), .val (.long v0), .second, .val (.long v1), .second, .val (.long v2), .second, .val (.long v3), .second, .val (.int (0 : Int32)), .val (.long v0), .second] [(.int (lcmpW v2 v0))])) _
      exact k
    by_cases c34_1 : v2 < v0
    · skip
      have pre10 : ∀ t, Steps p.tables e below (s₁.setTop (mkF m 54 #[.val (.int (4 : Int32)), .val (.long v0), .second, .val (.long v1), .second, .val (.long v2), .second, .val (.long v3), .second, .val (.int (2 : Int32)), .val (.long v2), .second] [(.int (lcmpW v3 v2))])) t → Steps p.tables e below (s₁.setTop (entryFrame m #[(.int (4 : Int32)), (.long v0), (.long v1), (.long v2), (.long v3)] 12)) t := by
        intro t k
        refine pre9 t ?_
        refine XS.ifNo X0.here hx rfl (hb hby d1_34) rfl ((if0 _ _).trans (tlt ((lw_lt v2 v0).mpr c34_1)).2.1) ?_
        show Steps p.tables e below (s₁.setTop (mkF m 37 #[.val (.int (4 : Int32)), .val (.long v0), .second, .val (.long v1), .second, .val (.long v2), .second, .val (.long v3), .second, .val (.int (0 : Int32)), .val (.long v0), .second] [])) _
        refine XS.iconst X0.here hx rfl (hb hby d1_37) ?_
        show Steps p.tables e below (s₁.setTop (mkF m 38 #[.val (.int (4 : Int32)), .val (.long v0), .second, .val (.long v1), .second, .val (.long v2), .second, .val (.long v3), .second, .val (.int (0 : Int32)), .val (.long v0), .second] [(.int (2 : Int32))])) _
        refine XS.istore X0.here hx rfl (hb hby d1_38) rfl (l' := #[.val (.int (4 : Int32)), .val (.long v0), .second, .val (.long v1), .second, .val (.long v2), .second, .val (.long v3), .second, .val (.int (2 : Int32)), .val (.long v0), .second]) rfl ?_
        show Steps p.tables e below (s₁.setTop (mkF m 40 #[.val (.int (4 : Int32)), .val (.long v0), .second, .val (.long v1), .second, .val (.long v2), .second, .val (.long v3), .second, .val (.int (2 : Int32)), .val (.long v0), .second] [])) _
        refine XS.lload X0.here hx rfl (hb hby d1_40) rfl ?_
        show Steps p.tables e below (s₁.setTop (mkF m 42 #[.val (.int (4 : Int32)), .val (.long v0), .second, .val (.long v1), .second, .val (.long v2), .second, .val (.long v3), .second, .val (.int (2 : Int32)), .val (.long v0), .second] [(.long v2)])) _
        refine XS.lstore X0.here hx rfl (hb hby d1_42) rfl (l' := #[.val (.int (4 : Int32)), .val (.long v0), .second, .val (.long v1), .second, .val (.long v2), .second, .val (.long v3), .second, .val (.int (2 : Int32)), .val (.long v2), .second]) rfl ?_
        show Steps p.tables e below (s₁.setTop (mkF m 44 #[.val (.int (4 : Int32)), .val (.long v0), .second, .val (.long v1), .second, .val (.long v2), .second, .val (.long v3), .second, .val (.int (2 : Int32)), .val (.long v2), .second] [])) _
        refine XS.iloadN X0.here hx rfl (hb hby d1_44) rfl ?_
        show Steps p.tables e below (s₁.setTop (mkF m 45 #[.val (.int (4 : Int32)), .val (.long v0), .second, .val (.long v1), .second, .val (.long v2), .second, .val (.long v3), .second, .val (.int (2 : Int32)), .val (.long v2), .second] [(.int (4 : Int32))])) _
        refine XS.iconst X0.here hx rfl (hb hby d1_45) ?_
        show Steps p.tables e below (s₁.setTop (mkF m 46 #[.val (.int (4 : Int32)), .val (.long v0), .second, .val (.long v1), .second, .val (.long v2), .second, .val (.long v3), .second, .val (.int (2 : Int32)), .val (.long v2), .second] [(.int (3 : Int32)), (.int (4 : Int32))])) _
        refine XS.icmpNo X0.here hx rfl (hb hby d1_46) rfl (tlt (by decide : (3 : Int32) < (4 : Int32))).2.2.2 ?_
        show Steps p.tables e below (s₁.setTop (mkF m 49 #[.val (.int (4 : Int32)), .val (.long v0), .second, .val (.long v1), .second, .val (.long v2), .second, .val (.long v3), .second, .val (.int (2 : Int32)), .val (.long v2), .second] [])) _
        refine XS.lload X0.here hx rfl (hb hby d1_49) rfl ?_
        show Steps p.tables e below (s₁.setTop (mkF m 51 #[.val (.int (4 : Int32)), .val (.long v0), .second, .val (.long v1), .second, .val (.long v2), .second, .val (.long v3), .second, .val (.int (2 : Int32)), .val (.long v2), .second] [(.long v3)])) _
        refine XS.lload X0.here hx rfl (hb hby d1_51) rfl ?_
        show Steps p.tables e below (s₁.setTop (mkF m 53 #[.val (.int (4 : Int32)), .val (.long v0), .second, .val (.long v1), .second, .val (.long v2), .second, .val (.long v3), .second, .val (.int (2 : Int32)), .val (.long v2), .second] [(.long v2), (.long v3)])) _
        refine XS.lcmp X0.here hx rfl (hb hby d1_53) rfl ?_
        show Steps p.tables e below (s₁.setTop (mkF m 54 #[.val (.int (4 : Int32)), .val (.long v0), .second, .val (.long v1), .second, .val (.long v2), .second, .val (.long v3), .second, .val (.int (2 : Int32)), .val (.long v2), .second] [(.int (lcmpW v3 v2))])) _
        exact k
      by_cases c54_2 : v3 < v2
      · skip
        have pre11 : ∀ t, Steps p.tables e below (s₁.setTop (mkF m 62 #[.val (.int (4 : Int32)), .val (.long v0), .second, .val (.long v1), .second, .val (.long v2), .second, .val (.long v3), .second, .val (.int (3 : Int32)), .val (.long v2), .second] [(.int (3 : Int32))])) t → Steps p.tables e below (s₁.setTop (entryFrame m #[(.int (4 : Int32)), (.long v0), (.long v1), (.long v2), (.long v3)] 12)) t := by
          intro t k
          refine pre10 t ?_
          refine XS.ifNo X0.here hx rfl (hb hby d1_54) rfl ((if0 _ _).trans (tlt ((lw_lt v3 v2).mpr c54_2)).2.1) ?_
          show Steps p.tables e below (s₁.setTop (mkF m 57 #[.val (.int (4 : Int32)), .val (.long v0), .second, .val (.long v1), .second, .val (.long v2), .second, .val (.long v3), .second, .val (.int (2 : Int32)), .val (.long v2), .second] [])) _
          refine XS.iconst X0.here hx rfl (hb hby d1_57) ?_
          show Steps p.tables e below (s₁.setTop (mkF m 58 #[.val (.int (4 : Int32)), .val (.long v0), .second, .val (.long v1), .second, .val (.long v2), .second, .val (.long v3), .second, .val (.int (2 : Int32)), .val (.long v2), .second] [(.int (3 : Int32))])) _
          refine XS.istore X0.here hx rfl (hb hby d1_58) rfl (l' := #[.val (.int (4 : Int32)), .val (.long v0), .second, .val (.long v1), .second, .val (.long v2), .second, .val (.long v3), .second, .val (.int (3 : Int32)), .val (.long v2), .second]) rfl ?_
          show Steps p.tables e below (s₁.setTop (mkF m 60 #[.val (.int (4 : Int32)), .val (.long v0), .second, .val (.long v1), .second, .val (.long v2), .second, .val (.long v3), .second, .val (.int (3 : Int32)), .val (.long v2), .second] [])) _
          refine XS.iload X0.here hx rfl (hb hby d1_60) rfl ?_
          show Steps p.tables e below (s₁.setTop (mkF m 62 #[.val (.int (4 : Int32)), .val (.long v0), .second, .val (.long v1), .second, .val (.long v2), .second, .val (.long v3), .second, .val (.int (3 : Int32)), .val (.long v2), .second] [(.int (3 : Int32))])) _
          exact k
        obtain ⟨fs, hr, hrun, hended, hW, hsame⟩ := X0.leave (v := some (.int (3 : Int32))) (fun h => by rw [Bd.returns] at h; cases h)
        refine ⟨_, _, pre11 _ ?_, hrun, hended, _, _, rfl, ?_, ⟨_, rfl⟩, hW, hsame.mono (by decide) (by decide)⟩
        · exact retOut X0 hx Bd.returns rfl (Or.inl ⟨rfl, Or.inl rfl, _, rfl⟩) (hb hby d1_62) hr
        · show Q_rmE4 Z v0 v1 v2 v3 h0 n0 _ s₁.heap _
          rw [e0]
          exact ⟨by simp [own_e, own_e2, own_e3, own_e4, c15_0, c34_1, c54_2], N0, rfl⟩
      · skip
        have pre12 : ∀ t, Steps p.tables e below (s₁.setTop (mkF m 62 #[.val (.int (4 : Int32)), .val (.long v0), .second, .val (.long v1), .second, .val (.long v2), .second, .val (.long v3), .second, .val (.int (2 : Int32)), .val (.long v2), .second] [(.int (2 : Int32))])) t → Steps p.tables e below (s₁.setTop (entryFrame m #[(.int (4 : Int32)), (.long v0), (.long v1), (.long v2), (.long v3)] 12)) t := by
          intro t k
          refine pre10 t ?_
          refine XS.ifYes X0.here hx rfl (pc0 := 54) (pc' := 60) rfl (hb hby d1_54) rfl ((if0 _ _).trans (flt (mt (lw_lt v3 v2).mp c54_2)).2.1) (by decide) (by decide) ?_
          show Steps p.tables e below (s₁.setTop (mkF m 60 #[.val (.int (4 : Int32)), .val (.long v0), .second, .val (.long v1), .second, .val (.long v2), .second, .val (.long v3), .second, .val (.int (2 : Int32)), .val (.long v2), .second] [])) _
          refine XS.iload X0.here hx rfl (hb hby d1_60) rfl ?_
          show Steps p.tables e below (s₁.setTop (mkF m 62 #[.val (.int (4 : Int32)), .val (.long v0), .second, .val (.long v1), .second, .val (.long v2), .second, .val (.long v3), .second, .val (.int (2 : Int32)), .val (.long v2), .second] [(.int (2 : Int32))])) _
          exact k
        obtain ⟨fs, hr, hrun, hended, hW, hsame⟩ := X0.leave (v := some (.int (2 : Int32))) (fun h => by rw [Bd.returns] at h; cases h)
        refine ⟨_, _, pre12 _ ?_, hrun, hended, _, _, rfl, ?_, ⟨_, rfl⟩, hW, hsame.mono (by decide) (by decide)⟩
        · exact retOut X0 hx Bd.returns rfl (Or.inl ⟨rfl, Or.inl rfl, _, rfl⟩) (hb hby d1_62) hr
        · show Q_rmE4 Z v0 v1 v2 v3 h0 n0 _ s₁.heap _
          rw [e0]
          exact ⟨by simp [own_e, own_e2, own_e3, own_e4, c15_0, c34_1, c54_2], N0, rfl⟩
    · skip
      have pre13 : ∀ t, Steps p.tables e below (s₁.setTop (mkF m 54 #[.val (.int (4 : Int32)), .val (.long v0), .second, .val (.long v1), .second, .val (.long v2), .second, .val (.long v3), .second, .val (.int (0 : Int32)), .val (.long v0), .second] [(.int (lcmpW v3 v0))])) t → Steps p.tables e below (s₁.setTop (entryFrame m #[(.int (4 : Int32)), (.long v0), (.long v1), (.long v2), (.long v3)] 12)) t := by
        intro t k
        refine pre9 t ?_
        refine XS.ifYes X0.here hx rfl (pc0 := 34) (pc' := 44) rfl (hb hby d1_34) rfl ((if0 _ _).trans (flt (mt (lw_lt v2 v0).mp c34_1)).2.1) (by decide) (by decide) ?_
        show Steps p.tables e below (s₁.setTop (mkF m 44 #[.val (.int (4 : Int32)), .val (.long v0), .second, .val (.long v1), .second, .val (.long v2), .second, .val (.long v3), .second, .val (.int (0 : Int32)), .val (.long v0), .second] [])) _
        refine XS.iloadN X0.here hx rfl (hb hby d1_44) rfl ?_
        show Steps p.tables e below (s₁.setTop (mkF m 45 #[.val (.int (4 : Int32)), .val (.long v0), .second, .val (.long v1), .second, .val (.long v2), .second, .val (.long v3), .second, .val (.int (0 : Int32)), .val (.long v0), .second] [(.int (4 : Int32))])) _
        refine XS.iconst X0.here hx rfl (hb hby d1_45) ?_
        show Steps p.tables e below (s₁.setTop (mkF m 46 #[.val (.int (4 : Int32)), .val (.long v0), .second, .val (.long v1), .second, .val (.long v2), .second, .val (.long v3), .second, .val (.int (0 : Int32)), .val (.long v0), .second] [(.int (3 : Int32)), (.int (4 : Int32))])) _
        refine XS.icmpNo X0.here hx rfl (hb hby d1_46) rfl (tlt (by decide : (3 : Int32) < (4 : Int32))).2.2.2 ?_
        show Steps p.tables e below (s₁.setTop (mkF m 49 #[.val (.int (4 : Int32)), .val (.long v0), .second, .val (.long v1), .second, .val (.long v2), .second, .val (.long v3), .second, .val (.int (0 : Int32)), .val (.long v0), .second] [])) _
        refine XS.lload X0.here hx rfl (hb hby d1_49) rfl ?_
        show Steps p.tables e below (s₁.setTop (mkF m 51 #[.val (.int (4 : Int32)), .val (.long v0), .second, .val (.long v1), .second, .val (.long v2), .second, .val (.long v3), .second, .val (.int (0 : Int32)), .val (.long v0), .second] [(.long v3)])) _
        refine XS.lload X0.here hx rfl (hb hby d1_51) rfl ?_
        show Steps p.tables e below (s₁.setTop (mkF m 53 #[.val (.int (4 : Int32)), .val (.long v0), .second, .val (.long v1), .second, .val (.long v2), .second, .val (.long v3), .second, .val (.int (0 : Int32)), .val (.long v0), .second] [(.long v0), (.long v3)])) _
        refine XS.lcmp X0.here hx rfl (hb hby d1_53) rfl ?_
        show Steps p.tables e below (s₁.setTop (mkF m 54 #[.val (.int (4 : Int32)), .val (.long v0), .second, .val (.long v1), .second, .val (.long v2), .second, .val (.long v3), .second, .val (.int (0 : Int32)), .val (.long v0), .second] [(.int (lcmpW v3 v0))])) _
        exact k
      by_cases c54_2 : v3 < v0
      · skip
        have pre14 : ∀ t, Steps p.tables e below (s₁.setTop (mkF m 62 #[.val (.int (4 : Int32)), .val (.long v0), .second, .val (.long v1), .second, .val (.long v2), .second, .val (.long v3), .second, .val (.int (3 : Int32)), .val (.long v0), .second] [(.int (3 : Int32))])) t → Steps p.tables e below (s₁.setTop (entryFrame m #[(.int (4 : Int32)), (.long v0), (.long v1), (.long v2), (.long v3)] 12)) t := by
          intro t k
          refine pre13 t ?_
          refine XS.ifNo X0.here hx rfl (hb hby d1_54) rfl ((if0 _ _).trans (tlt ((lw_lt v3 v0).mpr c54_2)).2.1) ?_
          show Steps p.tables e below (s₁.setTop (mkF m 57 #[.val (.int (4 : Int32)), .val (.long v0), .second, .val (.long v1), .second, .val (.long v2), .second, .val (.long v3), .second, .val (.int (0 : Int32)), .val (.long v0), .second] [])) _
          refine XS.iconst X0.here hx rfl (hb hby d1_57) ?_
          show Steps p.tables e below (s₁.setTop (mkF m 58 #[.val (.int (4 : Int32)), .val (.long v0), .second, .val (.long v1), .second, .val (.long v2), .second, .val (.long v3), .second, .val (.int (0 : Int32)), .val (.long v0), .second] [(.int (3 : Int32))])) _
          refine XS.istore X0.here hx rfl (hb hby d1_58) rfl (l' := #[.val (.int (4 : Int32)), .val (.long v0), .second, .val (.long v1), .second, .val (.long v2), .second, .val (.long v3), .second, .val (.int (3 : Int32)), .val (.long v0), .second]) rfl ?_
          show Steps p.tables e below (s₁.setTop (mkF m 60 #[.val (.int (4 : Int32)), .val (.long v0), .second, .val (.long v1), .second, .val (.long v2), .second, .val (.long v3), .second, .val (.int (3 : Int32)), .val (.long v0), .second] [])) _
          refine XS.iload X0.here hx rfl (hb hby d1_60) rfl ?_
          show Steps p.tables e below (s₁.setTop (mkF m 62 #[.val (.int (4 : Int32)), .val (.long v0), .second, .val (.long v1), .second, .val (.long v2), .second, .val (.long v3), .second, .val (.int (3 : Int32)), .val (.long v0), .second] [(.int (3 : Int32))])) _
          exact k
        obtain ⟨fs, hr, hrun, hended, hW, hsame⟩ := X0.leave (v := some (.int (3 : Int32))) (fun h => by rw [Bd.returns] at h; cases h)
        refine ⟨_, _, pre14 _ ?_, hrun, hended, _, _, rfl, ?_, ⟨_, rfl⟩, hW, hsame.mono (by decide) (by decide)⟩
        · exact retOut X0 hx Bd.returns rfl (Or.inl ⟨rfl, Or.inl rfl, _, rfl⟩) (hb hby d1_62) hr
        · show Q_rmE4 Z v0 v1 v2 v3 h0 n0 _ s₁.heap _
          rw [e0]
          exact ⟨by simp [own_e, own_e2, own_e3, own_e4, c15_0, c34_1, c54_2], N0, rfl⟩
      · skip
        have pre15 : ∀ t, Steps p.tables e below (s₁.setTop (mkF m 62 #[.val (.int (4 : Int32)), .val (.long v0), .second, .val (.long v1), .second, .val (.long v2), .second, .val (.long v3), .second, .val (.int (0 : Int32)), .val (.long v0), .second] [(.int (0 : Int32))])) t → Steps p.tables e below (s₁.setTop (entryFrame m #[(.int (4 : Int32)), (.long v0), (.long v1), (.long v2), (.long v3)] 12)) t := by
          intro t k
          refine pre13 t ?_
          refine XS.ifYes X0.here hx rfl (pc0 := 54) (pc' := 60) rfl (hb hby d1_54) rfl ((if0 _ _).trans (flt (mt (lw_lt v3 v0).mp c54_2)).2.1) (by decide) (by decide) ?_
          show Steps p.tables e below (s₁.setTop (mkF m 60 #[.val (.int (4 : Int32)), .val (.long v0), .second, .val (.long v1), .second, .val (.long v2), .second, .val (.long v3), .second, .val (.int (0 : Int32)), .val (.long v0), .second] [])) _
          refine XS.iload X0.here hx rfl (hb hby d1_60) rfl ?_
          show Steps p.tables e below (s₁.setTop (mkF m 62 #[.val (.int (4 : Int32)), .val (.long v0), .second, .val (.long v1), .second, .val (.long v2), .second, .val (.long v3), .second, .val (.int (0 : Int32)), .val (.long v0), .second] [(.int (0 : Int32))])) _
          exact k
        obtain ⟨fs, hr, hrun, hended, hW, hsame⟩ := X0.leave (v := some (.int (0 : Int32))) (fun h => by rw [Bd.returns] at h; cases h)
        refine ⟨_, _, pre15 _ ?_, hrun, hended, _, _, rfl, ?_, ⟨_, rfl⟩, hW, hsame.mono (by decide) (by decide)⟩
        · exact retOut X0 hx Bd.returns rfl (Or.inl ⟨rfl, Or.inl rfl, _, rfl⟩) (hb hby d1_62) hr
        · show Q_rmE4 Z v0 v1 v2 v3 h0 n0 _ s₁.heap _
          rw [e0]
          exact ⟨by simp [own_e, own_e2, own_e3, own_e4, c15_0, c34_1, c54_2], N0, rfl⟩
theorem ef_rmI (m : MethodId) (x0 : Addr) (x1 : Addr) : entryFrame m #[(.ref x0), (.ref x1)] 2 = mkF m 0 #[.val (.ref x0), .val (.ref x1)] [] := by first | (simp [entryFrame, mkF, argsToLocals, Value.category]; done) | rfl
theorem pn_0 : plainName "com/example/hummingbird/hummingbird/engine/Rhythm" = true := by first | (simp [plainName, overriddenIn]; done) | decide +kernel
theorem d2_0 : decode prog_9_method_1_code 0 = .ok (.aload_n 0, 1) := by decide +kernel
theorem d2_1 : decode prog_9_method_1_code 1 = .ok (.invokespecial 3, 3) := by decide +kernel
theorem d2_4 : decode prog_9_method_1_code 4 = .ok (.aload_n 0, 1) := by decide +kernel
theorem d2_5 : decode prog_9_method_1_code 5 = .ok (.aload_n 1, 1) := by decide +kernel
theorem d2_6 : decode prog_9_method_1_code 6 = .ok (.arraylength, 1) := by decide +kernel
theorem d2_7 : decode prog_9_method_1_code 7 = .ok (.putfield 9, 3) := by decide +kernel
theorem d2_10 : decode prog_9_method_1_code 10 = .ok (.aload_n 0, 1) := by decide +kernel
theorem d2_11 : decode prog_9_method_1_code 11 = .ok (.aload_n 1, 1) := by decide +kernel
theorem d2_12 : decode prog_9_method_1_code 12 = .ok (.putfield 13, 3) := by decide +kernel
theorem d2_15 : decode prog_9_method_1_code 15 = .ok (.return_, 1) := by decide +kernel
def Q_rmI (Z : State) (a1 : Addr) (a2 : Addr) (cl : Cell) (zn : Int32) (h0 : Heap) (n0 : Nat) (v : Option Value) (h : Heap) (L : List Loc) : Prop := v = none ∧ Fr n0 L ∧ Keep h0 h [a1] ∧ Exa Z h a1 "com/example/hummingbird/hummingbird/engine/Rhythm" ∧ Fld Z h a1 "com/example/hummingbird/hummingbird/engine/Rhythm" "points" "I" (.int zn) ∧ Fld Z h a1 "com/example/hummingbird/hummingbird/engine/Rhythm" "rates" "[J" (.ref a2)
set_option maxRecDepth 65536 in
set_option maxHeartbeats 40000000 in
theorem rmI (l : Launch) (Z : State) (a0 : Array Value) (hw : ∀ d ∈ tables_1, d.before a0 Z = true) (ws : List Jvm.Cond) (a1 : Addr) (a2 : Addr) (cl : Cell) (zn : Int32) (h0 : Heap) (n0 : Nat) (Z0 : n0 ≤ h0.size) (F1 : Fld Z h0 a1 "com/example/hummingbird/hummingbird/engine/Rhythm" "points" "I" (.int (0 : Int32))) (F2 : Fld Z h0 a1 "com/example/hummingbird/hummingbird/engine/Rhythm" "rates" "[J" .null) (E1 : Exa Z h0 a1 "com/example/hummingbird/hummingbird/engine/Rhythm") (g_a1 : n0 ≤ a1) (Ar : Arr Z h0 a2 cl .long) (Sz : cl.slots.size = zn.toNatClampNeg) (Mz : ¬ zn < 0) :
    MetFree l (⟨"com/example/hummingbird/hummingbird/engine/Rhythm", "<init>", "([J)V"⟩ : MethodName) (head1 (Jvm.Cond.code (⟨"com/example/hummingbird/hummingbird/engine/Rhythm", "<init>", "([J)V"⟩ : MethodName) prog_9_method_1_code 2 none :: ws) ({ frames := 1, cells := 0, slots := 0, locals := 12 } : Room)) (fun a U => a = #[(.ref a1), (.ref a2)] ∧ Z.Warmed39 U.vm ∧ U.heap = h0) (fun _ _ _ _ _ => True) (fun _ U o U' => ∃ v L, o = .returned v ∧ Q_rmI Z a1 a2 cl zn h0 n0 v U'.heap L ∧ FrameEnd U o U' L ({ frames := 1, cells := 0, slots := 0, locals := 12 } : Room).cells ({ frames := 1, cells := 0, slots := 0, locals := 12 } : Room).slots) := by
  refine MetFree.of_bodySF (plainFor_of_name pn_0) hisR ?_
  intro p e s m args below meth c s₁ Bd hml0 hP hK
  obtain ⟨rfl, hZ, hh⟩ := hP
  have hx := Bd.exec
  have hby := Bd.bytes
  have hml : c.maxLocals = 2 := hml0
  have hown : s.vm.findClass "com/example/hummingbird/hummingbird/engine/Rhythm" = some m.cls := findClass_of_methodNamed Bd.named
  have hnm := (name_of_methodNamed Bd.named Bd.method).1
  have X0 : Stand p l e ({ frames := 1, cells := 0, slots := 0, locals := 12 } : Room) s m #[(.ref a1), (.ref a2)] below meth c s₁ [] 0 0 := Stand.of_body Bd
  have e0 : s₁.heap = h0 := by rw [← hh, Bd.state]; rfl
  have N0 := Fr.nil n0
  have pre0 : ∀ t, Steps p.tables e below (s₁.setTop (mkF m 0 #[.val (.ref a1), .val (.ref a2)] [])) t → Steps p.tables e below (s₁.setTop (entryFrame m #[(.ref a1), (.ref a2)] 2)) t := fun t k => castTop (ef_rmI m a1 a2) k
  obtain ⟨T1, X1, e1, st1⟩ := initO X0 hx hZ hown (hw _ (List.mem_of_getElem? (i := 12) rfl)) (hw _ (List.mem_of_getElem? (i := 13) rfl)) (hw _ (List.mem_of_getElem? (i := 14) rfl)) e0 (g := (mkF m 1 #[.val (.ref a1), .val (.ref a2)] [(.ref a1)])) rfl (by rw [hml]; rfl) rfl (hb hby d2_1) (by decide) (W := 0) (by show 2 * 0 + _ ≤ _; exact Nat.le_of_eq rfl) (by decide)
  obtain ⟨T2, h2, X2, e2, W2, st2⟩ := putF X1 hx hZ hown (host := "") (Or.inl (hw _ (List.mem_of_getElem? (i := 15) rfl))) Via.refl e1 F1 E1 (Or.inr ⟨(hw _ (List.mem_of_getElem? (i := 16) rfl)), rfl, hnm⟩) (hw _ (List.mem_of_getElem? (i := 7) rfl)) (ty := .int) (by decide) rfl rfl (g := (mkF m 7 #[.val (.ref a1), .val (.ref a2)] [(.int zn), (.ref a1)])) rfl rfl (hb hby d2_7)
  have Fw2 := F1.same W2
  have K2 : Keep h0 h2 [a1] := (Keep.refl h0 [a1]).wr W2 (Or.inl (List.mem_of_getElem? (i := 0) rfl))
  have N2 := Fr.snoc X2 N0 g_a1
  obtain ⟨T3, h3, X3, e3, W3, st3⟩ := putF X2 hx hZ hown (host := "") (Or.inl (hw _ (List.mem_of_getElem? (i := 17) rfl))) Via.refl e2 (F2.other W2 (Or.inr (slot_ne (Or.inr (hw _ (List.mem_of_getElem? (i := 18) rfl))) (Or.inr (hw _ (List.mem_of_getElem? (i := 16) rfl))) (by decide) (t := (.array .long)) (t' := .int) (by decide) (by decide)))) (E1.wr W2) (Or.inr ⟨(hw _ (List.mem_of_getElem? (i := 18) rfl)), rfl, hnm⟩) (hw _ (List.mem_of_getElem? (i := 7) rfl)) (ty := (.array .long)) (by decide) rfl rfl (g := (mkF m 12 #[.val (.ref a1), .val (.ref a2)] [(.ref a2), (.ref a1)])) rfl rfl (hb hby d2_12)
  have Fw3 := (F2.other W2 (Or.inr (slot_ne (Or.inr (hw _ (List.mem_of_getElem? (i := 18) rfl))) (Or.inr (hw _ (List.mem_of_getElem? (i := 16) rfl))) (by decide) (t := (.array .long)) (t' := .int) (by decide) (by decide)))).same W3
  have K3 : Keep h0 h3 [a1] := K2.wr W3 (Or.inl (List.mem_of_getElem? (i := 0) rfl))
  have N3 := Fr.snoc X3 N2 g_a1
  have pre4 : ∀ t, Steps p.tables e below (T3.setTop (mkF m 15 #[.val (.ref a1), .val (.ref a2)] [])) t → Steps p.tables e below (s₁.setTop (entryFrame m #[(.ref a1), (.ref a2)] 2)) t := by
    intro t k
    refine pre0 t ?_
    show Steps p.tables e below (s₁.setTop (mkF m 0 #[.val (.ref a1), .val (.ref a2)] [])) _
    refine XS.aloadN X0.here hx rfl (hb hby d2_0) rfl (rfl) ?_
    show Steps p.tables e below (s₁.setTop (mkF m 1 #[.val (.ref a1), .val (.ref a2)] [(.ref a1)])) _
    refine st1 _ ?_
    show Steps p.tables e below (T1.setTop (mkF m 4 #[.val (.ref a1), .val (.ref a2)] [])) _
    refine XS.aloadN X1.here hx rfl (hb hby d2_4) rfl (rfl) ?_
    show Steps p.tables e below (T1.setTop (mkF m 5 #[.val (.ref a1), .val (.ref a2)] [(.ref a1)])) _
    refine XS.aloadN X1.here hx rfl (hb hby d2_5) rfl (rfl) ?_
    show Steps p.tables e below (T1.setTop (mkF m 6 #[.val (.ref a1), .val (.ref a2)] [(.ref a2), (.ref a1)])) _
    refine X1.arraylength hx (by rw [e1]; exact Ar.1) (State.isArrayOf_alike hZ.alike Ar.2.1) (g := (mkF m 6 #[.val (.ref a1), .val (.ref a2)] [(.ref a2), (.ref a1)])) rfl rfl (hb hby d2_6) _ ?_
    rw [len_of Sz Mz]
    show Steps p.tables e below (T1.setTop (mkF m 7 #[.val (.ref a1), .val (.ref a2)] [(.int zn), (.ref a1)])) _
    refine st2 _ ?_
    show Steps p.tables e below (T2.setTop (mkF m 10 #[.val (.ref a1), .val (.ref a2)] [])) _
    refine XS.aloadN X2.here hx rfl (hb hby d2_10) rfl (rfl) ?_
    show Steps p.tables e below (T2.setTop (mkF m 11 #[.val (.ref a1), .val (.ref a2)] [(.ref a1)])) _
    refine XS.aloadN X2.here hx rfl (hb hby d2_11) rfl (rfl) ?_
    show Steps p.tables e below (T2.setTop (mkF m 12 #[.val (.ref a1), .val (.ref a2)] [(.ref a2), (.ref a1)])) _
    refine st3 _ ?_
    show Steps p.tables e below (T3.setTop (mkF m 15 #[.val (.ref a1), .val (.ref a2)] [])) _
    exact k
  obtain ⟨fs, hr, hrun, hended, hW, hsame⟩ := X3.leave (v := none) (fun _ => rfl)
  refine ⟨_, _, pre4 _ ?_, hrun, hended, _, _, rfl, ?_, ⟨_, rfl⟩, hW, hsame.mono (by decide) (by decide)⟩
  · exact X3.returnOut hx Bd.returns (hb hby d2_15) hr
  · show Q_rmI Z a1 a2 cl zn h0 n0 _ T3.heap _
    rw [e3]
    exact ⟨rfl, N3, K3, ((E1.wr W2).wr W3), (Fw2.other W3 (Or.inr (slot_ne (Or.inr (hw _ (List.mem_of_getElem? (i := 16) rfl))) (Or.inr (hw _ (List.mem_of_getElem? (i := 18) rfl))) (by decide) (t := .int) (t' := (.array .long)) (by decide) (by decide)))), Fw3⟩
theorem ef_rmD1 (m : MethodId) (x0 : Addr) : entryFrame m #[(.ref x0)] 8 = mkF m 0 #[.val (.ref x0), .unset, .unset, .unset, .unset, .unset, .unset, .unset] [] := by first | (simp [entryFrame, mkF, argsToLocals, Value.category]; done) | rfl
theorem d5_0 : decode prog_9_method_10_code 0 = .ok (.lconst 0, 1) := by decide +kernel
theorem d5_1 : decode prog_9_method_10_code 1 = .ok (.lstore_n 1, 1) := by decide +kernel
theorem d5_2 : decode prog_9_method_10_code 2 = .ok (.aload_n 0, 1) := by decide +kernel
theorem d5_3 : decode prog_9_method_10_code 3 = .ok (.getfield 13, 3) := by decide +kernel
theorem d5_6 : decode prog_9_method_10_code 6 = .ok (.astore_n 3, 1) := by decide +kernel
theorem d5_7 : decode prog_9_method_10_code 7 = .ok (.aload_n 3, 1) := by decide +kernel
theorem d5_8 : decode prog_9_method_10_code 8 = .ok (.arraylength, 1) := by decide +kernel
theorem d5_9 : decode prog_9_method_10_code 9 = .ok (.istore 4, 2) := by decide +kernel
theorem d5_11 : decode prog_9_method_10_code 11 = .ok (.iconst 0, 1) := by decide +kernel
theorem d5_12 : decode prog_9_method_10_code 12 = .ok (.istore 5, 2) := by decide +kernel
theorem d5_14 : decode prog_9_method_10_code 14 = .ok (.iload 5, 2) := by decide +kernel
theorem d5_16 : decode prog_9_method_10_code 16 = .ok (.iload 4, 2) := by decide +kernel
theorem d5_18 : decode prog_9_method_10_code 18 = .ok (.if_icmp .ge 24, 3) := by decide +kernel
theorem d5_21 : decode prog_9_method_10_code 21 = .ok (.aload_n 3, 1) := by decide +kernel
theorem d5_22 : decode prog_9_method_10_code 22 = .ok (.iload 5, 2) := by decide +kernel
theorem d5_24 : decode prog_9_method_10_code 24 = .ok (.laload, 1) := by decide +kernel
theorem d5_25 : decode prog_9_method_10_code 25 = .ok (.lstore 6, 2) := by decide +kernel
theorem d5_27 : decode prog_9_method_10_code 27 = .ok (.lload_n 1, 1) := by decide +kernel
theorem d5_28 : decode prog_9_method_10_code 28 = .ok (.ldc2_w 17, 3) := by decide +kernel
theorem d5_31 : decode prog_9_method_10_code 31 = .ok (.lload 6, 2) := by decide +kernel
theorem d5_33 : decode prog_9_method_10_code 33 = .ok (.lmul, 1) := by decide +kernel
theorem d5_34 : decode prog_9_method_10_code 34 = .ok (.ladd, 1) := by decide +kernel
theorem d5_35 : decode prog_9_method_10_code 35 = .ok (.lstore_n 1, 1) := by decide +kernel
theorem d5_36 : decode prog_9_method_10_code 36 = .ok (.iinc 5 1, 3) := by decide +kernel
theorem d5_39 : decode prog_9_method_10_code 39 = .ok (.goto (-25), 3) := by decide +kernel
theorem d5_42 : decode prog_9_method_10_code 42 = .ok (.lload_n 1, 1) := by decide +kernel
theorem d5_43 : decode prog_9_method_10_code 43 = .ok (.lreturn, 1) := by decide +kernel
def Q_rmD1 (Z : State) (a1 : Addr) (a2 : Addr) (cl : Cell) (ra : Int64) (h0 : Heap) (n0 : Nat) (v : Option Value) (h : Heap) (L : List Loc) : Prop := v = some (.long ((0 : Int64) + ((2 : Int64) * ra))) ∧ Fr n0 L ∧ h = h0
set_option maxRecDepth 65536 in
set_option maxHeartbeats 40000000 in
theorem rmD1 (l : Launch) (Z : State) (a0 : Array Value) (hw : ∀ d ∈ tables_1, d.before a0 Z = true) (ws : List Jvm.Cond) (a1 : Addr) (a2 : Addr) (cl : Cell) (ra : Int64) (h0 : Heap) (n0 : Nat) (Z0 : n0 ≤ h0.size) (F2 : Fld Z h0 a1 "com/example/hummingbird/hummingbird/engine/Rhythm" "rates" "[J" (.ref a2)) (Ar : Arr Z h0 a2 cl .long) (Sz : cl.slots.size = (1 : Int32).toNatClampNeg) (t0 : cl.slots[0]? = some (.long ra)) :
    MetFree l (⟨"com/example/hummingbird/hummingbird/engine/Rhythm", "dayMass", "()J"⟩ : MethodName) (head1 (Jvm.Cond.code (⟨"com/example/hummingbird/hummingbird/engine/Rhythm", "dayMass", "()J"⟩ : MethodName) prog_9_method_10_code 8 (some .long) :: ws) ({ frames := 0, cells := 0, slots := 0, locals := 0 } : Room)) (fun a U => a = #[(.ref a1)] ∧ Z.Warmed39 U.vm ∧ U.heap = h0) (fun _ _ _ _ _ => True) (fun _ U o U' => ∃ v L, o = .returned v ∧ Q_rmD1 Z a1 a2 cl ra h0 n0 v U'.heap L ∧ FrameEnd U o U' L ({ frames := 0, cells := 0, slots := 0, locals := 0 } : Room).cells ({ frames := 0, cells := 0, slots := 0, locals := 0 } : Room).slots) := by
  refine MetFree.of_bodySF (plainFor_of_name pn_0) hisR ?_
  intro p e s m args below meth c s₁ Bd hml0 hP hK
  obtain ⟨rfl, hZ, hh⟩ := hP
  have hx := Bd.exec
  have hby := Bd.bytes
  have hml : c.maxLocals = 8 := hml0
  have hown : s.vm.findClass "com/example/hummingbird/hummingbird/engine/Rhythm" = some m.cls := findClass_of_methodNamed Bd.named
  have hnm := (name_of_methodNamed Bd.named Bd.method).1
  have X0 : Stand p l e ({ frames := 0, cells := 0, slots := 0, locals := 0 } : Room) s m #[(.ref a1)] below meth c s₁ [] 0 0 := Stand.of_body Bd
  have e0 : s₁.heap = h0 := by rw [← hh, Bd.state]; rfl
  have N0 := Fr.nil n0
  have pre0 : ∀ t, Steps p.tables e below (s₁.setTop (mkF m 0 #[.val (.ref a1), .unset, .unset, .unset, .unset, .unset, .unset, .unset] [])) t → Steps p.tables e below (s₁.setTop (entryFrame m #[(.ref a1)] 8)) t := fun t k => castTop (ef_rmD1 m a1) k
  obtain ⟨T1, X1, e1, st1⟩ := getF X0 hx hZ hown (host := "") (Or.inl (hw _ (List.mem_of_getElem? (i := 17) rfl))) Via.refl e0 F2 (g := (mkF m 3 #[.val (.ref a1), .val (.long (0 : Int64)), .second, .unset, .unset, .unset, .unset, .unset] [(.ref a1)])) rfl rfl (hb hby d5_3)
  have pre2 : ∀ t, Steps p.tables e below (T1.setTop (mkF m 43 #[.val (.ref a1), .val (.long ((0 : Int64) + ((2 : Int64) * ra))), .second, .val (.ref a2), .val (.int (1 : Int32)), .val (.int (1 : Int32)), .val (.long ra), .second] [(.long ((0 : Int64) + ((2 : Int64) * ra)))])) t → Steps p.tables e below (s₁.setTop (entryFrame m #[(.ref a1)] 8)) t := by
    intro t k
    refine pre0 t ?_
    show Steps p.tables e below (s₁.setTop (mkF m 0 #[.val (.ref a1), .unset, .unset, .unset, .unset, .unset, .unset, .unset] [])) _
    refine XS.lconst X0.here hx rfl (hb hby d5_0) ?_
    show Steps p.tables e below (s₁.setTop (mkF m 1 #[.val (.ref a1), .unset, .unset, .unset, .unset, .unset, .unset, .unset] [(.long (0 : Int64))])) _
    refine XS.lstoreN X0.here hx rfl (hb hby d5_1) rfl (l' := #[.val (.ref a1), .val (.long (0 : Int64)), .second, .unset, .unset, .unset, .unset, .unset]) rfl ?_
    show Steps p.tables e below (s₁.setTop (mkF m 2 #[.val (.ref a1), .val (.long (0 : Int64)), .second, .unset, .unset, .unset, .unset, .unset] [])) _
    refine XS.aloadN X0.here hx rfl (hb hby d5_2) rfl (rfl) ?_
    show Steps p.tables e below (s₁.setTop (mkF m 3 #[.val (.ref a1), .val (.long (0 : Int64)), .second, .unset, .unset, .unset, .unset, .unset] [(.ref a1)])) _
    refine st1 _ ?_
    show Steps p.tables e below (T1.setTop (mkF m 6 #[.val (.ref a1), .val (.long (0 : Int64)), .second, .unset, .unset, .unset, .unset, .unset] [(.ref a2)])) _
    refine XS.astoreN X1.here hx rfl (hb hby d5_6) rfl (rfl) (l' := #[.val (.ref a1), .val (.long (0 : Int64)), .second, .val (.ref a2), .unset, .unset, .unset, .unset]) rfl ?_
    show Steps p.tables e below (T1.setTop (mkF m 7 #[.val (.ref a1), .val (.long (0 : Int64)), .second, .val (.ref a2), .unset, .unset, .unset, .unset] [])) _
    refine XS.aloadN X1.here hx rfl (hb hby d5_7) rfl (rfl) ?_
    show Steps p.tables e below (T1.setTop (mkF m 8 #[.val (.ref a1), .val (.long (0 : Int64)), .second, .val (.ref a2), .unset, .unset, .unset, .unset] [(.ref a2)])) _
    refine X1.arraylength hx (by rw [e1]; exact Ar.1) (State.isArrayOf_alike hZ.alike Ar.2.1) (g := (mkF m 8 #[.val (.ref a1), .val (.long (0 : Int64)), .second, .val (.ref a2), .unset, .unset, .unset, .unset] [(.ref a2)])) rfl rfl (hb hby d5_8) _ ?_
    rw [len_of Sz (by decide)]
    show Steps p.tables e below (T1.setTop (mkF m 9 #[.val (.ref a1), .val (.long (0 : Int64)), .second, .val (.ref a2), .unset, .unset, .unset, .unset] [(.int (1 : Int32))])) _
    refine XS.istore X1.here hx rfl (hb hby d5_9) rfl (l' := #[.val (.ref a1), .val (.long (0 : Int64)), .second, .val (.ref a2), .val (.int (1 : Int32)), .unset, .unset, .unset]) rfl ?_
    show Steps p.tables e below (T1.setTop (mkF m 11 #[.val (.ref a1), .val (.long (0 : Int64)), .second, .val (.ref a2), .val (.int (1 : Int32)), .unset, .unset, .unset] [])) _
    refine XS.iconst X1.here hx rfl (hb hby d5_11) ?_
    show Steps p.tables e below (T1.setTop (mkF m 12 #[.val (.ref a1), .val (.long (0 : Int64)), .second, .val (.ref a2), .val (.int (1 : Int32)), .unset, .unset, .unset] [(.int (0 : Int32))])) _
    refine XS.istore X1.here hx rfl (hb hby d5_12) rfl (l' := #[.val (.ref a1), .val (.long (0 : Int64)), .second, .val (.ref a2), .val (.int (1 : Int32)), .val (.int (0 : Int32)), .unset, .unset]) rfl ?_
    show Steps p.tables e below (T1.setTop (mkF m 14 #[.val (.ref a1), .val (.long (0 : Int64)), .second, .val (.ref a2), .val (.int (1 : Int32)), .val (.int (0 : Int32)), .unset, .unset] [])) _
    refine XS.iload X1.here hx rfl (hb hby d5_14) rfl ?_
    show Steps p.tables e below (T1.setTop (mkF m 16 #[.val (.ref a1), .val (.long (0 : Int64)), .second, .val (.ref a2), .val (.int (1 : Int32)), .val (.int (0 : Int32)), .unset, .unset] [(.int (0 : Int32))])) _
    refine XS.iload X1.here hx rfl (hb hby d5_16) rfl ?_
    show Steps p.tables e below (T1.setTop (mkF m 18 #[.val (.ref a1), .val (.long (0 : Int64)), .second, .val (.ref a2), .val (.int (1 : Int32)), .val (.int (0 : Int32)), .unset, .unset] [(.int (1 : Int32)), (.int (0 : Int32))])) _
    refine XS.icmpNo X1.here hx rfl (hb hby d5_18) rfl (tlt (by decide : (0 : Int32) < (1 : Int32))).2.1 ?_
    show Steps p.tables e below (T1.setTop (mkF m 21 #[.val (.ref a1), .val (.long (0 : Int64)), .second, .val (.ref a2), .val (.int (1 : Int32)), .val (.int (0 : Int32)), .unset, .unset] [])) _
    refine XS.aloadN X1.here hx rfl (hb hby d5_21) rfl (rfl) ?_
    show Steps p.tables e below (T1.setTop (mkF m 22 #[.val (.ref a1), .val (.long (0 : Int64)), .second, .val (.ref a2), .val (.int (1 : Int32)), .val (.int (0 : Int32)), .unset, .unset] [(.ref a2)])) _
    refine XS.iload X1.here hx rfl (hb hby d5_22) rfl ?_
    show Steps p.tables e below (T1.setTop (mkF m 24 #[.val (.ref a1), .val (.long (0 : Int64)), .second, .val (.ref a2), .val (.int (1 : Int32)), .val (.int (0 : Int32)), .unset, .unset] [(.int (0 : Int32)), (.ref a2)])) _
    refine X1.laload hx (j := (0 : Int32)) (v := (.long ra)) (by rw [e1]; exact Ar.1) (State.isArrayOf_alike hZ.alike Ar.2.1) Ar.2.2 (inb_of Sz ⟨by decide, by decide⟩) t0 (g := (mkF m 24 #[.val (.ref a1), .val (.long (0 : Int64)), .second, .val (.ref a2), .val (.int (1 : Int32)), .val (.int (0 : Int32)), .unset, .unset] [(.int (0 : Int32)), (.ref a2)])) rfl rfl (hb hby d5_24) _ ?_
    show Steps p.tables e below (T1.setTop (mkF m 25 #[.val (.ref a1), .val (.long (0 : Int64)), .second, .val (.ref a2), .val (.int (1 : Int32)), .val (.int (0 : Int32)), .unset, .unset] [(.long ra)])) _
    refine XS.lstore X1.here hx rfl (hb hby d5_25) rfl (l' := #[.val (.ref a1), .val (.long (0 : Int64)), .second, .val (.ref a2), .val (.int (1 : Int32)), .val (.int (0 : Int32)), .val (.long ra), .second]) rfl ?_
    show Steps p.tables e below (T1.setTop (mkF m 27 #[.val (.ref a1), .val (.long (0 : Int64)), .second, .val (.ref a2), .val (.int (1 : Int32)), .val (.int (0 : Int32)), .val (.long ra), .second] [])) _
    refine XS.lloadN X1.here hx rfl (hb hby d5_27) rfl ?_
    show Steps p.tables e below (T1.setTop (mkF m 28 #[.val (.ref a1), .val (.long (0 : Int64)), .second, .val (.ref a2), .val (.int (1 : Int32)), .val (.int (0 : Int32)), .val (.long ra), .second] [(.long (0 : Int64))])) _
    refine X1.ldc2Long hx hown (mvT hZ (hw _ (List.mem_of_getElem? (i := 28) rfl))) (g := (mkF m 28 #[.val (.ref a1), .val (.long (0 : Int64)), .second, .val (.ref a2), .val (.int (1 : Int32)), .val (.int (0 : Int32)), .val (.long ra), .second] [(.long (0 : Int64))])) rfl (hb hby d5_28) _ ?_
    show Steps p.tables e below (T1.setTop (mkF m 31 #[.val (.ref a1), .val (.long (0 : Int64)), .second, .val (.ref a2), .val (.int (1 : Int32)), .val (.int (0 : Int32)), .val (.long ra), .second] [(.long (2 : Int64)), (.long (0 : Int64))])) _
    refine XS.lload X1.here hx rfl (hb hby d5_31) rfl ?_
    show Steps p.tables e below (T1.setTop (mkF m 33 #[.val (.ref a1), .val (.long (0 : Int64)), .second, .val (.ref a2), .val (.int (1 : Int32)), .val (.int (0 : Int32)), .val (.long ra), .second] [(.long ra), (.long (2 : Int64)), (.long (0 : Int64))])) _
    refine XS.lmul X1.here hx rfl (hb hby d5_33) rfl ?_
    show Steps p.tables e below (T1.setTop (mkF m 34 #[.val (.ref a1), .val (.long (0 : Int64)), .second, .val (.ref a2), .val (.int (1 : Int32)), .val (.int (0 : Int32)), .val (.long ra), .second] [(.long ((2 : Int64) * ra)), (.long (0 : Int64))])) _
    refine XS.ladd X1.here hx rfl (hb hby d5_34) rfl ?_
    show Steps p.tables e below (T1.setTop (mkF m 35 #[.val (.ref a1), .val (.long (0 : Int64)), .second, .val (.ref a2), .val (.int (1 : Int32)), .val (.int (0 : Int32)), .val (.long ra), .second] [(.long ((0 : Int64) + ((2 : Int64) * ra)))])) _
    refine XS.lstoreN X1.here hx rfl (hb hby d5_35) rfl (l' := #[.val (.ref a1), .val (.long ((0 : Int64) + ((2 : Int64) * ra))), .second, .val (.ref a2), .val (.int (1 : Int32)), .val (.int (0 : Int32)), .val (.long ra), .second]) rfl ?_
    show Steps p.tables e below (T1.setTop (mkF m 36 #[.val (.ref a1), .val (.long ((0 : Int64) + ((2 : Int64) * ra))), .second, .val (.ref a2), .val (.int (1 : Int32)), .val (.int (0 : Int32)), .val (.long ra), .second] [])) _
    refine XS.iinc X1.here hx rfl (hb hby d5_36) rfl (l' := #[.val (.ref a1), .val (.long ((0 : Int64) + ((2 : Int64) * ra))), .second, .val (.ref a2), .val (.int (1 : Int32)), .val (.int (1 : Int32)), .val (.long ra), .second]) rfl ?_
    show Steps p.tables e below (T1.setTop (mkF m 39 #[.val (.ref a1), .val (.long ((0 : Int64) + ((2 : Int64) * ra))), .second, .val (.ref a2), .val (.int (1 : Int32)), .val (.int (1 : Int32)), .val (.long ra), .second] [])) _
    refine XS.goto X1.here hx rfl (pc0 := 39) (pc' := 14) rfl (hb hby d5_39) (by decide) (by decide) ?_
    show Steps p.tables e below (T1.setTop (mkF m 14 #[.val (.ref a1), .val (.long ((0 : Int64) + ((2 : Int64) * ra))), .second, .val (.ref a2), .val (.int (1 : Int32)), .val (.int (1 : Int32)), .val (.long ra), .second] [])) _
    refine XS.iload X1.here hx rfl (hb hby d5_14) rfl ?_
    show Steps p.tables e below (T1.setTop (mkF m 16 #[.val (.ref a1), .val (.long ((0 : Int64) + ((2 : Int64) * ra))), .second, .val (.ref a2), .val (.int (1 : Int32)), .val (.int (1 : Int32)), .val (.long ra), .second] [(.int (1 : Int32))])) _
    refine XS.iload X1.here hx rfl (hb hby d5_16) rfl ?_
    show Steps p.tables e below (T1.setTop (mkF m 18 #[.val (.ref a1), .val (.long ((0 : Int64) + ((2 : Int64) * ra))), .second, .val (.ref a2), .val (.int (1 : Int32)), .val (.int (1 : Int32)), .val (.long ra), .second] [(.int (1 : Int32)), (.int (1 : Int32))])) _
    refine XS.icmpYes X1.here hx rfl (pc0 := 18) (pc' := 42) rfl (hb hby d5_18) rfl (flt (by decide : ¬ ((1 : Int32) < (1 : Int32)))).2.1 (by decide) (by decide) ?_
    show Steps p.tables e below (T1.setTop (mkF m 42 #[.val (.ref a1), .val (.long ((0 : Int64) + ((2 : Int64) * ra))), .second, .val (.ref a2), .val (.int (1 : Int32)), .val (.int (1 : Int32)), .val (.long ra), .second] [])) _
    refine XS.lloadN X1.here hx rfl (hb hby d5_42) rfl ?_
    show Steps p.tables e below (T1.setTop (mkF m 43 #[.val (.ref a1), .val (.long ((0 : Int64) + ((2 : Int64) * ra))), .second, .val (.ref a2), .val (.int (1 : Int32)), .val (.int (1 : Int32)), .val (.long ra), .second] [(.long ((0 : Int64) + ((2 : Int64) * ra)))])) _
    exact k
  obtain ⟨fs, hr, hrun, hended, hW, hsame⟩ := X1.leave (v := some (.long ((0 : Int64) + ((2 : Int64) * ra)))) (fun h => by rw [Bd.returns] at h; cases h)
  refine ⟨_, _, pre2 _ ?_, hrun, hended, _, _, rfl, ?_, ⟨_, rfl⟩, hW, hsame.mono (by decide) (by decide)⟩
  · exact retOut X1 hx Bd.returns rfl (Or.inr (Or.inl ⟨rfl, rfl, _, rfl⟩)) (hb hby d5_43) hr
  · show Q_rmD1 Z a1 a2 cl ra h0 n0 _ T1.heap _
    rw [e1]
    exact ⟨rfl, N0, rfl⟩
def own_l1 (ra : Int64) : Int32 := 0
theorem ef_rmL1 (m : MethodId) (x0 : Addr) : entryFrame m #[(.ref x0)] 9 = mkF m 0 #[.val (.ref x0), .unset, .unset, .unset, .unset, .unset, .unset, .unset, .unset] [] := by first | (simp [entryFrame, mkF, argsToLocals, Value.category]; done) | rfl
theorem d4_0 : decode prog_9_method_4_code 0 = .ok (.aload_n 0, 1) := by decide +kernel
theorem d4_1 : decode prog_9_method_4_code 1 = .ok (.invokevirtual 22, 3) := by decide +kernel
theorem pd_0 : parseMethodDescriptor "()J" = some ⟨[], some .long⟩ := by decide +kernel
theorem own_selP {Z s : State} {a0 args : Array Value} {y : MethodName} {kk : Nat} (hZ : Z.Warmed39 s.vm) (wi : (Jvm.Cond.instantiable y.cls kk).before a0 Z = true) (wm : (Jvm.Cond.instanceMethod y).before a0 Z = true) (wp : (Jvm.Cond.privateMethod y).before a0 Z = true) (hy : y.cls ≠ "java/lang/invoke/MethodHandle" ∧ y.cls ≠ "java/lang/invoke/VarHandle") : (Jvm.Cond.selects y.cls y y).before args s = true := by
  have wi' : (Jvm.Cond.instantiable y.cls kk).before args s = true := mvT hZ wi
  obtain ⟨c, k, h1, h2, -, h3, -⟩ := Cond.instantiable_spec wi'
  exact selects_self_of_private h1 h2 (Bool.or_eq_false_iff.mp h3).1 (Cond.privateMethod_at (mvP hZ wp (args := #[]))) (mvT hZ wm) hy
theorem d4_4 : decode prog_9_method_4_code 4 = .ok (.lstore_n 1, 1) := by decide +kernel
theorem d4_5 : decode prog_9_method_4_code 5 = .ok (.lconst 0, 1) := by decide +kernel
theorem d4_6 : decode prog_9_method_4_code 6 = .ok (.lstore_n 3, 1) := by decide +kernel
theorem d4_7 : decode prog_9_method_4_code 7 = .ok (.lconst 0, 1) := by decide +kernel
theorem d4_8 : decode prog_9_method_4_code 8 = .ok (.lstore 5, 2) := by decide +kernel
theorem d4_10 : decode prog_9_method_4_code 10 = .ok (.iconst 0, 1) := by decide +kernel
theorem d4_11 : decode prog_9_method_4_code 11 = .ok (.istore 7, 2) := by decide +kernel
theorem d4_13 : decode prog_9_method_4_code 13 = .ok (.iconst 1, 1) := by decide +kernel
theorem d4_14 : decode prog_9_method_4_code 14 = .ok (.istore 8, 2) := by decide +kernel
theorem d4_16 : decode prog_9_method_4_code 16 = .ok (.iload 8, 2) := by decide +kernel
theorem d4_18 : decode prog_9_method_4_code 18 = .ok (.aload_n 0, 1) := by decide +kernel
theorem d4_19 : decode prog_9_method_4_code 19 = .ok (.getfield 9, 3) := by decide +kernel
theorem d4_22 : decode prog_9_method_4_code 22 = .ok (.if_icmp .ge 51, 3) := by decide +kernel
theorem d4_73 : decode prog_9_method_4_code 73 = .ok (.iload 7, 2) := by decide +kernel
theorem d4_75 : decode prog_9_method_4_code 75 = .ok (.ireturn, 1) := by decide +kernel
def Q_rmL1 (Z : State) (a1 : Addr) (a2 : Addr) (cl : Cell) (ra : Int64) (h0 : Heap) (n0 : Nat) (v : Option Value) (h : Heap) (L : List Loc) : Prop := v = some (.int (own_l1 ra)) ∧ Fr n0 L ∧ h = h0
set_option maxRecDepth 65536 in
set_option maxHeartbeats 40000000 in
theorem rmL1 (l : Launch) (Z : State) (a0 : Array Value) (hw : ∀ d ∈ tables_1, d.before a0 Z = true) (ws : List Jvm.Cond) (a1 : Addr) (a2 : Addr) (cl : Cell) (ra : Int64) (h0 : Heap) (n0 : Nat) (Z0 : n0 ≤ h0.size) (E1 : Exa Z h0 a1 "com/example/hummingbird/hummingbird/engine/Rhythm") (F1 : Fld Z h0 a1 "com/example/hummingbird/hummingbird/engine/Rhythm" "points" "I" (.int (1 : Int32))) (F2 : Fld Z h0 a1 "com/example/hummingbird/hummingbird/engine/Rhythm" "rates" "[J" (.ref a2)) (Ar : Arr Z h0 a2 cl .long) (Sz : cl.slots.size = (1 : Int32).toNatClampNeg) (t0 : cl.slots[0]? = some (.long ra)) :
    MetFree l (⟨"com/example/hummingbird/hummingbird/engine/Rhythm", "leastWaitingPoint", "()I"⟩ : MethodName) (head1 (Jvm.Cond.code (⟨"com/example/hummingbird/hummingbird/engine/Rhythm", "leastWaitingPoint", "()I"⟩ : MethodName) prog_9_method_4_code 9 (some .int) :: ws) ({ frames := 1, cells := 0, slots := 0, locals := 20 } : Room)) (fun a U => a = #[(.ref a1)] ∧ Z.Warmed39 U.vm ∧ U.heap = h0) (fun _ _ _ _ _ => True) (fun _ U o U' => ∃ v L, o = .returned v ∧ Q_rmL1 Z a1 a2 cl ra h0 n0 v U'.heap L ∧ FrameEnd U o U' L ({ frames := 1, cells := 0, slots := 0, locals := 20 } : Room).cells ({ frames := 1, cells := 0, slots := 0, locals := 20 } : Room).slots) := by
  refine MetFree.of_bodySF (plainFor_of_name pn_0) hisR ?_
  intro p e s m args below meth c s₁ Bd hml0 hP hK
  obtain ⟨rfl, hZ, hh⟩ := hP
  have hx := Bd.exec
  have hby := Bd.bytes
  have hml : c.maxLocals = 9 := hml0
  have hown : s.vm.findClass "com/example/hummingbird/hummingbird/engine/Rhythm" = some m.cls := findClass_of_methodNamed Bd.named
  have hnm := (name_of_methodNamed Bd.named Bd.method).1
  have X0 : Stand p l e ({ frames := 1, cells := 0, slots := 0, locals := 20 } : Room) s m #[(.ref a1)] below meth c s₁ [] 0 0 := Stand.of_body Bd
  have e0 : s₁.heap = h0 := by rw [← hh, Bd.state]; rfl
  have N0 := Fr.nil n0
  have pre0 : ∀ t, Steps p.tables e below (s₁.setTop (mkF m 0 #[.val (.ref a1), .unset, .unset, .unset, .unset, .unset, .unset, .unset, .unset] [])) t → Steps p.tables e below (s₁.setTop (entryFrame m #[(.ref a1)] 9)) t := fun t k => castTop (ef_rmL1 m a1) k
  obtain ⟨cq1, q1, q1'⟩ := E1.cell
  obtain ⟨_, _, ⟨T1, L1, k1, n1⟩, -, X1, ⟨Lc1, hQ1, l1, y1, z1⟩, st1⟩ := X0.privateBack hx (y := (⟨"com/example/hummingbird/hummingbird/engine/Rhythm", "dayMass", "()J"⟩ : MethodName)) hown (mvT hZ (hw _ (List.mem_of_getElem? (i := 24) rfl))) (mvT hZ (hw _ (List.mem_of_getElem? (i := 25) rfl))) (own_selP (y := (⟨"com/example/hummingbird/hummingbird/engine/Rhythm", "dayMass", "()J"⟩ : MethodName)) hZ (hw _ (List.mem_of_getElem? (i := 7) rfl)) (hw _ (List.mem_of_getElem? (i := 25) rfl)) (hw _ (List.mem_of_getElem? (i := 26) rfl)) (by decide)) (Cond.privateMethod_at (mvP hZ (hw _ (List.mem_of_getElem? (i := 26) rfl)) (args := #[]))) (mvT hZ (hw _ (List.mem_of_getElem? (i := 27) rfl))) (by decide) (backOf (W := 0) (rmD1 l Z a0 hw [] a1 a2 cl ra h0 n0 Z0 F2 Ar Sz t0) hZ (hw _ (List.mem_of_getElem? (i := 27) rfl)) (hw _ (List.mem_of_getElem? (i := 8) rfl)) (by decide) (by decide)) (g := (mkF m 1 #[.val (.ref a1), .unset, .unset, .unset, .unset, .unset, .unset, .unset, .unset] [(.ref a1)])) rfl (by rw [hml]; rfl) (Steps.refl _) (a := a1) (by rw [e0]; exact q1) q1' (argsL := []) (rest := []) (lenOf pd_0 rfl) rfl (by show 2 * 0 + _ ≤ _; exact Nat.le_of_eq rfl) (hb hby d4_1) (fun _ _ => ⟨rfl, e0, (by decide : 0 + 0 ≤ _), (by decide : 0 + 0 ≤ _)⟩)
  dsimp only [Pt.U, Pt.locs, Pt.cells, Pt.slots] at X1 l1 y1 z1 st1 hQ1
  subst l1 y1 z1
  obtain ⟨rfl, N1q, hq1⟩ := hQ1
  have N1 := Fr.app N0 N1q
  obtain ⟨T2, X2, e2, st2⟩ := getF X1 hx hZ hown (host := "") (Or.inl (hw _ (List.mem_of_getElem? (i := 15) rfl))) Via.refl hq1 F1 (g := (mkF m 19 #[.val (.ref a1), .val (.long ((0 : Int64) + ((2 : Int64) * ra))), .second, .val (.long (0 : Int64)), .second, .val (.long (0 : Int64)), .second, .val (.int (0 : Int32)), .val (.int (1 : Int32))] [(.ref a1), (.int (1 : Int32))])) rfl rfl (hb hby d4_19)
  have pre3 : ∀ t, Steps p.tables e below (T2.setTop (mkF m 75 #[.val (.ref a1), .val (.long ((0 : Int64) + ((2 : Int64) * ra))), .second, .val (.long (0 : Int64)), .second, .val (.long (0 : Int64)), .second, .val (.int (0 : Int32)), .val (.int (1 : Int32))] [(.int (0 : Int32))])) t → Steps p.tables e below (s₁.setTop (entryFrame m #[(.ref a1)] 9)) t := by
    intro t k
    refine pre0 t ?_
    show Steps p.tables e below (s₁.setTop (mkF m 0 #[.val (.ref a1), .unset, .unset, .unset, .unset, .unset, .unset, .unset, .unset] [])) _
    refine XS.aloadN X0.here hx rfl (hb hby d4_0) rfl (rfl) ?_
    show Steps p.tables e below (s₁.setTop (mkF m 1 #[.val (.ref a1), .unset, .unset, .unset, .unset, .unset, .unset, .unset, .unset] [(.ref a1)])) _
    refine st1.trans ?_
    show Steps p.tables e below (T1.setTop (mkF m 4 #[.val (.ref a1), .unset, .unset, .unset, .unset, .unset, .unset, .unset, .unset] [(.long ((0 : Int64) + ((2 : Int64) * ra)))])) _
    refine XS.lstoreN X1.here hx rfl (hb hby d4_4) rfl (l' := #[.val (.ref a1), .val (.long ((0 : Int64) + ((2 : Int64) * ra))), .second, .unset, .unset, .unset, .unset, .unset, .unset]) rfl ?_
    show Steps p.tables e below (T1.setTop (mkF m 5 #[.val (.ref a1), .val (.long ((0 : Int64) + ((2 : Int64) * ra))), .second, .unset, .unset, .unset, .unset, .unset, .unset] [])) _
    refine XS.lconst X1.here hx rfl (hb hby d4_5) ?_
    show Steps p.tables e below (T1.setTop (mkF m 6 #[.val (.ref a1), .val (.long ((0 : Int64) + ((2 : Int64) * ra))), .second, .unset, .unset, .unset, .unset, .unset, .unset] [(.long (0 : Int64))])) _
    refine XS.lstoreN X1.here hx rfl (hb hby d4_6) rfl (l' := #[.val (.ref a1), .val (.long ((0 : Int64) + ((2 : Int64) * ra))), .second, .val (.long (0 : Int64)), .second, .unset, .unset, .unset, .unset]) rfl ?_
    show Steps p.tables e below (T1.setTop (mkF m 7 #[.val (.ref a1), .val (.long ((0 : Int64) + ((2 : Int64) * ra))), .second, .val (.long (0 : Int64)), .second, .unset, .unset, .unset, .unset] [])) _
    refine XS.lconst X1.here hx rfl (hb hby d4_7) ?_
    show Steps p.tables e below (T1.setTop (mkF m 8 #[.val (.ref a1), .val (.long ((0 : Int64) + ((2 : Int64) * ra))), .second, .val (.long (0 : Int64)), .second, .unset, .unset, .unset, .unset] [(.long (0 : Int64))])) _
    refine XS.lstore X1.here hx rfl (hb hby d4_8) rfl (l' := #[.val (.ref a1), .val (.long ((0 : Int64) + ((2 : Int64) * ra))), .second, .val (.long (0 : Int64)), .second, .val (.long (0 : Int64)), .second, .unset, .unset]) rfl ?_
    show Steps p.tables e below (T1.setTop (mkF m 10 #[.val (.ref a1), .val (.long ((0 : Int64) + ((2 : Int64) * ra))), .second, .val (.long (0 : Int64)), .second, .val (.long (0 : Int64)), .second, .unset, .unset] [])) _
    refine XS.iconst X1.here hx rfl (hb hby d4_10) ?_
    show Steps p.tables e below (T1.setTop (mkF m 11 #[.val (.ref a1), .val (.long ((0 : Int64) + ((2 : Int64) * ra))), .second, .val (.long (0 : Int64)), .second, .val (.long (0 : Int64)), .second, .unset, .unset] [(.int (0 : Int32))])) _
    refine XS.istore X1.here hx rfl (hb hby d4_11) rfl (l' := #[.val (.ref a1), .val (.long ((0 : Int64) + ((2 : Int64) * ra))), .second, .val (.long (0 : Int64)), .second, .val (.long (0 : Int64)), .second, .val (.int (0 : Int32)), .unset]) rfl ?_
    show Steps p.tables e below (T1.setTop (mkF m 13 #[.val (.ref a1), .val (.long ((0 : Int64) + ((2 : Int64) * ra))), .second, .val (.long (0 : Int64)), .second, .val (.long (0 : Int64)), .second, .val (.int (0 : Int32)), .unset] [])) _
    refine XS.iconst X1.here hx rfl (hb hby d4_13) ?_
    show Steps p.tables e below (T1.setTop (mkF m 14 #[.val (.ref a1), .val (.long ((0 : Int64) + ((2 : Int64) * ra))), .second, .val (.long (0 : Int64)), .second, .val (.long (0 : Int64)), .second, .val (.int (0 : Int32)), .unset] [(.int (1 : Int32))])) _
    refine XS.istore X1.here hx rfl (hb hby d4_14) rfl (l' := #[.val (.ref a1), .val (.long ((0 : Int64) + ((2 : Int64) * ra))), .second, .val (.long (0 : Int64)), .second, .val (.long (0 : Int64)), .second, .val (.int (0 : Int32)), .val (.int (1 : Int32))]) rfl ?_
    show Steps p.tables e below (T1.setTop (mkF m 16 #[.val (.ref a1), .val (.long ((0 : Int64) + ((2 : Int64) * ra))), .second, .val (.long (0 : Int64)), .second, .val (.long (0 : Int64)), .second, .val (.int (0 : Int32)), .val (.int (1 : Int32))] [])) _
    refine XS.iload X1.here hx rfl (hb hby d4_16) rfl ?_
    show Steps p.tables e below (T1.setTop (mkF m 18 #[.val (.ref a1), .val (.long ((0 : Int64) + ((2 : Int64) * ra))), .second, .val (.long (0 : Int64)), .second, .val (.long (0 : Int64)), .second, .val (.int (0 : Int32)), .val (.int (1 : Int32))] [(.int (1 : Int32))])) _
    refine XS.aloadN X1.here hx rfl (hb hby d4_18) rfl (rfl) ?_
    show Steps p.tables e below (T1.setTop (mkF m 19 #[.val (.ref a1), .val (.long ((0 : Int64) + ((2 : Int64) * ra))), .second, .val (.long (0 : Int64)), .second, .val (.long (0 : Int64)), .second, .val (.int (0 : Int32)), .val (.int (1 : Int32))] [(.ref a1), (.int (1 : Int32))])) _
    refine st2 _ ?_
    show Steps p.tables e below (T2.setTop (mkF m 22 #[.val (.ref a1), .val (.long ((0 : Int64) + ((2 : Int64) * ra))), .second, .val (.long (0 : Int64)), .second, .val (.long (0 : Int64)), .second, .val (.int (0 : Int32)), .val (.int (1 : Int32))] [(.int (1 : Int32)), (.int (1 : Int32))])) _
    refine XS.icmpYes X2.here hx rfl (pc0 := 22) (pc' := 73) rfl (hb hby d4_22) rfl (flt (by decide : ¬ ((1 : Int32) < (1 : Int32)))).2.1 (by decide) (by decide) ?_
    show Steps p.tables e below (T2.setTop (mkF m 73 #[.val (.ref a1), .val (.long ((0 : Int64) + ((2 : Int64) * ra))), .second, .val (.long (0 : Int64)), .second, .val (.long (0 : Int64)), .second, .val (.int (0 : Int32)), .val (.int (1 : Int32))] [])) _
    refine XS.iload X2.here hx rfl (hb hby d4_73) rfl ?_
    show Steps p.tables e below (T2.setTop (mkF m 75 #[.val (.ref a1), .val (.long ((0 : Int64) + ((2 : Int64) * ra))), .second, .val (.long (0 : Int64)), .second, .val (.long (0 : Int64)), .second, .val (.int (0 : Int32)), .val (.int (1 : Int32))] [(.int (0 : Int32))])) _
    exact k
  obtain ⟨fs, hr, hrun, hended, hW, hsame⟩ := X2.leave (v := some (.int (0 : Int32))) (fun h => by rw [Bd.returns] at h; cases h)
  refine ⟨_, _, pre3 _ ?_, hrun, hended, _, _, rfl, ?_, ⟨_, rfl⟩, hW, hsame.mono (by decide) (by decide)⟩
  · exact retOut X2 hx Bd.returns rfl (Or.inl ⟨rfl, Or.inl rfl, _, rfl⟩) (hb hby d4_75) hr
  · show Q_rmL1 Z a1 a2 cl ra h0 n0 _ T2.heap _
    rw [e2]
    exact ⟨rfl, N1, rfl⟩
theorem ef_rmD2 (m : MethodId) (x0 : Addr) : entryFrame m #[(.ref x0)] 8 = mkF m 0 #[.val (.ref x0), .unset, .unset, .unset, .unset, .unset, .unset, .unset] [] := by first | (simp [entryFrame, mkF, argsToLocals, Value.category]; done) | rfl
def Q_rmD2 (Z : State) (a1 : Addr) (a2 : Addr) (cl : Cell) (ra : Int64) (rb : Int64) (h0 : Heap) (n0 : Nat) (v : Option Value) (h : Heap) (L : List Loc) : Prop := v = some (.long (((0 : Int64) + ((2 : Int64) * ra)) + ((2 : Int64) * rb))) ∧ Fr n0 L ∧ h = h0
set_option maxRecDepth 65536 in
set_option maxHeartbeats 40000000 in
theorem rmD2 (l : Launch) (Z : State) (a0 : Array Value) (hw : ∀ d ∈ tables_1, d.before a0 Z = true) (ws : List Jvm.Cond) (a1 : Addr) (a2 : Addr) (cl : Cell) (ra : Int64) (rb : Int64) (h0 : Heap) (n0 : Nat) (Z0 : n0 ≤ h0.size) (F2 : Fld Z h0 a1 "com/example/hummingbird/hummingbird/engine/Rhythm" "rates" "[J" (.ref a2)) (Ar : Arr Z h0 a2 cl .long) (Sz : cl.slots.size = (2 : Int32).toNatClampNeg) (t0 : cl.slots[0]? = some (.long ra)) (t1 : cl.slots[1]? = some (.long rb)) :
    MetFree l (⟨"com/example/hummingbird/hummingbird/engine/Rhythm", "dayMass", "()J"⟩ : MethodName) (head1 (Jvm.Cond.code (⟨"com/example/hummingbird/hummingbird/engine/Rhythm", "dayMass", "()J"⟩ : MethodName) prog_9_method_10_code 8 (some .long) :: ws) ({ frames := 0, cells := 0, slots := 0, locals := 0 } : Room)) (fun a U => a = #[(.ref a1)] ∧ Z.Warmed39 U.vm ∧ U.heap = h0) (fun _ _ _ _ _ => True) (fun _ U o U' => ∃ v L, o = .returned v ∧ Q_rmD2 Z a1 a2 cl ra rb h0 n0 v U'.heap L ∧ FrameEnd U o U' L ({ frames := 0, cells := 0, slots := 0, locals := 0 } : Room).cells ({ frames := 0, cells := 0, slots := 0, locals := 0 } : Room).slots) := by
  refine MetFree.of_bodySF (plainFor_of_name pn_0) hisR ?_
  intro p e s m args below meth c s₁ Bd hml0 hP hK
  obtain ⟨rfl, hZ, hh⟩ := hP
  have hx := Bd.exec
  have hby := Bd.bytes
  have hml : c.maxLocals = 8 := hml0
  have hown : s.vm.findClass "com/example/hummingbird/hummingbird/engine/Rhythm" = some m.cls := findClass_of_methodNamed Bd.named
  have hnm := (name_of_methodNamed Bd.named Bd.method).1
  have X0 : Stand p l e ({ frames := 0, cells := 0, slots := 0, locals := 0 } : Room) s m #[(.ref a1)] below meth c s₁ [] 0 0 := Stand.of_body Bd
  have e0 : s₁.heap = h0 := by rw [← hh, Bd.state]; rfl
  have N0 := Fr.nil n0
  have pre0 : ∀ t, Steps p.tables e below (s₁.setTop (mkF m 0 #[.val (.ref a1), .unset, .unset, .unset, .unset, .unset, .unset, .unset] [])) t → Steps p.tables e below (s₁.setTop (entryFrame m #[(.ref a1)] 8)) t := fun t k => castTop (ef_rmD2 m a1) k
  obtain ⟨T1, X1, e1, st1⟩ := getF X0 hx hZ hown (host := "") (Or.inl (hw _ (List.mem_of_getElem? (i := 17) rfl))) Via.refl e0 F2 (g := (mkF m 3 #[.val (.ref a1), .val (.long (0 : Int64)), .second, .unset, .unset, .unset, .unset, .unset] [(.ref a1)])) rfl rfl (hb hby d5_3)
  have pre2 : ∀ t, Steps p.tables e below (T1.setTop (mkF m 43 #[.val (.ref a1), .val (.long (((0 : Int64) + ((2 : Int64) * ra)) + ((2 : Int64) * rb))), .second, .val (.ref a2), .val (.int (2 : Int32)), .val (.int (2 : Int32)), .val (.long rb), .second] [(.long (((0 : Int64) + ((2 : Int64) * ra)) + ((2 : Int64) * rb)))])) t → Steps p.tables e below (s₁.setTop (entryFrame m #[(.ref a1)] 8)) t := by
    intro t k
    refine pre0 t ?_
    show Steps p.tables e below (s₁.setTop (mkF m 0 #[.val (.ref a1), .unset, .unset, .unset, .unset, .unset, .unset, .unset] [])) _
    refine XS.lconst X0.here hx rfl (hb hby d5_0) ?_
    show Steps p.tables e below (s₁.setTop (mkF m 1 #[.val (.ref a1), .unset, .unset, .unset, .unset, .unset, .unset, .unset] [(.long (0 : Int64))])) _
    refine XS.lstoreN X0.here hx rfl (hb hby d5_1) rfl (l' := #[.val (.ref a1), .val (.long (0 : Int64)), .second, .unset, .unset, .unset, .unset, .unset]) rfl ?_
    show Steps p.tables e below (s₁.setTop (mkF m 2 #[.val (.ref a1), .val (.long (0 : Int64)), .second, .unset, .unset, .unset, .unset, .unset] [])) _
    refine XS.aloadN X0.here hx rfl (hb hby d5_2) rfl (rfl) ?_
    show Steps p.tables e below (s₁.setTop (mkF m 3 #[.val (.ref a1), .val (.long (0 : Int64)), .second, .unset, .unset, .unset, .unset, .unset] [(.ref a1)])) _
    refine st1 _ ?_
    show Steps p.tables e below (T1.setTop (mkF m 6 #[.val (.ref a1), .val (.long (0 : Int64)), .second, .unset, .unset, .unset, .unset, .unset] [(.ref a2)])) _
    refine XS.astoreN X1.here hx rfl (hb hby d5_6) rfl (rfl) (l' := #[.val (.ref a1), .val (.long (0 : Int64)), .second, .val (.ref a2), .unset, .unset, .unset, .unset]) rfl ?_
    show Steps p.tables e below (T1.setTop (mkF m 7 #[.val (.ref a1), .val (.long (0 : Int64)), .second, .val (.ref a2), .unset, .unset, .unset, .unset] [])) _
    refine XS.aloadN X1.here hx rfl (hb hby d5_7) rfl (rfl) ?_
    show Steps p.tables e below (T1.setTop (mkF m 8 #[.val (.ref a1), .val (.long (0 : Int64)), .second, .val (.ref a2), .unset, .unset, .unset, .unset] [(.ref a2)])) _
    refine X1.arraylength hx (by rw [e1]; exact Ar.1) (State.isArrayOf_alike hZ.alike Ar.2.1) (g := (mkF m 8 #[.val (.ref a1), .val (.long (0 : Int64)), .second, .val (.ref a2), .unset, .unset, .unset, .unset] [(.ref a2)])) rfl rfl (hb hby d5_8) _ ?_
    rw [len_of Sz (by decide)]
    show Steps p.tables e below (T1.setTop (mkF m 9 #[.val (.ref a1), .val (.long (0 : Int64)), .second, .val (.ref a2), .unset, .unset, .unset, .unset] [(.int (2 : Int32))])) _
    refine XS.istore X1.here hx rfl (hb hby d5_9) rfl (l' := #[.val (.ref a1), .val (.long (0 : Int64)), .second, .val (.ref a2), .val (.int (2 : Int32)), .unset, .unset, .unset]) rfl ?_
    show Steps p.tables e below (T1.setTop (mkF m 11 #[.val (.ref a1), .val (.long (0 : Int64)), .second, .val (.ref a2), .val (.int (2 : Int32)), .unset, .unset, .unset] [])) _
    refine XS.iconst X1.here hx rfl (hb hby d5_11) ?_
    show Steps p.tables e below (T1.setTop (mkF m 12 #[.val (.ref a1), .val (.long (0 : Int64)), .second, .val (.ref a2), .val (.int (2 : Int32)), .unset, .unset, .unset] [(.int (0 : Int32))])) _
    refine XS.istore X1.here hx rfl (hb hby d5_12) rfl (l' := #[.val (.ref a1), .val (.long (0 : Int64)), .second, .val (.ref a2), .val (.int (2 : Int32)), .val (.int (0 : Int32)), .unset, .unset]) rfl ?_
    show Steps p.tables e below (T1.setTop (mkF m 14 #[.val (.ref a1), .val (.long (0 : Int64)), .second, .val (.ref a2), .val (.int (2 : Int32)), .val (.int (0 : Int32)), .unset, .unset] [])) _
    refine XS.iload X1.here hx rfl (hb hby d5_14) rfl ?_
    show Steps p.tables e below (T1.setTop (mkF m 16 #[.val (.ref a1), .val (.long (0 : Int64)), .second, .val (.ref a2), .val (.int (2 : Int32)), .val (.int (0 : Int32)), .unset, .unset] [(.int (0 : Int32))])) _
    refine XS.iload X1.here hx rfl (hb hby d5_16) rfl ?_
    show Steps p.tables e below (T1.setTop (mkF m 18 #[.val (.ref a1), .val (.long (0 : Int64)), .second, .val (.ref a2), .val (.int (2 : Int32)), .val (.int (0 : Int32)), .unset, .unset] [(.int (2 : Int32)), (.int (0 : Int32))])) _
    refine XS.icmpNo X1.here hx rfl (hb hby d5_18) rfl (tlt (by decide : (0 : Int32) < (2 : Int32))).2.1 ?_
    show Steps p.tables e below (T1.setTop (mkF m 21 #[.val (.ref a1), .val (.long (0 : Int64)), .second, .val (.ref a2), .val (.int (2 : Int32)), .val (.int (0 : Int32)), .unset, .unset] [])) _
    refine XS.aloadN X1.here hx rfl (hb hby d5_21) rfl (rfl) ?_
    show Steps p.tables e below (T1.setTop (mkF m 22 #[.val (.ref a1), .val (.long (0 : Int64)), .second, .val (.ref a2), .val (.int (2 : Int32)), .val (.int (0 : Int32)), .unset, .unset] [(.ref a2)])) _
    refine XS.iload X1.here hx rfl (hb hby d5_22) rfl ?_
    show Steps p.tables e below (T1.setTop (mkF m 24 #[.val (.ref a1), .val (.long (0 : Int64)), .second, .val (.ref a2), .val (.int (2 : Int32)), .val (.int (0 : Int32)), .unset, .unset] [(.int (0 : Int32)), (.ref a2)])) _
    refine X1.laload hx (j := (0 : Int32)) (v := (.long ra)) (by rw [e1]; exact Ar.1) (State.isArrayOf_alike hZ.alike Ar.2.1) Ar.2.2 (inb_of Sz ⟨by decide, by decide⟩) t0 (g := (mkF m 24 #[.val (.ref a1), .val (.long (0 : Int64)), .second, .val (.ref a2), .val (.int (2 : Int32)), .val (.int (0 : Int32)), .unset, .unset] [(.int (0 : Int32)), (.ref a2)])) rfl rfl (hb hby d5_24) _ ?_
    show Steps p.tables e below (T1.setTop (mkF m 25 #[.val (.ref a1), .val (.long (0 : Int64)), .second, .val (.ref a2), .val (.int (2 : Int32)), .val (.int (0 : Int32)), .unset, .unset] [(.long ra)])) _
    refine XS.lstore X1.here hx rfl (hb hby d5_25) rfl (l' := #[.val (.ref a1), .val (.long (0 : Int64)), .second, .val (.ref a2), .val (.int (2 : Int32)), .val (.int (0 : Int32)), .val (.long ra), .second]) rfl ?_
    show Steps p.tables e below (T1.setTop (mkF m 27 #[.val (.ref a1), .val (.long (0 : Int64)), .second, .val (.ref a2), .val (.int (2 : Int32)), .val (.int (0 : Int32)), .val (.long ra), .second] [])) _
    refine XS.lloadN X1.here hx rfl (hb hby d5_27) rfl ?_
    show Steps p.tables e below (T1.setTop (mkF m 28 #[.val (.ref a1), .val (.long (0 : Int64)), .second, .val (.ref a2), .val (.int (2 : Int32)), .val (.int (0 : Int32)), .val (.long ra), .second] [(.long (0 : Int64))])) _
    refine X1.ldc2Long hx hown (mvT hZ (hw _ (List.mem_of_getElem? (i := 28) rfl))) (g := (mkF m 28 #[.val (.ref a1), .val (.long (0 : Int64)), .second, .val (.ref a2), .val (.int (2 : Int32)), .val (.int (0 : Int32)), .val (.long ra), .second] [(.long (0 : Int64))])) rfl (hb hby d5_28) _ ?_
    show Steps p.tables e below (T1.setTop (mkF m 31 #[.val (.ref a1), .val (.long (0 : Int64)), .second, .val (.ref a2), .val (.int (2 : Int32)), .val (.int (0 : Int32)), .val (.long ra), .second] [(.long (2 : Int64)), (.long (0 : Int64))])) _
    refine XS.lload X1.here hx rfl (hb hby d5_31) rfl ?_
    show Steps p.tables e below (T1.setTop (mkF m 33 #[.val (.ref a1), .val (.long (0 : Int64)), .second, .val (.ref a2), .val (.int (2 : Int32)), .val (.int (0 : Int32)), .val (.long ra), .second] [(.long ra), (.long (2 : Int64)), (.long (0 : Int64))])) _
    refine XS.lmul X1.here hx rfl (hb hby d5_33) rfl ?_
    show Steps p.tables e below (T1.setTop (mkF m 34 #[.val (.ref a1), .val (.long (0 : Int64)), .second, .val (.ref a2), .val (.int (2 : Int32)), .val (.int (0 : Int32)), .val (.long ra), .second] [(.long ((2 : Int64) * ra)), (.long (0 : Int64))])) _
    refine XS.ladd X1.here hx rfl (hb hby d5_34) rfl ?_
    show Steps p.tables e below (T1.setTop (mkF m 35 #[.val (.ref a1), .val (.long (0 : Int64)), .second, .val (.ref a2), .val (.int (2 : Int32)), .val (.int (0 : Int32)), .val (.long ra), .second] [(.long ((0 : Int64) + ((2 : Int64) * ra)))])) _
    refine XS.lstoreN X1.here hx rfl (hb hby d5_35) rfl (l' := #[.val (.ref a1), .val (.long ((0 : Int64) + ((2 : Int64) * ra))), .second, .val (.ref a2), .val (.int (2 : Int32)), .val (.int (0 : Int32)), .val (.long ra), .second]) rfl ?_
    show Steps p.tables e below (T1.setTop (mkF m 36 #[.val (.ref a1), .val (.long ((0 : Int64) + ((2 : Int64) * ra))), .second, .val (.ref a2), .val (.int (2 : Int32)), .val (.int (0 : Int32)), .val (.long ra), .second] [])) _
    refine XS.iinc X1.here hx rfl (hb hby d5_36) rfl (l' := #[.val (.ref a1), .val (.long ((0 : Int64) + ((2 : Int64) * ra))), .second, .val (.ref a2), .val (.int (2 : Int32)), .val (.int (1 : Int32)), .val (.long ra), .second]) rfl ?_
    show Steps p.tables e below (T1.setTop (mkF m 39 #[.val (.ref a1), .val (.long ((0 : Int64) + ((2 : Int64) * ra))), .second, .val (.ref a2), .val (.int (2 : Int32)), .val (.int (1 : Int32)), .val (.long ra), .second] [])) _
    refine XS.goto X1.here hx rfl (pc0 := 39) (pc' := 14) rfl (hb hby d5_39) (by decide) (by decide) ?_
    show Steps p.tables e below (T1.setTop (mkF m 14 #[.val (.ref a1), .val (.long ((0 : Int64) + ((2 : Int64) * ra))), .second, .val (.ref a2), .val (.int (2 : Int32)), .val (.int (1 : Int32)), .val (.long ra), .second] [])) _
    refine XS.iload X1.here hx rfl (hb hby d5_14) rfl ?_
    show Steps p.tables e below (T1.setTop (mkF m 16 #[.val (.ref a1), .val (.long ((0 : Int64) + ((2 : Int64) * ra))), .second, .val (.ref a2), .val (.int (2 : Int32)), .val (.int (1 : Int32)), .val (.long ra), .second] [(.int (1 : Int32))])) _
    refine XS.iload X1.here hx rfl (hb hby d5_16) rfl ?_
    show Steps p.tables e below (T1.setTop (mkF m 18 #[.val (.ref a1), .val (.long ((0 : Int64) + ((2 : Int64) * ra))), .second, .val (.ref a2), .val (.int (2 : Int32)), .val (.int (1 : Int32)), .val (.long ra), .second] [(.int (2 : Int32)), (.int (1 : Int32))])) _
    refine XS.icmpNo X1.here hx rfl (hb hby d5_18) rfl (tlt (by decide : (1 : Int32) < (2 : Int32))).2.1 ?_
    show Steps p.tables e below (T1.setTop (mkF m 21 #[.val (.ref a1), .val (.long ((0 : Int64) + ((2 : Int64) * ra))), .second, .val (.ref a2), .val (.int (2 : Int32)), .val (.int (1 : Int32)), .val (.long ra), .second] [])) _
    refine XS.aloadN X1.here hx rfl (hb hby d5_21) rfl (rfl) ?_
    show Steps p.tables e below (T1.setTop (mkF m 22 #[.val (.ref a1), .val (.long ((0 : Int64) + ((2 : Int64) * ra))), .second, .val (.ref a2), .val (.int (2 : Int32)), .val (.int (1 : Int32)), .val (.long ra), .second] [(.ref a2)])) _
    refine XS.iload X1.here hx rfl (hb hby d5_22) rfl ?_
    show Steps p.tables e below (T1.setTop (mkF m 24 #[.val (.ref a1), .val (.long ((0 : Int64) + ((2 : Int64) * ra))), .second, .val (.ref a2), .val (.int (2 : Int32)), .val (.int (1 : Int32)), .val (.long ra), .second] [(.int (1 : Int32)), (.ref a2)])) _
    refine X1.laload hx (j := (1 : Int32)) (v := (.long rb)) (by rw [e1]; exact Ar.1) (State.isArrayOf_alike hZ.alike Ar.2.1) Ar.2.2 (inb_of Sz ⟨by decide, by decide⟩) t1 (g := (mkF m 24 #[.val (.ref a1), .val (.long ((0 : Int64) + ((2 : Int64) * ra))), .second, .val (.ref a2), .val (.int (2 : Int32)), .val (.int (1 : Int32)), .val (.long ra), .second] [(.int (1 : Int32)), (.ref a2)])) rfl rfl (hb hby d5_24) _ ?_
    show Steps p.tables e below (T1.setTop (mkF m 25 #[.val (.ref a1), .val (.long ((0 : Int64) + ((2 : Int64) * ra))), .second, .val (.ref a2), .val (.int (2 : Int32)), .val (.int (1 : Int32)), .val (.long ra), .second] [(.long rb)])) _
    refine XS.lstore X1.here hx rfl (hb hby d5_25) rfl (l' := #[.val (.ref a1), .val (.long ((0 : Int64) + ((2 : Int64) * ra))), .second, .val (.ref a2), .val (.int (2 : Int32)), .val (.int (1 : Int32)), .val (.long rb), .second]) rfl ?_
    show Steps p.tables e below (T1.setTop (mkF m 27 #[.val (.ref a1), .val (.long ((0 : Int64) + ((2 : Int64) * ra))), .second, .val (.ref a2), .val (.int (2 : Int32)), .val (.int (1 : Int32)), .val (.long rb), .second] [])) _
    refine XS.lloadN X1.here hx rfl (hb hby d5_27) rfl ?_
    show Steps p.tables e below (T1.setTop (mkF m 28 #[.val (.ref a1), .val (.long ((0 : Int64) + ((2 : Int64) * ra))), .second, .val (.ref a2), .val (.int (2 : Int32)), .val (.int (1 : Int32)), .val (.long rb), .second] [(.long ((0 : Int64) + ((2 : Int64) * ra)))])) _
    refine X1.ldc2Long hx hown (mvT hZ (hw _ (List.mem_of_getElem? (i := 28) rfl))) (g := (mkF m 28 #[.val (.ref a1), .val (.long ((0 : Int64) + ((2 : Int64) * ra))), .second, .val (.ref a2), .val (.int (2 : Int32)), .val (.int (1 : Int32)), .val (.long rb), .second] [(.long ((0 : Int64) + ((2 : Int64) * ra)))])) rfl (hb hby d5_28) _ ?_
    show Steps p.tables e below (T1.setTop (mkF m 31 #[.val (.ref a1), .val (.long ((0 : Int64) + ((2 : Int64) * ra))), .second, .val (.ref a2), .val (.int (2 : Int32)), .val (.int (1 : Int32)), .val (.long rb), .second] [(.long (2 : Int64)), (.long ((0 : Int64) + ((2 : Int64) * ra)))])) _
    refine XS.lload X1.here hx rfl (hb hby d5_31) rfl ?_
    show Steps p.tables e below (T1.setTop (mkF m 33 #[.val (.ref a1), .val (.long ((0 : Int64) + ((2 : Int64) * ra))), .second, .val (.ref a2), .val (.int (2 : Int32)), .val (.int (1 : Int32)), .val (.long rb), .second] [(.long rb), (.long (2 : Int64)), (.long ((0 : Int64) + ((2 : Int64) * ra)))])) _
    refine XS.lmul X1.here hx rfl (hb hby d5_33) rfl ?_
    show Steps p.tables e below (T1.setTop (mkF m 34 #[.val (.ref a1), .val (.long ((0 : Int64) + ((2 : Int64) * ra))), .second, .val (.ref a2), .val (.int (2 : Int32)), .val (.int (1 : Int32)), .val (.long rb), .second] [(.long ((2 : Int64) * rb)), (.long ((0 : Int64) + ((2 : Int64) * ra)))])) _
    refine XS.ladd X1.here hx rfl (hb hby d5_34) rfl ?_
    show Steps p.tables e below (T1.setTop (mkF m 35 #[.val (.ref a1), .val (.long ((0 : Int64) + ((2 : Int64) * ra))), .second, .val (.ref a2), .val (.int (2 : Int32)), .val (.int (1 : Int32)), .val (.long rb), .second] [(.long (((0 : Int64) + ((2 : Int64) * ra)) + ((2 : Int64) * rb)))])) _
    refine XS.lstoreN X1.here hx rfl (hb hby d5_35) rfl (l' := #[.val (.ref a1), .val (.long (((0 : Int64) + ((2 : Int64) * ra)) + ((2 : Int64) * rb))), .second, .val (.ref a2), .val (.int (2 : Int32)), .val (.int (1 : Int32)), .val (.long rb), .second]) rfl ?_
    show Steps p.tables e below (T1.setTop (mkF m 36 #[.val (.ref a1), .val (.long (((0 : Int64) + ((2 : Int64) * ra)) + ((2 : Int64) * rb))), .second, .val (.ref a2), .val (.int (2 : Int32)), .val (.int (1 : Int32)), .val (.long rb), .second] [])) _
    refine XS.iinc X1.here hx rfl (hb hby d5_36) rfl (l' := #[.val (.ref a1), .val (.long (((0 : Int64) + ((2 : Int64) * ra)) + ((2 : Int64) * rb))), .second, .val (.ref a2), .val (.int (2 : Int32)), .val (.int (2 : Int32)), .val (.long rb), .second]) rfl ?_
    show Steps p.tables e below (T1.setTop (mkF m 39 #[.val (.ref a1), .val (.long (((0 : Int64) + ((2 : Int64) * ra)) + ((2 : Int64) * rb))), .second, .val (.ref a2), .val (.int (2 : Int32)), .val (.int (2 : Int32)), .val (.long rb), .second] [])) _
    refine XS.goto X1.here hx rfl (pc0 := 39) (pc' := 14) rfl (hb hby d5_39) (by decide) (by decide) ?_
    show Steps p.tables e below (T1.setTop (mkF m 14 #[.val (.ref a1), .val (.long (((0 : Int64) + ((2 : Int64) * ra)) + ((2 : Int64) * rb))), .second, .val (.ref a2), .val (.int (2 : Int32)), .val (.int (2 : Int32)), .val (.long rb), .second] [])) _
    refine XS.iload X1.here hx rfl (hb hby d5_14) rfl ?_
    show Steps p.tables e below (T1.setTop (mkF m 16 #[.val (.ref a1), .val (.long (((0 : Int64) + ((2 : Int64) * ra)) + ((2 : Int64) * rb))), .second, .val (.ref a2), .val (.int (2 : Int32)), .val (.int (2 : Int32)), .val (.long rb), .second] [(.int (2 : Int32))])) _
    refine XS.iload X1.here hx rfl (hb hby d5_16) rfl ?_
    show Steps p.tables e below (T1.setTop (mkF m 18 #[.val (.ref a1), .val (.long (((0 : Int64) + ((2 : Int64) * ra)) + ((2 : Int64) * rb))), .second, .val (.ref a2), .val (.int (2 : Int32)), .val (.int (2 : Int32)), .val (.long rb), .second] [(.int (2 : Int32)), (.int (2 : Int32))])) _
    refine XS.icmpYes X1.here hx rfl (pc0 := 18) (pc' := 42) rfl (hb hby d5_18) rfl (flt (by decide : ¬ ((2 : Int32) < (2 : Int32)))).2.1 (by decide) (by decide) ?_
    show Steps p.tables e below (T1.setTop (mkF m 42 #[.val (.ref a1), .val (.long (((0 : Int64) + ((2 : Int64) * ra)) + ((2 : Int64) * rb))), .second, .val (.ref a2), .val (.int (2 : Int32)), .val (.int (2 : Int32)), .val (.long rb), .second] [])) _
    refine XS.lloadN X1.here hx rfl (hb hby d5_42) rfl ?_
    show Steps p.tables e below (T1.setTop (mkF m 43 #[.val (.ref a1), .val (.long (((0 : Int64) + ((2 : Int64) * ra)) + ((2 : Int64) * rb))), .second, .val (.ref a2), .val (.int (2 : Int32)), .val (.int (2 : Int32)), .val (.long rb), .second] [(.long (((0 : Int64) + ((2 : Int64) * ra)) + ((2 : Int64) * rb)))])) _
    exact k
  obtain ⟨fs, hr, hrun, hended, hW, hsame⟩ := X1.leave (v := some (.long (((0 : Int64) + ((2 : Int64) * ra)) + ((2 : Int64) * rb)))) (fun h => by rw [Bd.returns] at h; cases h)
  refine ⟨_, _, pre2 _ ?_, hrun, hended, _, _, rfl, ?_, ⟨_, rfl⟩, hW, hsame.mono (by decide) (by decide)⟩
  · exact retOut X1 hx Bd.returns rfl (Or.inr (Or.inl ⟨rfl, rfl, _, rfl⟩)) (hb hby d5_43) hr
  · show Q_rmD2 Z a1 a2 cl ra rb h0 n0 _ T1.heap _
    rw [e1]
    exact ⟨rfl, N0, rfl⟩
def own_m2 (ra rb : Int64) : Int64 := (((0 : Int64) + ((2 : Int64) * ra)) + ((2 : Int64) * rb))
def own_h2 (m h a b : Int64) : Int64 := h + (m - (2 : Int64) * (a + b))
def own_l2 (ra rb : Int64) : Int32 := let h1 := own_h2 (own_m2 ra rb) 0 ra rb; if h1 < 0 then 1 else 0
theorem ef_rmL2 (m : MethodId) (x0 : Addr) : entryFrame m #[(.ref x0)] 9 = mkF m 0 #[.val (.ref x0), .unset, .unset, .unset, .unset, .unset, .unset, .unset, .unset] [] := by first | (simp [entryFrame, mkF, argsToLocals, Value.category]; done) | rfl
theorem d4_25 : decode prog_9_method_4_code 25 = .ok (.lload_n 3, 1) := by decide +kernel
theorem d4_26 : decode prog_9_method_4_code 26 = .ok (.lload_n 1, 1) := by decide +kernel
theorem d4_27 : decode prog_9_method_4_code 27 = .ok (.aload_n 0, 1) := by decide +kernel
theorem d4_28 : decode prog_9_method_4_code 28 = .ok (.getfield 9, 3) := by decide +kernel
theorem d4_31 : decode prog_9_method_4_code 31 = .ok (.i2l, 1) := by decide +kernel
theorem d4_32 : decode prog_9_method_4_code 32 = .ok (.aload_n 0, 1) := by decide +kernel
theorem d4_33 : decode prog_9_method_4_code 33 = .ok (.getfield 13, 3) := by decide +kernel
theorem d4_36 : decode prog_9_method_4_code 36 = .ok (.iload 8, 2) := by decide +kernel
theorem d4_38 : decode prog_9_method_4_code 38 = .ok (.iconst 1, 1) := by decide +kernel
theorem d4_39 : decode prog_9_method_4_code 39 = .ok (.isub, 1) := by decide +kernel
theorem d4_40 : decode prog_9_method_4_code 40 = .ok (.laload, 1) := by decide +kernel
theorem d4_41 : decode prog_9_method_4_code 41 = .ok (.aload_n 0, 1) := by decide +kernel
theorem d4_42 : decode prog_9_method_4_code 42 = .ok (.getfield 13, 3) := by decide +kernel
theorem d4_45 : decode prog_9_method_4_code 45 = .ok (.iload 8, 2) := by decide +kernel
theorem d4_47 : decode prog_9_method_4_code 47 = .ok (.laload, 1) := by decide +kernel
theorem d4_48 : decode prog_9_method_4_code 48 = .ok (.ladd, 1) := by decide +kernel
theorem d4_49 : decode prog_9_method_4_code 49 = .ok (.lmul, 1) := by decide +kernel
theorem d4_50 : decode prog_9_method_4_code 50 = .ok (.lsub, 1) := by decide +kernel
theorem d4_51 : decode prog_9_method_4_code 51 = .ok (.ladd, 1) := by decide +kernel
theorem d4_52 : decode prog_9_method_4_code 52 = .ok (.lstore_n 3, 1) := by decide +kernel
theorem d4_53 : decode prog_9_method_4_code 53 = .ok (.lload_n 3, 1) := by decide +kernel
theorem d4_54 : decode prog_9_method_4_code 54 = .ok (.lload 5, 2) := by decide +kernel
theorem d4_56 : decode prog_9_method_4_code 56 = .ok (.lcmp, 1) := by decide +kernel
theorem d4_57 : decode prog_9_method_4_code 57 = .ok (.ifCond .ge 10, 3) := by decide +kernel
theorem d4_60 : decode prog_9_method_4_code 60 = .ok (.lload_n 3, 1) := by decide +kernel
theorem d4_61 : decode prog_9_method_4_code 61 = .ok (.lstore 5, 2) := by decide +kernel
theorem d4_63 : decode prog_9_method_4_code 63 = .ok (.iload 8, 2) := by decide +kernel
theorem d4_65 : decode prog_9_method_4_code 65 = .ok (.istore 7, 2) := by decide +kernel
theorem d4_67 : decode prog_9_method_4_code 67 = .ok (.iinc 8 1, 3) := by decide +kernel
theorem d4_70 : decode prog_9_method_4_code 70 = .ok (.goto (-54), 3) := by decide +kernel
def Q_rmL2 (Z : State) (a1 : Addr) (a2 : Addr) (cl : Cell) (ra : Int64) (rb : Int64) (h0 : Heap) (n0 : Nat) (v : Option Value) (h : Heap) (L : List Loc) : Prop := v = some (.int (own_l2 ra rb)) ∧ Fr n0 L ∧ h = h0
set_option maxRecDepth 65536 in
set_option maxHeartbeats 40000000 in
theorem rmL2 (l : Launch) (Z : State) (a0 : Array Value) (hw : ∀ d ∈ tables_1, d.before a0 Z = true) (ws : List Jvm.Cond) (a1 : Addr) (a2 : Addr) (cl : Cell) (ra : Int64) (rb : Int64) (h0 : Heap) (n0 : Nat) (Z0 : n0 ≤ h0.size) (E1 : Exa Z h0 a1 "com/example/hummingbird/hummingbird/engine/Rhythm") (F1 : Fld Z h0 a1 "com/example/hummingbird/hummingbird/engine/Rhythm" "points" "I" (.int (2 : Int32))) (F2 : Fld Z h0 a1 "com/example/hummingbird/hummingbird/engine/Rhythm" "rates" "[J" (.ref a2)) (Ar : Arr Z h0 a2 cl .long) (Sz : cl.slots.size = (2 : Int32).toNatClampNeg) (t0 : cl.slots[0]? = some (.long ra)) (t1 : cl.slots[1]? = some (.long rb)) :
    MetFree l (⟨"com/example/hummingbird/hummingbird/engine/Rhythm", "leastWaitingPoint", "()I"⟩ : MethodName) (head1 (Jvm.Cond.code (⟨"com/example/hummingbird/hummingbird/engine/Rhythm", "leastWaitingPoint", "()I"⟩ : MethodName) prog_9_method_4_code 9 (some .int) :: ws) ({ frames := 1, cells := 0, slots := 0, locals := 20 } : Room)) (fun a U => a = #[(.ref a1)] ∧ Z.Warmed39 U.vm ∧ U.heap = h0) (fun _ _ _ _ _ => True) (fun _ U o U' => ∃ v L, o = .returned v ∧ Q_rmL2 Z a1 a2 cl ra rb h0 n0 v U'.heap L ∧ FrameEnd U o U' L ({ frames := 1, cells := 0, slots := 0, locals := 20 } : Room).cells ({ frames := 1, cells := 0, slots := 0, locals := 20 } : Room).slots) := by
  refine MetFree.of_bodySF (plainFor_of_name pn_0) hisR ?_
  intro p e s m args below meth c s₁ Bd hml0 hP hK
  obtain ⟨rfl, hZ, hh⟩ := hP
  have hx := Bd.exec
  have hby := Bd.bytes
  have hml : c.maxLocals = 9 := hml0
  have hown : s.vm.findClass "com/example/hummingbird/hummingbird/engine/Rhythm" = some m.cls := findClass_of_methodNamed Bd.named
  have hnm := (name_of_methodNamed Bd.named Bd.method).1
  have X0 : Stand p l e ({ frames := 1, cells := 0, slots := 0, locals := 20 } : Room) s m #[(.ref a1)] below meth c s₁ [] 0 0 := Stand.of_body Bd
  have e0 : s₁.heap = h0 := by rw [← hh, Bd.state]; rfl
  have N0 := Fr.nil n0
  have pre0 : ∀ t, Steps p.tables e below (s₁.setTop (mkF m 0 #[.val (.ref a1), .unset, .unset, .unset, .unset, .unset, .unset, .unset, .unset] [])) t → Steps p.tables e below (s₁.setTop (entryFrame m #[(.ref a1)] 9)) t := fun t k => castTop (ef_rmL2 m a1) k
  obtain ⟨cq1, q1, q1'⟩ := E1.cell
  obtain ⟨_, _, ⟨T1, L1, k1, n1⟩, -, X1, ⟨Lc1, hQ1, l1, y1, z1⟩, st1⟩ := X0.privateBack hx (y := (⟨"com/example/hummingbird/hummingbird/engine/Rhythm", "dayMass", "()J"⟩ : MethodName)) hown (mvT hZ (hw _ (List.mem_of_getElem? (i := 24) rfl))) (mvT hZ (hw _ (List.mem_of_getElem? (i := 25) rfl))) (own_selP (y := (⟨"com/example/hummingbird/hummingbird/engine/Rhythm", "dayMass", "()J"⟩ : MethodName)) hZ (hw _ (List.mem_of_getElem? (i := 7) rfl)) (hw _ (List.mem_of_getElem? (i := 25) rfl)) (hw _ (List.mem_of_getElem? (i := 26) rfl)) (by decide)) (Cond.privateMethod_at (mvP hZ (hw _ (List.mem_of_getElem? (i := 26) rfl)) (args := #[]))) (mvT hZ (hw _ (List.mem_of_getElem? (i := 27) rfl))) (by decide) (backOf (W := 0) (rmD2 l Z a0 hw [] a1 a2 cl ra rb h0 n0 Z0 F2 Ar Sz t0 t1) hZ (hw _ (List.mem_of_getElem? (i := 27) rfl)) (hw _ (List.mem_of_getElem? (i := 8) rfl)) (by decide) (by decide)) (g := (mkF m 1 #[.val (.ref a1), .unset, .unset, .unset, .unset, .unset, .unset, .unset, .unset] [(.ref a1)])) rfl (by rw [hml]; rfl) (Steps.refl _) (a := a1) (by rw [e0]; exact q1) q1' (argsL := []) (rest := []) (lenOf pd_0 rfl) rfl (by show 2 * 0 + _ ≤ _; exact Nat.le_of_eq rfl) (hb hby d4_1) (fun _ _ => ⟨rfl, e0, (by decide : 0 + 0 ≤ _), (by decide : 0 + 0 ≤ _)⟩)
  dsimp only [Pt.U, Pt.locs, Pt.cells, Pt.slots] at X1 l1 y1 z1 st1 hQ1
  subst l1 y1 z1
  obtain ⟨rfl, N1q, hq1⟩ := hQ1
  have N1 := Fr.app N0 N1q
  obtain ⟨T2, X2, e2, st2⟩ := getF X1 hx hZ hown (host := "") (Or.inl (hw _ (List.mem_of_getElem? (i := 15) rfl))) Via.refl hq1 F1 (g := (mkF m 19 #[.val (.ref a1), .val (.long (own_m2 ra rb)), .second, .val (.long (0 : Int64)), .second, .val (.long (0 : Int64)), .second, .val (.int (0 : Int32)), .val (.int (1 : Int32))] [(.ref a1), (.int (1 : Int32))])) rfl rfl (hb hby d4_19)
  obtain ⟨T3, X3, e3, st3⟩ := getF X2 hx hZ hown (host := "") (Or.inl (hw _ (List.mem_of_getElem? (i := 15) rfl))) Via.refl e2 F1 (g := (mkF m 28 #[.val (.ref a1), .val (.long (own_m2 ra rb)), .second, .val (.long (0 : Int64)), .second, .val (.long (0 : Int64)), .second, .val (.int (0 : Int32)), .val (.int (1 : Int32))] [(.ref a1), (.long (own_m2 ra rb)), (.long (0 : Int64))])) rfl rfl (hb hby d4_28)
  obtain ⟨T4, X4, e4, st4⟩ := getF X3 hx hZ hown (host := "") (Or.inl (hw _ (List.mem_of_getElem? (i := 17) rfl))) Via.refl e3 F2 (g := (mkF m 33 #[.val (.ref a1), .val (.long (own_m2 ra rb)), .second, .val (.long (0 : Int64)), .second, .val (.long (0 : Int64)), .second, .val (.int (0 : Int32)), .val (.int (1 : Int32))] [(.ref a1), (.long (2 : Int64)), (.long (own_m2 ra rb)), (.long (0 : Int64))])) rfl rfl (hb hby d4_33)
  obtain ⟨T5, X5, e5, st5⟩ := getF X4 hx hZ hown (host := "") (Or.inl (hw _ (List.mem_of_getElem? (i := 17) rfl))) Via.refl e4 F2 (g := (mkF m 42 #[.val (.ref a1), .val (.long (own_m2 ra rb)), .second, .val (.long (0 : Int64)), .second, .val (.long (0 : Int64)), .second, .val (.int (0 : Int32)), .val (.int (1 : Int32))] [(.ref a1), (.long ra), (.long (2 : Int64)), (.long (own_m2 ra rb)), (.long (0 : Int64))])) rfl rfl (hb hby d4_42)
  have pre6 : ∀ t, Steps p.tables e below (T5.setTop (mkF m 53 #[.val (.ref a1), .val (.long (own_m2 ra rb)), .second, .val (.long ((0 : Int64) + ((own_m2 ra rb) - ((2 : Int64) * (ra + rb))))), .second, .val (.long (0 : Int64)), .second, .val (.int (0 : Int32)), .val (.int (1 : Int32))] [])) t → Steps p.tables e below (s₁.setTop (entryFrame m #[(.ref a1)] 9)) t := by
    intro t k
    refine pre0 t ?_
    show Steps p.tables e below (s₁.setTop (mkF m 0 #[.val (.ref a1), .unset, .unset, .unset, .unset, .unset, .unset, .unset, .unset] [])) _
    refine XS.aloadN X0.here hx rfl (hb hby d4_0) rfl (rfl) ?_
    show Steps p.tables e below (s₁.setTop (mkF m 1 #[.val (.ref a1), .unset, .unset, .unset, .unset, .unset, .unset, .unset, .unset] [(.ref a1)])) _
    refine st1.trans ?_
    show Steps p.tables e below (T1.setTop (mkF m 4 #[.val (.ref a1), .unset, .unset, .unset, .unset, .unset, .unset, .unset, .unset] [(.long (own_m2 ra rb))])) _
    refine XS.lstoreN X1.here hx rfl (hb hby d4_4) rfl (l' := #[.val (.ref a1), .val (.long (own_m2 ra rb)), .second, .unset, .unset, .unset, .unset, .unset, .unset]) rfl ?_
    show Steps p.tables e below (T1.setTop (mkF m 5 #[.val (.ref a1), .val (.long (own_m2 ra rb)), .second, .unset, .unset, .unset, .unset, .unset, .unset] [])) _
    refine XS.lconst X1.here hx rfl (hb hby d4_5) ?_
    show Steps p.tables e below (T1.setTop (mkF m 6 #[.val (.ref a1), .val (.long (own_m2 ra rb)), .second, .unset, .unset, .unset, .unset, .unset, .unset] [(.long (0 : Int64))])) _
    refine XS.lstoreN X1.here hx rfl (hb hby d4_6) rfl (l' := #[.val (.ref a1), .val (.long (own_m2 ra rb)), .second, .val (.long (0 : Int64)), .second, .unset, .unset, .unset, .unset]) rfl ?_
    show Steps p.tables e below (T1.setTop (mkF m 7 #[.val (.ref a1), .val (.long (own_m2 ra rb)), .second, .val (.long (0 : Int64)), .second, .unset, .unset, .unset, .unset] [])) _
    refine XS.lconst X1.here hx rfl (hb hby d4_7) ?_
    show Steps p.tables e below (T1.setTop (mkF m 8 #[.val (.ref a1), .val (.long (own_m2 ra rb)), .second, .val (.long (0 : Int64)), .second, .unset, .unset, .unset, .unset] [(.long (0 : Int64))])) _
    refine XS.lstore X1.here hx rfl (hb hby d4_8) rfl (l' := #[.val (.ref a1), .val (.long (own_m2 ra rb)), .second, .val (.long (0 : Int64)), .second, .val (.long (0 : Int64)), .second, .unset, .unset]) rfl ?_
    show Steps p.tables e below (T1.setTop (mkF m 10 #[.val (.ref a1), .val (.long (own_m2 ra rb)), .second, .val (.long (0 : Int64)), .second, .val (.long (0 : Int64)), .second, .unset, .unset] [])) _
    refine XS.iconst X1.here hx rfl (hb hby d4_10) ?_
    show Steps p.tables e below (T1.setTop (mkF m 11 #[.val (.ref a1), .val (.long (own_m2 ra rb)), .second, .val (.long (0 : Int64)), .second, .val (.long (0 : Int64)), .second, .unset, .unset] [(.int (0 : Int32))])) _
    refine XS.istore X1.here hx rfl (hb hby d4_11) rfl (l' := #[.val (.ref a1), .val (.long (own_m2 ra rb)), .second, .val (.long (0 : Int64)), .second, .val (.long (0 : Int64)), .second, .val (.int (0 : Int32)), .unset]) rfl ?_
    show Steps p.tables e below (T1.setTop (mkF m 13 #[.val (.ref a1), .val (.long (own_m2 ra rb)), .second, .val (.long (0 : Int64)), .second, .val (.long (0 : Int64)), .second, .val (.int (0 : Int32)), .unset] [])) _
    refine XS.iconst X1.here hx rfl (hb hby d4_13) ?_
    show Steps p.tables e below (T1.setTop (mkF m 14 #[.val (.ref a1), .val (.long (own_m2 ra rb)), .second, .val (.long (0 : Int64)), .second, .val (.long (0 : Int64)), .second, .val (.int (0 : Int32)), .unset] [(.int (1 : Int32))])) _
    refine XS.istore X1.here hx rfl (hb hby d4_14) rfl (l' := #[.val (.ref a1), .val (.long (own_m2 ra rb)), .second, .val (.long (0 : Int64)), .second, .val (.long (0 : Int64)), .second, .val (.int (0 : Int32)), .val (.int (1 : Int32))]) rfl ?_
    show Steps p.tables e below (T1.setTop (mkF m 16 #[.val (.ref a1), .val (.long (own_m2 ra rb)), .second, .val (.long (0 : Int64)), .second, .val (.long (0 : Int64)), .second, .val (.int (0 : Int32)), .val (.int (1 : Int32))] [])) _
    refine XS.iload X1.here hx rfl (hb hby d4_16) rfl ?_
    show Steps p.tables e below (T1.setTop (mkF m 18 #[.val (.ref a1), .val (.long (own_m2 ra rb)), .second, .val (.long (0 : Int64)), .second, .val (.long (0 : Int64)), .second, .val (.int (0 : Int32)), .val (.int (1 : Int32))] [(.int (1 : Int32))])) _
    refine XS.aloadN X1.here hx rfl (hb hby d4_18) rfl (rfl) ?_
    show Steps p.tables e below (T1.setTop (mkF m 19 #[.val (.ref a1), .val (.long (own_m2 ra rb)), .second, .val (.long (0 : Int64)), .second, .val (.long (0 : Int64)), .second, .val (.int (0 : Int32)), .val (.int (1 : Int32))] [(.ref a1), (.int (1 : Int32))])) _
    refine st2 _ ?_
    show Steps p.tables e below (T2.setTop (mkF m 22 #[.val (.ref a1), .val (.long (own_m2 ra rb)), .second, .val (.long (0 : Int64)), .second, .val (.long (0 : Int64)), .second, .val (.int (0 : Int32)), .val (.int (1 : Int32))] [(.int (2 : Int32)), (.int (1 : Int32))])) _
    refine XS.icmpNo X2.here hx rfl (hb hby d4_22) rfl (tlt (by decide : (1 : Int32) < (2 : Int32))).2.1 ?_
    show Steps p.tables e below (T2.setTop (mkF m 25 #[.val (.ref a1), .val (.long (own_m2 ra rb)), .second, .val (.long (0 : Int64)), .second, .val (.long (0 : Int64)), .second, .val (.int (0 : Int32)), .val (.int (1 : Int32))] [])) _
    refine XS.lloadN X2.here hx rfl (hb hby d4_25) rfl ?_
    show Steps p.tables e below (T2.setTop (mkF m 26 #[.val (.ref a1), .val (.long (own_m2 ra rb)), .second, .val (.long (0 : Int64)), .second, .val (.long (0 : Int64)), .second, .val (.int (0 : Int32)), .val (.int (1 : Int32))] [(.long (0 : Int64))])) _
    refine XS.lloadN X2.here hx rfl (hb hby d4_26) rfl ?_
    show Steps p.tables e below (T2.setTop (mkF m 27 #[.val (.ref a1), .val (.long (own_m2 ra rb)), .second, .val (.long (0 : Int64)), .second, .val (.long (0 : Int64)), .second, .val (.int (0 : Int32)), .val (.int (1 : Int32))] [(.long (own_m2 ra rb)), (.long (0 : Int64))])) _
    refine XS.aloadN X2.here hx rfl (hb hby d4_27) rfl (rfl) ?_
    show Steps p.tables e below (T2.setTop (mkF m 28 #[.val (.ref a1), .val (.long (own_m2 ra rb)), .second, .val (.long (0 : Int64)), .second, .val (.long (0 : Int64)), .second, .val (.int (0 : Int32)), .val (.int (1 : Int32))] [(.ref a1), (.long (own_m2 ra rb)), (.long (0 : Int64))])) _
    refine st3 _ ?_
    show Steps p.tables e below (T3.setTop (mkF m 31 #[.val (.ref a1), .val (.long (own_m2 ra rb)), .second, .val (.long (0 : Int64)), .second, .val (.long (0 : Int64)), .second, .val (.int (0 : Int32)), .val (.int (1 : Int32))] [(.int (2 : Int32)), (.long (own_m2 ra rb)), (.long (0 : Int64))])) _
    refine XS.i2l X3.here hx rfl (hb hby d4_31) rfl ?_
    show Steps p.tables e below (T3.setTop (mkF m 32 #[.val (.ref a1), .val (.long (own_m2 ra rb)), .second, .val (.long (0 : Int64)), .second, .val (.long (0 : Int64)), .second, .val (.int (0 : Int32)), .val (.int (1 : Int32))] [(.long (2 : Int64)), (.long (own_m2 ra rb)), (.long (0 : Int64))])) _
    refine XS.aloadN X3.here hx rfl (hb hby d4_32) rfl (rfl) ?_
    show Steps p.tables e below (T3.setTop (mkF m 33 #[.val (.ref a1), .val (.long (own_m2 ra rb)), .second, .val (.long (0 : Int64)), .second, .val (.long (0 : Int64)), .second, .val (.int (0 : Int32)), .val (.int (1 : Int32))] [(.ref a1), (.long (2 : Int64)), (.long (own_m2 ra rb)), (.long (0 : Int64))])) _
    refine st4 _ ?_
    show Steps p.tables e below (T4.setTop (mkF m 36 #[.val (.ref a1), .val (.long (own_m2 ra rb)), .second, .val (.long (0 : Int64)), .second, .val (.long (0 : Int64)), .second, .val (.int (0 : Int32)), .val (.int (1 : Int32))] [(.ref a2), (.long (2 : Int64)), (.long (own_m2 ra rb)), (.long (0 : Int64))])) _
    refine XS.iload X4.here hx rfl (hb hby d4_36) rfl ?_
    show Steps p.tables e below (T4.setTop (mkF m 38 #[.val (.ref a1), .val (.long (own_m2 ra rb)), .second, .val (.long (0 : Int64)), .second, .val (.long (0 : Int64)), .second, .val (.int (0 : Int32)), .val (.int (1 : Int32))] [(.int (1 : Int32)), (.ref a2), (.long (2 : Int64)), (.long (own_m2 ra rb)), (.long (0 : Int64))])) _
    refine XS.iconst X4.here hx rfl (hb hby d4_38) ?_
    show Steps p.tables e below (T4.setTop (mkF m 39 #[.val (.ref a1), .val (.long (own_m2 ra rb)), .second, .val (.long (0 : Int64)), .second, .val (.long (0 : Int64)), .second, .val (.int (0 : Int32)), .val (.int (1 : Int32))] [(.int (1 : Int32)), (.int (1 : Int32)), (.ref a2), (.long (2 : Int64)), (.long (own_m2 ra rb)), (.long (0 : Int64))])) _
    refine XS.isub X4.here hx rfl (hb hby d4_39) rfl ?_
    show Steps p.tables e below (T4.setTop (mkF m 40 #[.val (.ref a1), .val (.long (own_m2 ra rb)), .second, .val (.long (0 : Int64)), .second, .val (.long (0 : Int64)), .second, .val (.int (0 : Int32)), .val (.int (1 : Int32))] [(.int (0 : Int32)), (.ref a2), (.long (2 : Int64)), (.long (own_m2 ra rb)), (.long (0 : Int64))])) _
    refine X4.laload hx (j := (0 : Int32)) (v := (.long ra)) (by rw [e4]; exact Ar.1) (State.isArrayOf_alike hZ.alike Ar.2.1) Ar.2.2 (inb_of Sz ⟨by decide, by decide⟩) t0 (g := (mkF m 40 #[.val (.ref a1), .val (.long (own_m2 ra rb)), .second, .val (.long (0 : Int64)), .second, .val (.long (0 : Int64)), .second, .val (.int (0 : Int32)), .val (.int (1 : Int32))] [(.int (0 : Int32)), (.ref a2), (.long (2 : Int64)), (.long (own_m2 ra rb)), (.long (0 : Int64))])) rfl rfl (hb hby d4_40) _ ?_
    show Steps p.tables e below (T4.setTop (mkF m 41 #[.val (.ref a1), .val (.long (own_m2 ra rb)), .second, .val (.long (0 : Int64)), .second, .val (.long (0 : Int64)), .second, .val (.int (0 : Int32)), .val (.int (1 : Int32))] [(.long ra), (.long (2 : Int64)), (.long (own_m2 ra rb)), (.long (0 : Int64))])) _
    refine XS.aloadN X4.here hx rfl (hb hby d4_41) rfl (rfl) ?_
    show Steps p.tables e below (T4.setTop (mkF m 42 #[.val (.ref a1), .val (.long (own_m2 ra rb)), .second, .val (.long (0 : Int64)), .second, .val (.long (0 : Int64)), .second, .val (.int (0 : Int32)), .val (.int (1 : Int32))] [(.ref a1), (.long ra), (.long (2 : Int64)), (.long (own_m2 ra rb)), (.long (0 : Int64))])) _
    refine st5 _ ?_
    show Steps p.tables e below (T5.setTop (mkF m 45 #[.val (.ref a1), .val (.long (own_m2 ra rb)), .second, .val (.long (0 : Int64)), .second, .val (.long (0 : Int64)), .second, .val (.int (0 : Int32)), .val (.int (1 : Int32))] [(.ref a2), (.long ra), (.long (2 : Int64)), (.long (own_m2 ra rb)), (.long (0 : Int64))])) _
    refine XS.iload X5.here hx rfl (hb hby d4_45) rfl ?_
    show Steps p.tables e below (T5.setTop (mkF m 47 #[.val (.ref a1), .val (.long (own_m2 ra rb)), .second, .val (.long (0 : Int64)), .second, .val (.long (0 : Int64)), .second, .val (.int (0 : Int32)), .val (.int (1 : Int32))] [(.int (1 : Int32)), (.ref a2), (.long ra), (.long (2 : Int64)), (.long (own_m2 ra rb)), (.long (0 : Int64))])) _
    refine X5.laload hx (j := (1 : Int32)) (v := (.long rb)) (by rw [e5]; exact Ar.1) (State.isArrayOf_alike hZ.alike Ar.2.1) Ar.2.2 (inb_of Sz ⟨by decide, by decide⟩) t1 (g := (mkF m 47 #[.val (.ref a1), .val (.long (own_m2 ra rb)), .second, .val (.long (0 : Int64)), .second, .val (.long (0 : Int64)), .second, .val (.int (0 : Int32)), .val (.int (1 : Int32))] [(.int (1 : Int32)), (.ref a2), (.long ra), (.long (2 : Int64)), (.long (own_m2 ra rb)), (.long (0 : Int64))])) rfl rfl (hb hby d4_47) _ ?_
    show Steps p.tables e below (T5.setTop (mkF m 48 #[.val (.ref a1), .val (.long (own_m2 ra rb)), .second, .val (.long (0 : Int64)), .second, .val (.long (0 : Int64)), .second, .val (.int (0 : Int32)), .val (.int (1 : Int32))] [(.long rb), (.long ra), (.long (2 : Int64)), (.long (own_m2 ra rb)), (.long (0 : Int64))])) _
    refine XS.ladd X5.here hx rfl (hb hby d4_48) rfl ?_
    show Steps p.tables e below (T5.setTop (mkF m 49 #[.val (.ref a1), .val (.long (own_m2 ra rb)), .second, .val (.long (0 : Int64)), .second, .val (.long (0 : Int64)), .second, .val (.int (0 : Int32)), .val (.int (1 : Int32))] [(.long (ra + rb)), (.long (2 : Int64)), (.long (own_m2 ra rb)), (.long (0 : Int64))])) _
    refine XS.lmul X5.here hx rfl (hb hby d4_49) rfl ?_
    show Steps p.tables e below (T5.setTop (mkF m 50 #[.val (.ref a1), .val (.long (own_m2 ra rb)), .second, .val (.long (0 : Int64)), .second, .val (.long (0 : Int64)), .second, .val (.int (0 : Int32)), .val (.int (1 : Int32))] [(.long ((2 : Int64) * (ra + rb))), (.long (own_m2 ra rb)), (.long (0 : Int64))])) _
    refine XS.lsub X5.here hx rfl (hb hby d4_50) rfl ?_
    show Steps p.tables e below (T5.setTop (mkF m 51 #[.val (.ref a1), .val (.long (own_m2 ra rb)), .second, .val (.long (0 : Int64)), .second, .val (.long (0 : Int64)), .second, .val (.int (0 : Int32)), .val (.int (1 : Int32))] [(.long ((own_m2 ra rb) - ((2 : Int64) * (ra + rb)))), (.long (0 : Int64))])) _
    refine XS.ladd X5.here hx rfl (hb hby d4_51) rfl ?_
    show Steps p.tables e below (T5.setTop (mkF m 52 #[.val (.ref a1), .val (.long (own_m2 ra rb)), .second, .val (.long (0 : Int64)), .second, .val (.long (0 : Int64)), .second, .val (.int (0 : Int32)), .val (.int (1 : Int32))] [(.long ((0 : Int64) + ((own_m2 ra rb) - ((2 : Int64) * (ra + rb)))))])) _
    refine XS.lstoreN X5.here hx rfl (hb hby d4_52) rfl (l' := #[.val (.ref a1), .val (.long (own_m2 ra rb)), .second, .val (.long ((0 : Int64) + ((own_m2 ra rb) - ((2 : Int64) * (ra + rb))))), .second, .val (.long (0 : Int64)), .second, .val (.int (0 : Int32)), .val (.int (1 : Int32))]) rfl ?_
    show Steps p.tables e below (T5.setTop (mkF m 53 #[.val (.ref a1), .val (.long (own_m2 ra rb)), .second, .val (.long ((0 : Int64) + ((own_m2 ra rb) - ((2 : Int64) * (ra + rb))))), .second, .val (.long (0 : Int64)), .second, .val (.int (0 : Int32)), .val (.int (1 : Int32))] [])) _
    exact k
  obtain ⟨h1, hh1⟩ : ∃ z : Int64, z = (own_h2 (own_m2 ra rb) (0 : Int64) ra rb) := ⟨_, rfl⟩
  have pre7 : ∀ t, Steps p.tables e below (T5.setTop (mkF m 53 #[.val (.ref a1), .val (.long (own_m2 ra rb)), .second, .val (.long h1), .second, .val (.long (0 : Int64)), .second, .val (.int (0 : Int32)), .val (.int (1 : Int32))] [])) t → Steps p.tables e below (s₁.setTop (entryFrame m #[(.ref a1)] 9)) t := by rw [hh1]; exact pre6
  have pre8 : ∀ t, Steps p.tables e below (T5.setTop (mkF m 57 #[.val (.ref a1), .val (.long (own_m2 ra rb)), .second, .val (.long h1), .second, .val (.long (0 : Int64)), .second, .val (.int (0 : Int32)), .val (.int (1 : Int32))] [(.int (lcmpW h1 (0 : Int64)))])) t → Steps p.tables e below (s₁.setTop (entryFrame m #[(.ref a1)] 9)) t := by
    intro t k
    refine pre7 t ?_
    show Steps p.tables e below (T5.setTop (mkF m 53 #[.val (.ref a1), .val (.long (own_m2 ra rb)), .second, .val (.long h1), .second, .val (.long (0 : Int64)), .second, .val (.int (0 : Int32)), .val (.int (1 : Int32))] [])) _
    refine XS.lloadN X5.here hx rfl (hb hby d4_53) rfl ?_
    show Steps p.tables e below (T5.setTop (mkF m 54 #[.val (.ref a1), .val (.long (own_m2 ra rb)), .second, .val (.long h1), .second, .val (.long (0 : Int64)), .second, .val (.int (0 : Int32)), .val (.int (1 : Int32))] [(.long h1)])) _
    refine XS.lload X5.here hx rfl (hb hby d4_54) rfl ?_
    show Steps p.tables e below (T5.setTop (mkF m 56 #[.val (.ref a1), .val (.long (own_m2 ra rb)), .second, .val (.long h1), .second, .val (.long (0 : Int64)), .second, .val (.int (0 : Int32)), .val (.int (1 : Int32))] [(.long (0 : Int64)), (.long h1)])) _
    refine XS.lcmp X5.here hx rfl (hb hby d4_56) rfl ?_
    show Steps p.tables e below (T5.setTop (mkF m 57 #[.val (.ref a1), .val (.long (own_m2 ra rb)), .second, .val (.long h1), .second, .val (.long (0 : Int64)), .second, .val (.int (0 : Int32)), .val (.int (1 : Int32))] [(.int (lcmpW h1 (0 : Int64)))])) _
    exact k
  by_cases d0_0 : h1 < (0 : Int64)
  · skip
    obtain ⟨T9, X9, e9, st9⟩ := getF X5 hx hZ hown (host := "") (Or.inl (hw _ (List.mem_of_getElem? (i := 15) rfl))) Via.refl e5 F1 (g := (mkF m 19 #[.val (.ref a1), .val (.long (own_m2 ra rb)), .second, .val (.long h1), .second, .val (.long h1), .second, .val (.int (1 : Int32)), .val (.int (2 : Int32))] [(.ref a1), (.int (2 : Int32))])) rfl rfl (hb hby d4_19)
    have pre10 : ∀ t, Steps p.tables e below (T9.setTop (mkF m 75 #[.val (.ref a1), .val (.long (own_m2 ra rb)), .second, .val (.long h1), .second, .val (.long h1), .second, .val (.int (1 : Int32)), .val (.int (2 : Int32))] [(.int (1 : Int32))])) t → Steps p.tables e below (s₁.setTop (entryFrame m #[(.ref a1)] 9)) t := by
      intro t k
      refine pre8 t ?_
      refine XS.ifNo X5.here hx rfl (hb hby d4_57) rfl ((if0 _ _).trans (tlt ((lw_lt h1 (0 : Int64)).mpr d0_0)).2.1) ?_
      show Steps p.tables e below (T5.setTop (mkF m 60 #[.val (.ref a1), .val (.long (own_m2 ra rb)), .second, .val (.long h1), .second, .val (.long (0 : Int64)), .second, .val (.int (0 : Int32)), .val (.int (1 : Int32))] [])) _
      refine XS.lloadN X5.here hx rfl (hb hby d4_60) rfl ?_
      show Steps p.tables e below (T5.setTop (mkF m 61 #[.val (.ref a1), .val (.long (own_m2 ra rb)), .second, .val (.long h1), .second, .val (.long (0 : Int64)), .second, .val (.int (0 : Int32)), .val (.int (1 : Int32))] [(.long h1)])) _
      refine XS.lstore X5.here hx rfl (hb hby d4_61) rfl (l' := #[.val (.ref a1), .val (.long (own_m2 ra rb)), .second, .val (.long h1), .second, .val (.long h1), .second, .val (.int (0 : Int32)), .val (.int (1 : Int32))]) rfl ?_
      show Steps p.tables e below (T5.setTop (mkF m 63 #[.val (.ref a1), .val (.long (own_m2 ra rb)), .second, .val (.long h1), .second, .val (.long h1), .second, .val (.int (0 : Int32)), .val (.int (1 : Int32))] [])) _
      refine XS.iload X5.here hx rfl (hb hby d4_63) rfl ?_
      show Steps p.tables e below (T5.setTop (mkF m 65 #[.val (.ref a1), .val (.long (own_m2 ra rb)), .second, .val (.long h1), .second, .val (.long h1), .second, .val (.int (0 : Int32)), .val (.int (1 : Int32))] [(.int (1 : Int32))])) _
      refine XS.istore X5.here hx rfl (hb hby d4_65) rfl (l' := #[.val (.ref a1), .val (.long (own_m2 ra rb)), .second, .val (.long h1), .second, .val (.long h1), .second, .val (.int (1 : Int32)), .val (.int (1 : Int32))]) rfl ?_
      show Steps p.tables e below (T5.setTop (mkF m 67 #[.val (.ref a1), .val (.long (own_m2 ra rb)), .second, .val (.long h1), .second, .val (.long h1), .second, .val (.int (1 : Int32)), .val (.int (1 : Int32))] [])) _
      refine XS.iinc X5.here hx rfl (hb hby d4_67) rfl (l' := #[.val (.ref a1), .val (.long (own_m2 ra rb)), .second, .val (.long h1), .second, .val (.long h1), .second, .val (.int (1 : Int32)), .val (.int (2 : Int32))]) rfl ?_
      show Steps p.tables e below (T5.setTop (mkF m 70 #[.val (.ref a1), .val (.long (own_m2 ra rb)), .second, .val (.long h1), .second, .val (.long h1), .second, .val (.int (1 : Int32)), .val (.int (2 : Int32))] [])) _
      refine XS.goto X5.here hx rfl (pc0 := 70) (pc' := 16) rfl (hb hby d4_70) (by decide) (by decide) ?_
      show Steps p.tables e below (T5.setTop (mkF m 16 #[.val (.ref a1), .val (.long (own_m2 ra rb)), .second, .val (.long h1), .second, .val (.long h1), .second, .val (.int (1 : Int32)), .val (.int (2 : Int32))] [])) _
      refine XS.iload X5.here hx rfl (hb hby d4_16) rfl ?_
      show Steps p.tables e below (T5.setTop (mkF m 18 #[.val (.ref a1), .val (.long (own_m2 ra rb)), .second, .val (.long h1), .second, .val (.long h1), .second, .val (.int (1 : Int32)), .val (.int (2 : Int32))] [(.int (2 : Int32))])) _
      refine XS.aloadN X5.here hx rfl (hb hby d4_18) rfl (rfl) ?_
      show Steps p.tables e below (T5.setTop (mkF m 19 #[.val (.ref a1), .val (.long (own_m2 ra rb)), .second, .val (.long h1), .second, .val (.long h1), .second, .val (.int (1 : Int32)), .val (.int (2 : Int32))] [(.ref a1), (.int (2 : Int32))])) _
      refine st9 _ ?_
      show Steps p.tables e below (T9.setTop (mkF m 22 #[.val (.ref a1), .val (.long (own_m2 ra rb)), .second, .val (.long h1), .second, .val (.long h1), .second, .val (.int (1 : Int32)), .val (.int (2 : Int32))] [(.int (2 : Int32)), (.int (2 : Int32))])) _
      refine XS.icmpYes X9.here hx rfl (pc0 := 22) (pc' := 73) rfl (hb hby d4_22) rfl (flt (by decide : ¬ ((2 : Int32) < (2 : Int32)))).2.1 (by decide) (by decide) ?_
      show Steps p.tables e below (T9.setTop (mkF m 73 #[.val (.ref a1), .val (.long (own_m2 ra rb)), .second, .val (.long h1), .second, .val (.long h1), .second, .val (.int (1 : Int32)), .val (.int (2 : Int32))] [])) _
      refine XS.iload X9.here hx rfl (hb hby d4_73) rfl ?_
      show Steps p.tables e below (T9.setTop (mkF m 75 #[.val (.ref a1), .val (.long (own_m2 ra rb)), .second, .val (.long h1), .second, .val (.long h1), .second, .val (.int (1 : Int32)), .val (.int (2 : Int32))] [(.int (1 : Int32))])) _
      exact k
    obtain ⟨fs, hr, hrun, hended, hW, hsame⟩ := X9.leave (v := some (.int (1 : Int32))) (fun h => by rw [Bd.returns] at h; cases h)
    refine ⟨_, _, pre10 _ ?_, hrun, hended, _, _, rfl, ?_, ⟨_, rfl⟩, hW, hsame.mono (by decide) (by decide)⟩
    · exact retOut X9 hx Bd.returns rfl (Or.inl ⟨rfl, Or.inl rfl, _, rfl⟩) (hb hby d4_75) hr
    · show Q_rmL2 Z a1 a2 cl ra rb h0 n0 _ T9.heap _
      rw [e9]
      exact ⟨by simp [own_l2, ← hh1, d0_0], N1, rfl⟩
  · skip
    obtain ⟨T11, X11, e11, st11⟩ := getF X5 hx hZ hown (host := "") (Or.inl (hw _ (List.mem_of_getElem? (i := 15) rfl))) Via.refl e5 F1 (g := (mkF m 19 #[.val (.ref a1), .val (.long (own_m2 ra rb)), .second, .val (.long h1), .second, .val (.long (0 : Int64)), .second, .val (.int (0 : Int32)), .val (.int (2 : Int32))] [(.ref a1), (.int (2 : Int32))])) rfl rfl (hb hby d4_19)
    have pre12 : ∀ t, Steps p.tables e below (T11.setTop (mkF m 75 #[.val (.ref a1), .val (.long (own_m2 ra rb)), .second, .val (.long h1), .second, .val (.long (0 : Int64)), .second, .val (.int (0 : Int32)), .val (.int (2 : Int32))] [(.int (0 : Int32))])) t → Steps p.tables e below (s₁.setTop (entryFrame m #[(.ref a1)] 9)) t := by
      intro t k
      refine pre8 t ?_
      refine XS.ifYes X5.here hx rfl (pc0 := 57) (pc' := 67) rfl (hb hby d4_57) rfl ((if0 _ _).trans (flt (mt (lw_lt h1 (0 : Int64)).mp d0_0)).2.1) (by decide) (by decide) ?_
      show Steps p.tables e below (T5.setTop (mkF m 67 #[.val (.ref a1), .val (.long (own_m2 ra rb)), .second, .val (.long h1), .second, .val (.long (0 : Int64)), .second, .val (.int (0 : Int32)), .val (.int (1 : Int32))] [])) _
      refine XS.iinc X5.here hx rfl (hb hby d4_67) rfl (l' := #[.val (.ref a1), .val (.long (own_m2 ra rb)), .second, .val (.long h1), .second, .val (.long (0 : Int64)), .second, .val (.int (0 : Int32)), .val (.int (2 : Int32))]) rfl ?_
      show Steps p.tables e below (T5.setTop (mkF m 70 #[.val (.ref a1), .val (.long (own_m2 ra rb)), .second, .val (.long h1), .second, .val (.long (0 : Int64)), .second, .val (.int (0 : Int32)), .val (.int (2 : Int32))] [])) _
      refine XS.goto X5.here hx rfl (pc0 := 70) (pc' := 16) rfl (hb hby d4_70) (by decide) (by decide) ?_
      show Steps p.tables e below (T5.setTop (mkF m 16 #[.val (.ref a1), .val (.long (own_m2 ra rb)), .second, .val (.long h1), .second, .val (.long (0 : Int64)), .second, .val (.int (0 : Int32)), .val (.int (2 : Int32))] [])) _
      refine XS.iload X5.here hx rfl (hb hby d4_16) rfl ?_
      show Steps p.tables e below (T5.setTop (mkF m 18 #[.val (.ref a1), .val (.long (own_m2 ra rb)), .second, .val (.long h1), .second, .val (.long (0 : Int64)), .second, .val (.int (0 : Int32)), .val (.int (2 : Int32))] [(.int (2 : Int32))])) _
      refine XS.aloadN X5.here hx rfl (hb hby d4_18) rfl (rfl) ?_
      show Steps p.tables e below (T5.setTop (mkF m 19 #[.val (.ref a1), .val (.long (own_m2 ra rb)), .second, .val (.long h1), .second, .val (.long (0 : Int64)), .second, .val (.int (0 : Int32)), .val (.int (2 : Int32))] [(.ref a1), (.int (2 : Int32))])) _
      refine st11 _ ?_
      show Steps p.tables e below (T11.setTop (mkF m 22 #[.val (.ref a1), .val (.long (own_m2 ra rb)), .second, .val (.long h1), .second, .val (.long (0 : Int64)), .second, .val (.int (0 : Int32)), .val (.int (2 : Int32))] [(.int (2 : Int32)), (.int (2 : Int32))])) _
      refine XS.icmpYes X11.here hx rfl (pc0 := 22) (pc' := 73) rfl (hb hby d4_22) rfl (flt (by decide : ¬ ((2 : Int32) < (2 : Int32)))).2.1 (by decide) (by decide) ?_
      show Steps p.tables e below (T11.setTop (mkF m 73 #[.val (.ref a1), .val (.long (own_m2 ra rb)), .second, .val (.long h1), .second, .val (.long (0 : Int64)), .second, .val (.int (0 : Int32)), .val (.int (2 : Int32))] [])) _
      refine XS.iload X11.here hx rfl (hb hby d4_73) rfl ?_
      show Steps p.tables e below (T11.setTop (mkF m 75 #[.val (.ref a1), .val (.long (own_m2 ra rb)), .second, .val (.long h1), .second, .val (.long (0 : Int64)), .second, .val (.int (0 : Int32)), .val (.int (2 : Int32))] [(.int (0 : Int32))])) _
      exact k
    obtain ⟨fs, hr, hrun, hended, hW, hsame⟩ := X11.leave (v := some (.int (0 : Int32))) (fun h => by rw [Bd.returns] at h; cases h)
    refine ⟨_, _, pre12 _ ?_, hrun, hended, _, _, rfl, ?_, ⟨_, rfl⟩, hW, hsame.mono (by decide) (by decide)⟩
    · exact retOut X11 hx Bd.returns rfl (Or.inl ⟨rfl, Or.inl rfl, _, rfl⟩) (hb hby d4_75) hr
    · show Q_rmL2 Z a1 a2 cl ra rb h0 n0 _ T11.heap _
      rw [e11]
      exact ⟨by simp [own_l2, ← hh1, d0_0], N1, rfl⟩
theorem ef_rmD3 (m : MethodId) (x0 : Addr) : entryFrame m #[(.ref x0)] 8 = mkF m 0 #[.val (.ref x0), .unset, .unset, .unset, .unset, .unset, .unset, .unset] [] := by first | (simp [entryFrame, mkF, argsToLocals, Value.category]; done) | rfl
def Q_rmD3 (Z : State) (a1 : Addr) (a2 : Addr) (cl : Cell) (ra : Int64) (rb : Int64) (rc : Int64) (h0 : Heap) (n0 : Nat) (v : Option Value) (h : Heap) (L : List Loc) : Prop := v = some (.long ((((0 : Int64) + ((2 : Int64) * ra)) + ((2 : Int64) * rb)) + ((2 : Int64) * rc))) ∧ Fr n0 L ∧ h = h0
set_option maxRecDepth 65536 in
set_option maxHeartbeats 40000000 in
theorem rmD3 (l : Launch) (Z : State) (a0 : Array Value) (hw : ∀ d ∈ tables_1, d.before a0 Z = true) (ws : List Jvm.Cond) (a1 : Addr) (a2 : Addr) (cl : Cell) (ra : Int64) (rb : Int64) (rc : Int64) (h0 : Heap) (n0 : Nat) (Z0 : n0 ≤ h0.size) (F2 : Fld Z h0 a1 "com/example/hummingbird/hummingbird/engine/Rhythm" "rates" "[J" (.ref a2)) (Ar : Arr Z h0 a2 cl .long) (Sz : cl.slots.size = (3 : Int32).toNatClampNeg) (t0 : cl.slots[0]? = some (.long ra)) (t1 : cl.slots[1]? = some (.long rb)) (t2 : cl.slots[2]? = some (.long rc)) :
    MetFree l (⟨"com/example/hummingbird/hummingbird/engine/Rhythm", "dayMass", "()J"⟩ : MethodName) (head1 (Jvm.Cond.code (⟨"com/example/hummingbird/hummingbird/engine/Rhythm", "dayMass", "()J"⟩ : MethodName) prog_9_method_10_code 8 (some .long) :: ws) ({ frames := 0, cells := 0, slots := 0, locals := 0 } : Room)) (fun a U => a = #[(.ref a1)] ∧ Z.Warmed39 U.vm ∧ U.heap = h0) (fun _ _ _ _ _ => True) (fun _ U o U' => ∃ v L, o = .returned v ∧ Q_rmD3 Z a1 a2 cl ra rb rc h0 n0 v U'.heap L ∧ FrameEnd U o U' L ({ frames := 0, cells := 0, slots := 0, locals := 0 } : Room).cells ({ frames := 0, cells := 0, slots := 0, locals := 0 } : Room).slots) := by
  refine MetFree.of_bodySF (plainFor_of_name pn_0) hisR ?_
  intro p e s m args below meth c s₁ Bd hml0 hP hK
  obtain ⟨rfl, hZ, hh⟩ := hP
  have hx := Bd.exec
  have hby := Bd.bytes
  have hml : c.maxLocals = 8 := hml0
  have hown : s.vm.findClass "com/example/hummingbird/hummingbird/engine/Rhythm" = some m.cls := findClass_of_methodNamed Bd.named
  have hnm := (name_of_methodNamed Bd.named Bd.method).1
  have X0 : Stand p l e ({ frames := 0, cells := 0, slots := 0, locals := 0 } : Room) s m #[(.ref a1)] below meth c s₁ [] 0 0 := Stand.of_body Bd
  have e0 : s₁.heap = h0 := by rw [← hh, Bd.state]; rfl
  have N0 := Fr.nil n0
  have pre0 : ∀ t, Steps p.tables e below (s₁.setTop (mkF m 0 #[.val (.ref a1), .unset, .unset, .unset, .unset, .unset, .unset, .unset] [])) t → Steps p.tables e below (s₁.setTop (entryFrame m #[(.ref a1)] 8)) t := fun t k => castTop (ef_rmD3 m a1) k
  obtain ⟨T1, X1, e1, st1⟩ := getF X0 hx hZ hown (host := "") (Or.inl (hw _ (List.mem_of_getElem? (i := 17) rfl))) Via.refl e0 F2 (g := (mkF m 3 #[.val (.ref a1), .val (.long (0 : Int64)), .second, .unset, .unset, .unset, .unset, .unset] [(.ref a1)])) rfl rfl (hb hby d5_3)
  have pre2 : ∀ t, Steps p.tables e below (T1.setTop (mkF m 43 #[.val (.ref a1), .val (.long ((((0 : Int64) + ((2 : Int64) * ra)) + ((2 : Int64) * rb)) + ((2 : Int64) * rc))), .second, .val (.ref a2), .val (.int (3 : Int32)), .val (.int (3 : Int32)), .val (.long rc), .second] [(.long ((((0 : Int64) + ((2 : Int64) * ra)) + ((2 : Int64) * rb)) + ((2 : Int64) * rc)))])) t → Steps p.tables e below (s₁.setTop (entryFrame m #[(.ref a1)] 8)) t := by
    intro t k
    refine pre0 t ?_
    show Steps p.tables e below (s₁.setTop (mkF m 0 #[.val (.ref a1), .unset, .unset, .unset, .unset, .unset, .unset, .unset] [])) _
    refine XS.lconst X0.here hx rfl (hb hby d5_0) ?_
    show Steps p.tables e below (s₁.setTop (mkF m 1 #[.val (.ref a1), .unset, .unset, .unset, .unset, .unset, .unset, .unset] [(.long (0 : Int64))])) _
    refine XS.lstoreN X0.here hx rfl (hb hby d5_1) rfl (l' := #[.val (.ref a1), .val (.long (0 : Int64)), .second, .unset, .unset, .unset, .unset, .unset]) rfl ?_
    show Steps p.tables e below (s₁.setTop (mkF m 2 #[.val (.ref a1), .val (.long (0 : Int64)), .second, .unset, .unset, .unset, .unset, .unset] [])) _
    refine XS.aloadN X0.here hx rfl (hb hby d5_2) rfl (rfl) ?_
    show Steps p.tables e below (s₁.setTop (mkF m 3 #[.val (.ref a1), .val (.long (0 : Int64)), .second, .unset, .unset, .unset, .unset, .unset] [(.ref a1)])) _
    refine st1 _ ?_
    show Steps p.tables e below (T1.setTop (mkF m 6 #[.val (.ref a1), .val (.long (0 : Int64)), .second, .unset, .unset, .unset, .unset, .unset] [(.ref a2)])) _
    refine XS.astoreN X1.here hx rfl (hb hby d5_6) rfl (rfl) (l' := #[.val (.ref a1), .val (.long (0 : Int64)), .second, .val (.ref a2), .unset, .unset, .unset, .unset]) rfl ?_
    show Steps p.tables e below (T1.setTop (mkF m 7 #[.val (.ref a1), .val (.long (0 : Int64)), .second, .val (.ref a2), .unset, .unset, .unset, .unset] [])) _
    refine XS.aloadN X1.here hx rfl (hb hby d5_7) rfl (rfl) ?_
    show Steps p.tables e below (T1.setTop (mkF m 8 #[.val (.ref a1), .val (.long (0 : Int64)), .second, .val (.ref a2), .unset, .unset, .unset, .unset] [(.ref a2)])) _
    refine X1.arraylength hx (by rw [e1]; exact Ar.1) (State.isArrayOf_alike hZ.alike Ar.2.1) (g := (mkF m 8 #[.val (.ref a1), .val (.long (0 : Int64)), .second, .val (.ref a2), .unset, .unset, .unset, .unset] [(.ref a2)])) rfl rfl (hb hby d5_8) _ ?_
    rw [len_of Sz (by decide)]
    show Steps p.tables e below (T1.setTop (mkF m 9 #[.val (.ref a1), .val (.long (0 : Int64)), .second, .val (.ref a2), .unset, .unset, .unset, .unset] [(.int (3 : Int32))])) _
    refine XS.istore X1.here hx rfl (hb hby d5_9) rfl (l' := #[.val (.ref a1), .val (.long (0 : Int64)), .second, .val (.ref a2), .val (.int (3 : Int32)), .unset, .unset, .unset]) rfl ?_
    show Steps p.tables e below (T1.setTop (mkF m 11 #[.val (.ref a1), .val (.long (0 : Int64)), .second, .val (.ref a2), .val (.int (3 : Int32)), .unset, .unset, .unset] [])) _
    refine XS.iconst X1.here hx rfl (hb hby d5_11) ?_
    show Steps p.tables e below (T1.setTop (mkF m 12 #[.val (.ref a1), .val (.long (0 : Int64)), .second, .val (.ref a2), .val (.int (3 : Int32)), .unset, .unset, .unset] [(.int (0 : Int32))])) _
    refine XS.istore X1.here hx rfl (hb hby d5_12) rfl (l' := #[.val (.ref a1), .val (.long (0 : Int64)), .second, .val (.ref a2), .val (.int (3 : Int32)), .val (.int (0 : Int32)), .unset, .unset]) rfl ?_
    show Steps p.tables e below (T1.setTop (mkF m 14 #[.val (.ref a1), .val (.long (0 : Int64)), .second, .val (.ref a2), .val (.int (3 : Int32)), .val (.int (0 : Int32)), .unset, .unset] [])) _
    refine XS.iload X1.here hx rfl (hb hby d5_14) rfl ?_
    show Steps p.tables e below (T1.setTop (mkF m 16 #[.val (.ref a1), .val (.long (0 : Int64)), .second, .val (.ref a2), .val (.int (3 : Int32)), .val (.int (0 : Int32)), .unset, .unset] [(.int (0 : Int32))])) _
    refine XS.iload X1.here hx rfl (hb hby d5_16) rfl ?_
    show Steps p.tables e below (T1.setTop (mkF m 18 #[.val (.ref a1), .val (.long (0 : Int64)), .second, .val (.ref a2), .val (.int (3 : Int32)), .val (.int (0 : Int32)), .unset, .unset] [(.int (3 : Int32)), (.int (0 : Int32))])) _
    refine XS.icmpNo X1.here hx rfl (hb hby d5_18) rfl (tlt (by decide : (0 : Int32) < (3 : Int32))).2.1 ?_
    show Steps p.tables e below (T1.setTop (mkF m 21 #[.val (.ref a1), .val (.long (0 : Int64)), .second, .val (.ref a2), .val (.int (3 : Int32)), .val (.int (0 : Int32)), .unset, .unset] [])) _
    refine XS.aloadN X1.here hx rfl (hb hby d5_21) rfl (rfl) ?_
    show Steps p.tables e below (T1.setTop (mkF m 22 #[.val (.ref a1), .val (.long (0 : Int64)), .second, .val (.ref a2), .val (.int (3 : Int32)), .val (.int (0 : Int32)), .unset, .unset] [(.ref a2)])) _
    refine XS.iload X1.here hx rfl (hb hby d5_22) rfl ?_
    show Steps p.tables e below (T1.setTop (mkF m 24 #[.val (.ref a1), .val (.long (0 : Int64)), .second, .val (.ref a2), .val (.int (3 : Int32)), .val (.int (0 : Int32)), .unset, .unset] [(.int (0 : Int32)), (.ref a2)])) _
    refine X1.laload hx (j := (0 : Int32)) (v := (.long ra)) (by rw [e1]; exact Ar.1) (State.isArrayOf_alike hZ.alike Ar.2.1) Ar.2.2 (inb_of Sz ⟨by decide, by decide⟩) t0 (g := (mkF m 24 #[.val (.ref a1), .val (.long (0 : Int64)), .second, .val (.ref a2), .val (.int (3 : Int32)), .val (.int (0 : Int32)), .unset, .unset] [(.int (0 : Int32)), (.ref a2)])) rfl rfl (hb hby d5_24) _ ?_
    show Steps p.tables e below (T1.setTop (mkF m 25 #[.val (.ref a1), .val (.long (0 : Int64)), .second, .val (.ref a2), .val (.int (3 : Int32)), .val (.int (0 : Int32)), .unset, .unset] [(.long ra)])) _
    refine XS.lstore X1.here hx rfl (hb hby d5_25) rfl (l' := #[.val (.ref a1), .val (.long (0 : Int64)), .second, .val (.ref a2), .val (.int (3 : Int32)), .val (.int (0 : Int32)), .val (.long ra), .second]) rfl ?_
    show Steps p.tables e below (T1.setTop (mkF m 27 #[.val (.ref a1), .val (.long (0 : Int64)), .second, .val (.ref a2), .val (.int (3 : Int32)), .val (.int (0 : Int32)), .val (.long ra), .second] [])) _
    refine XS.lloadN X1.here hx rfl (hb hby d5_27) rfl ?_
    show Steps p.tables e below (T1.setTop (mkF m 28 #[.val (.ref a1), .val (.long (0 : Int64)), .second, .val (.ref a2), .val (.int (3 : Int32)), .val (.int (0 : Int32)), .val (.long ra), .second] [(.long (0 : Int64))])) _
    refine X1.ldc2Long hx hown (mvT hZ (hw _ (List.mem_of_getElem? (i := 28) rfl))) (g := (mkF m 28 #[.val (.ref a1), .val (.long (0 : Int64)), .second, .val (.ref a2), .val (.int (3 : Int32)), .val (.int (0 : Int32)), .val (.long ra), .second] [(.long (0 : Int64))])) rfl (hb hby d5_28) _ ?_
    show Steps p.tables e below (T1.setTop (mkF m 31 #[.val (.ref a1), .val (.long (0 : Int64)), .second, .val (.ref a2), .val (.int (3 : Int32)), .val (.int (0 : Int32)), .val (.long ra), .second] [(.long (2 : Int64)), (.long (0 : Int64))])) _
    refine XS.lload X1.here hx rfl (hb hby d5_31) rfl ?_
    show Steps p.tables e below (T1.setTop (mkF m 33 #[.val (.ref a1), .val (.long (0 : Int64)), .second, .val (.ref a2), .val (.int (3 : Int32)), .val (.int (0 : Int32)), .val (.long ra), .second] [(.long ra), (.long (2 : Int64)), (.long (0 : Int64))])) _
    refine XS.lmul X1.here hx rfl (hb hby d5_33) rfl ?_
    show Steps p.tables e below (T1.setTop (mkF m 34 #[.val (.ref a1), .val (.long (0 : Int64)), .second, .val (.ref a2), .val (.int (3 : Int32)), .val (.int (0 : Int32)), .val (.long ra), .second] [(.long ((2 : Int64) * ra)), (.long (0 : Int64))])) _
    refine XS.ladd X1.here hx rfl (hb hby d5_34) rfl ?_
    show Steps p.tables e below (T1.setTop (mkF m 35 #[.val (.ref a1), .val (.long (0 : Int64)), .second, .val (.ref a2), .val (.int (3 : Int32)), .val (.int (0 : Int32)), .val (.long ra), .second] [(.long ((0 : Int64) + ((2 : Int64) * ra)))])) _
    refine XS.lstoreN X1.here hx rfl (hb hby d5_35) rfl (l' := #[.val (.ref a1), .val (.long ((0 : Int64) + ((2 : Int64) * ra))), .second, .val (.ref a2), .val (.int (3 : Int32)), .val (.int (0 : Int32)), .val (.long ra), .second]) rfl ?_
    show Steps p.tables e below (T1.setTop (mkF m 36 #[.val (.ref a1), .val (.long ((0 : Int64) + ((2 : Int64) * ra))), .second, .val (.ref a2), .val (.int (3 : Int32)), .val (.int (0 : Int32)), .val (.long ra), .second] [])) _
    refine XS.iinc X1.here hx rfl (hb hby d5_36) rfl (l' := #[.val (.ref a1), .val (.long ((0 : Int64) + ((2 : Int64) * ra))), .second, .val (.ref a2), .val (.int (3 : Int32)), .val (.int (1 : Int32)), .val (.long ra), .second]) rfl ?_
    show Steps p.tables e below (T1.setTop (mkF m 39 #[.val (.ref a1), .val (.long ((0 : Int64) + ((2 : Int64) * ra))), .second, .val (.ref a2), .val (.int (3 : Int32)), .val (.int (1 : Int32)), .val (.long ra), .second] [])) _
    refine XS.goto X1.here hx rfl (pc0 := 39) (pc' := 14) rfl (hb hby d5_39) (by decide) (by decide) ?_
    show Steps p.tables e below (T1.setTop (mkF m 14 #[.val (.ref a1), .val (.long ((0 : Int64) + ((2 : Int64) * ra))), .second, .val (.ref a2), .val (.int (3 : Int32)), .val (.int (1 : Int32)), .val (.long ra), .second] [])) _
    refine XS.iload X1.here hx rfl (hb hby d5_14) rfl ?_
    show Steps p.tables e below (T1.setTop (mkF m 16 #[.val (.ref a1), .val (.long ((0 : Int64) + ((2 : Int64) * ra))), .second, .val (.ref a2), .val (.int (3 : Int32)), .val (.int (1 : Int32)), .val (.long ra), .second] [(.int (1 : Int32))])) _
    refine XS.iload X1.here hx rfl (hb hby d5_16) rfl ?_
    show Steps p.tables e below (T1.setTop (mkF m 18 #[.val (.ref a1), .val (.long ((0 : Int64) + ((2 : Int64) * ra))), .second, .val (.ref a2), .val (.int (3 : Int32)), .val (.int (1 : Int32)), .val (.long ra), .second] [(.int (3 : Int32)), (.int (1 : Int32))])) _
    refine XS.icmpNo X1.here hx rfl (hb hby d5_18) rfl (tlt (by decide : (1 : Int32) < (3 : Int32))).2.1 ?_
    show Steps p.tables e below (T1.setTop (mkF m 21 #[.val (.ref a1), .val (.long ((0 : Int64) + ((2 : Int64) * ra))), .second, .val (.ref a2), .val (.int (3 : Int32)), .val (.int (1 : Int32)), .val (.long ra), .second] [])) _
    refine XS.aloadN X1.here hx rfl (hb hby d5_21) rfl (rfl) ?_
    show Steps p.tables e below (T1.setTop (mkF m 22 #[.val (.ref a1), .val (.long ((0 : Int64) + ((2 : Int64) * ra))), .second, .val (.ref a2), .val (.int (3 : Int32)), .val (.int (1 : Int32)), .val (.long ra), .second] [(.ref a2)])) _
    refine XS.iload X1.here hx rfl (hb hby d5_22) rfl ?_
    show Steps p.tables e below (T1.setTop (mkF m 24 #[.val (.ref a1), .val (.long ((0 : Int64) + ((2 : Int64) * ra))), .second, .val (.ref a2), .val (.int (3 : Int32)), .val (.int (1 : Int32)), .val (.long ra), .second] [(.int (1 : Int32)), (.ref a2)])) _
    refine X1.laload hx (j := (1 : Int32)) (v := (.long rb)) (by rw [e1]; exact Ar.1) (State.isArrayOf_alike hZ.alike Ar.2.1) Ar.2.2 (inb_of Sz ⟨by decide, by decide⟩) t1 (g := (mkF m 24 #[.val (.ref a1), .val (.long ((0 : Int64) + ((2 : Int64) * ra))), .second, .val (.ref a2), .val (.int (3 : Int32)), .val (.int (1 : Int32)), .val (.long ra), .second] [(.int (1 : Int32)), (.ref a2)])) rfl rfl (hb hby d5_24) _ ?_
    show Steps p.tables e below (T1.setTop (mkF m 25 #[.val (.ref a1), .val (.long ((0 : Int64) + ((2 : Int64) * ra))), .second, .val (.ref a2), .val (.int (3 : Int32)), .val (.int (1 : Int32)), .val (.long ra), .second] [(.long rb)])) _
    refine XS.lstore X1.here hx rfl (hb hby d5_25) rfl (l' := #[.val (.ref a1), .val (.long ((0 : Int64) + ((2 : Int64) * ra))), .second, .val (.ref a2), .val (.int (3 : Int32)), .val (.int (1 : Int32)), .val (.long rb), .second]) rfl ?_
    show Steps p.tables e below (T1.setTop (mkF m 27 #[.val (.ref a1), .val (.long ((0 : Int64) + ((2 : Int64) * ra))), .second, .val (.ref a2), .val (.int (3 : Int32)), .val (.int (1 : Int32)), .val (.long rb), .second] [])) _
    refine XS.lloadN X1.here hx rfl (hb hby d5_27) rfl ?_
    show Steps p.tables e below (T1.setTop (mkF m 28 #[.val (.ref a1), .val (.long ((0 : Int64) + ((2 : Int64) * ra))), .second, .val (.ref a2), .val (.int (3 : Int32)), .val (.int (1 : Int32)), .val (.long rb), .second] [(.long ((0 : Int64) + ((2 : Int64) * ra)))])) _
    refine X1.ldc2Long hx hown (mvT hZ (hw _ (List.mem_of_getElem? (i := 28) rfl))) (g := (mkF m 28 #[.val (.ref a1), .val (.long ((0 : Int64) + ((2 : Int64) * ra))), .second, .val (.ref a2), .val (.int (3 : Int32)), .val (.int (1 : Int32)), .val (.long rb), .second] [(.long ((0 : Int64) + ((2 : Int64) * ra)))])) rfl (hb hby d5_28) _ ?_
    show Steps p.tables e below (T1.setTop (mkF m 31 #[.val (.ref a1), .val (.long ((0 : Int64) + ((2 : Int64) * ra))), .second, .val (.ref a2), .val (.int (3 : Int32)), .val (.int (1 : Int32)), .val (.long rb), .second] [(.long (2 : Int64)), (.long ((0 : Int64) + ((2 : Int64) * ra)))])) _
    refine XS.lload X1.here hx rfl (hb hby d5_31) rfl ?_
    show Steps p.tables e below (T1.setTop (mkF m 33 #[.val (.ref a1), .val (.long ((0 : Int64) + ((2 : Int64) * ra))), .second, .val (.ref a2), .val (.int (3 : Int32)), .val (.int (1 : Int32)), .val (.long rb), .second] [(.long rb), (.long (2 : Int64)), (.long ((0 : Int64) + ((2 : Int64) * ra)))])) _
    refine XS.lmul X1.here hx rfl (hb hby d5_33) rfl ?_
    show Steps p.tables e below (T1.setTop (mkF m 34 #[.val (.ref a1), .val (.long ((0 : Int64) + ((2 : Int64) * ra))), .second, .val (.ref a2), .val (.int (3 : Int32)), .val (.int (1 : Int32)), .val (.long rb), .second] [(.long ((2 : Int64) * rb)), (.long ((0 : Int64) + ((2 : Int64) * ra)))])) _
    refine XS.ladd X1.here hx rfl (hb hby d5_34) rfl ?_
    show Steps p.tables e below (T1.setTop (mkF m 35 #[.val (.ref a1), .val (.long ((0 : Int64) + ((2 : Int64) * ra))), .second, .val (.ref a2), .val (.int (3 : Int32)), .val (.int (1 : Int32)), .val (.long rb), .second] [(.long (((0 : Int64) + ((2 : Int64) * ra)) + ((2 : Int64) * rb)))])) _
    refine XS.lstoreN X1.here hx rfl (hb hby d5_35) rfl (l' := #[.val (.ref a1), .val (.long (((0 : Int64) + ((2 : Int64) * ra)) + ((2 : Int64) * rb))), .second, .val (.ref a2), .val (.int (3 : Int32)), .val (.int (1 : Int32)), .val (.long rb), .second]) rfl ?_
    show Steps p.tables e below (T1.setTop (mkF m 36 #[.val (.ref a1), .val (.long (((0 : Int64) + ((2 : Int64) * ra)) + ((2 : Int64) * rb))), .second, .val (.ref a2), .val (.int (3 : Int32)), .val (.int (1 : Int32)), .val (.long rb), .second] [])) _
    refine XS.iinc X1.here hx rfl (hb hby d5_36) rfl (l' := #[.val (.ref a1), .val (.long (((0 : Int64) + ((2 : Int64) * ra)) + ((2 : Int64) * rb))), .second, .val (.ref a2), .val (.int (3 : Int32)), .val (.int (2 : Int32)), .val (.long rb), .second]) rfl ?_
    show Steps p.tables e below (T1.setTop (mkF m 39 #[.val (.ref a1), .val (.long (((0 : Int64) + ((2 : Int64) * ra)) + ((2 : Int64) * rb))), .second, .val (.ref a2), .val (.int (3 : Int32)), .val (.int (2 : Int32)), .val (.long rb), .second] [])) _
    refine XS.goto X1.here hx rfl (pc0 := 39) (pc' := 14) rfl (hb hby d5_39) (by decide) (by decide) ?_
    show Steps p.tables e below (T1.setTop (mkF m 14 #[.val (.ref a1), .val (.long (((0 : Int64) + ((2 : Int64) * ra)) + ((2 : Int64) * rb))), .second, .val (.ref a2), .val (.int (3 : Int32)), .val (.int (2 : Int32)), .val (.long rb), .second] [])) _
    refine XS.iload X1.here hx rfl (hb hby d5_14) rfl ?_
    show Steps p.tables e below (T1.setTop (mkF m 16 #[.val (.ref a1), .val (.long (((0 : Int64) + ((2 : Int64) * ra)) + ((2 : Int64) * rb))), .second, .val (.ref a2), .val (.int (3 : Int32)), .val (.int (2 : Int32)), .val (.long rb), .second] [(.int (2 : Int32))])) _
    refine XS.iload X1.here hx rfl (hb hby d5_16) rfl ?_
    show Steps p.tables e below (T1.setTop (mkF m 18 #[.val (.ref a1), .val (.long (((0 : Int64) + ((2 : Int64) * ra)) + ((2 : Int64) * rb))), .second, .val (.ref a2), .val (.int (3 : Int32)), .val (.int (2 : Int32)), .val (.long rb), .second] [(.int (3 : Int32)), (.int (2 : Int32))])) _
    refine XS.icmpNo X1.here hx rfl (hb hby d5_18) rfl (tlt (by decide : (2 : Int32) < (3 : Int32))).2.1 ?_
    show Steps p.tables e below (T1.setTop (mkF m 21 #[.val (.ref a1), .val (.long (((0 : Int64) + ((2 : Int64) * ra)) + ((2 : Int64) * rb))), .second, .val (.ref a2), .val (.int (3 : Int32)), .val (.int (2 : Int32)), .val (.long rb), .second] [])) _
    refine XS.aloadN X1.here hx rfl (hb hby d5_21) rfl (rfl) ?_
    show Steps p.tables e below (T1.setTop (mkF m 22 #[.val (.ref a1), .val (.long (((0 : Int64) + ((2 : Int64) * ra)) + ((2 : Int64) * rb))), .second, .val (.ref a2), .val (.int (3 : Int32)), .val (.int (2 : Int32)), .val (.long rb), .second] [(.ref a2)])) _
    refine XS.iload X1.here hx rfl (hb hby d5_22) rfl ?_
    show Steps p.tables e below (T1.setTop (mkF m 24 #[.val (.ref a1), .val (.long (((0 : Int64) + ((2 : Int64) * ra)) + ((2 : Int64) * rb))), .second, .val (.ref a2), .val (.int (3 : Int32)), .val (.int (2 : Int32)), .val (.long rb), .second] [(.int (2 : Int32)), (.ref a2)])) _
    refine X1.laload hx (j := (2 : Int32)) (v := (.long rc)) (by rw [e1]; exact Ar.1) (State.isArrayOf_alike hZ.alike Ar.2.1) Ar.2.2 (inb_of Sz ⟨by decide, by decide⟩) t2 (g := (mkF m 24 #[.val (.ref a1), .val (.long (((0 : Int64) + ((2 : Int64) * ra)) + ((2 : Int64) * rb))), .second, .val (.ref a2), .val (.int (3 : Int32)), .val (.int (2 : Int32)), .val (.long rb), .second] [(.int (2 : Int32)), (.ref a2)])) rfl rfl (hb hby d5_24) _ ?_
    show Steps p.tables e below (T1.setTop (mkF m 25 #[.val (.ref a1), .val (.long (((0 : Int64) + ((2 : Int64) * ra)) + ((2 : Int64) * rb))), .second, .val (.ref a2), .val (.int (3 : Int32)), .val (.int (2 : Int32)), .val (.long rb), .second] [(.long rc)])) _
    refine XS.lstore X1.here hx rfl (hb hby d5_25) rfl (l' := #[.val (.ref a1), .val (.long (((0 : Int64) + ((2 : Int64) * ra)) + ((2 : Int64) * rb))), .second, .val (.ref a2), .val (.int (3 : Int32)), .val (.int (2 : Int32)), .val (.long rc), .second]) rfl ?_
    show Steps p.tables e below (T1.setTop (mkF m 27 #[.val (.ref a1), .val (.long (((0 : Int64) + ((2 : Int64) * ra)) + ((2 : Int64) * rb))), .second, .val (.ref a2), .val (.int (3 : Int32)), .val (.int (2 : Int32)), .val (.long rc), .second] [])) _
    refine XS.lloadN X1.here hx rfl (hb hby d5_27) rfl ?_
    show Steps p.tables e below (T1.setTop (mkF m 28 #[.val (.ref a1), .val (.long (((0 : Int64) + ((2 : Int64) * ra)) + ((2 : Int64) * rb))), .second, .val (.ref a2), .val (.int (3 : Int32)), .val (.int (2 : Int32)), .val (.long rc), .second] [(.long (((0 : Int64) + ((2 : Int64) * ra)) + ((2 : Int64) * rb)))])) _
    refine X1.ldc2Long hx hown (mvT hZ (hw _ (List.mem_of_getElem? (i := 28) rfl))) (g := (mkF m 28 #[.val (.ref a1), .val (.long (((0 : Int64) + ((2 : Int64) * ra)) + ((2 : Int64) * rb))), .second, .val (.ref a2), .val (.int (3 : Int32)), .val (.int (2 : Int32)), .val (.long rc), .second] [(.long (((0 : Int64) + ((2 : Int64) * ra)) + ((2 : Int64) * rb)))])) rfl (hb hby d5_28) _ ?_
    show Steps p.tables e below (T1.setTop (mkF m 31 #[.val (.ref a1), .val (.long (((0 : Int64) + ((2 : Int64) * ra)) + ((2 : Int64) * rb))), .second, .val (.ref a2), .val (.int (3 : Int32)), .val (.int (2 : Int32)), .val (.long rc), .second] [(.long (2 : Int64)), (.long (((0 : Int64) + ((2 : Int64) * ra)) + ((2 : Int64) * rb)))])) _
    refine XS.lload X1.here hx rfl (hb hby d5_31) rfl ?_
    show Steps p.tables e below (T1.setTop (mkF m 33 #[.val (.ref a1), .val (.long (((0 : Int64) + ((2 : Int64) * ra)) + ((2 : Int64) * rb))), .second, .val (.ref a2), .val (.int (3 : Int32)), .val (.int (2 : Int32)), .val (.long rc), .second] [(.long rc), (.long (2 : Int64)), (.long (((0 : Int64) + ((2 : Int64) * ra)) + ((2 : Int64) * rb)))])) _
    refine XS.lmul X1.here hx rfl (hb hby d5_33) rfl ?_
    show Steps p.tables e below (T1.setTop (mkF m 34 #[.val (.ref a1), .val (.long (((0 : Int64) + ((2 : Int64) * ra)) + ((2 : Int64) * rb))), .second, .val (.ref a2), .val (.int (3 : Int32)), .val (.int (2 : Int32)), .val (.long rc), .second] [(.long ((2 : Int64) * rc)), (.long (((0 : Int64) + ((2 : Int64) * ra)) + ((2 : Int64) * rb)))])) _
    refine XS.ladd X1.here hx rfl (hb hby d5_34) rfl ?_
    show Steps p.tables e below (T1.setTop (mkF m 35 #[.val (.ref a1), .val (.long (((0 : Int64) + ((2 : Int64) * ra)) + ((2 : Int64) * rb))), .second, .val (.ref a2), .val (.int (3 : Int32)), .val (.int (2 : Int32)), .val (.long rc), .second] [(.long ((((0 : Int64) + ((2 : Int64) * ra)) + ((2 : Int64) * rb)) + ((2 : Int64) * rc)))])) _
    refine XS.lstoreN X1.here hx rfl (hb hby d5_35) rfl (l' := #[.val (.ref a1), .val (.long ((((0 : Int64) + ((2 : Int64) * ra)) + ((2 : Int64) * rb)) + ((2 : Int64) * rc))), .second, .val (.ref a2), .val (.int (3 : Int32)), .val (.int (2 : Int32)), .val (.long rc), .second]) rfl ?_
    show Steps p.tables e below (T1.setTop (mkF m 36 #[.val (.ref a1), .val (.long ((((0 : Int64) + ((2 : Int64) * ra)) + ((2 : Int64) * rb)) + ((2 : Int64) * rc))), .second, .val (.ref a2), .val (.int (3 : Int32)), .val (.int (2 : Int32)), .val (.long rc), .second] [])) _
    refine XS.iinc X1.here hx rfl (hb hby d5_36) rfl (l' := #[.val (.ref a1), .val (.long ((((0 : Int64) + ((2 : Int64) * ra)) + ((2 : Int64) * rb)) + ((2 : Int64) * rc))), .second, .val (.ref a2), .val (.int (3 : Int32)), .val (.int (3 : Int32)), .val (.long rc), .second]) rfl ?_
    show Steps p.tables e below (T1.setTop (mkF m 39 #[.val (.ref a1), .val (.long ((((0 : Int64) + ((2 : Int64) * ra)) + ((2 : Int64) * rb)) + ((2 : Int64) * rc))), .second, .val (.ref a2), .val (.int (3 : Int32)), .val (.int (3 : Int32)), .val (.long rc), .second] [])) _
    refine XS.goto X1.here hx rfl (pc0 := 39) (pc' := 14) rfl (hb hby d5_39) (by decide) (by decide) ?_
    show Steps p.tables e below (T1.setTop (mkF m 14 #[.val (.ref a1), .val (.long ((((0 : Int64) + ((2 : Int64) * ra)) + ((2 : Int64) * rb)) + ((2 : Int64) * rc))), .second, .val (.ref a2), .val (.int (3 : Int32)), .val (.int (3 : Int32)), .val (.long rc), .second] [])) _
    refine XS.iload X1.here hx rfl (hb hby d5_14) rfl ?_
    show Steps p.tables e below (T1.setTop (mkF m 16 #[.val (.ref a1), .val (.long ((((0 : Int64) + ((2 : Int64) * ra)) + ((2 : Int64) * rb)) + ((2 : Int64) * rc))), .second, .val (.ref a2), .val (.int (3 : Int32)), .val (.int (3 : Int32)), .val (.long rc), .second] [(.int (3 : Int32))])) _
    refine XS.iload X1.here hx rfl (hb hby d5_16) rfl ?_
    show Steps p.tables e below (T1.setTop (mkF m 18 #[.val (.ref a1), .val (.long ((((0 : Int64) + ((2 : Int64) * ra)) + ((2 : Int64) * rb)) + ((2 : Int64) * rc))), .second, .val (.ref a2), .val (.int (3 : Int32)), .val (.int (3 : Int32)), .val (.long rc), .second] [(.int (3 : Int32)), (.int (3 : Int32))])) _
    refine XS.icmpYes X1.here hx rfl (pc0 := 18) (pc' := 42) rfl (hb hby d5_18) rfl (flt (by decide : ¬ ((3 : Int32) < (3 : Int32)))).2.1 (by decide) (by decide) ?_
    show Steps p.tables e below (T1.setTop (mkF m 42 #[.val (.ref a1), .val (.long ((((0 : Int64) + ((2 : Int64) * ra)) + ((2 : Int64) * rb)) + ((2 : Int64) * rc))), .second, .val (.ref a2), .val (.int (3 : Int32)), .val (.int (3 : Int32)), .val (.long rc), .second] [])) _
    refine XS.lloadN X1.here hx rfl (hb hby d5_42) rfl ?_
    show Steps p.tables e below (T1.setTop (mkF m 43 #[.val (.ref a1), .val (.long ((((0 : Int64) + ((2 : Int64) * ra)) + ((2 : Int64) * rb)) + ((2 : Int64) * rc))), .second, .val (.ref a2), .val (.int (3 : Int32)), .val (.int (3 : Int32)), .val (.long rc), .second] [(.long ((((0 : Int64) + ((2 : Int64) * ra)) + ((2 : Int64) * rb)) + ((2 : Int64) * rc)))])) _
    exact k
  obtain ⟨fs, hr, hrun, hended, hW, hsame⟩ := X1.leave (v := some (.long ((((0 : Int64) + ((2 : Int64) * ra)) + ((2 : Int64) * rb)) + ((2 : Int64) * rc)))) (fun h => by rw [Bd.returns] at h; cases h)
  refine ⟨_, _, pre2 _ ?_, hrun, hended, _, _, rfl, ?_, ⟨_, rfl⟩, hW, hsame.mono (by decide) (by decide)⟩
  · exact retOut X1 hx Bd.returns rfl (Or.inr (Or.inl ⟨rfl, rfl, _, rfl⟩)) (hb hby d5_43) hr
  · show Q_rmD3 Z a1 a2 cl ra rb rc h0 n0 _ T1.heap _
    rw [e1]
    exact ⟨rfl, N0, rfl⟩
def own_m3 (ra rb rc : Int64) : Int64 := ((((0 : Int64) + ((2 : Int64) * ra)) + ((2 : Int64) * rb)) + ((2 : Int64) * rc))
def own_h3 (m h a b : Int64) : Int64 := h + (m - (3 : Int64) * (a + b))
def own_l3 (ra rb rc : Int64) : Int32 := let m := own_m3 ra rb rc; let h1 := own_h3 m 0 ra rb; let h2 := own_h3 m h1 rb rc; if h1 < 0 then (if h2 < h1 then 2 else 1) else (if h2 < 0 then 2 else 0)
theorem ef_rmL3 (m : MethodId) (x0 : Addr) : entryFrame m #[(.ref x0)] 9 = mkF m 0 #[.val (.ref x0), .unset, .unset, .unset, .unset, .unset, .unset, .unset, .unset] [] := by first | (simp [entryFrame, mkF, argsToLocals, Value.category]; done) | rfl
def Q_rmL3 (Z : State) (a1 : Addr) (a2 : Addr) (cl : Cell) (ra : Int64) (rb : Int64) (rc : Int64) (h0 : Heap) (n0 : Nat) (v : Option Value) (h : Heap) (L : List Loc) : Prop := v = some (.int (own_l3 ra rb rc)) ∧ Fr n0 L ∧ h = h0
set_option maxRecDepth 65536 in
set_option maxHeartbeats 40000000 in
theorem rmL3 (l : Launch) (Z : State) (a0 : Array Value) (hw : ∀ d ∈ tables_1, d.before a0 Z = true) (ws : List Jvm.Cond) (a1 : Addr) (a2 : Addr) (cl : Cell) (ra : Int64) (rb : Int64) (rc : Int64) (h0 : Heap) (n0 : Nat) (Z0 : n0 ≤ h0.size) (E1 : Exa Z h0 a1 "com/example/hummingbird/hummingbird/engine/Rhythm") (F1 : Fld Z h0 a1 "com/example/hummingbird/hummingbird/engine/Rhythm" "points" "I" (.int (3 : Int32))) (F2 : Fld Z h0 a1 "com/example/hummingbird/hummingbird/engine/Rhythm" "rates" "[J" (.ref a2)) (Ar : Arr Z h0 a2 cl .long) (Sz : cl.slots.size = (3 : Int32).toNatClampNeg) (t0 : cl.slots[0]? = some (.long ra)) (t1 : cl.slots[1]? = some (.long rb)) (t2 : cl.slots[2]? = some (.long rc)) :
    MetFree l (⟨"com/example/hummingbird/hummingbird/engine/Rhythm", "leastWaitingPoint", "()I"⟩ : MethodName) (head1 (Jvm.Cond.code (⟨"com/example/hummingbird/hummingbird/engine/Rhythm", "leastWaitingPoint", "()I"⟩ : MethodName) prog_9_method_4_code 9 (some .int) :: ws) ({ frames := 1, cells := 0, slots := 0, locals := 20 } : Room)) (fun a U => a = #[(.ref a1)] ∧ Z.Warmed39 U.vm ∧ U.heap = h0) (fun _ _ _ _ _ => True) (fun _ U o U' => ∃ v L, o = .returned v ∧ Q_rmL3 Z a1 a2 cl ra rb rc h0 n0 v U'.heap L ∧ FrameEnd U o U' L ({ frames := 1, cells := 0, slots := 0, locals := 20 } : Room).cells ({ frames := 1, cells := 0, slots := 0, locals := 20 } : Room).slots) := by
  refine MetFree.of_bodySF (plainFor_of_name pn_0) hisR ?_
  intro p e s m args below meth c s₁ Bd hml0 hP hK
  obtain ⟨rfl, hZ, hh⟩ := hP
  have hx := Bd.exec
  have hby := Bd.bytes
  have hml : c.maxLocals = 9 := hml0
  have hown : s.vm.findClass "com/example/hummingbird/hummingbird/engine/Rhythm" = some m.cls := findClass_of_methodNamed Bd.named
  have hnm := (name_of_methodNamed Bd.named Bd.method).1
  have X0 : Stand p l e ({ frames := 1, cells := 0, slots := 0, locals := 20 } : Room) s m #[(.ref a1)] below meth c s₁ [] 0 0 := Stand.of_body Bd
  have e0 : s₁.heap = h0 := by rw [← hh, Bd.state]; rfl
  have N0 := Fr.nil n0
  have pre0 : ∀ t, Steps p.tables e below (s₁.setTop (mkF m 0 #[.val (.ref a1), .unset, .unset, .unset, .unset, .unset, .unset, .unset, .unset] [])) t → Steps p.tables e below (s₁.setTop (entryFrame m #[(.ref a1)] 9)) t := fun t k => castTop (ef_rmL3 m a1) k
  obtain ⟨cq1, q1, q1'⟩ := E1.cell
  obtain ⟨_, _, ⟨T1, L1, k1, n1⟩, -, X1, ⟨Lc1, hQ1, l1, y1, z1⟩, st1⟩ := X0.privateBack hx (y := (⟨"com/example/hummingbird/hummingbird/engine/Rhythm", "dayMass", "()J"⟩ : MethodName)) hown (mvT hZ (hw _ (List.mem_of_getElem? (i := 24) rfl))) (mvT hZ (hw _ (List.mem_of_getElem? (i := 25) rfl))) (own_selP (y := (⟨"com/example/hummingbird/hummingbird/engine/Rhythm", "dayMass", "()J"⟩ : MethodName)) hZ (hw _ (List.mem_of_getElem? (i := 7) rfl)) (hw _ (List.mem_of_getElem? (i := 25) rfl)) (hw _ (List.mem_of_getElem? (i := 26) rfl)) (by decide)) (Cond.privateMethod_at (mvP hZ (hw _ (List.mem_of_getElem? (i := 26) rfl)) (args := #[]))) (mvT hZ (hw _ (List.mem_of_getElem? (i := 27) rfl))) (by decide) (backOf (W := 0) (rmD3 l Z a0 hw [] a1 a2 cl ra rb rc h0 n0 Z0 F2 Ar Sz t0 t1 t2) hZ (hw _ (List.mem_of_getElem? (i := 27) rfl)) (hw _ (List.mem_of_getElem? (i := 8) rfl)) (by decide) (by decide)) (g := (mkF m 1 #[.val (.ref a1), .unset, .unset, .unset, .unset, .unset, .unset, .unset, .unset] [(.ref a1)])) rfl (by rw [hml]; rfl) (Steps.refl _) (a := a1) (by rw [e0]; exact q1) q1' (argsL := []) (rest := []) (lenOf pd_0 rfl) rfl (by show 2 * 0 + _ ≤ _; exact Nat.le_of_eq rfl) (hb hby d4_1) (fun _ _ => ⟨rfl, e0, (by decide : 0 + 0 ≤ _), (by decide : 0 + 0 ≤ _)⟩)
  dsimp only [Pt.U, Pt.locs, Pt.cells, Pt.slots] at X1 l1 y1 z1 st1 hQ1
  subst l1 y1 z1
  obtain ⟨rfl, N1q, hq1⟩ := hQ1
  have N1 := Fr.app N0 N1q
  obtain ⟨T2, X2, e2, st2⟩ := getF X1 hx hZ hown (host := "") (Or.inl (hw _ (List.mem_of_getElem? (i := 15) rfl))) Via.refl hq1 F1 (g := (mkF m 19 #[.val (.ref a1), .val (.long (own_m3 ra rb rc)), .second, .val (.long (0 : Int64)), .second, .val (.long (0 : Int64)), .second, .val (.int (0 : Int32)), .val (.int (1 : Int32))] [(.ref a1), (.int (1 : Int32))])) rfl rfl (hb hby d4_19)
  obtain ⟨T3, X3, e3, st3⟩ := getF X2 hx hZ hown (host := "") (Or.inl (hw _ (List.mem_of_getElem? (i := 15) rfl))) Via.refl e2 F1 (g := (mkF m 28 #[.val (.ref a1), .val (.long (own_m3 ra rb rc)), .second, .val (.long (0 : Int64)), .second, .val (.long (0 : Int64)), .second, .val (.int (0 : Int32)), .val (.int (1 : Int32))] [(.ref a1), (.long (own_m3 ra rb rc)), (.long (0 : Int64))])) rfl rfl (hb hby d4_28)
  obtain ⟨T4, X4, e4, st4⟩ := getF X3 hx hZ hown (host := "") (Or.inl (hw _ (List.mem_of_getElem? (i := 17) rfl))) Via.refl e3 F2 (g := (mkF m 33 #[.val (.ref a1), .val (.long (own_m3 ra rb rc)), .second, .val (.long (0 : Int64)), .second, .val (.long (0 : Int64)), .second, .val (.int (0 : Int32)), .val (.int (1 : Int32))] [(.ref a1), (.long (3 : Int64)), (.long (own_m3 ra rb rc)), (.long (0 : Int64))])) rfl rfl (hb hby d4_33)
  obtain ⟨T5, X5, e5, st5⟩ := getF X4 hx hZ hown (host := "") (Or.inl (hw _ (List.mem_of_getElem? (i := 17) rfl))) Via.refl e4 F2 (g := (mkF m 42 #[.val (.ref a1), .val (.long (own_m3 ra rb rc)), .second, .val (.long (0 : Int64)), .second, .val (.long (0 : Int64)), .second, .val (.int (0 : Int32)), .val (.int (1 : Int32))] [(.ref a1), (.long ra), (.long (3 : Int64)), (.long (own_m3 ra rb rc)), (.long (0 : Int64))])) rfl rfl (hb hby d4_42)
  have pre6 : ∀ t, Steps p.tables e below (T5.setTop (mkF m 53 #[.val (.ref a1), .val (.long (own_m3 ra rb rc)), .second, .val (.long ((0 : Int64) + ((own_m3 ra rb rc) - ((3 : Int64) * (ra + rb))))), .second, .val (.long (0 : Int64)), .second, .val (.int (0 : Int32)), .val (.int (1 : Int32))] [])) t → Steps p.tables e below (s₁.setTop (entryFrame m #[(.ref a1)] 9)) t := by
    intro t k
    refine pre0 t ?_
    show Steps p.tables e below (s₁.setTop (mkF m 0 #[.val (.ref a1), .unset, .unset, .unset, .unset, .unset, .unset, .unset, .unset] [])) _
    refine XS.aloadN X0.here hx rfl (hb hby d4_0) rfl (rfl) ?_
    show Steps p.tables e below (s₁.setTop (mkF m 1 #[.val (.ref a1), .unset, .unset, .unset, .unset, .unset, .unset, .unset, .unset] [(.ref a1)])) _
    refine st1.trans ?_
    show Steps p.tables e below (T1.setTop (mkF m 4 #[.val (.ref a1), .unset, .unset, .unset, .unset, .unset, .unset, .unset, .unset] [(.long (own_m3 ra rb rc))])) _
    refine XS.lstoreN X1.here hx rfl (hb hby d4_4) rfl (l' := #[.val (.ref a1), .val (.long (own_m3 ra rb rc)), .second, .unset, .unset, .unset, .unset, .unset, .unset]) rfl ?_
    show Steps p.tables e below (T1.setTop (mkF m 5 #[.val (.ref a1), .val (.long (own_m3 ra rb rc)), .second, .unset, .unset, .unset, .unset, .unset, .unset] [])) _
    refine XS.lconst X1.here hx rfl (hb hby d4_5) ?_
    show Steps p.tables e below (T1.setTop (mkF m 6 #[.val (.ref a1), .val (.long (own_m3 ra rb rc)), .second, .unset, .unset, .unset, .unset, .unset, .unset] [(.long (0 : Int64))])) _
    refine XS.lstoreN X1.here hx rfl (hb hby d4_6) rfl (l' := #[.val (.ref a1), .val (.long (own_m3 ra rb rc)), .second, .val (.long (0 : Int64)), .second, .unset, .unset, .unset, .unset]) rfl ?_
    show Steps p.tables e below (T1.setTop (mkF m 7 #[.val (.ref a1), .val (.long (own_m3 ra rb rc)), .second, .val (.long (0 : Int64)), .second, .unset, .unset, .unset, .unset] [])) _
    refine XS.lconst X1.here hx rfl (hb hby d4_7) ?_
    show Steps p.tables e below (T1.setTop (mkF m 8 #[.val (.ref a1), .val (.long (own_m3 ra rb rc)), .second, .val (.long (0 : Int64)), .second, .unset, .unset, .unset, .unset] [(.long (0 : Int64))])) _
    refine XS.lstore X1.here hx rfl (hb hby d4_8) rfl (l' := #[.val (.ref a1), .val (.long (own_m3 ra rb rc)), .second, .val (.long (0 : Int64)), .second, .val (.long (0 : Int64)), .second, .unset, .unset]) rfl ?_
    show Steps p.tables e below (T1.setTop (mkF m 10 #[.val (.ref a1), .val (.long (own_m3 ra rb rc)), .second, .val (.long (0 : Int64)), .second, .val (.long (0 : Int64)), .second, .unset, .unset] [])) _
    refine XS.iconst X1.here hx rfl (hb hby d4_10) ?_
    show Steps p.tables e below (T1.setTop (mkF m 11 #[.val (.ref a1), .val (.long (own_m3 ra rb rc)), .second, .val (.long (0 : Int64)), .second, .val (.long (0 : Int64)), .second, .unset, .unset] [(.int (0 : Int32))])) _
    refine XS.istore X1.here hx rfl (hb hby d4_11) rfl (l' := #[.val (.ref a1), .val (.long (own_m3 ra rb rc)), .second, .val (.long (0 : Int64)), .second, .val (.long (0 : Int64)), .second, .val (.int (0 : Int32)), .unset]) rfl ?_
    show Steps p.tables e below (T1.setTop (mkF m 13 #[.val (.ref a1), .val (.long (own_m3 ra rb rc)), .second, .val (.long (0 : Int64)), .second, .val (.long (0 : Int64)), .second, .val (.int (0 : Int32)), .unset] [])) _
    refine XS.iconst X1.here hx rfl (hb hby d4_13) ?_
    show Steps p.tables e below (T1.setTop (mkF m 14 #[.val (.ref a1), .val (.long (own_m3 ra rb rc)), .second, .val (.long (0 : Int64)), .second, .val (.long (0 : Int64)), .second, .val (.int (0 : Int32)), .unset] [(.int (1 : Int32))])) _
    refine XS.istore X1.here hx rfl (hb hby d4_14) rfl (l' := #[.val (.ref a1), .val (.long (own_m3 ra rb rc)), .second, .val (.long (0 : Int64)), .second, .val (.long (0 : Int64)), .second, .val (.int (0 : Int32)), .val (.int (1 : Int32))]) rfl ?_
    show Steps p.tables e below (T1.setTop (mkF m 16 #[.val (.ref a1), .val (.long (own_m3 ra rb rc)), .second, .val (.long (0 : Int64)), .second, .val (.long (0 : Int64)), .second, .val (.int (0 : Int32)), .val (.int (1 : Int32))] [])) _
    refine XS.iload X1.here hx rfl (hb hby d4_16) rfl ?_
    show Steps p.tables e below (T1.setTop (mkF m 18 #[.val (.ref a1), .val (.long (own_m3 ra rb rc)), .second, .val (.long (0 : Int64)), .second, .val (.long (0 : Int64)), .second, .val (.int (0 : Int32)), .val (.int (1 : Int32))] [(.int (1 : Int32))])) _
    refine XS.aloadN X1.here hx rfl (hb hby d4_18) rfl (rfl) ?_
    show Steps p.tables e below (T1.setTop (mkF m 19 #[.val (.ref a1), .val (.long (own_m3 ra rb rc)), .second, .val (.long (0 : Int64)), .second, .val (.long (0 : Int64)), .second, .val (.int (0 : Int32)), .val (.int (1 : Int32))] [(.ref a1), (.int (1 : Int32))])) _
    refine st2 _ ?_
    show Steps p.tables e below (T2.setTop (mkF m 22 #[.val (.ref a1), .val (.long (own_m3 ra rb rc)), .second, .val (.long (0 : Int64)), .second, .val (.long (0 : Int64)), .second, .val (.int (0 : Int32)), .val (.int (1 : Int32))] [(.int (3 : Int32)), (.int (1 : Int32))])) _
    refine XS.icmpNo X2.here hx rfl (hb hby d4_22) rfl (tlt (by decide : (1 : Int32) < (3 : Int32))).2.1 ?_
    show Steps p.tables e below (T2.setTop (mkF m 25 #[.val (.ref a1), .val (.long (own_m3 ra rb rc)), .second, .val (.long (0 : Int64)), .second, .val (.long (0 : Int64)), .second, .val (.int (0 : Int32)), .val (.int (1 : Int32))] [])) _
    refine XS.lloadN X2.here hx rfl (hb hby d4_25) rfl ?_
    show Steps p.tables e below (T2.setTop (mkF m 26 #[.val (.ref a1), .val (.long (own_m3 ra rb rc)), .second, .val (.long (0 : Int64)), .second, .val (.long (0 : Int64)), .second, .val (.int (0 : Int32)), .val (.int (1 : Int32))] [(.long (0 : Int64))])) _
    refine XS.lloadN X2.here hx rfl (hb hby d4_26) rfl ?_
    show Steps p.tables e below (T2.setTop (mkF m 27 #[.val (.ref a1), .val (.long (own_m3 ra rb rc)), .second, .val (.long (0 : Int64)), .second, .val (.long (0 : Int64)), .second, .val (.int (0 : Int32)), .val (.int (1 : Int32))] [(.long (own_m3 ra rb rc)), (.long (0 : Int64))])) _
    refine XS.aloadN X2.here hx rfl (hb hby d4_27) rfl (rfl) ?_
    show Steps p.tables e below (T2.setTop (mkF m 28 #[.val (.ref a1), .val (.long (own_m3 ra rb rc)), .second, .val (.long (0 : Int64)), .second, .val (.long (0 : Int64)), .second, .val (.int (0 : Int32)), .val (.int (1 : Int32))] [(.ref a1), (.long (own_m3 ra rb rc)), (.long (0 : Int64))])) _
    refine st3 _ ?_
    show Steps p.tables e below (T3.setTop (mkF m 31 #[.val (.ref a1), .val (.long (own_m3 ra rb rc)), .second, .val (.long (0 : Int64)), .second, .val (.long (0 : Int64)), .second, .val (.int (0 : Int32)), .val (.int (1 : Int32))] [(.int (3 : Int32)), (.long (own_m3 ra rb rc)), (.long (0 : Int64))])) _
    refine XS.i2l X3.here hx rfl (hb hby d4_31) rfl ?_
    show Steps p.tables e below (T3.setTop (mkF m 32 #[.val (.ref a1), .val (.long (own_m3 ra rb rc)), .second, .val (.long (0 : Int64)), .second, .val (.long (0 : Int64)), .second, .val (.int (0 : Int32)), .val (.int (1 : Int32))] [(.long (3 : Int64)), (.long (own_m3 ra rb rc)), (.long (0 : Int64))])) _
    refine XS.aloadN X3.here hx rfl (hb hby d4_32) rfl (rfl) ?_
    show Steps p.tables e below (T3.setTop (mkF m 33 #[.val (.ref a1), .val (.long (own_m3 ra rb rc)), .second, .val (.long (0 : Int64)), .second, .val (.long (0 : Int64)), .second, .val (.int (0 : Int32)), .val (.int (1 : Int32))] [(.ref a1), (.long (3 : Int64)), (.long (own_m3 ra rb rc)), (.long (0 : Int64))])) _
    refine st4 _ ?_
    show Steps p.tables e below (T4.setTop (mkF m 36 #[.val (.ref a1), .val (.long (own_m3 ra rb rc)), .second, .val (.long (0 : Int64)), .second, .val (.long (0 : Int64)), .second, .val (.int (0 : Int32)), .val (.int (1 : Int32))] [(.ref a2), (.long (3 : Int64)), (.long (own_m3 ra rb rc)), (.long (0 : Int64))])) _
    refine XS.iload X4.here hx rfl (hb hby d4_36) rfl ?_
    show Steps p.tables e below (T4.setTop (mkF m 38 #[.val (.ref a1), .val (.long (own_m3 ra rb rc)), .second, .val (.long (0 : Int64)), .second, .val (.long (0 : Int64)), .second, .val (.int (0 : Int32)), .val (.int (1 : Int32))] [(.int (1 : Int32)), (.ref a2), (.long (3 : Int64)), (.long (own_m3 ra rb rc)), (.long (0 : Int64))])) _
    refine XS.iconst X4.here hx rfl (hb hby d4_38) ?_
    show Steps p.tables e below (T4.setTop (mkF m 39 #[.val (.ref a1), .val (.long (own_m3 ra rb rc)), .second, .val (.long (0 : Int64)), .second, .val (.long (0 : Int64)), .second, .val (.int (0 : Int32)), .val (.int (1 : Int32))] [(.int (1 : Int32)), (.int (1 : Int32)), (.ref a2), (.long (3 : Int64)), (.long (own_m3 ra rb rc)), (.long (0 : Int64))])) _
    refine XS.isub X4.here hx rfl (hb hby d4_39) rfl ?_
    show Steps p.tables e below (T4.setTop (mkF m 40 #[.val (.ref a1), .val (.long (own_m3 ra rb rc)), .second, .val (.long (0 : Int64)), .second, .val (.long (0 : Int64)), .second, .val (.int (0 : Int32)), .val (.int (1 : Int32))] [(.int (0 : Int32)), (.ref a2), (.long (3 : Int64)), (.long (own_m3 ra rb rc)), (.long (0 : Int64))])) _
    refine X4.laload hx (j := (0 : Int32)) (v := (.long ra)) (by rw [e4]; exact Ar.1) (State.isArrayOf_alike hZ.alike Ar.2.1) Ar.2.2 (inb_of Sz ⟨by decide, by decide⟩) t0 (g := (mkF m 40 #[.val (.ref a1), .val (.long (own_m3 ra rb rc)), .second, .val (.long (0 : Int64)), .second, .val (.long (0 : Int64)), .second, .val (.int (0 : Int32)), .val (.int (1 : Int32))] [(.int (0 : Int32)), (.ref a2), (.long (3 : Int64)), (.long (own_m3 ra rb rc)), (.long (0 : Int64))])) rfl rfl (hb hby d4_40) _ ?_
    show Steps p.tables e below (T4.setTop (mkF m 41 #[.val (.ref a1), .val (.long (own_m3 ra rb rc)), .second, .val (.long (0 : Int64)), .second, .val (.long (0 : Int64)), .second, .val (.int (0 : Int32)), .val (.int (1 : Int32))] [(.long ra), (.long (3 : Int64)), (.long (own_m3 ra rb rc)), (.long (0 : Int64))])) _
    refine XS.aloadN X4.here hx rfl (hb hby d4_41) rfl (rfl) ?_
    show Steps p.tables e below (T4.setTop (mkF m 42 #[.val (.ref a1), .val (.long (own_m3 ra rb rc)), .second, .val (.long (0 : Int64)), .second, .val (.long (0 : Int64)), .second, .val (.int (0 : Int32)), .val (.int (1 : Int32))] [(.ref a1), (.long ra), (.long (3 : Int64)), (.long (own_m3 ra rb rc)), (.long (0 : Int64))])) _
    refine st5 _ ?_
    show Steps p.tables e below (T5.setTop (mkF m 45 #[.val (.ref a1), .val (.long (own_m3 ra rb rc)), .second, .val (.long (0 : Int64)), .second, .val (.long (0 : Int64)), .second, .val (.int (0 : Int32)), .val (.int (1 : Int32))] [(.ref a2), (.long ra), (.long (3 : Int64)), (.long (own_m3 ra rb rc)), (.long (0 : Int64))])) _
    refine XS.iload X5.here hx rfl (hb hby d4_45) rfl ?_
    show Steps p.tables e below (T5.setTop (mkF m 47 #[.val (.ref a1), .val (.long (own_m3 ra rb rc)), .second, .val (.long (0 : Int64)), .second, .val (.long (0 : Int64)), .second, .val (.int (0 : Int32)), .val (.int (1 : Int32))] [(.int (1 : Int32)), (.ref a2), (.long ra), (.long (3 : Int64)), (.long (own_m3 ra rb rc)), (.long (0 : Int64))])) _
    refine X5.laload hx (j := (1 : Int32)) (v := (.long rb)) (by rw [e5]; exact Ar.1) (State.isArrayOf_alike hZ.alike Ar.2.1) Ar.2.2 (inb_of Sz ⟨by decide, by decide⟩) t1 (g := (mkF m 47 #[.val (.ref a1), .val (.long (own_m3 ra rb rc)), .second, .val (.long (0 : Int64)), .second, .val (.long (0 : Int64)), .second, .val (.int (0 : Int32)), .val (.int (1 : Int32))] [(.int (1 : Int32)), (.ref a2), (.long ra), (.long (3 : Int64)), (.long (own_m3 ra rb rc)), (.long (0 : Int64))])) rfl rfl (hb hby d4_47) _ ?_
    show Steps p.tables e below (T5.setTop (mkF m 48 #[.val (.ref a1), .val (.long (own_m3 ra rb rc)), .second, .val (.long (0 : Int64)), .second, .val (.long (0 : Int64)), .second, .val (.int (0 : Int32)), .val (.int (1 : Int32))] [(.long rb), (.long ra), (.long (3 : Int64)), (.long (own_m3 ra rb rc)), (.long (0 : Int64))])) _
    refine XS.ladd X5.here hx rfl (hb hby d4_48) rfl ?_
    show Steps p.tables e below (T5.setTop (mkF m 49 #[.val (.ref a1), .val (.long (own_m3 ra rb rc)), .second, .val (.long (0 : Int64)), .second, .val (.long (0 : Int64)), .second, .val (.int (0 : Int32)), .val (.int (1 : Int32))] [(.long (ra + rb)), (.long (3 : Int64)), (.long (own_m3 ra rb rc)), (.long (0 : Int64))])) _
    refine XS.lmul X5.here hx rfl (hb hby d4_49) rfl ?_
    show Steps p.tables e below (T5.setTop (mkF m 50 #[.val (.ref a1), .val (.long (own_m3 ra rb rc)), .second, .val (.long (0 : Int64)), .second, .val (.long (0 : Int64)), .second, .val (.int (0 : Int32)), .val (.int (1 : Int32))] [(.long ((3 : Int64) * (ra + rb))), (.long (own_m3 ra rb rc)), (.long (0 : Int64))])) _
    refine XS.lsub X5.here hx rfl (hb hby d4_50) rfl ?_
    show Steps p.tables e below (T5.setTop (mkF m 51 #[.val (.ref a1), .val (.long (own_m3 ra rb rc)), .second, .val (.long (0 : Int64)), .second, .val (.long (0 : Int64)), .second, .val (.int (0 : Int32)), .val (.int (1 : Int32))] [(.long ((own_m3 ra rb rc) - ((3 : Int64) * (ra + rb)))), (.long (0 : Int64))])) _
    refine XS.ladd X5.here hx rfl (hb hby d4_51) rfl ?_
    show Steps p.tables e below (T5.setTop (mkF m 52 #[.val (.ref a1), .val (.long (own_m3 ra rb rc)), .second, .val (.long (0 : Int64)), .second, .val (.long (0 : Int64)), .second, .val (.int (0 : Int32)), .val (.int (1 : Int32))] [(.long ((0 : Int64) + ((own_m3 ra rb rc) - ((3 : Int64) * (ra + rb)))))])) _
    refine XS.lstoreN X5.here hx rfl (hb hby d4_52) rfl (l' := #[.val (.ref a1), .val (.long (own_m3 ra rb rc)), .second, .val (.long ((0 : Int64) + ((own_m3 ra rb rc) - ((3 : Int64) * (ra + rb))))), .second, .val (.long (0 : Int64)), .second, .val (.int (0 : Int32)), .val (.int (1 : Int32))]) rfl ?_
    show Steps p.tables e below (T5.setTop (mkF m 53 #[.val (.ref a1), .val (.long (own_m3 ra rb rc)), .second, .val (.long ((0 : Int64) + ((own_m3 ra rb rc) - ((3 : Int64) * (ra + rb))))), .second, .val (.long (0 : Int64)), .second, .val (.int (0 : Int32)), .val (.int (1 : Int32))] [])) _
    exact k
  obtain ⟨h1, hh1⟩ : ∃ z : Int64, z = (own_h3 (own_m3 ra rb rc) (0 : Int64) ra rb) := ⟨_, rfl⟩
  have pre7 : ∀ t, Steps p.tables e below (T5.setTop (mkF m 53 #[.val (.ref a1), .val (.long (own_m3 ra rb rc)), .second, .val (.long h1), .second, .val (.long (0 : Int64)), .second, .val (.int (0 : Int32)), .val (.int (1 : Int32))] [])) t → Steps p.tables e below (s₁.setTop (entryFrame m #[(.ref a1)] 9)) t := by rw [hh1]; exact pre6
  have pre8 : ∀ t, Steps p.tables e below (T5.setTop (mkF m 57 #[.val (.ref a1), .val (.long (own_m3 ra rb rc)), .second, .val (.long h1), .second, .val (.long (0 : Int64)), .second, .val (.int (0 : Int32)), .val (.int (1 : Int32))] [(.int (lcmpW h1 (0 : Int64)))])) t → Steps p.tables e below (s₁.setTop (entryFrame m #[(.ref a1)] 9)) t := by
    intro t k
    refine pre7 t ?_
    show Steps p.tables e below (T5.setTop (mkF m 53 #[.val (.ref a1), .val (.long (own_m3 ra rb rc)), .second, .val (.long h1), .second, .val (.long (0 : Int64)), .second, .val (.int (0 : Int32)), .val (.int (1 : Int32))] [])) _
    refine XS.lloadN X5.here hx rfl (hb hby d4_53) rfl ?_
    show Steps p.tables e below (T5.setTop (mkF m 54 #[.val (.ref a1), .val (.long (own_m3 ra rb rc)), .second, .val (.long h1), .second, .val (.long (0 : Int64)), .second, .val (.int (0 : Int32)), .val (.int (1 : Int32))] [(.long h1)])) _
    refine XS.lload X5.here hx rfl (hb hby d4_54) rfl ?_
    show Steps p.tables e below (T5.setTop (mkF m 56 #[.val (.ref a1), .val (.long (own_m3 ra rb rc)), .second, .val (.long h1), .second, .val (.long (0 : Int64)), .second, .val (.int (0 : Int32)), .val (.int (1 : Int32))] [(.long (0 : Int64)), (.long h1)])) _
    refine XS.lcmp X5.here hx rfl (hb hby d4_56) rfl ?_
    show Steps p.tables e below (T5.setTop (mkF m 57 #[.val (.ref a1), .val (.long (own_m3 ra rb rc)), .second, .val (.long h1), .second, .val (.long (0 : Int64)), .second, .val (.int (0 : Int32)), .val (.int (1 : Int32))] [(.int (lcmpW h1 (0 : Int64)))])) _
    exact k
  by_cases d0_0 : h1 < (0 : Int64)
  · skip
    obtain ⟨T9, X9, e9, st9⟩ := getF X5 hx hZ hown (host := "") (Or.inl (hw _ (List.mem_of_getElem? (i := 15) rfl))) Via.refl e5 F1 (g := (mkF m 19 #[.val (.ref a1), .val (.long (own_m3 ra rb rc)), .second, .val (.long h1), .second, .val (.long h1), .second, .val (.int (1 : Int32)), .val (.int (2 : Int32))] [(.ref a1), (.int (2 : Int32))])) rfl rfl (hb hby d4_19)
    obtain ⟨T10, X10, e10, st10⟩ := getF X9 hx hZ hown (host := "") (Or.inl (hw _ (List.mem_of_getElem? (i := 15) rfl))) Via.refl e9 F1 (g := (mkF m 28 #[.val (.ref a1), .val (.long (own_m3 ra rb rc)), .second, .val (.long h1), .second, .val (.long h1), .second, .val (.int (1 : Int32)), .val (.int (2 : Int32))] [(.ref a1), (.long (own_m3 ra rb rc)), (.long h1)])) rfl rfl (hb hby d4_28)
    obtain ⟨T11, X11, e11, st11⟩ := getF X10 hx hZ hown (host := "") (Or.inl (hw _ (List.mem_of_getElem? (i := 17) rfl))) Via.refl e10 F2 (g := (mkF m 33 #[.val (.ref a1), .val (.long (own_m3 ra rb rc)), .second, .val (.long h1), .second, .val (.long h1), .second, .val (.int (1 : Int32)), .val (.int (2 : Int32))] [(.ref a1), (.long (3 : Int64)), (.long (own_m3 ra rb rc)), (.long h1)])) rfl rfl (hb hby d4_33)
    obtain ⟨T12, X12, e12, st12⟩ := getF X11 hx hZ hown (host := "") (Or.inl (hw _ (List.mem_of_getElem? (i := 17) rfl))) Via.refl e11 F2 (g := (mkF m 42 #[.val (.ref a1), .val (.long (own_m3 ra rb rc)), .second, .val (.long h1), .second, .val (.long h1), .second, .val (.int (1 : Int32)), .val (.int (2 : Int32))] [(.ref a1), (.long rb), (.long (3 : Int64)), (.long (own_m3 ra rb rc)), (.long h1)])) rfl rfl (hb hby d4_42)
    have pre13 : ∀ t, Steps p.tables e below (T12.setTop (mkF m 53 #[.val (.ref a1), .val (.long (own_m3 ra rb rc)), .second, .val (.long (h1 + ((own_m3 ra rb rc) - ((3 : Int64) * (rb + rc))))), .second, .val (.long h1), .second, .val (.int (1 : Int32)), .val (.int (2 : Int32))] [])) t → Steps p.tables e below (s₁.setTop (entryFrame m #[(.ref a1)] 9)) t := by
      intro t k
      refine pre8 t ?_
      refine XS.ifNo X5.here hx rfl (hb hby d4_57) rfl ((if0 _ _).trans (tlt ((lw_lt h1 (0 : Int64)).mpr d0_0)).2.1) ?_
      show Steps p.tables e below (T5.setTop (mkF m 60 #[.val (.ref a1), .val (.long (own_m3 ra rb rc)), .second, .val (.long h1), .second, .val (.long (0 : Int64)), .second, .val (.int (0 : Int32)), .val (.int (1 : Int32))] [])) _
      refine XS.lloadN X5.here hx rfl (hb hby d4_60) rfl ?_
      show Steps p.tables e below (T5.setTop (mkF m 61 #[.val (.ref a1), .val (.long (own_m3 ra rb rc)), .second, .val (.long h1), .second, .val (.long (0 : Int64)), .second, .val (.int (0 : Int32)), .val (.int (1 : Int32))] [(.long h1)])) _
      refine XS.lstore X5.here hx rfl (hb hby d4_61) rfl (l' := #[.val (.ref a1), .val (.long (own_m3 ra rb rc)), .second, .val (.long h1), .second, .val (.long h1), .second, .val (.int (0 : Int32)), .val (.int (1 : Int32))]) rfl ?_
      show Steps p.tables e below (T5.setTop (mkF m 63 #[.val (.ref a1), .val (.long (own_m3 ra rb rc)), .second, .val (.long h1), .second, .val (.long h1), .second, .val (.int (0 : Int32)), .val (.int (1 : Int32))] [])) _
      refine XS.iload X5.here hx rfl (hb hby d4_63) rfl ?_
      show Steps p.tables e below (T5.setTop (mkF m 65 #[.val (.ref a1), .val (.long (own_m3 ra rb rc)), .second, .val (.long h1), .second, .val (.long h1), .second, .val (.int (0 : Int32)), .val (.int (1 : Int32))] [(.int (1 : Int32))])) _
      refine XS.istore X5.here hx rfl (hb hby d4_65) rfl (l' := #[.val (.ref a1), .val (.long (own_m3 ra rb rc)), .second, .val (.long h1), .second, .val (.long h1), .second, .val (.int (1 : Int32)), .val (.int (1 : Int32))]) rfl ?_
      show Steps p.tables e below (T5.setTop (mkF m 67 #[.val (.ref a1), .val (.long (own_m3 ra rb rc)), .second, .val (.long h1), .second, .val (.long h1), .second, .val (.int (1 : Int32)), .val (.int (1 : Int32))] [])) _
      refine XS.iinc X5.here hx rfl (hb hby d4_67) rfl (l' := #[.val (.ref a1), .val (.long (own_m3 ra rb rc)), .second, .val (.long h1), .second, .val (.long h1), .second, .val (.int (1 : Int32)), .val (.int (2 : Int32))]) rfl ?_
      show Steps p.tables e below (T5.setTop (mkF m 70 #[.val (.ref a1), .val (.long (own_m3 ra rb rc)), .second, .val (.long h1), .second, .val (.long h1), .second, .val (.int (1 : Int32)), .val (.int (2 : Int32))] [])) _
      refine XS.goto X5.here hx rfl (pc0 := 70) (pc' := 16) rfl (hb hby d4_70) (by decide) (by decide) ?_
      show Steps p.tables e below (T5.setTop (mkF m 16 #[.val (.ref a1), .val (.long (own_m3 ra rb rc)), .second, .val (.long h1), .second, .val (.long h1), .second, .val (.int (1 : Int32)), .val (.int (2 : Int32))] [])) _
      refine XS.iload X5.here hx rfl (hb hby d4_16) rfl ?_
      show Steps p.tables e below (T5.setTop (mkF m 18 #[.val (.ref a1), .val (.long (own_m3 ra rb rc)), .second, .val (.long h1), .second, .val (.long h1), .second, .val (.int (1 : Int32)), .val (.int (2 : Int32))] [(.int (2 : Int32))])) _
      refine XS.aloadN X5.here hx rfl (hb hby d4_18) rfl (rfl) ?_
      show Steps p.tables e below (T5.setTop (mkF m 19 #[.val (.ref a1), .val (.long (own_m3 ra rb rc)), .second, .val (.long h1), .second, .val (.long h1), .second, .val (.int (1 : Int32)), .val (.int (2 : Int32))] [(.ref a1), (.int (2 : Int32))])) _
      refine st9 _ ?_
      show Steps p.tables e below (T9.setTop (mkF m 22 #[.val (.ref a1), .val (.long (own_m3 ra rb rc)), .second, .val (.long h1), .second, .val (.long h1), .second, .val (.int (1 : Int32)), .val (.int (2 : Int32))] [(.int (3 : Int32)), (.int (2 : Int32))])) _
      refine XS.icmpNo X9.here hx rfl (hb hby d4_22) rfl (tlt (by decide : (2 : Int32) < (3 : Int32))).2.1 ?_
      show Steps p.tables e below (T9.setTop (mkF m 25 #[.val (.ref a1), .val (.long (own_m3 ra rb rc)), .second, .val (.long h1), .second, .val (.long h1), .second, .val (.int (1 : Int32)), .val (.int (2 : Int32))] [])) _
      refine XS.lloadN X9.here hx rfl (hb hby d4_25) rfl ?_
      show Steps p.tables e below (T9.setTop (mkF m 26 #[.val (.ref a1), .val (.long (own_m3 ra rb rc)), .second, .val (.long h1), .second, .val (.long h1), .second, .val (.int (1 : Int32)), .val (.int (2 : Int32))] [(.long h1)])) _
      refine XS.lloadN X9.here hx rfl (hb hby d4_26) rfl ?_
      show Steps p.tables e below (T9.setTop (mkF m 27 #[.val (.ref a1), .val (.long (own_m3 ra rb rc)), .second, .val (.long h1), .second, .val (.long h1), .second, .val (.int (1 : Int32)), .val (.int (2 : Int32))] [(.long (own_m3 ra rb rc)), (.long h1)])) _
      refine XS.aloadN X9.here hx rfl (hb hby d4_27) rfl (rfl) ?_
      show Steps p.tables e below (T9.setTop (mkF m 28 #[.val (.ref a1), .val (.long (own_m3 ra rb rc)), .second, .val (.long h1), .second, .val (.long h1), .second, .val (.int (1 : Int32)), .val (.int (2 : Int32))] [(.ref a1), (.long (own_m3 ra rb rc)), (.long h1)])) _
      refine st10 _ ?_
      show Steps p.tables e below (T10.setTop (mkF m 31 #[.val (.ref a1), .val (.long (own_m3 ra rb rc)), .second, .val (.long h1), .second, .val (.long h1), .second, .val (.int (1 : Int32)), .val (.int (2 : Int32))] [(.int (3 : Int32)), (.long (own_m3 ra rb rc)), (.long h1)])) _
      refine XS.i2l X10.here hx rfl (hb hby d4_31) rfl ?_
      show Steps p.tables e below (T10.setTop (mkF m 32 #[.val (.ref a1), .val (.long (own_m3 ra rb rc)), .second, .val (.long h1), .second, .val (.long h1), .second, .val (.int (1 : Int32)), .val (.int (2 : Int32))] [(.long (3 : Int64)), (.long (own_m3 ra rb rc)), (.long h1)])) _
      refine XS.aloadN X10.here hx rfl (hb hby d4_32) rfl (rfl) ?_
      show Steps p.tables e below (T10.setTop (mkF m 33 #[.val (.ref a1), .val (.long (own_m3 ra rb rc)), .second, .val (.long h1), .second, .val (.long h1), .second, .val (.int (1 : Int32)), .val (.int (2 : Int32))] [(.ref a1), (.long (3 : Int64)), (.long (own_m3 ra rb rc)), (.long h1)])) _
      refine st11 _ ?_
      show Steps p.tables e below (T11.setTop (mkF m 36 #[.val (.ref a1), .val (.long (own_m3 ra rb rc)), .second, .val (.long h1), .second, .val (.long h1), .second, .val (.int (1 : Int32)), .val (.int (2 : Int32))] [(.ref a2), (.long (3 : Int64)), (.long (own_m3 ra rb rc)), (.long h1)])) _
      refine XS.iload X11.here hx rfl (hb hby d4_36) rfl ?_
      show Steps p.tables e below (T11.setTop (mkF m 38 #[.val (.ref a1), .val (.long (own_m3 ra rb rc)), .second, .val (.long h1), .second, .val (.long h1), .second, .val (.int (1 : Int32)), .val (.int (2 : Int32))] [(.int (2 : Int32)), (.ref a2), (.long (3 : Int64)), (.long (own_m3 ra rb rc)), (.long h1)])) _
      refine XS.iconst X11.here hx rfl (hb hby d4_38) ?_
      show Steps p.tables e below (T11.setTop (mkF m 39 #[.val (.ref a1), .val (.long (own_m3 ra rb rc)), .second, .val (.long h1), .second, .val (.long h1), .second, .val (.int (1 : Int32)), .val (.int (2 : Int32))] [(.int (1 : Int32)), (.int (2 : Int32)), (.ref a2), (.long (3 : Int64)), (.long (own_m3 ra rb rc)), (.long h1)])) _
      refine XS.isub X11.here hx rfl (hb hby d4_39) rfl ?_
      show Steps p.tables e below (T11.setTop (mkF m 40 #[.val (.ref a1), .val (.long (own_m3 ra rb rc)), .second, .val (.long h1), .second, .val (.long h1), .second, .val (.int (1 : Int32)), .val (.int (2 : Int32))] [(.int (1 : Int32)), (.ref a2), (.long (3 : Int64)), (.long (own_m3 ra rb rc)), (.long h1)])) _
      refine X11.laload hx (j := (1 : Int32)) (v := (.long rb)) (by rw [e11]; exact Ar.1) (State.isArrayOf_alike hZ.alike Ar.2.1) Ar.2.2 (inb_of Sz ⟨by decide, by decide⟩) t1 (g := (mkF m 40 #[.val (.ref a1), .val (.long (own_m3 ra rb rc)), .second, .val (.long h1), .second, .val (.long h1), .second, .val (.int (1 : Int32)), .val (.int (2 : Int32))] [(.int (1 : Int32)), (.ref a2), (.long (3 : Int64)), (.long (own_m3 ra rb rc)), (.long h1)])) rfl rfl (hb hby d4_40) _ ?_
      show Steps p.tables e below (T11.setTop (mkF m 41 #[.val (.ref a1), .val (.long (own_m3 ra rb rc)), .second, .val (.long h1), .second, .val (.long h1), .second, .val (.int (1 : Int32)), .val (.int (2 : Int32))] [(.long rb), (.long (3 : Int64)), (.long (own_m3 ra rb rc)), (.long h1)])) _
      refine XS.aloadN X11.here hx rfl (hb hby d4_41) rfl (rfl) ?_
      show Steps p.tables e below (T11.setTop (mkF m 42 #[.val (.ref a1), .val (.long (own_m3 ra rb rc)), .second, .val (.long h1), .second, .val (.long h1), .second, .val (.int (1 : Int32)), .val (.int (2 : Int32))] [(.ref a1), (.long rb), (.long (3 : Int64)), (.long (own_m3 ra rb rc)), (.long h1)])) _
      refine st12 _ ?_
      show Steps p.tables e below (T12.setTop (mkF m 45 #[.val (.ref a1), .val (.long (own_m3 ra rb rc)), .second, .val (.long h1), .second, .val (.long h1), .second, .val (.int (1 : Int32)), .val (.int (2 : Int32))] [(.ref a2), (.long rb), (.long (3 : Int64)), (.long (own_m3 ra rb rc)), (.long h1)])) _
      refine XS.iload X12.here hx rfl (hb hby d4_45) rfl ?_
      show Steps p.tables e below (T12.setTop (mkF m 47 #[.val (.ref a1), .val (.long (own_m3 ra rb rc)), .second, .val (.long h1), .second, .val (.long h1), .second, .val (.int (1 : Int32)), .val (.int (2 : Int32))] [(.int (2 : Int32)), (.ref a2), (.long rb), (.long (3 : Int64)), (.long (own_m3 ra rb rc)), (.long h1)])) _
      refine X12.laload hx (j := (2 : Int32)) (v := (.long rc)) (by rw [e12]; exact Ar.1) (State.isArrayOf_alike hZ.alike Ar.2.1) Ar.2.2 (inb_of Sz ⟨by decide, by decide⟩) t2 (g := (mkF m 47 #[.val (.ref a1), .val (.long (own_m3 ra rb rc)), .second, .val (.long h1), .second, .val (.long h1), .second, .val (.int (1 : Int32)), .val (.int (2 : Int32))] [(.int (2 : Int32)), (.ref a2), (.long rb), (.long (3 : Int64)), (.long (own_m3 ra rb rc)), (.long h1)])) rfl rfl (hb hby d4_47) _ ?_
      show Steps p.tables e below (T12.setTop (mkF m 48 #[.val (.ref a1), .val (.long (own_m3 ra rb rc)), .second, .val (.long h1), .second, .val (.long h1), .second, .val (.int (1 : Int32)), .val (.int (2 : Int32))] [(.long rc), (.long rb), (.long (3 : Int64)), (.long (own_m3 ra rb rc)), (.long h1)])) _
      refine XS.ladd X12.here hx rfl (hb hby d4_48) rfl ?_
      show Steps p.tables e below (T12.setTop (mkF m 49 #[.val (.ref a1), .val (.long (own_m3 ra rb rc)), .second, .val (.long h1), .second, .val (.long h1), .second, .val (.int (1 : Int32)), .val (.int (2 : Int32))] [(.long (rb + rc)), (.long (3 : Int64)), (.long (own_m3 ra rb rc)), (.long h1)])) _
      refine XS.lmul X12.here hx rfl (hb hby d4_49) rfl ?_
      show Steps p.tables e below (T12.setTop (mkF m 50 #[.val (.ref a1), .val (.long (own_m3 ra rb rc)), .second, .val (.long h1), .second, .val (.long h1), .second, .val (.int (1 : Int32)), .val (.int (2 : Int32))] [(.long ((3 : Int64) * (rb + rc))), (.long (own_m3 ra rb rc)), (.long h1)])) _
      refine XS.lsub X12.here hx rfl (hb hby d4_50) rfl ?_
      show Steps p.tables e below (T12.setTop (mkF m 51 #[.val (.ref a1), .val (.long (own_m3 ra rb rc)), .second, .val (.long h1), .second, .val (.long h1), .second, .val (.int (1 : Int32)), .val (.int (2 : Int32))] [(.long ((own_m3 ra rb rc) - ((3 : Int64) * (rb + rc)))), (.long h1)])) _
      refine XS.ladd X12.here hx rfl (hb hby d4_51) rfl ?_
      show Steps p.tables e below (T12.setTop (mkF m 52 #[.val (.ref a1), .val (.long (own_m3 ra rb rc)), .second, .val (.long h1), .second, .val (.long h1), .second, .val (.int (1 : Int32)), .val (.int (2 : Int32))] [(.long (h1 + ((own_m3 ra rb rc) - ((3 : Int64) * (rb + rc)))))])) _
      refine XS.lstoreN X12.here hx rfl (hb hby d4_52) rfl (l' := #[.val (.ref a1), .val (.long (own_m3 ra rb rc)), .second, .val (.long (h1 + ((own_m3 ra rb rc) - ((3 : Int64) * (rb + rc))))), .second, .val (.long h1), .second, .val (.int (1 : Int32)), .val (.int (2 : Int32))]) rfl ?_
      show Steps p.tables e below (T12.setTop (mkF m 53 #[.val (.ref a1), .val (.long (own_m3 ra rb rc)), .second, .val (.long (h1 + ((own_m3 ra rb rc) - ((3 : Int64) * (rb + rc))))), .second, .val (.long h1), .second, .val (.int (1 : Int32)), .val (.int (2 : Int32))] [])) _
      exact k
    obtain ⟨h2, hh2⟩ : ∃ z : Int64, z = (own_h3 (own_m3 ra rb rc) h1 rb rc) := ⟨_, rfl⟩
    have pre14 : ∀ t, Steps p.tables e below (T12.setTop (mkF m 53 #[.val (.ref a1), .val (.long (own_m3 ra rb rc)), .second, .val (.long h2), .second, .val (.long h1), .second, .val (.int (1 : Int32)), .val (.int (2 : Int32))] [])) t → Steps p.tables e below (s₁.setTop (entryFrame m #[(.ref a1)] 9)) t := by rw [hh2]; exact pre13
    have pre15 : ∀ t, Steps p.tables e below (T12.setTop (mkF m 57 #[.val (.ref a1), .val (.long (own_m3 ra rb rc)), .second, .val (.long h2), .second, .val (.long h1), .second, .val (.int (1 : Int32)), .val (.int (2 : Int32))] [(.int (lcmpW h2 h1))])) t → Steps p.tables e below (s₁.setTop (entryFrame m #[(.ref a1)] 9)) t := by
      intro t k
      refine pre14 t ?_
      show Steps p.tables e below (T12.setTop (mkF m 53 #[.val (.ref a1), .val (.long (own_m3 ra rb rc)), .second, .val (.long h2), .second, .val (.long h1), .second, .val (.int (1 : Int32)), .val (.int (2 : Int32))] [])) _
      refine XS.lloadN X12.here hx rfl (hb hby d4_53) rfl ?_
      show Steps p.tables e below (T12.setTop (mkF m 54 #[.val (.ref a1), .val (.long (own_m3 ra rb rc)), .second, .val (.long h2), .second, .val (.long h1), .second, .val (.int (1 : Int32)), .val (.int (2 : Int32))] [(.long h2)])) _
      refine XS.lload X12.here hx rfl (hb hby d4_54) rfl ?_
      show Steps p.tables e below (T12.setTop (mkF m 56 #[.val (.ref a1), .val (.long (own_m3 ra rb rc)), .second, .val (.long h2), .second, .val (.long h1), .second, .val (.int (1 : Int32)), .val (.int (2 : Int32))] [(.long h1), (.long h2)])) _
      refine XS.lcmp X12.here hx rfl (hb hby d4_56) rfl ?_
      show Steps p.tables e below (T12.setTop (mkF m 57 #[.val (.ref a1), .val (.long (own_m3 ra rb rc)), .second, .val (.long h2), .second, .val (.long h1), .second, .val (.int (1 : Int32)), .val (.int (2 : Int32))] [(.int (lcmpW h2 h1))])) _
      exact k
    by_cases d1_1 : h2 < h1
    · skip
      obtain ⟨T16, X16, e16, st16⟩ := getF X12 hx hZ hown (host := "") (Or.inl (hw _ (List.mem_of_getElem? (i := 15) rfl))) Via.refl e12 F1 (g := (mkF m 19 #[.val (.ref a1), .val (.long (own_m3 ra rb rc)), .second, .val (.long h2), .second, .val (.long h2), .second, .val (.int (2 : Int32)), .val (.int (3 : Int32))] [(.ref a1), (.int (3 : Int32))])) rfl rfl (hb hby d4_19)
      have pre17 : ∀ t, Steps p.tables e below (T16.setTop (mkF m 75 #[.val (.ref a1), .val (.long (own_m3 ra rb rc)), .second, .val (.long h2), .second, .val (.long h2), .second, .val (.int (2 : Int32)), .val (.int (3 : Int32))] [(.int (2 : Int32))])) t → Steps p.tables e below (s₁.setTop (entryFrame m #[(.ref a1)] 9)) t := by
        intro t k
        refine pre15 t ?_
        refine XS.ifNo X12.here hx rfl (hb hby d4_57) rfl ((if0 _ _).trans (tlt ((lw_lt h2 h1).mpr d1_1)).2.1) ?_
        show Steps p.tables e below (T12.setTop (mkF m 60 #[.val (.ref a1), .val (.long (own_m3 ra rb rc)), .second, .val (.long h2), .second, .val (.long h1), .second, .val (.int (1 : Int32)), .val (.int (2 : Int32))] [])) _
        refine XS.lloadN X12.here hx rfl (hb hby d4_60) rfl ?_
        show Steps p.tables e below (T12.setTop (mkF m 61 #[.val (.ref a1), .val (.long (own_m3 ra rb rc)), .second, .val (.long h2), .second, .val (.long h1), .second, .val (.int (1 : Int32)), .val (.int (2 : Int32))] [(.long h2)])) _
        refine XS.lstore X12.here hx rfl (hb hby d4_61) rfl (l' := #[.val (.ref a1), .val (.long (own_m3 ra rb rc)), .second, .val (.long h2), .second, .val (.long h2), .second, .val (.int (1 : Int32)), .val (.int (2 : Int32))]) rfl ?_
        show Steps p.tables e below (T12.setTop (mkF m 63 #[.val (.ref a1), .val (.long (own_m3 ra rb rc)), .second, .val (.long h2), .second, .val (.long h2), .second, .val (.int (1 : Int32)), .val (.int (2 : Int32))] [])) _
        refine XS.iload X12.here hx rfl (hb hby d4_63) rfl ?_
        show Steps p.tables e below (T12.setTop (mkF m 65 #[.val (.ref a1), .val (.long (own_m3 ra rb rc)), .second, .val (.long h2), .second, .val (.long h2), .second, .val (.int (1 : Int32)), .val (.int (2 : Int32))] [(.int (2 : Int32))])) _
        refine XS.istore X12.here hx rfl (hb hby d4_65) rfl (l' := #[.val (.ref a1), .val (.long (own_m3 ra rb rc)), .second, .val (.long h2), .second, .val (.long h2), .second, .val (.int (2 : Int32)), .val (.int (2 : Int32))]) rfl ?_
        show Steps p.tables e below (T12.setTop (mkF m 67 #[.val (.ref a1), .val (.long (own_m3 ra rb rc)), .second, .val (.long h2), .second, .val (.long h2), .second, .val (.int (2 : Int32)), .val (.int (2 : Int32))] [])) _
        refine XS.iinc X12.here hx rfl (hb hby d4_67) rfl (l' := #[.val (.ref a1), .val (.long (own_m3 ra rb rc)), .second, .val (.long h2), .second, .val (.long h2), .second, .val (.int (2 : Int32)), .val (.int (3 : Int32))]) rfl ?_
        show Steps p.tables e below (T12.setTop (mkF m 70 #[.val (.ref a1), .val (.long (own_m3 ra rb rc)), .second, .val (.long h2), .second, .val (.long h2), .second, .val (.int (2 : Int32)), .val (.int (3 : Int32))] [])) _
        refine XS.goto X12.here hx rfl (pc0 := 70) (pc' := 16) rfl (hb hby d4_70) (by decide) (by decide) ?_
        show Steps p.tables e below (T12.setTop (mkF m 16 #[.val (.ref a1), .val (.long (own_m3 ra rb rc)), .second, .val (.long h2), .second, .val (.long h2), .second, .val (.int (2 : Int32)), .val (.int (3 : Int32))] [])) _
        refine XS.iload X12.here hx rfl (hb hby d4_16) rfl ?_
        show Steps p.tables e below (T12.setTop (mkF m 18 #[.val (.ref a1), .val (.long (own_m3 ra rb rc)), .second, .val (.long h2), .second, .val (.long h2), .second, .val (.int (2 : Int32)), .val (.int (3 : Int32))] [(.int (3 : Int32))])) _
        refine XS.aloadN X12.here hx rfl (hb hby d4_18) rfl (rfl) ?_
        show Steps p.tables e below (T12.setTop (mkF m 19 #[.val (.ref a1), .val (.long (own_m3 ra rb rc)), .second, .val (.long h2), .second, .val (.long h2), .second, .val (.int (2 : Int32)), .val (.int (3 : Int32))] [(.ref a1), (.int (3 : Int32))])) _
        refine st16 _ ?_
        show Steps p.tables e below (T16.setTop (mkF m 22 #[.val (.ref a1), .val (.long (own_m3 ra rb rc)), .second, .val (.long h2), .second, .val (.long h2), .second, .val (.int (2 : Int32)), .val (.int (3 : Int32))] [(.int (3 : Int32)), (.int (3 : Int32))])) _
        refine XS.icmpYes X16.here hx rfl (pc0 := 22) (pc' := 73) rfl (hb hby d4_22) rfl (flt (by decide : ¬ ((3 : Int32) < (3 : Int32)))).2.1 (by decide) (by decide) ?_
        show Steps p.tables e below (T16.setTop (mkF m 73 #[.val (.ref a1), .val (.long (own_m3 ra rb rc)), .second, .val (.long h2), .second, .val (.long h2), .second, .val (.int (2 : Int32)), .val (.int (3 : Int32))] [])) _
        refine XS.iload X16.here hx rfl (hb hby d4_73) rfl ?_
        show Steps p.tables e below (T16.setTop (mkF m 75 #[.val (.ref a1), .val (.long (own_m3 ra rb rc)), .second, .val (.long h2), .second, .val (.long h2), .second, .val (.int (2 : Int32)), .val (.int (3 : Int32))] [(.int (2 : Int32))])) _
        exact k
      obtain ⟨fs, hr, hrun, hended, hW, hsame⟩ := X16.leave (v := some (.int (2 : Int32))) (fun h => by rw [Bd.returns] at h; cases h)
      refine ⟨_, _, pre17 _ ?_, hrun, hended, _, _, rfl, ?_, ⟨_, rfl⟩, hW, hsame.mono (by decide) (by decide)⟩
      · exact retOut X16 hx Bd.returns rfl (Or.inl ⟨rfl, Or.inl rfl, _, rfl⟩) (hb hby d4_75) hr
      · show Q_rmL3 Z a1 a2 cl ra rb rc h0 n0 _ T16.heap _
        rw [e16]
        exact ⟨by simp [own_l3, ← hh1, ← hh2, d0_0, d1_1], N1, rfl⟩
    · skip
      obtain ⟨T18, X18, e18, st18⟩ := getF X12 hx hZ hown (host := "") (Or.inl (hw _ (List.mem_of_getElem? (i := 15) rfl))) Via.refl e12 F1 (g := (mkF m 19 #[.val (.ref a1), .val (.long (own_m3 ra rb rc)), .second, .val (.long h2), .second, .val (.long h1), .second, .val (.int (1 : Int32)), .val (.int (3 : Int32))] [(.ref a1), (.int (3 : Int32))])) rfl rfl (hb hby d4_19)
      have pre19 : ∀ t, Steps p.tables e below (T18.setTop (mkF m 75 #[.val (.ref a1), .val (.long (own_m3 ra rb rc)), .second, .val (.long h2), .second, .val (.long h1), .second, .val (.int (1 : Int32)), .val (.int (3 : Int32))] [(.int (1 : Int32))])) t → Steps p.tables e below (s₁.setTop (entryFrame m #[(.ref a1)] 9)) t := by
        intro t k
        refine pre15 t ?_
        refine XS.ifYes X12.here hx rfl (pc0 := 57) (pc' := 67) rfl (hb hby d4_57) rfl ((if0 _ _).trans (flt (mt (lw_lt h2 h1).mp d1_1)).2.1) (by decide) (by decide) ?_
        show Steps p.tables e below (T12.setTop (mkF m 67 #[.val (.ref a1), .val (.long (own_m3 ra rb rc)), .second, .val (.long h2), .second, .val (.long h1), .second, .val (.int (1 : Int32)), .val (.int (2 : Int32))] [])) _
        refine XS.iinc X12.here hx rfl (hb hby d4_67) rfl (l' := #[.val (.ref a1), .val (.long (own_m3 ra rb rc)), .second, .val (.long h2), .second, .val (.long h1), .second, .val (.int (1 : Int32)), .val (.int (3 : Int32))]) rfl ?_
        show Steps p.tables e below (T12.setTop (mkF m 70 #[.val (.ref a1), .val (.long (own_m3 ra rb rc)), .second, .val (.long h2), .second, .val (.long h1), .second, .val (.int (1 : Int32)), .val (.int (3 : Int32))] [])) _
        refine XS.goto X12.here hx rfl (pc0 := 70) (pc' := 16) rfl (hb hby d4_70) (by decide) (by decide) ?_
        show Steps p.tables e below (T12.setTop (mkF m 16 #[.val (.ref a1), .val (.long (own_m3 ra rb rc)), .second, .val (.long h2), .second, .val (.long h1), .second, .val (.int (1 : Int32)), .val (.int (3 : Int32))] [])) _
        refine XS.iload X12.here hx rfl (hb hby d4_16) rfl ?_
        show Steps p.tables e below (T12.setTop (mkF m 18 #[.val (.ref a1), .val (.long (own_m3 ra rb rc)), .second, .val (.long h2), .second, .val (.long h1), .second, .val (.int (1 : Int32)), .val (.int (3 : Int32))] [(.int (3 : Int32))])) _
        refine XS.aloadN X12.here hx rfl (hb hby d4_18) rfl (rfl) ?_
        show Steps p.tables e below (T12.setTop (mkF m 19 #[.val (.ref a1), .val (.long (own_m3 ra rb rc)), .second, .val (.long h2), .second, .val (.long h1), .second, .val (.int (1 : Int32)), .val (.int (3 : Int32))] [(.ref a1), (.int (3 : Int32))])) _
        refine st18 _ ?_
        show Steps p.tables e below (T18.setTop (mkF m 22 #[.val (.ref a1), .val (.long (own_m3 ra rb rc)), .second, .val (.long h2), .second, .val (.long h1), .second, .val (.int (1 : Int32)), .val (.int (3 : Int32))] [(.int (3 : Int32)), (.int (3 : Int32))])) _
        refine XS.icmpYes X18.here hx rfl (pc0 := 22) (pc' := 73) rfl (hb hby d4_22) rfl (flt (by decide : ¬ ((3 : Int32) < (3 : Int32)))).2.1 (by decide) (by decide) ?_
        show Steps p.tables e below (T18.setTop (mkF m 73 #[.val (.ref a1), .val (.long (own_m3 ra rb rc)), .second, .val (.long h2), .second, .val (.long h1), .second, .val (.int (1 : Int32)), .val (.int (3 : Int32))] [])) _
        refine XS.iload X18.here hx rfl (hb hby d4_73) rfl ?_
        show Steps p.tables e below (T18.setTop (mkF m 75 #[.val (.ref a1), .val (.long (own_m3 ra rb rc)), .second, .val (.long h2), .second, .val (.long h1), .second, .val (.int (1 : Int32)), .val (.int (3 : Int32))] [(.int (1 : Int32))])) _
        exact k
      obtain ⟨fs, hr, hrun, hended, hW, hsame⟩ := X18.leave (v := some (.int (1 : Int32))) (fun h => by rw [Bd.returns] at h; cases h)
      refine ⟨_, _, pre19 _ ?_, hrun, hended, _, _, rfl, ?_, ⟨_, rfl⟩, hW, hsame.mono (by decide) (by decide)⟩
      · exact retOut X18 hx Bd.returns rfl (Or.inl ⟨rfl, Or.inl rfl, _, rfl⟩) (hb hby d4_75) hr
      · show Q_rmL3 Z a1 a2 cl ra rb rc h0 n0 _ T18.heap _
        rw [e18]
        exact ⟨by simp [own_l3, ← hh1, ← hh2, d0_0, d1_1], N1, rfl⟩
  · skip
    obtain ⟨T20, X20, e20, st20⟩ := getF X5 hx hZ hown (host := "") (Or.inl (hw _ (List.mem_of_getElem? (i := 15) rfl))) Via.refl e5 F1 (g := (mkF m 19 #[.val (.ref a1), .val (.long (own_m3 ra rb rc)), .second, .val (.long h1), .second, .val (.long (0 : Int64)), .second, .val (.int (0 : Int32)), .val (.int (2 : Int32))] [(.ref a1), (.int (2 : Int32))])) rfl rfl (hb hby d4_19)
    obtain ⟨T21, X21, e21, st21⟩ := getF X20 hx hZ hown (host := "") (Or.inl (hw _ (List.mem_of_getElem? (i := 15) rfl))) Via.refl e20 F1 (g := (mkF m 28 #[.val (.ref a1), .val (.long (own_m3 ra rb rc)), .second, .val (.long h1), .second, .val (.long (0 : Int64)), .second, .val (.int (0 : Int32)), .val (.int (2 : Int32))] [(.ref a1), (.long (own_m3 ra rb rc)), (.long h1)])) rfl rfl (hb hby d4_28)
    obtain ⟨T22, X22, e22, st22⟩ := getF X21 hx hZ hown (host := "") (Or.inl (hw _ (List.mem_of_getElem? (i := 17) rfl))) Via.refl e21 F2 (g := (mkF m 33 #[.val (.ref a1), .val (.long (own_m3 ra rb rc)), .second, .val (.long h1), .second, .val (.long (0 : Int64)), .second, .val (.int (0 : Int32)), .val (.int (2 : Int32))] [(.ref a1), (.long (3 : Int64)), (.long (own_m3 ra rb rc)), (.long h1)])) rfl rfl (hb hby d4_33)
    obtain ⟨T23, X23, e23, st23⟩ := getF X22 hx hZ hown (host := "") (Or.inl (hw _ (List.mem_of_getElem? (i := 17) rfl))) Via.refl e22 F2 (g := (mkF m 42 #[.val (.ref a1), .val (.long (own_m3 ra rb rc)), .second, .val (.long h1), .second, .val (.long (0 : Int64)), .second, .val (.int (0 : Int32)), .val (.int (2 : Int32))] [(.ref a1), (.long rb), (.long (3 : Int64)), (.long (own_m3 ra rb rc)), (.long h1)])) rfl rfl (hb hby d4_42)
    have pre24 : ∀ t, Steps p.tables e below (T23.setTop (mkF m 53 #[.val (.ref a1), .val (.long (own_m3 ra rb rc)), .second, .val (.long (h1 + ((own_m3 ra rb rc) - ((3 : Int64) * (rb + rc))))), .second, .val (.long (0 : Int64)), .second, .val (.int (0 : Int32)), .val (.int (2 : Int32))] [])) t → Steps p.tables e below (s₁.setTop (entryFrame m #[(.ref a1)] 9)) t := by
      intro t k
      refine pre8 t ?_
      refine XS.ifYes X5.here hx rfl (pc0 := 57) (pc' := 67) rfl (hb hby d4_57) rfl ((if0 _ _).trans (flt (mt (lw_lt h1 (0 : Int64)).mp d0_0)).2.1) (by decide) (by decide) ?_
      show Steps p.tables e below (T5.setTop (mkF m 67 #[.val (.ref a1), .val (.long (own_m3 ra rb rc)), .second, .val (.long h1), .second, .val (.long (0 : Int64)), .second, .val (.int (0 : Int32)), .val (.int (1 : Int32))] [])) _
      refine XS.iinc X5.here hx rfl (hb hby d4_67) rfl (l' := #[.val (.ref a1), .val (.long (own_m3 ra rb rc)), .second, .val (.long h1), .second, .val (.long (0 : Int64)), .second, .val (.int (0 : Int32)), .val (.int (2 : Int32))]) rfl ?_
      show Steps p.tables e below (T5.setTop (mkF m 70 #[.val (.ref a1), .val (.long (own_m3 ra rb rc)), .second, .val (.long h1), .second, .val (.long (0 : Int64)), .second, .val (.int (0 : Int32)), .val (.int (2 : Int32))] [])) _
      refine XS.goto X5.here hx rfl (pc0 := 70) (pc' := 16) rfl (hb hby d4_70) (by decide) (by decide) ?_
      show Steps p.tables e below (T5.setTop (mkF m 16 #[.val (.ref a1), .val (.long (own_m3 ra rb rc)), .second, .val (.long h1), .second, .val (.long (0 : Int64)), .second, .val (.int (0 : Int32)), .val (.int (2 : Int32))] [])) _
      refine XS.iload X5.here hx rfl (hb hby d4_16) rfl ?_
      show Steps p.tables e below (T5.setTop (mkF m 18 #[.val (.ref a1), .val (.long (own_m3 ra rb rc)), .second, .val (.long h1), .second, .val (.long (0 : Int64)), .second, .val (.int (0 : Int32)), .val (.int (2 : Int32))] [(.int (2 : Int32))])) _
      refine XS.aloadN X5.here hx rfl (hb hby d4_18) rfl (rfl) ?_
      show Steps p.tables e below (T5.setTop (mkF m 19 #[.val (.ref a1), .val (.long (own_m3 ra rb rc)), .second, .val (.long h1), .second, .val (.long (0 : Int64)), .second, .val (.int (0 : Int32)), .val (.int (2 : Int32))] [(.ref a1), (.int (2 : Int32))])) _
      refine st20 _ ?_
      show Steps p.tables e below (T20.setTop (mkF m 22 #[.val (.ref a1), .val (.long (own_m3 ra rb rc)), .second, .val (.long h1), .second, .val (.long (0 : Int64)), .second, .val (.int (0 : Int32)), .val (.int (2 : Int32))] [(.int (3 : Int32)), (.int (2 : Int32))])) _
      refine XS.icmpNo X20.here hx rfl (hb hby d4_22) rfl (tlt (by decide : (2 : Int32) < (3 : Int32))).2.1 ?_
      show Steps p.tables e below (T20.setTop (mkF m 25 #[.val (.ref a1), .val (.long (own_m3 ra rb rc)), .second, .val (.long h1), .second, .val (.long (0 : Int64)), .second, .val (.int (0 : Int32)), .val (.int (2 : Int32))] [])) _
      refine XS.lloadN X20.here hx rfl (hb hby d4_25) rfl ?_
      show Steps p.tables e below (T20.setTop (mkF m 26 #[.val (.ref a1), .val (.long (own_m3 ra rb rc)), .second, .val (.long h1), .second, .val (.long (0 : Int64)), .second, .val (.int (0 : Int32)), .val (.int (2 : Int32))] [(.long h1)])) _
      refine XS.lloadN X20.here hx rfl (hb hby d4_26) rfl ?_
      show Steps p.tables e below (T20.setTop (mkF m 27 #[.val (.ref a1), .val (.long (own_m3 ra rb rc)), .second, .val (.long h1), .second, .val (.long (0 : Int64)), .second, .val (.int (0 : Int32)), .val (.int (2 : Int32))] [(.long (own_m3 ra rb rc)), (.long h1)])) _
      refine XS.aloadN X20.here hx rfl (hb hby d4_27) rfl (rfl) ?_
      show Steps p.tables e below (T20.setTop (mkF m 28 #[.val (.ref a1), .val (.long (own_m3 ra rb rc)), .second, .val (.long h1), .second, .val (.long (0 : Int64)), .second, .val (.int (0 : Int32)), .val (.int (2 : Int32))] [(.ref a1), (.long (own_m3 ra rb rc)), (.long h1)])) _
      refine st21 _ ?_
      show Steps p.tables e below (T21.setTop (mkF m 31 #[.val (.ref a1), .val (.long (own_m3 ra rb rc)), .second, .val (.long h1), .second, .val (.long (0 : Int64)), .second, .val (.int (0 : Int32)), .val (.int (2 : Int32))] [(.int (3 : Int32)), (.long (own_m3 ra rb rc)), (.long h1)])) _
      refine XS.i2l X21.here hx rfl (hb hby d4_31) rfl ?_
      show Steps p.tables e below (T21.setTop (mkF m 32 #[.val (.ref a1), .val (.long (own_m3 ra rb rc)), .second, .val (.long h1), .second, .val (.long (0 : Int64)), .second, .val (.int (0 : Int32)), .val (.int (2 : Int32))] [(.long (3 : Int64)), (.long (own_m3 ra rb rc)), (.long h1)])) _
      refine XS.aloadN X21.here hx rfl (hb hby d4_32) rfl (rfl) ?_
      show Steps p.tables e below (T21.setTop (mkF m 33 #[.val (.ref a1), .val (.long (own_m3 ra rb rc)), .second, .val (.long h1), .second, .val (.long (0 : Int64)), .second, .val (.int (0 : Int32)), .val (.int (2 : Int32))] [(.ref a1), (.long (3 : Int64)), (.long (own_m3 ra rb rc)), (.long h1)])) _
      refine st22 _ ?_
      show Steps p.tables e below (T22.setTop (mkF m 36 #[.val (.ref a1), .val (.long (own_m3 ra rb rc)), .second, .val (.long h1), .second, .val (.long (0 : Int64)), .second, .val (.int (0 : Int32)), .val (.int (2 : Int32))] [(.ref a2), (.long (3 : Int64)), (.long (own_m3 ra rb rc)), (.long h1)])) _
      refine XS.iload X22.here hx rfl (hb hby d4_36) rfl ?_
      show Steps p.tables e below (T22.setTop (mkF m 38 #[.val (.ref a1), .val (.long (own_m3 ra rb rc)), .second, .val (.long h1), .second, .val (.long (0 : Int64)), .second, .val (.int (0 : Int32)), .val (.int (2 : Int32))] [(.int (2 : Int32)), (.ref a2), (.long (3 : Int64)), (.long (own_m3 ra rb rc)), (.long h1)])) _
      refine XS.iconst X22.here hx rfl (hb hby d4_38) ?_
      show Steps p.tables e below (T22.setTop (mkF m 39 #[.val (.ref a1), .val (.long (own_m3 ra rb rc)), .second, .val (.long h1), .second, .val (.long (0 : Int64)), .second, .val (.int (0 : Int32)), .val (.int (2 : Int32))] [(.int (1 : Int32)), (.int (2 : Int32)), (.ref a2), (.long (3 : Int64)), (.long (own_m3 ra rb rc)), (.long h1)])) _
      refine XS.isub X22.here hx rfl (hb hby d4_39) rfl ?_
      show Steps p.tables e below (T22.setTop (mkF m 40 #[.val (.ref a1), .val (.long (own_m3 ra rb rc)), .second, .val (.long h1), .second, .val (.long (0 : Int64)), .second, .val (.int (0 : Int32)), .val (.int (2 : Int32))] [(.int (1 : Int32)), (.ref a2), (.long (3 : Int64)), (.long (own_m3 ra rb rc)), (.long h1)])) _
      refine X22.laload hx (j := (1 : Int32)) (v := (.long rb)) (by rw [e22]; exact Ar.1) (State.isArrayOf_alike hZ.alike Ar.2.1) Ar.2.2 (inb_of Sz ⟨by decide, by decide⟩) t1 (g := (mkF m 40 #[.val (.ref a1), .val (.long (own_m3 ra rb rc)), .second, .val (.long h1), .second, .val (.long (0 : Int64)), .second, .val (.int (0 : Int32)), .val (.int (2 : Int32))] [(.int (1 : Int32)), (.ref a2), (.long (3 : Int64)), (.long (own_m3 ra rb rc)), (.long h1)])) rfl rfl (hb hby d4_40) _ ?_
      show Steps p.tables e below (T22.setTop (mkF m 41 #[.val (.ref a1), .val (.long (own_m3 ra rb rc)), .second, .val (.long h1), .second, .val (.long (0 : Int64)), .second, .val (.int (0 : Int32)), .val (.int (2 : Int32))] [(.long rb), (.long (3 : Int64)), (.long (own_m3 ra rb rc)), (.long h1)])) _
      refine XS.aloadN X22.here hx rfl (hb hby d4_41) rfl (rfl) ?_
      show Steps p.tables e below (T22.setTop (mkF m 42 #[.val (.ref a1), .val (.long (own_m3 ra rb rc)), .second, .val (.long h1), .second, .val (.long (0 : Int64)), .second, .val (.int (0 : Int32)), .val (.int (2 : Int32))] [(.ref a1), (.long rb), (.long (3 : Int64)), (.long (own_m3 ra rb rc)), (.long h1)])) _
      refine st23 _ ?_
      show Steps p.tables e below (T23.setTop (mkF m 45 #[.val (.ref a1), .val (.long (own_m3 ra rb rc)), .second, .val (.long h1), .second, .val (.long (0 : Int64)), .second, .val (.int (0 : Int32)), .val (.int (2 : Int32))] [(.ref a2), (.long rb), (.long (3 : Int64)), (.long (own_m3 ra rb rc)), (.long h1)])) _
      refine XS.iload X23.here hx rfl (hb hby d4_45) rfl ?_
      show Steps p.tables e below (T23.setTop (mkF m 47 #[.val (.ref a1), .val (.long (own_m3 ra rb rc)), .second, .val (.long h1), .second, .val (.long (0 : Int64)), .second, .val (.int (0 : Int32)), .val (.int (2 : Int32))] [(.int (2 : Int32)), (.ref a2), (.long rb), (.long (3 : Int64)), (.long (own_m3 ra rb rc)), (.long h1)])) _
      refine X23.laload hx (j := (2 : Int32)) (v := (.long rc)) (by rw [e23]; exact Ar.1) (State.isArrayOf_alike hZ.alike Ar.2.1) Ar.2.2 (inb_of Sz ⟨by decide, by decide⟩) t2 (g := (mkF m 47 #[.val (.ref a1), .val (.long (own_m3 ra rb rc)), .second, .val (.long h1), .second, .val (.long (0 : Int64)), .second, .val (.int (0 : Int32)), .val (.int (2 : Int32))] [(.int (2 : Int32)), (.ref a2), (.long rb), (.long (3 : Int64)), (.long (own_m3 ra rb rc)), (.long h1)])) rfl rfl (hb hby d4_47) _ ?_
      show Steps p.tables e below (T23.setTop (mkF m 48 #[.val (.ref a1), .val (.long (own_m3 ra rb rc)), .second, .val (.long h1), .second, .val (.long (0 : Int64)), .second, .val (.int (0 : Int32)), .val (.int (2 : Int32))] [(.long rc), (.long rb), (.long (3 : Int64)), (.long (own_m3 ra rb rc)), (.long h1)])) _
      refine XS.ladd X23.here hx rfl (hb hby d4_48) rfl ?_
      show Steps p.tables e below (T23.setTop (mkF m 49 #[.val (.ref a1), .val (.long (own_m3 ra rb rc)), .second, .val (.long h1), .second, .val (.long (0 : Int64)), .second, .val (.int (0 : Int32)), .val (.int (2 : Int32))] [(.long (rb + rc)), (.long (3 : Int64)), (.long (own_m3 ra rb rc)), (.long h1)])) _
      refine XS.lmul X23.here hx rfl (hb hby d4_49) rfl ?_
      show Steps p.tables e below (T23.setTop (mkF m 50 #[.val (.ref a1), .val (.long (own_m3 ra rb rc)), .second, .val (.long h1), .second, .val (.long (0 : Int64)), .second, .val (.int (0 : Int32)), .val (.int (2 : Int32))] [(.long ((3 : Int64) * (rb + rc))), (.long (own_m3 ra rb rc)), (.long h1)])) _
      refine XS.lsub X23.here hx rfl (hb hby d4_50) rfl ?_
      show Steps p.tables e below (T23.setTop (mkF m 51 #[.val (.ref a1), .val (.long (own_m3 ra rb rc)), .second, .val (.long h1), .second, .val (.long (0 : Int64)), .second, .val (.int (0 : Int32)), .val (.int (2 : Int32))] [(.long ((own_m3 ra rb rc) - ((3 : Int64) * (rb + rc)))), (.long h1)])) _
      refine XS.ladd X23.here hx rfl (hb hby d4_51) rfl ?_
      show Steps p.tables e below (T23.setTop (mkF m 52 #[.val (.ref a1), .val (.long (own_m3 ra rb rc)), .second, .val (.long h1), .second, .val (.long (0 : Int64)), .second, .val (.int (0 : Int32)), .val (.int (2 : Int32))] [(.long (h1 + ((own_m3 ra rb rc) - ((3 : Int64) * (rb + rc)))))])) _
      refine XS.lstoreN X23.here hx rfl (hb hby d4_52) rfl (l' := #[.val (.ref a1), .val (.long (own_m3 ra rb rc)), .second, .val (.long (h1 + ((own_m3 ra rb rc) - ((3 : Int64) * (rb + rc))))), .second, .val (.long (0 : Int64)), .second, .val (.int (0 : Int32)), .val (.int (2 : Int32))]) rfl ?_
      show Steps p.tables e below (T23.setTop (mkF m 53 #[.val (.ref a1), .val (.long (own_m3 ra rb rc)), .second, .val (.long (h1 + ((own_m3 ra rb rc) - ((3 : Int64) * (rb + rc))))), .second, .val (.long (0 : Int64)), .second, .val (.int (0 : Int32)), .val (.int (2 : Int32))] [])) _
      exact k
    obtain ⟨h2, hh2⟩ : ∃ z : Int64, z = (own_h3 (own_m3 ra rb rc) h1 rb rc) := ⟨_, rfl⟩
    have pre25 : ∀ t, Steps p.tables e below (T23.setTop (mkF m 53 #[.val (.ref a1), .val (.long (own_m3 ra rb rc)), .second, .val (.long h2), .second, .val (.long (0 : Int64)), .second, .val (.int (0 : Int32)), .val (.int (2 : Int32))] [])) t → Steps p.tables e below (s₁.setTop (entryFrame m #[(.ref a1)] 9)) t := by rw [hh2]; exact pre24
    have pre26 : ∀ t, Steps p.tables e below (T23.setTop (mkF m 57 #[.val (.ref a1), .val (.long (own_m3 ra rb rc)), .second, .val (.long h2), .second, .val (.long (0 : Int64)), .second, .val (.int (0 : Int32)), .val (.int (2 : Int32))] [(.int (lcmpW h2 (0 : Int64)))])) t → Steps p.tables e below (s₁.setTop (entryFrame m #[(.ref a1)] 9)) t := by
      intro t k
      refine pre25 t ?_
      show Steps p.tables e below (T23.setTop (mkF m 53 #[.val (.ref a1), .val (.long (own_m3 ra rb rc)), .second, .val (.long h2), .second, .val (.long (0 : Int64)), .second, .val (.int (0 : Int32)), .val (.int (2 : Int32))] [])) _
      refine XS.lloadN X23.here hx rfl (hb hby d4_53) rfl ?_
      show Steps p.tables e below (T23.setTop (mkF m 54 #[.val (.ref a1), .val (.long (own_m3 ra rb rc)), .second, .val (.long h2), .second, .val (.long (0 : Int64)), .second, .val (.int (0 : Int32)), .val (.int (2 : Int32))] [(.long h2)])) _
      refine XS.lload X23.here hx rfl (hb hby d4_54) rfl ?_
      show Steps p.tables e below (T23.setTop (mkF m 56 #[.val (.ref a1), .val (.long (own_m3 ra rb rc)), .second, .val (.long h2), .second, .val (.long (0 : Int64)), .second, .val (.int (0 : Int32)), .val (.int (2 : Int32))] [(.long (0 : Int64)), (.long h2)])) _
      refine XS.lcmp X23.here hx rfl (hb hby d4_56) rfl ?_
      show Steps p.tables e below (T23.setTop (mkF m 57 #[.val (.ref a1), .val (.long (own_m3 ra rb rc)), .second, .val (.long h2), .second, .val (.long (0 : Int64)), .second, .val (.int (0 : Int32)), .val (.int (2 : Int32))] [(.int (lcmpW h2 (0 : Int64)))])) _
      exact k
    by_cases d1_1 : h2 < (0 : Int64)
    · skip
      obtain ⟨T27, X27, e27, st27⟩ := getF X23 hx hZ hown (host := "") (Or.inl (hw _ (List.mem_of_getElem? (i := 15) rfl))) Via.refl e23 F1 (g := (mkF m 19 #[.val (.ref a1), .val (.long (own_m3 ra rb rc)), .second, .val (.long h2), .second, .val (.long h2), .second, .val (.int (2 : Int32)), .val (.int (3 : Int32))] [(.ref a1), (.int (3 : Int32))])) rfl rfl (hb hby d4_19)
      have pre28 : ∀ t, Steps p.tables e below (T27.setTop (mkF m 75 #[.val (.ref a1), .val (.long (own_m3 ra rb rc)), .second, .val (.long h2), .second, .val (.long h2), .second, .val (.int (2 : Int32)), .val (.int (3 : Int32))] [(.int (2 : Int32))])) t → Steps p.tables e below (s₁.setTop (entryFrame m #[(.ref a1)] 9)) t := by
        intro t k
        refine pre26 t ?_
        refine XS.ifNo X23.here hx rfl (hb hby d4_57) rfl ((if0 _ _).trans (tlt ((lw_lt h2 (0 : Int64)).mpr d1_1)).2.1) ?_
        show Steps p.tables e below (T23.setTop (mkF m 60 #[.val (.ref a1), .val (.long (own_m3 ra rb rc)), .second, .val (.long h2), .second, .val (.long (0 : Int64)), .second, .val (.int (0 : Int32)), .val (.int (2 : Int32))] [])) _
        refine XS.lloadN X23.here hx rfl (hb hby d4_60) rfl ?_
        show Steps p.tables e below (T23.setTop (mkF m 61 #[.val (.ref a1), .val (.long (own_m3 ra rb rc)), .second, .val (.long h2), .second, .val (.long (0 : Int64)), .second, .val (.int (0 : Int32)), .val (.int (2 : Int32))] [(.long h2)])) _
        refine XS.lstore X23.here hx rfl (hb hby d4_61) rfl (l' := #[.val (.ref a1), .val (.long (own_m3 ra rb rc)), .second, .val (.long h2), .second, .val (.long h2), .second, .val (.int (0 : Int32)), .val (.int (2 : Int32))]) rfl ?_
        show Steps p.tables e below (T23.setTop (mkF m 63 #[.val (.ref a1), .val (.long (own_m3 ra rb rc)), .second, .val (.long h2), .second, .val (.long h2), .second, .val (.int (0 : Int32)), .val (.int (2 : Int32))] [])) _
        refine XS.iload X23.here hx rfl (hb hby d4_63) rfl ?_
        show Steps p.tables e below (T23.setTop (mkF m 65 #[.val (.ref a1), .val (.long (own_m3 ra rb rc)), .second, .val (.long h2), .second, .val (.long h2), .second, .val (.int (0 : Int32)), .val (.int (2 : Int32))] [(.int (2 : Int32))])) _
        refine XS.istore X23.here hx rfl (hb hby d4_65) rfl (l' := #[.val (.ref a1), .val (.long (own_m3 ra rb rc)), .second, .val (.long h2), .second, .val (.long h2), .second, .val (.int (2 : Int32)), .val (.int (2 : Int32))]) rfl ?_
        show Steps p.tables e below (T23.setTop (mkF m 67 #[.val (.ref a1), .val (.long (own_m3 ra rb rc)), .second, .val (.long h2), .second, .val (.long h2), .second, .val (.int (2 : Int32)), .val (.int (2 : Int32))] [])) _
        refine XS.iinc X23.here hx rfl (hb hby d4_67) rfl (l' := #[.val (.ref a1), .val (.long (own_m3 ra rb rc)), .second, .val (.long h2), .second, .val (.long h2), .second, .val (.int (2 : Int32)), .val (.int (3 : Int32))]) rfl ?_
        show Steps p.tables e below (T23.setTop (mkF m 70 #[.val (.ref a1), .val (.long (own_m3 ra rb rc)), .second, .val (.long h2), .second, .val (.long h2), .second, .val (.int (2 : Int32)), .val (.int (3 : Int32))] [])) _
        refine XS.goto X23.here hx rfl (pc0 := 70) (pc' := 16) rfl (hb hby d4_70) (by decide) (by decide) ?_
        show Steps p.tables e below (T23.setTop (mkF m 16 #[.val (.ref a1), .val (.long (own_m3 ra rb rc)), .second, .val (.long h2), .second, .val (.long h2), .second, .val (.int (2 : Int32)), .val (.int (3 : Int32))] [])) _
        refine XS.iload X23.here hx rfl (hb hby d4_16) rfl ?_
        show Steps p.tables e below (T23.setTop (mkF m 18 #[.val (.ref a1), .val (.long (own_m3 ra rb rc)), .second, .val (.long h2), .second, .val (.long h2), .second, .val (.int (2 : Int32)), .val (.int (3 : Int32))] [(.int (3 : Int32))])) _
        refine XS.aloadN X23.here hx rfl (hb hby d4_18) rfl (rfl) ?_
        show Steps p.tables e below (T23.setTop (mkF m 19 #[.val (.ref a1), .val (.long (own_m3 ra rb rc)), .second, .val (.long h2), .second, .val (.long h2), .second, .val (.int (2 : Int32)), .val (.int (3 : Int32))] [(.ref a1), (.int (3 : Int32))])) _
        refine st27 _ ?_
        show Steps p.tables e below (T27.setTop (mkF m 22 #[.val (.ref a1), .val (.long (own_m3 ra rb rc)), .second, .val (.long h2), .second, .val (.long h2), .second, .val (.int (2 : Int32)), .val (.int (3 : Int32))] [(.int (3 : Int32)), (.int (3 : Int32))])) _
        refine XS.icmpYes X27.here hx rfl (pc0 := 22) (pc' := 73) rfl (hb hby d4_22) rfl (flt (by decide : ¬ ((3 : Int32) < (3 : Int32)))).2.1 (by decide) (by decide) ?_
        show Steps p.tables e below (T27.setTop (mkF m 73 #[.val (.ref a1), .val (.long (own_m3 ra rb rc)), .second, .val (.long h2), .second, .val (.long h2), .second, .val (.int (2 : Int32)), .val (.int (3 : Int32))] [])) _
        refine XS.iload X27.here hx rfl (hb hby d4_73) rfl ?_
        show Steps p.tables e below (T27.setTop (mkF m 75 #[.val (.ref a1), .val (.long (own_m3 ra rb rc)), .second, .val (.long h2), .second, .val (.long h2), .second, .val (.int (2 : Int32)), .val (.int (3 : Int32))] [(.int (2 : Int32))])) _
        exact k
      obtain ⟨fs, hr, hrun, hended, hW, hsame⟩ := X27.leave (v := some (.int (2 : Int32))) (fun h => by rw [Bd.returns] at h; cases h)
      refine ⟨_, _, pre28 _ ?_, hrun, hended, _, _, rfl, ?_, ⟨_, rfl⟩, hW, hsame.mono (by decide) (by decide)⟩
      · exact retOut X27 hx Bd.returns rfl (Or.inl ⟨rfl, Or.inl rfl, _, rfl⟩) (hb hby d4_75) hr
      · show Q_rmL3 Z a1 a2 cl ra rb rc h0 n0 _ T27.heap _
        rw [e27]
        exact ⟨by simp [own_l3, ← hh1, ← hh2, d0_0, d1_1], N1, rfl⟩
    · skip
      obtain ⟨T29, X29, e29, st29⟩ := getF X23 hx hZ hown (host := "") (Or.inl (hw _ (List.mem_of_getElem? (i := 15) rfl))) Via.refl e23 F1 (g := (mkF m 19 #[.val (.ref a1), .val (.long (own_m3 ra rb rc)), .second, .val (.long h2), .second, .val (.long (0 : Int64)), .second, .val (.int (0 : Int32)), .val (.int (3 : Int32))] [(.ref a1), (.int (3 : Int32))])) rfl rfl (hb hby d4_19)
      have pre30 : ∀ t, Steps p.tables e below (T29.setTop (mkF m 75 #[.val (.ref a1), .val (.long (own_m3 ra rb rc)), .second, .val (.long h2), .second, .val (.long (0 : Int64)), .second, .val (.int (0 : Int32)), .val (.int (3 : Int32))] [(.int (0 : Int32))])) t → Steps p.tables e below (s₁.setTop (entryFrame m #[(.ref a1)] 9)) t := by
        intro t k
        refine pre26 t ?_
        refine XS.ifYes X23.here hx rfl (pc0 := 57) (pc' := 67) rfl (hb hby d4_57) rfl ((if0 _ _).trans (flt (mt (lw_lt h2 (0 : Int64)).mp d1_1)).2.1) (by decide) (by decide) ?_
        show Steps p.tables e below (T23.setTop (mkF m 67 #[.val (.ref a1), .val (.long (own_m3 ra rb rc)), .second, .val (.long h2), .second, .val (.long (0 : Int64)), .second, .val (.int (0 : Int32)), .val (.int (2 : Int32))] [])) _
        refine XS.iinc X23.here hx rfl (hb hby d4_67) rfl (l' := #[.val (.ref a1), .val (.long (own_m3 ra rb rc)), .second, .val (.long h2), .second, .val (.long (0 : Int64)), .second, .val (.int (0 : Int32)), .val (.int (3 : Int32))]) rfl ?_
        show Steps p.tables e below (T23.setTop (mkF m 70 #[.val (.ref a1), .val (.long (own_m3 ra rb rc)), .second, .val (.long h2), .second, .val (.long (0 : Int64)), .second, .val (.int (0 : Int32)), .val (.int (3 : Int32))] [])) _
        refine XS.goto X23.here hx rfl (pc0 := 70) (pc' := 16) rfl (hb hby d4_70) (by decide) (by decide) ?_
        show Steps p.tables e below (T23.setTop (mkF m 16 #[.val (.ref a1), .val (.long (own_m3 ra rb rc)), .second, .val (.long h2), .second, .val (.long (0 : Int64)), .second, .val (.int (0 : Int32)), .val (.int (3 : Int32))] [])) _
        refine XS.iload X23.here hx rfl (hb hby d4_16) rfl ?_
        show Steps p.tables e below (T23.setTop (mkF m 18 #[.val (.ref a1), .val (.long (own_m3 ra rb rc)), .second, .val (.long h2), .second, .val (.long (0 : Int64)), .second, .val (.int (0 : Int32)), .val (.int (3 : Int32))] [(.int (3 : Int32))])) _
        refine XS.aloadN X23.here hx rfl (hb hby d4_18) rfl (rfl) ?_
        show Steps p.tables e below (T23.setTop (mkF m 19 #[.val (.ref a1), .val (.long (own_m3 ra rb rc)), .second, .val (.long h2), .second, .val (.long (0 : Int64)), .second, .val (.int (0 : Int32)), .val (.int (3 : Int32))] [(.ref a1), (.int (3 : Int32))])) _
        refine st29 _ ?_
        show Steps p.tables e below (T29.setTop (mkF m 22 #[.val (.ref a1), .val (.long (own_m3 ra rb rc)), .second, .val (.long h2), .second, .val (.long (0 : Int64)), .second, .val (.int (0 : Int32)), .val (.int (3 : Int32))] [(.int (3 : Int32)), (.int (3 : Int32))])) _
        refine XS.icmpYes X29.here hx rfl (pc0 := 22) (pc' := 73) rfl (hb hby d4_22) rfl (flt (by decide : ¬ ((3 : Int32) < (3 : Int32)))).2.1 (by decide) (by decide) ?_
        show Steps p.tables e below (T29.setTop (mkF m 73 #[.val (.ref a1), .val (.long (own_m3 ra rb rc)), .second, .val (.long h2), .second, .val (.long (0 : Int64)), .second, .val (.int (0 : Int32)), .val (.int (3 : Int32))] [])) _
        refine XS.iload X29.here hx rfl (hb hby d4_73) rfl ?_
        show Steps p.tables e below (T29.setTop (mkF m 75 #[.val (.ref a1), .val (.long (own_m3 ra rb rc)), .second, .val (.long h2), .second, .val (.long (0 : Int64)), .second, .val (.int (0 : Int32)), .val (.int (3 : Int32))] [(.int (0 : Int32))])) _
        exact k
      obtain ⟨fs, hr, hrun, hended, hW, hsame⟩ := X29.leave (v := some (.int (0 : Int32))) (fun h => by rw [Bd.returns] at h; cases h)
      refine ⟨_, _, pre30 _ ?_, hrun, hended, _, _, rfl, ?_, ⟨_, rfl⟩, hW, hsame.mono (by decide) (by decide)⟩
      · exact retOut X29 hx Bd.returns rfl (Or.inl ⟨rfl, Or.inl rfl, _, rfl⟩) (hb hby d4_75) hr
      · show Q_rmL3 Z a1 a2 cl ra rb rc h0 n0 _ T29.heap _
        rw [e29]
        exact ⟨by simp [own_l3, ← hh1, ← hh2, d0_0, d1_1], N1, rfl⟩
theorem ef_rmD4 (m : MethodId) (x0 : Addr) : entryFrame m #[(.ref x0)] 8 = mkF m 0 #[.val (.ref x0), .unset, .unset, .unset, .unset, .unset, .unset, .unset] [] := by first | (simp [entryFrame, mkF, argsToLocals, Value.category]; done) | rfl
def Q_rmD4 (Z : State) (a1 : Addr) (a2 : Addr) (cl : Cell) (ra : Int64) (rb : Int64) (rc : Int64) (rd : Int64) (h0 : Heap) (n0 : Nat) (v : Option Value) (h : Heap) (L : List Loc) : Prop := v = some (.long (((((0 : Int64) + ((2 : Int64) * ra)) + ((2 : Int64) * rb)) + ((2 : Int64) * rc)) + ((2 : Int64) * rd))) ∧ Fr n0 L ∧ h = h0
set_option maxRecDepth 65536 in
set_option maxHeartbeats 40000000 in
theorem rmD4 (l : Launch) (Z : State) (a0 : Array Value) (hw : ∀ d ∈ tables_1, d.before a0 Z = true) (ws : List Jvm.Cond) (a1 : Addr) (a2 : Addr) (cl : Cell) (ra : Int64) (rb : Int64) (rc : Int64) (rd : Int64) (h0 : Heap) (n0 : Nat) (Z0 : n0 ≤ h0.size) (F2 : Fld Z h0 a1 "com/example/hummingbird/hummingbird/engine/Rhythm" "rates" "[J" (.ref a2)) (Ar : Arr Z h0 a2 cl .long) (Sz : cl.slots.size = (4 : Int32).toNatClampNeg) (t0 : cl.slots[0]? = some (.long ra)) (t1 : cl.slots[1]? = some (.long rb)) (t2 : cl.slots[2]? = some (.long rc)) (t3 : cl.slots[3]? = some (.long rd)) :
    MetFree l (⟨"com/example/hummingbird/hummingbird/engine/Rhythm", "dayMass", "()J"⟩ : MethodName) (head1 (Jvm.Cond.code (⟨"com/example/hummingbird/hummingbird/engine/Rhythm", "dayMass", "()J"⟩ : MethodName) prog_9_method_10_code 8 (some .long) :: ws) ({ frames := 0, cells := 0, slots := 0, locals := 0 } : Room)) (fun a U => a = #[(.ref a1)] ∧ Z.Warmed39 U.vm ∧ U.heap = h0) (fun _ _ _ _ _ => True) (fun _ U o U' => ∃ v L, o = .returned v ∧ Q_rmD4 Z a1 a2 cl ra rb rc rd h0 n0 v U'.heap L ∧ FrameEnd U o U' L ({ frames := 0, cells := 0, slots := 0, locals := 0 } : Room).cells ({ frames := 0, cells := 0, slots := 0, locals := 0 } : Room).slots) := by
  refine MetFree.of_bodySF (plainFor_of_name pn_0) hisR ?_
  intro p e s m args below meth c s₁ Bd hml0 hP hK
  obtain ⟨rfl, hZ, hh⟩ := hP
  have hx := Bd.exec
  have hby := Bd.bytes
  have hml : c.maxLocals = 8 := hml0
  have hown : s.vm.findClass "com/example/hummingbird/hummingbird/engine/Rhythm" = some m.cls := findClass_of_methodNamed Bd.named
  have hnm := (name_of_methodNamed Bd.named Bd.method).1
  have X0 : Stand p l e ({ frames := 0, cells := 0, slots := 0, locals := 0 } : Room) s m #[(.ref a1)] below meth c s₁ [] 0 0 := Stand.of_body Bd
  have e0 : s₁.heap = h0 := by rw [← hh, Bd.state]; rfl
  have N0 := Fr.nil n0
  have pre0 : ∀ t, Steps p.tables e below (s₁.setTop (mkF m 0 #[.val (.ref a1), .unset, .unset, .unset, .unset, .unset, .unset, .unset] [])) t → Steps p.tables e below (s₁.setTop (entryFrame m #[(.ref a1)] 8)) t := fun t k => castTop (ef_rmD4 m a1) k
  obtain ⟨T1, X1, e1, st1⟩ := getF X0 hx hZ hown (host := "") (Or.inl (hw _ (List.mem_of_getElem? (i := 17) rfl))) Via.refl e0 F2 (g := (mkF m 3 #[.val (.ref a1), .val (.long (0 : Int64)), .second, .unset, .unset, .unset, .unset, .unset] [(.ref a1)])) rfl rfl (hb hby d5_3)
  have pre2 : ∀ t, Steps p.tables e below (T1.setTop (mkF m 43 #[.val (.ref a1), .val (.long (((((0 : Int64) + ((2 : Int64) * ra)) + ((2 : Int64) * rb)) + ((2 : Int64) * rc)) + ((2 : Int64) * rd))), .second, .val (.ref a2), .val (.int (4 : Int32)), .val (.int (4 : Int32)), .val (.long rd), .second] [(.long (((((0 : Int64) + ((2 : Int64) * ra)) + ((2 : Int64) * rb)) + ((2 : Int64) * rc)) + ((2 : Int64) * rd)))])) t → Steps p.tables e below (s₁.setTop (entryFrame m #[(.ref a1)] 8)) t := by
    intro t k
    refine pre0 t ?_
    show Steps p.tables e below (s₁.setTop (mkF m 0 #[.val (.ref a1), .unset, .unset, .unset, .unset, .unset, .unset, .unset] [])) _
    refine XS.lconst X0.here hx rfl (hb hby d5_0) ?_
    show Steps p.tables e below (s₁.setTop (mkF m 1 #[.val (.ref a1), .unset, .unset, .unset, .unset, .unset, .unset, .unset] [(.long (0 : Int64))])) _
    refine XS.lstoreN X0.here hx rfl (hb hby d5_1) rfl (l' := #[.val (.ref a1), .val (.long (0 : Int64)), .second, .unset, .unset, .unset, .unset, .unset]) rfl ?_
    show Steps p.tables e below (s₁.setTop (mkF m 2 #[.val (.ref a1), .val (.long (0 : Int64)), .second, .unset, .unset, .unset, .unset, .unset] [])) _
    refine XS.aloadN X0.here hx rfl (hb hby d5_2) rfl (rfl) ?_
    show Steps p.tables e below (s₁.setTop (mkF m 3 #[.val (.ref a1), .val (.long (0 : Int64)), .second, .unset, .unset, .unset, .unset, .unset] [(.ref a1)])) _
    refine st1 _ ?_
    show Steps p.tables e below (T1.setTop (mkF m 6 #[.val (.ref a1), .val (.long (0 : Int64)), .second, .unset, .unset, .unset, .unset, .unset] [(.ref a2)])) _
    refine XS.astoreN X1.here hx rfl (hb hby d5_6) rfl (rfl) (l' := #[.val (.ref a1), .val (.long (0 : Int64)), .second, .val (.ref a2), .unset, .unset, .unset, .unset]) rfl ?_
    show Steps p.tables e below (T1.setTop (mkF m 7 #[.val (.ref a1), .val (.long (0 : Int64)), .second, .val (.ref a2), .unset, .unset, .unset, .unset] [])) _
    refine XS.aloadN X1.here hx rfl (hb hby d5_7) rfl (rfl) ?_
    show Steps p.tables e below (T1.setTop (mkF m 8 #[.val (.ref a1), .val (.long (0 : Int64)), .second, .val (.ref a2), .unset, .unset, .unset, .unset] [(.ref a2)])) _
    refine X1.arraylength hx (by rw [e1]; exact Ar.1) (State.isArrayOf_alike hZ.alike Ar.2.1) (g := (mkF m 8 #[.val (.ref a1), .val (.long (0 : Int64)), .second, .val (.ref a2), .unset, .unset, .unset, .unset] [(.ref a2)])) rfl rfl (hb hby d5_8) _ ?_
    rw [len_of Sz (by decide)]
    show Steps p.tables e below (T1.setTop (mkF m 9 #[.val (.ref a1), .val (.long (0 : Int64)), .second, .val (.ref a2), .unset, .unset, .unset, .unset] [(.int (4 : Int32))])) _
    refine XS.istore X1.here hx rfl (hb hby d5_9) rfl (l' := #[.val (.ref a1), .val (.long (0 : Int64)), .second, .val (.ref a2), .val (.int (4 : Int32)), .unset, .unset, .unset]) rfl ?_
    show Steps p.tables e below (T1.setTop (mkF m 11 #[.val (.ref a1), .val (.long (0 : Int64)), .second, .val (.ref a2), .val (.int (4 : Int32)), .unset, .unset, .unset] [])) _
    refine XS.iconst X1.here hx rfl (hb hby d5_11) ?_
    show Steps p.tables e below (T1.setTop (mkF m 12 #[.val (.ref a1), .val (.long (0 : Int64)), .second, .val (.ref a2), .val (.int (4 : Int32)), .unset, .unset, .unset] [(.int (0 : Int32))])) _
    refine XS.istore X1.here hx rfl (hb hby d5_12) rfl (l' := #[.val (.ref a1), .val (.long (0 : Int64)), .second, .val (.ref a2), .val (.int (4 : Int32)), .val (.int (0 : Int32)), .unset, .unset]) rfl ?_
    show Steps p.tables e below (T1.setTop (mkF m 14 #[.val (.ref a1), .val (.long (0 : Int64)), .second, .val (.ref a2), .val (.int (4 : Int32)), .val (.int (0 : Int32)), .unset, .unset] [])) _
    refine XS.iload X1.here hx rfl (hb hby d5_14) rfl ?_
    show Steps p.tables e below (T1.setTop (mkF m 16 #[.val (.ref a1), .val (.long (0 : Int64)), .second, .val (.ref a2), .val (.int (4 : Int32)), .val (.int (0 : Int32)), .unset, .unset] [(.int (0 : Int32))])) _
    refine XS.iload X1.here hx rfl (hb hby d5_16) rfl ?_
    show Steps p.tables e below (T1.setTop (mkF m 18 #[.val (.ref a1), .val (.long (0 : Int64)), .second, .val (.ref a2), .val (.int (4 : Int32)), .val (.int (0 : Int32)), .unset, .unset] [(.int (4 : Int32)), (.int (0 : Int32))])) _
    refine XS.icmpNo X1.here hx rfl (hb hby d5_18) rfl (tlt (by decide : (0 : Int32) < (4 : Int32))).2.1 ?_
    show Steps p.tables e below (T1.setTop (mkF m 21 #[.val (.ref a1), .val (.long (0 : Int64)), .second, .val (.ref a2), .val (.int (4 : Int32)), .val (.int (0 : Int32)), .unset, .unset] [])) _
    refine XS.aloadN X1.here hx rfl (hb hby d5_21) rfl (rfl) ?_
    show Steps p.tables e below (T1.setTop (mkF m 22 #[.val (.ref a1), .val (.long (0 : Int64)), .second, .val (.ref a2), .val (.int (4 : Int32)), .val (.int (0 : Int32)), .unset, .unset] [(.ref a2)])) _
    refine XS.iload X1.here hx rfl (hb hby d5_22) rfl ?_
    show Steps p.tables e below (T1.setTop (mkF m 24 #[.val (.ref a1), .val (.long (0 : Int64)), .second, .val (.ref a2), .val (.int (4 : Int32)), .val (.int (0 : Int32)), .unset, .unset] [(.int (0 : Int32)), (.ref a2)])) _
    refine X1.laload hx (j := (0 : Int32)) (v := (.long ra)) (by rw [e1]; exact Ar.1) (State.isArrayOf_alike hZ.alike Ar.2.1) Ar.2.2 (inb_of Sz ⟨by decide, by decide⟩) t0 (g := (mkF m 24 #[.val (.ref a1), .val (.long (0 : Int64)), .second, .val (.ref a2), .val (.int (4 : Int32)), .val (.int (0 : Int32)), .unset, .unset] [(.int (0 : Int32)), (.ref a2)])) rfl rfl (hb hby d5_24) _ ?_
    show Steps p.tables e below (T1.setTop (mkF m 25 #[.val (.ref a1), .val (.long (0 : Int64)), .second, .val (.ref a2), .val (.int (4 : Int32)), .val (.int (0 : Int32)), .unset, .unset] [(.long ra)])) _
    refine XS.lstore X1.here hx rfl (hb hby d5_25) rfl (l' := #[.val (.ref a1), .val (.long (0 : Int64)), .second, .val (.ref a2), .val (.int (4 : Int32)), .val (.int (0 : Int32)), .val (.long ra), .second]) rfl ?_
    show Steps p.tables e below (T1.setTop (mkF m 27 #[.val (.ref a1), .val (.long (0 : Int64)), .second, .val (.ref a2), .val (.int (4 : Int32)), .val (.int (0 : Int32)), .val (.long ra), .second] [])) _
    refine XS.lloadN X1.here hx rfl (hb hby d5_27) rfl ?_
    show Steps p.tables e below (T1.setTop (mkF m 28 #[.val (.ref a1), .val (.long (0 : Int64)), .second, .val (.ref a2), .val (.int (4 : Int32)), .val (.int (0 : Int32)), .val (.long ra), .second] [(.long (0 : Int64))])) _
    refine X1.ldc2Long hx hown (mvT hZ (hw _ (List.mem_of_getElem? (i := 28) rfl))) (g := (mkF m 28 #[.val (.ref a1), .val (.long (0 : Int64)), .second, .val (.ref a2), .val (.int (4 : Int32)), .val (.int (0 : Int32)), .val (.long ra), .second] [(.long (0 : Int64))])) rfl (hb hby d5_28) _ ?_
    show Steps p.tables e below (T1.setTop (mkF m 31 #[.val (.ref a1), .val (.long (0 : Int64)), .second, .val (.ref a2), .val (.int (4 : Int32)), .val (.int (0 : Int32)), .val (.long ra), .second] [(.long (2 : Int64)), (.long (0 : Int64))])) _
    refine XS.lload X1.here hx rfl (hb hby d5_31) rfl ?_
    show Steps p.tables e below (T1.setTop (mkF m 33 #[.val (.ref a1), .val (.long (0 : Int64)), .second, .val (.ref a2), .val (.int (4 : Int32)), .val (.int (0 : Int32)), .val (.long ra), .second] [(.long ra), (.long (2 : Int64)), (.long (0 : Int64))])) _
    refine XS.lmul X1.here hx rfl (hb hby d5_33) rfl ?_
    show Steps p.tables e below (T1.setTop (mkF m 34 #[.val (.ref a1), .val (.long (0 : Int64)), .second, .val (.ref a2), .val (.int (4 : Int32)), .val (.int (0 : Int32)), .val (.long ra), .second] [(.long ((2 : Int64) * ra)), (.long (0 : Int64))])) _
    refine XS.ladd X1.here hx rfl (hb hby d5_34) rfl ?_
    show Steps p.tables e below (T1.setTop (mkF m 35 #[.val (.ref a1), .val (.long (0 : Int64)), .second, .val (.ref a2), .val (.int (4 : Int32)), .val (.int (0 : Int32)), .val (.long ra), .second] [(.long ((0 : Int64) + ((2 : Int64) * ra)))])) _
    refine XS.lstoreN X1.here hx rfl (hb hby d5_35) rfl (l' := #[.val (.ref a1), .val (.long ((0 : Int64) + ((2 : Int64) * ra))), .second, .val (.ref a2), .val (.int (4 : Int32)), .val (.int (0 : Int32)), .val (.long ra), .second]) rfl ?_
    show Steps p.tables e below (T1.setTop (mkF m 36 #[.val (.ref a1), .val (.long ((0 : Int64) + ((2 : Int64) * ra))), .second, .val (.ref a2), .val (.int (4 : Int32)), .val (.int (0 : Int32)), .val (.long ra), .second] [])) _
    refine XS.iinc X1.here hx rfl (hb hby d5_36) rfl (l' := #[.val (.ref a1), .val (.long ((0 : Int64) + ((2 : Int64) * ra))), .second, .val (.ref a2), .val (.int (4 : Int32)), .val (.int (1 : Int32)), .val (.long ra), .second]) rfl ?_
    show Steps p.tables e below (T1.setTop (mkF m 39 #[.val (.ref a1), .val (.long ((0 : Int64) + ((2 : Int64) * ra))), .second, .val (.ref a2), .val (.int (4 : Int32)), .val (.int (1 : Int32)), .val (.long ra), .second] [])) _
    refine XS.goto X1.here hx rfl (pc0 := 39) (pc' := 14) rfl (hb hby d5_39) (by decide) (by decide) ?_
    show Steps p.tables e below (T1.setTop (mkF m 14 #[.val (.ref a1), .val (.long ((0 : Int64) + ((2 : Int64) * ra))), .second, .val (.ref a2), .val (.int (4 : Int32)), .val (.int (1 : Int32)), .val (.long ra), .second] [])) _
    refine XS.iload X1.here hx rfl (hb hby d5_14) rfl ?_
    show Steps p.tables e below (T1.setTop (mkF m 16 #[.val (.ref a1), .val (.long ((0 : Int64) + ((2 : Int64) * ra))), .second, .val (.ref a2), .val (.int (4 : Int32)), .val (.int (1 : Int32)), .val (.long ra), .second] [(.int (1 : Int32))])) _
    refine XS.iload X1.here hx rfl (hb hby d5_16) rfl ?_
    show Steps p.tables e below (T1.setTop (mkF m 18 #[.val (.ref a1), .val (.long ((0 : Int64) + ((2 : Int64) * ra))), .second, .val (.ref a2), .val (.int (4 : Int32)), .val (.int (1 : Int32)), .val (.long ra), .second] [(.int (4 : Int32)), (.int (1 : Int32))])) _
    refine XS.icmpNo X1.here hx rfl (hb hby d5_18) rfl (tlt (by decide : (1 : Int32) < (4 : Int32))).2.1 ?_
    show Steps p.tables e below (T1.setTop (mkF m 21 #[.val (.ref a1), .val (.long ((0 : Int64) + ((2 : Int64) * ra))), .second, .val (.ref a2), .val (.int (4 : Int32)), .val (.int (1 : Int32)), .val (.long ra), .second] [])) _
    refine XS.aloadN X1.here hx rfl (hb hby d5_21) rfl (rfl) ?_
    show Steps p.tables e below (T1.setTop (mkF m 22 #[.val (.ref a1), .val (.long ((0 : Int64) + ((2 : Int64) * ra))), .second, .val (.ref a2), .val (.int (4 : Int32)), .val (.int (1 : Int32)), .val (.long ra), .second] [(.ref a2)])) _
    refine XS.iload X1.here hx rfl (hb hby d5_22) rfl ?_
    show Steps p.tables e below (T1.setTop (mkF m 24 #[.val (.ref a1), .val (.long ((0 : Int64) + ((2 : Int64) * ra))), .second, .val (.ref a2), .val (.int (4 : Int32)), .val (.int (1 : Int32)), .val (.long ra), .second] [(.int (1 : Int32)), (.ref a2)])) _
    refine X1.laload hx (j := (1 : Int32)) (v := (.long rb)) (by rw [e1]; exact Ar.1) (State.isArrayOf_alike hZ.alike Ar.2.1) Ar.2.2 (inb_of Sz ⟨by decide, by decide⟩) t1 (g := (mkF m 24 #[.val (.ref a1), .val (.long ((0 : Int64) + ((2 : Int64) * ra))), .second, .val (.ref a2), .val (.int (4 : Int32)), .val (.int (1 : Int32)), .val (.long ra), .second] [(.int (1 : Int32)), (.ref a2)])) rfl rfl (hb hby d5_24) _ ?_
    show Steps p.tables e below (T1.setTop (mkF m 25 #[.val (.ref a1), .val (.long ((0 : Int64) + ((2 : Int64) * ra))), .second, .val (.ref a2), .val (.int (4 : Int32)), .val (.int (1 : Int32)), .val (.long ra), .second] [(.long rb)])) _
    refine XS.lstore X1.here hx rfl (hb hby d5_25) rfl (l' := #[.val (.ref a1), .val (.long ((0 : Int64) + ((2 : Int64) * ra))), .second, .val (.ref a2), .val (.int (4 : Int32)), .val (.int (1 : Int32)), .val (.long rb), .second]) rfl ?_
    show Steps p.tables e below (T1.setTop (mkF m 27 #[.val (.ref a1), .val (.long ((0 : Int64) + ((2 : Int64) * ra))), .second, .val (.ref a2), .val (.int (4 : Int32)), .val (.int (1 : Int32)), .val (.long rb), .second] [])) _
    refine XS.lloadN X1.here hx rfl (hb hby d5_27) rfl ?_
    show Steps p.tables e below (T1.setTop (mkF m 28 #[.val (.ref a1), .val (.long ((0 : Int64) + ((2 : Int64) * ra))), .second, .val (.ref a2), .val (.int (4 : Int32)), .val (.int (1 : Int32)), .val (.long rb), .second] [(.long ((0 : Int64) + ((2 : Int64) * ra)))])) _
    refine X1.ldc2Long hx hown (mvT hZ (hw _ (List.mem_of_getElem? (i := 28) rfl))) (g := (mkF m 28 #[.val (.ref a1), .val (.long ((0 : Int64) + ((2 : Int64) * ra))), .second, .val (.ref a2), .val (.int (4 : Int32)), .val (.int (1 : Int32)), .val (.long rb), .second] [(.long ((0 : Int64) + ((2 : Int64) * ra)))])) rfl (hb hby d5_28) _ ?_
    show Steps p.tables e below (T1.setTop (mkF m 31 #[.val (.ref a1), .val (.long ((0 : Int64) + ((2 : Int64) * ra))), .second, .val (.ref a2), .val (.int (4 : Int32)), .val (.int (1 : Int32)), .val (.long rb), .second] [(.long (2 : Int64)), (.long ((0 : Int64) + ((2 : Int64) * ra)))])) _
    refine XS.lload X1.here hx rfl (hb hby d5_31) rfl ?_
    show Steps p.tables e below (T1.setTop (mkF m 33 #[.val (.ref a1), .val (.long ((0 : Int64) + ((2 : Int64) * ra))), .second, .val (.ref a2), .val (.int (4 : Int32)), .val (.int (1 : Int32)), .val (.long rb), .second] [(.long rb), (.long (2 : Int64)), (.long ((0 : Int64) + ((2 : Int64) * ra)))])) _
    refine XS.lmul X1.here hx rfl (hb hby d5_33) rfl ?_
    show Steps p.tables e below (T1.setTop (mkF m 34 #[.val (.ref a1), .val (.long ((0 : Int64) + ((2 : Int64) * ra))), .second, .val (.ref a2), .val (.int (4 : Int32)), .val (.int (1 : Int32)), .val (.long rb), .second] [(.long ((2 : Int64) * rb)), (.long ((0 : Int64) + ((2 : Int64) * ra)))])) _
    refine XS.ladd X1.here hx rfl (hb hby d5_34) rfl ?_
    show Steps p.tables e below (T1.setTop (mkF m 35 #[.val (.ref a1), .val (.long ((0 : Int64) + ((2 : Int64) * ra))), .second, .val (.ref a2), .val (.int (4 : Int32)), .val (.int (1 : Int32)), .val (.long rb), .second] [(.long (((0 : Int64) + ((2 : Int64) * ra)) + ((2 : Int64) * rb)))])) _
    refine XS.lstoreN X1.here hx rfl (hb hby d5_35) rfl (l' := #[.val (.ref a1), .val (.long (((0 : Int64) + ((2 : Int64) * ra)) + ((2 : Int64) * rb))), .second, .val (.ref a2), .val (.int (4 : Int32)), .val (.int (1 : Int32)), .val (.long rb), .second]) rfl ?_
    show Steps p.tables e below (T1.setTop (mkF m 36 #[.val (.ref a1), .val (.long (((0 : Int64) + ((2 : Int64) * ra)) + ((2 : Int64) * rb))), .second, .val (.ref a2), .val (.int (4 : Int32)), .val (.int (1 : Int32)), .val (.long rb), .second] [])) _
    refine XS.iinc X1.here hx rfl (hb hby d5_36) rfl (l' := #[.val (.ref a1), .val (.long (((0 : Int64) + ((2 : Int64) * ra)) + ((2 : Int64) * rb))), .second, .val (.ref a2), .val (.int (4 : Int32)), .val (.int (2 : Int32)), .val (.long rb), .second]) rfl ?_
    show Steps p.tables e below (T1.setTop (mkF m 39 #[.val (.ref a1), .val (.long (((0 : Int64) + ((2 : Int64) * ra)) + ((2 : Int64) * rb))), .second, .val (.ref a2), .val (.int (4 : Int32)), .val (.int (2 : Int32)), .val (.long rb), .second] [])) _
    refine XS.goto X1.here hx rfl (pc0 := 39) (pc' := 14) rfl (hb hby d5_39) (by decide) (by decide) ?_
    show Steps p.tables e below (T1.setTop (mkF m 14 #[.val (.ref a1), .val (.long (((0 : Int64) + ((2 : Int64) * ra)) + ((2 : Int64) * rb))), .second, .val (.ref a2), .val (.int (4 : Int32)), .val (.int (2 : Int32)), .val (.long rb), .second] [])) _
    refine XS.iload X1.here hx rfl (hb hby d5_14) rfl ?_
    show Steps p.tables e below (T1.setTop (mkF m 16 #[.val (.ref a1), .val (.long (((0 : Int64) + ((2 : Int64) * ra)) + ((2 : Int64) * rb))), .second, .val (.ref a2), .val (.int (4 : Int32)), .val (.int (2 : Int32)), .val (.long rb), .second] [(.int (2 : Int32))])) _
    refine XS.iload X1.here hx rfl (hb hby d5_16) rfl ?_
    show Steps p.tables e below (T1.setTop (mkF m 18 #[.val (.ref a1), .val (.long (((0 : Int64) + ((2 : Int64) * ra)) + ((2 : Int64) * rb))), .second, .val (.ref a2), .val (.int (4 : Int32)), .val (.int (2 : Int32)), .val (.long rb), .second] [(.int (4 : Int32)), (.int (2 : Int32))])) _
    refine XS.icmpNo X1.here hx rfl (hb hby d5_18) rfl (tlt (by decide : (2 : Int32) < (4 : Int32))).2.1 ?_
    show Steps p.tables e below (T1.setTop (mkF m 21 #[.val (.ref a1), .val (.long (((0 : Int64) + ((2 : Int64) * ra)) + ((2 : Int64) * rb))), .second, .val (.ref a2), .val (.int (4 : Int32)), .val (.int (2 : Int32)), .val (.long rb), .second] [])) _
    refine XS.aloadN X1.here hx rfl (hb hby d5_21) rfl (rfl) ?_
    show Steps p.tables e below (T1.setTop (mkF m 22 #[.val (.ref a1), .val (.long (((0 : Int64) + ((2 : Int64) * ra)) + ((2 : Int64) * rb))), .second, .val (.ref a2), .val (.int (4 : Int32)), .val (.int (2 : Int32)), .val (.long rb), .second] [(.ref a2)])) _
    refine XS.iload X1.here hx rfl (hb hby d5_22) rfl ?_
    show Steps p.tables e below (T1.setTop (mkF m 24 #[.val (.ref a1), .val (.long (((0 : Int64) + ((2 : Int64) * ra)) + ((2 : Int64) * rb))), .second, .val (.ref a2), .val (.int (4 : Int32)), .val (.int (2 : Int32)), .val (.long rb), .second] [(.int (2 : Int32)), (.ref a2)])) _
    refine X1.laload hx (j := (2 : Int32)) (v := (.long rc)) (by rw [e1]; exact Ar.1) (State.isArrayOf_alike hZ.alike Ar.2.1) Ar.2.2 (inb_of Sz ⟨by decide, by decide⟩) t2 (g := (mkF m 24 #[.val (.ref a1), .val (.long (((0 : Int64) + ((2 : Int64) * ra)) + ((2 : Int64) * rb))), .second, .val (.ref a2), .val (.int (4 : Int32)), .val (.int (2 : Int32)), .val (.long rb), .second] [(.int (2 : Int32)), (.ref a2)])) rfl rfl (hb hby d5_24) _ ?_
    show Steps p.tables e below (T1.setTop (mkF m 25 #[.val (.ref a1), .val (.long (((0 : Int64) + ((2 : Int64) * ra)) + ((2 : Int64) * rb))), .second, .val (.ref a2), .val (.int (4 : Int32)), .val (.int (2 : Int32)), .val (.long rb), .second] [(.long rc)])) _
    refine XS.lstore X1.here hx rfl (hb hby d5_25) rfl (l' := #[.val (.ref a1), .val (.long (((0 : Int64) + ((2 : Int64) * ra)) + ((2 : Int64) * rb))), .second, .val (.ref a2), .val (.int (4 : Int32)), .val (.int (2 : Int32)), .val (.long rc), .second]) rfl ?_
    show Steps p.tables e below (T1.setTop (mkF m 27 #[.val (.ref a1), .val (.long (((0 : Int64) + ((2 : Int64) * ra)) + ((2 : Int64) * rb))), .second, .val (.ref a2), .val (.int (4 : Int32)), .val (.int (2 : Int32)), .val (.long rc), .second] [])) _
    refine XS.lloadN X1.here hx rfl (hb hby d5_27) rfl ?_
    show Steps p.tables e below (T1.setTop (mkF m 28 #[.val (.ref a1), .val (.long (((0 : Int64) + ((2 : Int64) * ra)) + ((2 : Int64) * rb))), .second, .val (.ref a2), .val (.int (4 : Int32)), .val (.int (2 : Int32)), .val (.long rc), .second] [(.long (((0 : Int64) + ((2 : Int64) * ra)) + ((2 : Int64) * rb)))])) _
    refine X1.ldc2Long hx hown (mvT hZ (hw _ (List.mem_of_getElem? (i := 28) rfl))) (g := (mkF m 28 #[.val (.ref a1), .val (.long (((0 : Int64) + ((2 : Int64) * ra)) + ((2 : Int64) * rb))), .second, .val (.ref a2), .val (.int (4 : Int32)), .val (.int (2 : Int32)), .val (.long rc), .second] [(.long (((0 : Int64) + ((2 : Int64) * ra)) + ((2 : Int64) * rb)))])) rfl (hb hby d5_28) _ ?_
    show Steps p.tables e below (T1.setTop (mkF m 31 #[.val (.ref a1), .val (.long (((0 : Int64) + ((2 : Int64) * ra)) + ((2 : Int64) * rb))), .second, .val (.ref a2), .val (.int (4 : Int32)), .val (.int (2 : Int32)), .val (.long rc), .second] [(.long (2 : Int64)), (.long (((0 : Int64) + ((2 : Int64) * ra)) + ((2 : Int64) * rb)))])) _
    refine XS.lload X1.here hx rfl (hb hby d5_31) rfl ?_
    show Steps p.tables e below (T1.setTop (mkF m 33 #[.val (.ref a1), .val (.long (((0 : Int64) + ((2 : Int64) * ra)) + ((2 : Int64) * rb))), .second, .val (.ref a2), .val (.int (4 : Int32)), .val (.int (2 : Int32)), .val (.long rc), .second] [(.long rc), (.long (2 : Int64)), (.long (((0 : Int64) + ((2 : Int64) * ra)) + ((2 : Int64) * rb)))])) _
    refine XS.lmul X1.here hx rfl (hb hby d5_33) rfl ?_
    show Steps p.tables e below (T1.setTop (mkF m 34 #[.val (.ref a1), .val (.long (((0 : Int64) + ((2 : Int64) * ra)) + ((2 : Int64) * rb))), .second, .val (.ref a2), .val (.int (4 : Int32)), .val (.int (2 : Int32)), .val (.long rc), .second] [(.long ((2 : Int64) * rc)), (.long (((0 : Int64) + ((2 : Int64) * ra)) + ((2 : Int64) * rb)))])) _
    refine XS.ladd X1.here hx rfl (hb hby d5_34) rfl ?_
    show Steps p.tables e below (T1.setTop (mkF m 35 #[.val (.ref a1), .val (.long (((0 : Int64) + ((2 : Int64) * ra)) + ((2 : Int64) * rb))), .second, .val (.ref a2), .val (.int (4 : Int32)), .val (.int (2 : Int32)), .val (.long rc), .second] [(.long ((((0 : Int64) + ((2 : Int64) * ra)) + ((2 : Int64) * rb)) + ((2 : Int64) * rc)))])) _
    refine XS.lstoreN X1.here hx rfl (hb hby d5_35) rfl (l' := #[.val (.ref a1), .val (.long ((((0 : Int64) + ((2 : Int64) * ra)) + ((2 : Int64) * rb)) + ((2 : Int64) * rc))), .second, .val (.ref a2), .val (.int (4 : Int32)), .val (.int (2 : Int32)), .val (.long rc), .second]) rfl ?_
    show Steps p.tables e below (T1.setTop (mkF m 36 #[.val (.ref a1), .val (.long ((((0 : Int64) + ((2 : Int64) * ra)) + ((2 : Int64) * rb)) + ((2 : Int64) * rc))), .second, .val (.ref a2), .val (.int (4 : Int32)), .val (.int (2 : Int32)), .val (.long rc), .second] [])) _
    refine XS.iinc X1.here hx rfl (hb hby d5_36) rfl (l' := #[.val (.ref a1), .val (.long ((((0 : Int64) + ((2 : Int64) * ra)) + ((2 : Int64) * rb)) + ((2 : Int64) * rc))), .second, .val (.ref a2), .val (.int (4 : Int32)), .val (.int (3 : Int32)), .val (.long rc), .second]) rfl ?_
    show Steps p.tables e below (T1.setTop (mkF m 39 #[.val (.ref a1), .val (.long ((((0 : Int64) + ((2 : Int64) * ra)) + ((2 : Int64) * rb)) + ((2 : Int64) * rc))), .second, .val (.ref a2), .val (.int (4 : Int32)), .val (.int (3 : Int32)), .val (.long rc), .second] [])) _
    refine XS.goto X1.here hx rfl (pc0 := 39) (pc' := 14) rfl (hb hby d5_39) (by decide) (by decide) ?_
    show Steps p.tables e below (T1.setTop (mkF m 14 #[.val (.ref a1), .val (.long ((((0 : Int64) + ((2 : Int64) * ra)) + ((2 : Int64) * rb)) + ((2 : Int64) * rc))), .second, .val (.ref a2), .val (.int (4 : Int32)), .val (.int (3 : Int32)), .val (.long rc), .second] [])) _
    refine XS.iload X1.here hx rfl (hb hby d5_14) rfl ?_
    show Steps p.tables e below (T1.setTop (mkF m 16 #[.val (.ref a1), .val (.long ((((0 : Int64) + ((2 : Int64) * ra)) + ((2 : Int64) * rb)) + ((2 : Int64) * rc))), .second, .val (.ref a2), .val (.int (4 : Int32)), .val (.int (3 : Int32)), .val (.long rc), .second] [(.int (3 : Int32))])) _
    refine XS.iload X1.here hx rfl (hb hby d5_16) rfl ?_
    show Steps p.tables e below (T1.setTop (mkF m 18 #[.val (.ref a1), .val (.long ((((0 : Int64) + ((2 : Int64) * ra)) + ((2 : Int64) * rb)) + ((2 : Int64) * rc))), .second, .val (.ref a2), .val (.int (4 : Int32)), .val (.int (3 : Int32)), .val (.long rc), .second] [(.int (4 : Int32)), (.int (3 : Int32))])) _
    refine XS.icmpNo X1.here hx rfl (hb hby d5_18) rfl (tlt (by decide : (3 : Int32) < (4 : Int32))).2.1 ?_
    show Steps p.tables e below (T1.setTop (mkF m 21 #[.val (.ref a1), .val (.long ((((0 : Int64) + ((2 : Int64) * ra)) + ((2 : Int64) * rb)) + ((2 : Int64) * rc))), .second, .val (.ref a2), .val (.int (4 : Int32)), .val (.int (3 : Int32)), .val (.long rc), .second] [])) _
    refine XS.aloadN X1.here hx rfl (hb hby d5_21) rfl (rfl) ?_
    show Steps p.tables e below (T1.setTop (mkF m 22 #[.val (.ref a1), .val (.long ((((0 : Int64) + ((2 : Int64) * ra)) + ((2 : Int64) * rb)) + ((2 : Int64) * rc))), .second, .val (.ref a2), .val (.int (4 : Int32)), .val (.int (3 : Int32)), .val (.long rc), .second] [(.ref a2)])) _
    refine XS.iload X1.here hx rfl (hb hby d5_22) rfl ?_
    show Steps p.tables e below (T1.setTop (mkF m 24 #[.val (.ref a1), .val (.long ((((0 : Int64) + ((2 : Int64) * ra)) + ((2 : Int64) * rb)) + ((2 : Int64) * rc))), .second, .val (.ref a2), .val (.int (4 : Int32)), .val (.int (3 : Int32)), .val (.long rc), .second] [(.int (3 : Int32)), (.ref a2)])) _
    refine X1.laload hx (j := (3 : Int32)) (v := (.long rd)) (by rw [e1]; exact Ar.1) (State.isArrayOf_alike hZ.alike Ar.2.1) Ar.2.2 (inb_of Sz ⟨by decide, by decide⟩) t3 (g := (mkF m 24 #[.val (.ref a1), .val (.long ((((0 : Int64) + ((2 : Int64) * ra)) + ((2 : Int64) * rb)) + ((2 : Int64) * rc))), .second, .val (.ref a2), .val (.int (4 : Int32)), .val (.int (3 : Int32)), .val (.long rc), .second] [(.int (3 : Int32)), (.ref a2)])) rfl rfl (hb hby d5_24) _ ?_
    show Steps p.tables e below (T1.setTop (mkF m 25 #[.val (.ref a1), .val (.long ((((0 : Int64) + ((2 : Int64) * ra)) + ((2 : Int64) * rb)) + ((2 : Int64) * rc))), .second, .val (.ref a2), .val (.int (4 : Int32)), .val (.int (3 : Int32)), .val (.long rc), .second] [(.long rd)])) _
    refine XS.lstore X1.here hx rfl (hb hby d5_25) rfl (l' := #[.val (.ref a1), .val (.long ((((0 : Int64) + ((2 : Int64) * ra)) + ((2 : Int64) * rb)) + ((2 : Int64) * rc))), .second, .val (.ref a2), .val (.int (4 : Int32)), .val (.int (3 : Int32)), .val (.long rd), .second]) rfl ?_
    show Steps p.tables e below (T1.setTop (mkF m 27 #[.val (.ref a1), .val (.long ((((0 : Int64) + ((2 : Int64) * ra)) + ((2 : Int64) * rb)) + ((2 : Int64) * rc))), .second, .val (.ref a2), .val (.int (4 : Int32)), .val (.int (3 : Int32)), .val (.long rd), .second] [])) _
    refine XS.lloadN X1.here hx rfl (hb hby d5_27) rfl ?_
    show Steps p.tables e below (T1.setTop (mkF m 28 #[.val (.ref a1), .val (.long ((((0 : Int64) + ((2 : Int64) * ra)) + ((2 : Int64) * rb)) + ((2 : Int64) * rc))), .second, .val (.ref a2), .val (.int (4 : Int32)), .val (.int (3 : Int32)), .val (.long rd), .second] [(.long ((((0 : Int64) + ((2 : Int64) * ra)) + ((2 : Int64) * rb)) + ((2 : Int64) * rc)))])) _
    refine X1.ldc2Long hx hown (mvT hZ (hw _ (List.mem_of_getElem? (i := 28) rfl))) (g := (mkF m 28 #[.val (.ref a1), .val (.long ((((0 : Int64) + ((2 : Int64) * ra)) + ((2 : Int64) * rb)) + ((2 : Int64) * rc))), .second, .val (.ref a2), .val (.int (4 : Int32)), .val (.int (3 : Int32)), .val (.long rd), .second] [(.long ((((0 : Int64) + ((2 : Int64) * ra)) + ((2 : Int64) * rb)) + ((2 : Int64) * rc)))])) rfl (hb hby d5_28) _ ?_
    show Steps p.tables e below (T1.setTop (mkF m 31 #[.val (.ref a1), .val (.long ((((0 : Int64) + ((2 : Int64) * ra)) + ((2 : Int64) * rb)) + ((2 : Int64) * rc))), .second, .val (.ref a2), .val (.int (4 : Int32)), .val (.int (3 : Int32)), .val (.long rd), .second] [(.long (2 : Int64)), (.long ((((0 : Int64) + ((2 : Int64) * ra)) + ((2 : Int64) * rb)) + ((2 : Int64) * rc)))])) _
    refine XS.lload X1.here hx rfl (hb hby d5_31) rfl ?_
    show Steps p.tables e below (T1.setTop (mkF m 33 #[.val (.ref a1), .val (.long ((((0 : Int64) + ((2 : Int64) * ra)) + ((2 : Int64) * rb)) + ((2 : Int64) * rc))), .second, .val (.ref a2), .val (.int (4 : Int32)), .val (.int (3 : Int32)), .val (.long rd), .second] [(.long rd), (.long (2 : Int64)), (.long ((((0 : Int64) + ((2 : Int64) * ra)) + ((2 : Int64) * rb)) + ((2 : Int64) * rc)))])) _
    refine XS.lmul X1.here hx rfl (hb hby d5_33) rfl ?_
    show Steps p.tables e below (T1.setTop (mkF m 34 #[.val (.ref a1), .val (.long ((((0 : Int64) + ((2 : Int64) * ra)) + ((2 : Int64) * rb)) + ((2 : Int64) * rc))), .second, .val (.ref a2), .val (.int (4 : Int32)), .val (.int (3 : Int32)), .val (.long rd), .second] [(.long ((2 : Int64) * rd)), (.long ((((0 : Int64) + ((2 : Int64) * ra)) + ((2 : Int64) * rb)) + ((2 : Int64) * rc)))])) _
    refine XS.ladd X1.here hx rfl (hb hby d5_34) rfl ?_
    show Steps p.tables e below (T1.setTop (mkF m 35 #[.val (.ref a1), .val (.long ((((0 : Int64) + ((2 : Int64) * ra)) + ((2 : Int64) * rb)) + ((2 : Int64) * rc))), .second, .val (.ref a2), .val (.int (4 : Int32)), .val (.int (3 : Int32)), .val (.long rd), .second] [(.long (((((0 : Int64) + ((2 : Int64) * ra)) + ((2 : Int64) * rb)) + ((2 : Int64) * rc)) + ((2 : Int64) * rd)))])) _
    refine XS.lstoreN X1.here hx rfl (hb hby d5_35) rfl (l' := #[.val (.ref a1), .val (.long (((((0 : Int64) + ((2 : Int64) * ra)) + ((2 : Int64) * rb)) + ((2 : Int64) * rc)) + ((2 : Int64) * rd))), .second, .val (.ref a2), .val (.int (4 : Int32)), .val (.int (3 : Int32)), .val (.long rd), .second]) rfl ?_
    show Steps p.tables e below (T1.setTop (mkF m 36 #[.val (.ref a1), .val (.long (((((0 : Int64) + ((2 : Int64) * ra)) + ((2 : Int64) * rb)) + ((2 : Int64) * rc)) + ((2 : Int64) * rd))), .second, .val (.ref a2), .val (.int (4 : Int32)), .val (.int (3 : Int32)), .val (.long rd), .second] [])) _
    refine XS.iinc X1.here hx rfl (hb hby d5_36) rfl (l' := #[.val (.ref a1), .val (.long (((((0 : Int64) + ((2 : Int64) * ra)) + ((2 : Int64) * rb)) + ((2 : Int64) * rc)) + ((2 : Int64) * rd))), .second, .val (.ref a2), .val (.int (4 : Int32)), .val (.int (4 : Int32)), .val (.long rd), .second]) rfl ?_
    show Steps p.tables e below (T1.setTop (mkF m 39 #[.val (.ref a1), .val (.long (((((0 : Int64) + ((2 : Int64) * ra)) + ((2 : Int64) * rb)) + ((2 : Int64) * rc)) + ((2 : Int64) * rd))), .second, .val (.ref a2), .val (.int (4 : Int32)), .val (.int (4 : Int32)), .val (.long rd), .second] [])) _
    refine XS.goto X1.here hx rfl (pc0 := 39) (pc' := 14) rfl (hb hby d5_39) (by decide) (by decide) ?_
    show Steps p.tables e below (T1.setTop (mkF m 14 #[.val (.ref a1), .val (.long (((((0 : Int64) + ((2 : Int64) * ra)) + ((2 : Int64) * rb)) + ((2 : Int64) * rc)) + ((2 : Int64) * rd))), .second, .val (.ref a2), .val (.int (4 : Int32)), .val (.int (4 : Int32)), .val (.long rd), .second] [])) _
    refine XS.iload X1.here hx rfl (hb hby d5_14) rfl ?_
    show Steps p.tables e below (T1.setTop (mkF m 16 #[.val (.ref a1), .val (.long (((((0 : Int64) + ((2 : Int64) * ra)) + ((2 : Int64) * rb)) + ((2 : Int64) * rc)) + ((2 : Int64) * rd))), .second, .val (.ref a2), .val (.int (4 : Int32)), .val (.int (4 : Int32)), .val (.long rd), .second] [(.int (4 : Int32))])) _
    refine XS.iload X1.here hx rfl (hb hby d5_16) rfl ?_
    show Steps p.tables e below (T1.setTop (mkF m 18 #[.val (.ref a1), .val (.long (((((0 : Int64) + ((2 : Int64) * ra)) + ((2 : Int64) * rb)) + ((2 : Int64) * rc)) + ((2 : Int64) * rd))), .second, .val (.ref a2), .val (.int (4 : Int32)), .val (.int (4 : Int32)), .val (.long rd), .second] [(.int (4 : Int32)), (.int (4 : Int32))])) _
    refine XS.icmpYes X1.here hx rfl (pc0 := 18) (pc' := 42) rfl (hb hby d5_18) rfl (flt (by decide : ¬ ((4 : Int32) < (4 : Int32)))).2.1 (by decide) (by decide) ?_
    show Steps p.tables e below (T1.setTop (mkF m 42 #[.val (.ref a1), .val (.long (((((0 : Int64) + ((2 : Int64) * ra)) + ((2 : Int64) * rb)) + ((2 : Int64) * rc)) + ((2 : Int64) * rd))), .second, .val (.ref a2), .val (.int (4 : Int32)), .val (.int (4 : Int32)), .val (.long rd), .second] [])) _
    refine XS.lloadN X1.here hx rfl (hb hby d5_42) rfl ?_
    show Steps p.tables e below (T1.setTop (mkF m 43 #[.val (.ref a1), .val (.long (((((0 : Int64) + ((2 : Int64) * ra)) + ((2 : Int64) * rb)) + ((2 : Int64) * rc)) + ((2 : Int64) * rd))), .second, .val (.ref a2), .val (.int (4 : Int32)), .val (.int (4 : Int32)), .val (.long rd), .second] [(.long (((((0 : Int64) + ((2 : Int64) * ra)) + ((2 : Int64) * rb)) + ((2 : Int64) * rc)) + ((2 : Int64) * rd)))])) _
    exact k
  obtain ⟨fs, hr, hrun, hended, hW, hsame⟩ := X1.leave (v := some (.long (((((0 : Int64) + ((2 : Int64) * ra)) + ((2 : Int64) * rb)) + ((2 : Int64) * rc)) + ((2 : Int64) * rd)))) (fun h => by rw [Bd.returns] at h; cases h)
  refine ⟨_, _, pre2 _ ?_, hrun, hended, _, _, rfl, ?_, ⟨_, rfl⟩, hW, hsame.mono (by decide) (by decide)⟩
  · exact retOut X1 hx Bd.returns rfl (Or.inr (Or.inl ⟨rfl, rfl, _, rfl⟩)) (hb hby d5_43) hr
  · show Q_rmD4 Z a1 a2 cl ra rb rc rd h0 n0 _ T1.heap _
    rw [e1]
    exact ⟨rfl, N0, rfl⟩
def own_m4 (ra rb rc rd : Int64) : Int64 := (((((0 : Int64) + ((2 : Int64) * ra)) + ((2 : Int64) * rb)) + ((2 : Int64) * rc)) + ((2 : Int64) * rd))
def own_h4 (m h a b : Int64) : Int64 := h + (m - (4 : Int64) * (a + b))
def own_l4 (ra rb rc rd : Int64) : Int32 := let m := own_m4 ra rb rc rd; let h1 := own_h4 m 0 ra rb; let h2 := own_h4 m h1 rb rc; let h3 := own_h4 m h2 rc rd; if h1 < 0 then (if h2 < h1 then (if h3 < h2 then 3 else 2) else (if h3 < h1 then 3 else 1)) else (if h2 < 0 then (if h3 < h2 then 3 else 2) else (if h3 < 0 then 3 else 0))
theorem ef_rmL4 (m : MethodId) (x0 : Addr) : entryFrame m #[(.ref x0)] 9 = mkF m 0 #[.val (.ref x0), .unset, .unset, .unset, .unset, .unset, .unset, .unset, .unset] [] := by first | (simp [entryFrame, mkF, argsToLocals, Value.category]; done) | rfl
def Q_rmL4 (Z : State) (a1 : Addr) (a2 : Addr) (cl : Cell) (ra : Int64) (rb : Int64) (rc : Int64) (rd : Int64) (h0 : Heap) (n0 : Nat) (v : Option Value) (h : Heap) (L : List Loc) : Prop := v = some (.int (own_l4 ra rb rc rd)) ∧ Fr n0 L ∧ h = h0
set_option maxRecDepth 65536 in
set_option maxHeartbeats 40000000 in
theorem rmL4 (l : Launch) (Z : State) (a0 : Array Value) (hw : ∀ d ∈ tables_1, d.before a0 Z = true) (ws : List Jvm.Cond) (a1 : Addr) (a2 : Addr) (cl : Cell) (ra : Int64) (rb : Int64) (rc : Int64) (rd : Int64) (h0 : Heap) (n0 : Nat) (Z0 : n0 ≤ h0.size) (E1 : Exa Z h0 a1 "com/example/hummingbird/hummingbird/engine/Rhythm") (F1 : Fld Z h0 a1 "com/example/hummingbird/hummingbird/engine/Rhythm" "points" "I" (.int (4 : Int32))) (F2 : Fld Z h0 a1 "com/example/hummingbird/hummingbird/engine/Rhythm" "rates" "[J" (.ref a2)) (Ar : Arr Z h0 a2 cl .long) (Sz : cl.slots.size = (4 : Int32).toNatClampNeg) (t0 : cl.slots[0]? = some (.long ra)) (t1 : cl.slots[1]? = some (.long rb)) (t2 : cl.slots[2]? = some (.long rc)) (t3 : cl.slots[3]? = some (.long rd)) :
    MetFree l (⟨"com/example/hummingbird/hummingbird/engine/Rhythm", "leastWaitingPoint", "()I"⟩ : MethodName) (head1 (Jvm.Cond.code (⟨"com/example/hummingbird/hummingbird/engine/Rhythm", "leastWaitingPoint", "()I"⟩ : MethodName) prog_9_method_4_code 9 (some .int) :: ws) ({ frames := 1, cells := 0, slots := 0, locals := 20 } : Room)) (fun a U => a = #[(.ref a1)] ∧ Z.Warmed39 U.vm ∧ U.heap = h0) (fun _ _ _ _ _ => True) (fun _ U o U' => ∃ v L, o = .returned v ∧ Q_rmL4 Z a1 a2 cl ra rb rc rd h0 n0 v U'.heap L ∧ FrameEnd U o U' L ({ frames := 1, cells := 0, slots := 0, locals := 20 } : Room).cells ({ frames := 1, cells := 0, slots := 0, locals := 20 } : Room).slots) := by
  refine MetFree.of_bodySF (plainFor_of_name pn_0) hisR ?_
  intro p e s m args below meth c s₁ Bd hml0 hP hK
  obtain ⟨rfl, hZ, hh⟩ := hP
  have hx := Bd.exec
  have hby := Bd.bytes
  have hml : c.maxLocals = 9 := hml0
  have hown : s.vm.findClass "com/example/hummingbird/hummingbird/engine/Rhythm" = some m.cls := findClass_of_methodNamed Bd.named
  have hnm := (name_of_methodNamed Bd.named Bd.method).1
  have X0 : Stand p l e ({ frames := 1, cells := 0, slots := 0, locals := 20 } : Room) s m #[(.ref a1)] below meth c s₁ [] 0 0 := Stand.of_body Bd
  have e0 : s₁.heap = h0 := by rw [← hh, Bd.state]; rfl
  have N0 := Fr.nil n0
  have pre0 : ∀ t, Steps p.tables e below (s₁.setTop (mkF m 0 #[.val (.ref a1), .unset, .unset, .unset, .unset, .unset, .unset, .unset, .unset] [])) t → Steps p.tables e below (s₁.setTop (entryFrame m #[(.ref a1)] 9)) t := fun t k => castTop (ef_rmL4 m a1) k
  obtain ⟨cq1, q1, q1'⟩ := E1.cell
  obtain ⟨_, _, ⟨T1, L1, k1, n1⟩, -, X1, ⟨Lc1, hQ1, l1, y1, z1⟩, st1⟩ := X0.privateBack hx (y := (⟨"com/example/hummingbird/hummingbird/engine/Rhythm", "dayMass", "()J"⟩ : MethodName)) hown (mvT hZ (hw _ (List.mem_of_getElem? (i := 24) rfl))) (mvT hZ (hw _ (List.mem_of_getElem? (i := 25) rfl))) (own_selP (y := (⟨"com/example/hummingbird/hummingbird/engine/Rhythm", "dayMass", "()J"⟩ : MethodName)) hZ (hw _ (List.mem_of_getElem? (i := 7) rfl)) (hw _ (List.mem_of_getElem? (i := 25) rfl)) (hw _ (List.mem_of_getElem? (i := 26) rfl)) (by decide)) (Cond.privateMethod_at (mvP hZ (hw _ (List.mem_of_getElem? (i := 26) rfl)) (args := #[]))) (mvT hZ (hw _ (List.mem_of_getElem? (i := 27) rfl))) (by decide) (backOf (W := 0) (rmD4 l Z a0 hw [] a1 a2 cl ra rb rc rd h0 n0 Z0 F2 Ar Sz t0 t1 t2 t3) hZ (hw _ (List.mem_of_getElem? (i := 27) rfl)) (hw _ (List.mem_of_getElem? (i := 8) rfl)) (by decide) (by decide)) (g := (mkF m 1 #[.val (.ref a1), .unset, .unset, .unset, .unset, .unset, .unset, .unset, .unset] [(.ref a1)])) rfl (by rw [hml]; rfl) (Steps.refl _) (a := a1) (by rw [e0]; exact q1) q1' (argsL := []) (rest := []) (lenOf pd_0 rfl) rfl (by show 2 * 0 + _ ≤ _; exact Nat.le_of_eq rfl) (hb hby d4_1) (fun _ _ => ⟨rfl, e0, (by decide : 0 + 0 ≤ _), (by decide : 0 + 0 ≤ _)⟩)
  dsimp only [Pt.U, Pt.locs, Pt.cells, Pt.slots] at X1 l1 y1 z1 st1 hQ1
  subst l1 y1 z1
  obtain ⟨rfl, N1q, hq1⟩ := hQ1
  have N1 := Fr.app N0 N1q
  obtain ⟨T2, X2, e2, st2⟩ := getF X1 hx hZ hown (host := "") (Or.inl (hw _ (List.mem_of_getElem? (i := 15) rfl))) Via.refl hq1 F1 (g := (mkF m 19 #[.val (.ref a1), .val (.long (own_m4 ra rb rc rd)), .second, .val (.long (0 : Int64)), .second, .val (.long (0 : Int64)), .second, .val (.int (0 : Int32)), .val (.int (1 : Int32))] [(.ref a1), (.int (1 : Int32))])) rfl rfl (hb hby d4_19)
  obtain ⟨T3, X3, e3, st3⟩ := getF X2 hx hZ hown (host := "") (Or.inl (hw _ (List.mem_of_getElem? (i := 15) rfl))) Via.refl e2 F1 (g := (mkF m 28 #[.val (.ref a1), .val (.long (own_m4 ra rb rc rd)), .second, .val (.long (0 : Int64)), .second, .val (.long (0 : Int64)), .second, .val (.int (0 : Int32)), .val (.int (1 : Int32))] [(.ref a1), (.long (own_m4 ra rb rc rd)), (.long (0 : Int64))])) rfl rfl (hb hby d4_28)
  obtain ⟨T4, X4, e4, st4⟩ := getF X3 hx hZ hown (host := "") (Or.inl (hw _ (List.mem_of_getElem? (i := 17) rfl))) Via.refl e3 F2 (g := (mkF m 33 #[.val (.ref a1), .val (.long (own_m4 ra rb rc rd)), .second, .val (.long (0 : Int64)), .second, .val (.long (0 : Int64)), .second, .val (.int (0 : Int32)), .val (.int (1 : Int32))] [(.ref a1), (.long (4 : Int64)), (.long (own_m4 ra rb rc rd)), (.long (0 : Int64))])) rfl rfl (hb hby d4_33)
  obtain ⟨T5, X5, e5, st5⟩ := getF X4 hx hZ hown (host := "") (Or.inl (hw _ (List.mem_of_getElem? (i := 17) rfl))) Via.refl e4 F2 (g := (mkF m 42 #[.val (.ref a1), .val (.long (own_m4 ra rb rc rd)), .second, .val (.long (0 : Int64)), .second, .val (.long (0 : Int64)), .second, .val (.int (0 : Int32)), .val (.int (1 : Int32))] [(.ref a1), (.long ra), (.long (4 : Int64)), (.long (own_m4 ra rb rc rd)), (.long (0 : Int64))])) rfl rfl (hb hby d4_42)
  have pre6 : ∀ t, Steps p.tables e below (T5.setTop (mkF m 53 #[.val (.ref a1), .val (.long (own_m4 ra rb rc rd)), .second, .val (.long ((0 : Int64) + ((own_m4 ra rb rc rd) - ((4 : Int64) * (ra + rb))))), .second, .val (.long (0 : Int64)), .second, .val (.int (0 : Int32)), .val (.int (1 : Int32))] [])) t → Steps p.tables e below (s₁.setTop (entryFrame m #[(.ref a1)] 9)) t := by
    intro t k
    refine pre0 t ?_
    show Steps p.tables e below (s₁.setTop (mkF m 0 #[.val (.ref a1), .unset, .unset, .unset, .unset, .unset, .unset, .unset, .unset] [])) _
    refine XS.aloadN X0.here hx rfl (hb hby d4_0) rfl (rfl) ?_
    show Steps p.tables e below (s₁.setTop (mkF m 1 #[.val (.ref a1), .unset, .unset, .unset, .unset, .unset, .unset, .unset, .unset] [(.ref a1)])) _
    refine st1.trans ?_
    show Steps p.tables e below (T1.setTop (mkF m 4 #[.val (.ref a1), .unset, .unset, .unset, .unset, .unset, .unset, .unset, .unset] [(.long (own_m4 ra rb rc rd))])) _
    refine XS.lstoreN X1.here hx rfl (hb hby d4_4) rfl (l' := #[.val (.ref a1), .val (.long (own_m4 ra rb rc rd)), .second, .unset, .unset, .unset, .unset, .unset, .unset]) rfl ?_
    show Steps p.tables e below (T1.setTop (mkF m 5 #[.val (.ref a1), .val (.long (own_m4 ra rb rc rd)), .second, .unset, .unset, .unset, .unset, .unset, .unset] [])) _
    refine XS.lconst X1.here hx rfl (hb hby d4_5) ?_
    show Steps p.tables e below (T1.setTop (mkF m 6 #[.val (.ref a1), .val (.long (own_m4 ra rb rc rd)), .second, .unset, .unset, .unset, .unset, .unset, .unset] [(.long (0 : Int64))])) _
    refine XS.lstoreN X1.here hx rfl (hb hby d4_6) rfl (l' := #[.val (.ref a1), .val (.long (own_m4 ra rb rc rd)), .second, .val (.long (0 : Int64)), .second, .unset, .unset, .unset, .unset]) rfl ?_
    show Steps p.tables e below (T1.setTop (mkF m 7 #[.val (.ref a1), .val (.long (own_m4 ra rb rc rd)), .second, .val (.long (0 : Int64)), .second, .unset, .unset, .unset, .unset] [])) _
    refine XS.lconst X1.here hx rfl (hb hby d4_7) ?_
    show Steps p.tables e below (T1.setTop (mkF m 8 #[.val (.ref a1), .val (.long (own_m4 ra rb rc rd)), .second, .val (.long (0 : Int64)), .second, .unset, .unset, .unset, .unset] [(.long (0 : Int64))])) _
    refine XS.lstore X1.here hx rfl (hb hby d4_8) rfl (l' := #[.val (.ref a1), .val (.long (own_m4 ra rb rc rd)), .second, .val (.long (0 : Int64)), .second, .val (.long (0 : Int64)), .second, .unset, .unset]) rfl ?_
    show Steps p.tables e below (T1.setTop (mkF m 10 #[.val (.ref a1), .val (.long (own_m4 ra rb rc rd)), .second, .val (.long (0 : Int64)), .second, .val (.long (0 : Int64)), .second, .unset, .unset] [])) _
    refine XS.iconst X1.here hx rfl (hb hby d4_10) ?_
    show Steps p.tables e below (T1.setTop (mkF m 11 #[.val (.ref a1), .val (.long (own_m4 ra rb rc rd)), .second, .val (.long (0 : Int64)), .second, .val (.long (0 : Int64)), .second, .unset, .unset] [(.int (0 : Int32))])) _
    refine XS.istore X1.here hx rfl (hb hby d4_11) rfl (l' := #[.val (.ref a1), .val (.long (own_m4 ra rb rc rd)), .second, .val (.long (0 : Int64)), .second, .val (.long (0 : Int64)), .second, .val (.int (0 : Int32)), .unset]) rfl ?_
    show Steps p.tables e below (T1.setTop (mkF m 13 #[.val (.ref a1), .val (.long (own_m4 ra rb rc rd)), .second, .val (.long (0 : Int64)), .second, .val (.long (0 : Int64)), .second, .val (.int (0 : Int32)), .unset] [])) _
    refine XS.iconst X1.here hx rfl (hb hby d4_13) ?_
    show Steps p.tables e below (T1.setTop (mkF m 14 #[.val (.ref a1), .val (.long (own_m4 ra rb rc rd)), .second, .val (.long (0 : Int64)), .second, .val (.long (0 : Int64)), .second, .val (.int (0 : Int32)), .unset] [(.int (1 : Int32))])) _
    refine XS.istore X1.here hx rfl (hb hby d4_14) rfl (l' := #[.val (.ref a1), .val (.long (own_m4 ra rb rc rd)), .second, .val (.long (0 : Int64)), .second, .val (.long (0 : Int64)), .second, .val (.int (0 : Int32)), .val (.int (1 : Int32))]) rfl ?_
    show Steps p.tables e below (T1.setTop (mkF m 16 #[.val (.ref a1), .val (.long (own_m4 ra rb rc rd)), .second, .val (.long (0 : Int64)), .second, .val (.long (0 : Int64)), .second, .val (.int (0 : Int32)), .val (.int (1 : Int32))] [])) _
    refine XS.iload X1.here hx rfl (hb hby d4_16) rfl ?_
    show Steps p.tables e below (T1.setTop (mkF m 18 #[.val (.ref a1), .val (.long (own_m4 ra rb rc rd)), .second, .val (.long (0 : Int64)), .second, .val (.long (0 : Int64)), .second, .val (.int (0 : Int32)), .val (.int (1 : Int32))] [(.int (1 : Int32))])) _
    refine XS.aloadN X1.here hx rfl (hb hby d4_18) rfl (rfl) ?_
    show Steps p.tables e below (T1.setTop (mkF m 19 #[.val (.ref a1), .val (.long (own_m4 ra rb rc rd)), .second, .val (.long (0 : Int64)), .second, .val (.long (0 : Int64)), .second, .val (.int (0 : Int32)), .val (.int (1 : Int32))] [(.ref a1), (.int (1 : Int32))])) _
    refine st2 _ ?_
    show Steps p.tables e below (T2.setTop (mkF m 22 #[.val (.ref a1), .val (.long (own_m4 ra rb rc rd)), .second, .val (.long (0 : Int64)), .second, .val (.long (0 : Int64)), .second, .val (.int (0 : Int32)), .val (.int (1 : Int32))] [(.int (4 : Int32)), (.int (1 : Int32))])) _
    refine XS.icmpNo X2.here hx rfl (hb hby d4_22) rfl (tlt (by decide : (1 : Int32) < (4 : Int32))).2.1 ?_
    show Steps p.tables e below (T2.setTop (mkF m 25 #[.val (.ref a1), .val (.long (own_m4 ra rb rc rd)), .second, .val (.long (0 : Int64)), .second, .val (.long (0 : Int64)), .second, .val (.int (0 : Int32)), .val (.int (1 : Int32))] [])) _
    refine XS.lloadN X2.here hx rfl (hb hby d4_25) rfl ?_
    show Steps p.tables e below (T2.setTop (mkF m 26 #[.val (.ref a1), .val (.long (own_m4 ra rb rc rd)), .second, .val (.long (0 : Int64)), .second, .val (.long (0 : Int64)), .second, .val (.int (0 : Int32)), .val (.int (1 : Int32))] [(.long (0 : Int64))])) _
    refine XS.lloadN X2.here hx rfl (hb hby d4_26) rfl ?_
    show Steps p.tables e below (T2.setTop (mkF m 27 #[.val (.ref a1), .val (.long (own_m4 ra rb rc rd)), .second, .val (.long (0 : Int64)), .second, .val (.long (0 : Int64)), .second, .val (.int (0 : Int32)), .val (.int (1 : Int32))] [(.long (own_m4 ra rb rc rd)), (.long (0 : Int64))])) _
    refine XS.aloadN X2.here hx rfl (hb hby d4_27) rfl (rfl) ?_
    show Steps p.tables e below (T2.setTop (mkF m 28 #[.val (.ref a1), .val (.long (own_m4 ra rb rc rd)), .second, .val (.long (0 : Int64)), .second, .val (.long (0 : Int64)), .second, .val (.int (0 : Int32)), .val (.int (1 : Int32))] [(.ref a1), (.long (own_m4 ra rb rc rd)), (.long (0 : Int64))])) _
    refine st3 _ ?_
    show Steps p.tables e below (T3.setTop (mkF m 31 #[.val (.ref a1), .val (.long (own_m4 ra rb rc rd)), .second, .val (.long (0 : Int64)), .second, .val (.long (0 : Int64)), .second, .val (.int (0 : Int32)), .val (.int (1 : Int32))] [(.int (4 : Int32)), (.long (own_m4 ra rb rc rd)), (.long (0 : Int64))])) _
    refine XS.i2l X3.here hx rfl (hb hby d4_31) rfl ?_
    show Steps p.tables e below (T3.setTop (mkF m 32 #[.val (.ref a1), .val (.long (own_m4 ra rb rc rd)), .second, .val (.long (0 : Int64)), .second, .val (.long (0 : Int64)), .second, .val (.int (0 : Int32)), .val (.int (1 : Int32))] [(.long (4 : Int64)), (.long (own_m4 ra rb rc rd)), (.long (0 : Int64))])) _
    refine XS.aloadN X3.here hx rfl (hb hby d4_32) rfl (rfl) ?_
    show Steps p.tables e below (T3.setTop (mkF m 33 #[.val (.ref a1), .val (.long (own_m4 ra rb rc rd)), .second, .val (.long (0 : Int64)), .second, .val (.long (0 : Int64)), .second, .val (.int (0 : Int32)), .val (.int (1 : Int32))] [(.ref a1), (.long (4 : Int64)), (.long (own_m4 ra rb rc rd)), (.long (0 : Int64))])) _
    refine st4 _ ?_
    show Steps p.tables e below (T4.setTop (mkF m 36 #[.val (.ref a1), .val (.long (own_m4 ra rb rc rd)), .second, .val (.long (0 : Int64)), .second, .val (.long (0 : Int64)), .second, .val (.int (0 : Int32)), .val (.int (1 : Int32))] [(.ref a2), (.long (4 : Int64)), (.long (own_m4 ra rb rc rd)), (.long (0 : Int64))])) _
    refine XS.iload X4.here hx rfl (hb hby d4_36) rfl ?_
    show Steps p.tables e below (T4.setTop (mkF m 38 #[.val (.ref a1), .val (.long (own_m4 ra rb rc rd)), .second, .val (.long (0 : Int64)), .second, .val (.long (0 : Int64)), .second, .val (.int (0 : Int32)), .val (.int (1 : Int32))] [(.int (1 : Int32)), (.ref a2), (.long (4 : Int64)), (.long (own_m4 ra rb rc rd)), (.long (0 : Int64))])) _
    refine XS.iconst X4.here hx rfl (hb hby d4_38) ?_
    show Steps p.tables e below (T4.setTop (mkF m 39 #[.val (.ref a1), .val (.long (own_m4 ra rb rc rd)), .second, .val (.long (0 : Int64)), .second, .val (.long (0 : Int64)), .second, .val (.int (0 : Int32)), .val (.int (1 : Int32))] [(.int (1 : Int32)), (.int (1 : Int32)), (.ref a2), (.long (4 : Int64)), (.long (own_m4 ra rb rc rd)), (.long (0 : Int64))])) _
    refine XS.isub X4.here hx rfl (hb hby d4_39) rfl ?_
    show Steps p.tables e below (T4.setTop (mkF m 40 #[.val (.ref a1), .val (.long (own_m4 ra rb rc rd)), .second, .val (.long (0 : Int64)), .second, .val (.long (0 : Int64)), .second, .val (.int (0 : Int32)), .val (.int (1 : Int32))] [(.int (0 : Int32)), (.ref a2), (.long (4 : Int64)), (.long (own_m4 ra rb rc rd)), (.long (0 : Int64))])) _
    refine X4.laload hx (j := (0 : Int32)) (v := (.long ra)) (by rw [e4]; exact Ar.1) (State.isArrayOf_alike hZ.alike Ar.2.1) Ar.2.2 (inb_of Sz ⟨by decide, by decide⟩) t0 (g := (mkF m 40 #[.val (.ref a1), .val (.long (own_m4 ra rb rc rd)), .second, .val (.long (0 : Int64)), .second, .val (.long (0 : Int64)), .second, .val (.int (0 : Int32)), .val (.int (1 : Int32))] [(.int (0 : Int32)), (.ref a2), (.long (4 : Int64)), (.long (own_m4 ra rb rc rd)), (.long (0 : Int64))])) rfl rfl (hb hby d4_40) _ ?_
    show Steps p.tables e below (T4.setTop (mkF m 41 #[.val (.ref a1), .val (.long (own_m4 ra rb rc rd)), .second, .val (.long (0 : Int64)), .second, .val (.long (0 : Int64)), .second, .val (.int (0 : Int32)), .val (.int (1 : Int32))] [(.long ra), (.long (4 : Int64)), (.long (own_m4 ra rb rc rd)), (.long (0 : Int64))])) _
    refine XS.aloadN X4.here hx rfl (hb hby d4_41) rfl (rfl) ?_
    show Steps p.tables e below (T4.setTop (mkF m 42 #[.val (.ref a1), .val (.long (own_m4 ra rb rc rd)), .second, .val (.long (0 : Int64)), .second, .val (.long (0 : Int64)), .second, .val (.int (0 : Int32)), .val (.int (1 : Int32))] [(.ref a1), (.long ra), (.long (4 : Int64)), (.long (own_m4 ra rb rc rd)), (.long (0 : Int64))])) _
    refine st5 _ ?_
    show Steps p.tables e below (T5.setTop (mkF m 45 #[.val (.ref a1), .val (.long (own_m4 ra rb rc rd)), .second, .val (.long (0 : Int64)), .second, .val (.long (0 : Int64)), .second, .val (.int (0 : Int32)), .val (.int (1 : Int32))] [(.ref a2), (.long ra), (.long (4 : Int64)), (.long (own_m4 ra rb rc rd)), (.long (0 : Int64))])) _
    refine XS.iload X5.here hx rfl (hb hby d4_45) rfl ?_
    show Steps p.tables e below (T5.setTop (mkF m 47 #[.val (.ref a1), .val (.long (own_m4 ra rb rc rd)), .second, .val (.long (0 : Int64)), .second, .val (.long (0 : Int64)), .second, .val (.int (0 : Int32)), .val (.int (1 : Int32))] [(.int (1 : Int32)), (.ref a2), (.long ra), (.long (4 : Int64)), (.long (own_m4 ra rb rc rd)), (.long (0 : Int64))])) _
    refine X5.laload hx (j := (1 : Int32)) (v := (.long rb)) (by rw [e5]; exact Ar.1) (State.isArrayOf_alike hZ.alike Ar.2.1) Ar.2.2 (inb_of Sz ⟨by decide, by decide⟩) t1 (g := (mkF m 47 #[.val (.ref a1), .val (.long (own_m4 ra rb rc rd)), .second, .val (.long (0 : Int64)), .second, .val (.long (0 : Int64)), .second, .val (.int (0 : Int32)), .val (.int (1 : Int32))] [(.int (1 : Int32)), (.ref a2), (.long ra), (.long (4 : Int64)), (.long (own_m4 ra rb rc rd)), (.long (0 : Int64))])) rfl rfl (hb hby d4_47) _ ?_
    show Steps p.tables e below (T5.setTop (mkF m 48 #[.val (.ref a1), .val (.long (own_m4 ra rb rc rd)), .second, .val (.long (0 : Int64)), .second, .val (.long (0 : Int64)), .second, .val (.int (0 : Int32)), .val (.int (1 : Int32))] [(.long rb), (.long ra), (.long (4 : Int64)), (.long (own_m4 ra rb rc rd)), (.long (0 : Int64))])) _
    refine XS.ladd X5.here hx rfl (hb hby d4_48) rfl ?_
    show Steps p.tables e below (T5.setTop (mkF m 49 #[.val (.ref a1), .val (.long (own_m4 ra rb rc rd)), .second, .val (.long (0 : Int64)), .second, .val (.long (0 : Int64)), .second, .val (.int (0 : Int32)), .val (.int (1 : Int32))] [(.long (ra + rb)), (.long (4 : Int64)), (.long (own_m4 ra rb rc rd)), (.long (0 : Int64))])) _
    refine XS.lmul X5.here hx rfl (hb hby d4_49) rfl ?_
    show Steps p.tables e below (T5.setTop (mkF m 50 #[.val (.ref a1), .val (.long (own_m4 ra rb rc rd)), .second, .val (.long (0 : Int64)), .second, .val (.long (0 : Int64)), .second, .val (.int (0 : Int32)), .val (.int (1 : Int32))] [(.long ((4 : Int64) * (ra + rb))), (.long (own_m4 ra rb rc rd)), (.long (0 : Int64))])) _
    refine XS.lsub X5.here hx rfl (hb hby d4_50) rfl ?_
    show Steps p.tables e below (T5.setTop (mkF m 51 #[.val (.ref a1), .val (.long (own_m4 ra rb rc rd)), .second, .val (.long (0 : Int64)), .second, .val (.long (0 : Int64)), .second, .val (.int (0 : Int32)), .val (.int (1 : Int32))] [(.long ((own_m4 ra rb rc rd) - ((4 : Int64) * (ra + rb)))), (.long (0 : Int64))])) _
    refine XS.ladd X5.here hx rfl (hb hby d4_51) rfl ?_
    show Steps p.tables e below (T5.setTop (mkF m 52 #[.val (.ref a1), .val (.long (own_m4 ra rb rc rd)), .second, .val (.long (0 : Int64)), .second, .val (.long (0 : Int64)), .second, .val (.int (0 : Int32)), .val (.int (1 : Int32))] [(.long ((0 : Int64) + ((own_m4 ra rb rc rd) - ((4 : Int64) * (ra + rb)))))])) _
    refine XS.lstoreN X5.here hx rfl (hb hby d4_52) rfl (l' := #[.val (.ref a1), .val (.long (own_m4 ra rb rc rd)), .second, .val (.long ((0 : Int64) + ((own_m4 ra rb rc rd) - ((4 : Int64) * (ra + rb))))), .second, .val (.long (0 : Int64)), .second, .val (.int (0 : Int32)), .val (.int (1 : Int32))]) rfl ?_
    show Steps p.tables e below (T5.setTop (mkF m 53 #[.val (.ref a1), .val (.long (own_m4 ra rb rc rd)), .second, .val (.long ((0 : Int64) + ((own_m4 ra rb rc rd) - ((4 : Int64) * (ra + rb))))), .second, .val (.long (0 : Int64)), .second, .val (.int (0 : Int32)), .val (.int (1 : Int32))] [])) _
    exact k
  obtain ⟨h1, hh1⟩ : ∃ z : Int64, z = (own_h4 (own_m4 ra rb rc rd) (0 : Int64) ra rb) := ⟨_, rfl⟩
  have pre7 : ∀ t, Steps p.tables e below (T5.setTop (mkF m 53 #[.val (.ref a1), .val (.long (own_m4 ra rb rc rd)), .second, .val (.long h1), .second, .val (.long (0 : Int64)), .second, .val (.int (0 : Int32)), .val (.int (1 : Int32))] [])) t → Steps p.tables e below (s₁.setTop (entryFrame m #[(.ref a1)] 9)) t := by rw [hh1]; exact pre6
  have pre8 : ∀ t, Steps p.tables e below (T5.setTop (mkF m 57 #[.val (.ref a1), .val (.long (own_m4 ra rb rc rd)), .second, .val (.long h1), .second, .val (.long (0 : Int64)), .second, .val (.int (0 : Int32)), .val (.int (1 : Int32))] [(.int (lcmpW h1 (0 : Int64)))])) t → Steps p.tables e below (s₁.setTop (entryFrame m #[(.ref a1)] 9)) t := by
    intro t k
    refine pre7 t ?_
    show Steps p.tables e below (T5.setTop (mkF m 53 #[.val (.ref a1), .val (.long (own_m4 ra rb rc rd)), .second, .val (.long h1), .second, .val (.long (0 : Int64)), .second, .val (.int (0 : Int32)), .val (.int (1 : Int32))] [])) _
    refine XS.lloadN X5.here hx rfl (hb hby d4_53) rfl ?_
    show Steps p.tables e below (T5.setTop (mkF m 54 #[.val (.ref a1), .val (.long (own_m4 ra rb rc rd)), .second, .val (.long h1), .second, .val (.long (0 : Int64)), .second, .val (.int (0 : Int32)), .val (.int (1 : Int32))] [(.long h1)])) _
    refine XS.lload X5.here hx rfl (hb hby d4_54) rfl ?_
    show Steps p.tables e below (T5.setTop (mkF m 56 #[.val (.ref a1), .val (.long (own_m4 ra rb rc rd)), .second, .val (.long h1), .second, .val (.long (0 : Int64)), .second, .val (.int (0 : Int32)), .val (.int (1 : Int32))] [(.long (0 : Int64)), (.long h1)])) _
    refine XS.lcmp X5.here hx rfl (hb hby d4_56) rfl ?_
    show Steps p.tables e below (T5.setTop (mkF m 57 #[.val (.ref a1), .val (.long (own_m4 ra rb rc rd)), .second, .val (.long h1), .second, .val (.long (0 : Int64)), .second, .val (.int (0 : Int32)), .val (.int (1 : Int32))] [(.int (lcmpW h1 (0 : Int64)))])) _
    exact k
  by_cases d0_0 : h1 < (0 : Int64)
  · skip
    obtain ⟨T9, X9, e9, st9⟩ := getF X5 hx hZ hown (host := "") (Or.inl (hw _ (List.mem_of_getElem? (i := 15) rfl))) Via.refl e5 F1 (g := (mkF m 19 #[.val (.ref a1), .val (.long (own_m4 ra rb rc rd)), .second, .val (.long h1), .second, .val (.long h1), .second, .val (.int (1 : Int32)), .val (.int (2 : Int32))] [(.ref a1), (.int (2 : Int32))])) rfl rfl (hb hby d4_19)
    obtain ⟨T10, X10, e10, st10⟩ := getF X9 hx hZ hown (host := "") (Or.inl (hw _ (List.mem_of_getElem? (i := 15) rfl))) Via.refl e9 F1 (g := (mkF m 28 #[.val (.ref a1), .val (.long (own_m4 ra rb rc rd)), .second, .val (.long h1), .second, .val (.long h1), .second, .val (.int (1 : Int32)), .val (.int (2 : Int32))] [(.ref a1), (.long (own_m4 ra rb rc rd)), (.long h1)])) rfl rfl (hb hby d4_28)
    obtain ⟨T11, X11, e11, st11⟩ := getF X10 hx hZ hown (host := "") (Or.inl (hw _ (List.mem_of_getElem? (i := 17) rfl))) Via.refl e10 F2 (g := (mkF m 33 #[.val (.ref a1), .val (.long (own_m4 ra rb rc rd)), .second, .val (.long h1), .second, .val (.long h1), .second, .val (.int (1 : Int32)), .val (.int (2 : Int32))] [(.ref a1), (.long (4 : Int64)), (.long (own_m4 ra rb rc rd)), (.long h1)])) rfl rfl (hb hby d4_33)
    obtain ⟨T12, X12, e12, st12⟩ := getF X11 hx hZ hown (host := "") (Or.inl (hw _ (List.mem_of_getElem? (i := 17) rfl))) Via.refl e11 F2 (g := (mkF m 42 #[.val (.ref a1), .val (.long (own_m4 ra rb rc rd)), .second, .val (.long h1), .second, .val (.long h1), .second, .val (.int (1 : Int32)), .val (.int (2 : Int32))] [(.ref a1), (.long rb), (.long (4 : Int64)), (.long (own_m4 ra rb rc rd)), (.long h1)])) rfl rfl (hb hby d4_42)
    have pre13 : ∀ t, Steps p.tables e below (T12.setTop (mkF m 53 #[.val (.ref a1), .val (.long (own_m4 ra rb rc rd)), .second, .val (.long (h1 + ((own_m4 ra rb rc rd) - ((4 : Int64) * (rb + rc))))), .second, .val (.long h1), .second, .val (.int (1 : Int32)), .val (.int (2 : Int32))] [])) t → Steps p.tables e below (s₁.setTop (entryFrame m #[(.ref a1)] 9)) t := by
      intro t k
      refine pre8 t ?_
      refine XS.ifNo X5.here hx rfl (hb hby d4_57) rfl ((if0 _ _).trans (tlt ((lw_lt h1 (0 : Int64)).mpr d0_0)).2.1) ?_
      show Steps p.tables e below (T5.setTop (mkF m 60 #[.val (.ref a1), .val (.long (own_m4 ra rb rc rd)), .second, .val (.long h1), .second, .val (.long (0 : Int64)), .second, .val (.int (0 : Int32)), .val (.int (1 : Int32))] [])) _
      refine XS.lloadN X5.here hx rfl (hb hby d4_60) rfl ?_
      show Steps p.tables e below (T5.setTop (mkF m 61 #[.val (.ref a1), .val (.long (own_m4 ra rb rc rd)), .second, .val (.long h1), .second, .val (.long (0 : Int64)), .second, .val (.int (0 : Int32)), .val (.int (1 : Int32))] [(.long h1)])) _
      refine XS.lstore X5.here hx rfl (hb hby d4_61) rfl (l' := #[.val (.ref a1), .val (.long (own_m4 ra rb rc rd)), .second, .val (.long h1), .second, .val (.long h1), .second, .val (.int (0 : Int32)), .val (.int (1 : Int32))]) rfl ?_
      show Steps p.tables e below (T5.setTop (mkF m 63 #[.val (.ref a1), .val (.long (own_m4 ra rb rc rd)), .second, .val (.long h1), .second, .val (.long h1), .second, .val (.int (0 : Int32)), .val (.int (1 : Int32))] [])) _
      refine XS.iload X5.here hx rfl (hb hby d4_63) rfl ?_
      show Steps p.tables e below (T5.setTop (mkF m 65 #[.val (.ref a1), .val (.long (own_m4 ra rb rc rd)), .second, .val (.long h1), .second, .val (.long h1), .second, .val (.int (0 : Int32)), .val (.int (1 : Int32))] [(.int (1 : Int32))])) _
      refine XS.istore X5.here hx rfl (hb hby d4_65) rfl (l' := #[.val (.ref a1), .val (.long (own_m4 ra rb rc rd)), .second, .val (.long h1), .second, .val (.long h1), .second, .val (.int (1 : Int32)), .val (.int (1 : Int32))]) rfl ?_
      show Steps p.tables e below (T5.setTop (mkF m 67 #[.val (.ref a1), .val (.long (own_m4 ra rb rc rd)), .second, .val (.long h1), .second, .val (.long h1), .second, .val (.int (1 : Int32)), .val (.int (1 : Int32))] [])) _
      refine XS.iinc X5.here hx rfl (hb hby d4_67) rfl (l' := #[.val (.ref a1), .val (.long (own_m4 ra rb rc rd)), .second, .val (.long h1), .second, .val (.long h1), .second, .val (.int (1 : Int32)), .val (.int (2 : Int32))]) rfl ?_
      show Steps p.tables e below (T5.setTop (mkF m 70 #[.val (.ref a1), .val (.long (own_m4 ra rb rc rd)), .second, .val (.long h1), .second, .val (.long h1), .second, .val (.int (1 : Int32)), .val (.int (2 : Int32))] [])) _
      refine XS.goto X5.here hx rfl (pc0 := 70) (pc' := 16) rfl (hb hby d4_70) (by decide) (by decide) ?_
      show Steps p.tables e below (T5.setTop (mkF m 16 #[.val (.ref a1), .val (.long (own_m4 ra rb rc rd)), .second, .val (.long h1), .second, .val (.long h1), .second, .val (.int (1 : Int32)), .val (.int (2 : Int32))] [])) _
      refine XS.iload X5.here hx rfl (hb hby d4_16) rfl ?_
      show Steps p.tables e below (T5.setTop (mkF m 18 #[.val (.ref a1), .val (.long (own_m4 ra rb rc rd)), .second, .val (.long h1), .second, .val (.long h1), .second, .val (.int (1 : Int32)), .val (.int (2 : Int32))] [(.int (2 : Int32))])) _
      refine XS.aloadN X5.here hx rfl (hb hby d4_18) rfl (rfl) ?_
      show Steps p.tables e below (T5.setTop (mkF m 19 #[.val (.ref a1), .val (.long (own_m4 ra rb rc rd)), .second, .val (.long h1), .second, .val (.long h1), .second, .val (.int (1 : Int32)), .val (.int (2 : Int32))] [(.ref a1), (.int (2 : Int32))])) _
      refine st9 _ ?_
      show Steps p.tables e below (T9.setTop (mkF m 22 #[.val (.ref a1), .val (.long (own_m4 ra rb rc rd)), .second, .val (.long h1), .second, .val (.long h1), .second, .val (.int (1 : Int32)), .val (.int (2 : Int32))] [(.int (4 : Int32)), (.int (2 : Int32))])) _
      refine XS.icmpNo X9.here hx rfl (hb hby d4_22) rfl (tlt (by decide : (2 : Int32) < (4 : Int32))).2.1 ?_
      show Steps p.tables e below (T9.setTop (mkF m 25 #[.val (.ref a1), .val (.long (own_m4 ra rb rc rd)), .second, .val (.long h1), .second, .val (.long h1), .second, .val (.int (1 : Int32)), .val (.int (2 : Int32))] [])) _
      refine XS.lloadN X9.here hx rfl (hb hby d4_25) rfl ?_
      show Steps p.tables e below (T9.setTop (mkF m 26 #[.val (.ref a1), .val (.long (own_m4 ra rb rc rd)), .second, .val (.long h1), .second, .val (.long h1), .second, .val (.int (1 : Int32)), .val (.int (2 : Int32))] [(.long h1)])) _
      refine XS.lloadN X9.here hx rfl (hb hby d4_26) rfl ?_
      show Steps p.tables e below (T9.setTop (mkF m 27 #[.val (.ref a1), .val (.long (own_m4 ra rb rc rd)), .second, .val (.long h1), .second, .val (.long h1), .second, .val (.int (1 : Int32)), .val (.int (2 : Int32))] [(.long (own_m4 ra rb rc rd)), (.long h1)])) _
      refine XS.aloadN X9.here hx rfl (hb hby d4_27) rfl (rfl) ?_
      show Steps p.tables e below (T9.setTop (mkF m 28 #[.val (.ref a1), .val (.long (own_m4 ra rb rc rd)), .second, .val (.long h1), .second, .val (.long h1), .second, .val (.int (1 : Int32)), .val (.int (2 : Int32))] [(.ref a1), (.long (own_m4 ra rb rc rd)), (.long h1)])) _
      refine st10 _ ?_
      show Steps p.tables e below (T10.setTop (mkF m 31 #[.val (.ref a1), .val (.long (own_m4 ra rb rc rd)), .second, .val (.long h1), .second, .val (.long h1), .second, .val (.int (1 : Int32)), .val (.int (2 : Int32))] [(.int (4 : Int32)), (.long (own_m4 ra rb rc rd)), (.long h1)])) _
      refine XS.i2l X10.here hx rfl (hb hby d4_31) rfl ?_
      show Steps p.tables e below (T10.setTop (mkF m 32 #[.val (.ref a1), .val (.long (own_m4 ra rb rc rd)), .second, .val (.long h1), .second, .val (.long h1), .second, .val (.int (1 : Int32)), .val (.int (2 : Int32))] [(.long (4 : Int64)), (.long (own_m4 ra rb rc rd)), (.long h1)])) _
      refine XS.aloadN X10.here hx rfl (hb hby d4_32) rfl (rfl) ?_
      show Steps p.tables e below (T10.setTop (mkF m 33 #[.val (.ref a1), .val (.long (own_m4 ra rb rc rd)), .second, .val (.long h1), .second, .val (.long h1), .second, .val (.int (1 : Int32)), .val (.int (2 : Int32))] [(.ref a1), (.long (4 : Int64)), (.long (own_m4 ra rb rc rd)), (.long h1)])) _
      refine st11 _ ?_
      show Steps p.tables e below (T11.setTop (mkF m 36 #[.val (.ref a1), .val (.long (own_m4 ra rb rc rd)), .second, .val (.long h1), .second, .val (.long h1), .second, .val (.int (1 : Int32)), .val (.int (2 : Int32))] [(.ref a2), (.long (4 : Int64)), (.long (own_m4 ra rb rc rd)), (.long h1)])) _
      refine XS.iload X11.here hx rfl (hb hby d4_36) rfl ?_
      show Steps p.tables e below (T11.setTop (mkF m 38 #[.val (.ref a1), .val (.long (own_m4 ra rb rc rd)), .second, .val (.long h1), .second, .val (.long h1), .second, .val (.int (1 : Int32)), .val (.int (2 : Int32))] [(.int (2 : Int32)), (.ref a2), (.long (4 : Int64)), (.long (own_m4 ra rb rc rd)), (.long h1)])) _
      refine XS.iconst X11.here hx rfl (hb hby d4_38) ?_
      show Steps p.tables e below (T11.setTop (mkF m 39 #[.val (.ref a1), .val (.long (own_m4 ra rb rc rd)), .second, .val (.long h1), .second, .val (.long h1), .second, .val (.int (1 : Int32)), .val (.int (2 : Int32))] [(.int (1 : Int32)), (.int (2 : Int32)), (.ref a2), (.long (4 : Int64)), (.long (own_m4 ra rb rc rd)), (.long h1)])) _
      refine XS.isub X11.here hx rfl (hb hby d4_39) rfl ?_
      show Steps p.tables e below (T11.setTop (mkF m 40 #[.val (.ref a1), .val (.long (own_m4 ra rb rc rd)), .second, .val (.long h1), .second, .val (.long h1), .second, .val (.int (1 : Int32)), .val (.int (2 : Int32))] [(.int (1 : Int32)), (.ref a2), (.long (4 : Int64)), (.long (own_m4 ra rb rc rd)), (.long h1)])) _
      refine X11.laload hx (j := (1 : Int32)) (v := (.long rb)) (by rw [e11]; exact Ar.1) (State.isArrayOf_alike hZ.alike Ar.2.1) Ar.2.2 (inb_of Sz ⟨by decide, by decide⟩) t1 (g := (mkF m 40 #[.val (.ref a1), .val (.long (own_m4 ra rb rc rd)), .second, .val (.long h1), .second, .val (.long h1), .second, .val (.int (1 : Int32)), .val (.int (2 : Int32))] [(.int (1 : Int32)), (.ref a2), (.long (4 : Int64)), (.long (own_m4 ra rb rc rd)), (.long h1)])) rfl rfl (hb hby d4_40) _ ?_
      show Steps p.tables e below (T11.setTop (mkF m 41 #[.val (.ref a1), .val (.long (own_m4 ra rb rc rd)), .second, .val (.long h1), .second, .val (.long h1), .second, .val (.int (1 : Int32)), .val (.int (2 : Int32))] [(.long rb), (.long (4 : Int64)), (.long (own_m4 ra rb rc rd)), (.long h1)])) _
      refine XS.aloadN X11.here hx rfl (hb hby d4_41) rfl (rfl) ?_
      show Steps p.tables e below (T11.setTop (mkF m 42 #[.val (.ref a1), .val (.long (own_m4 ra rb rc rd)), .second, .val (.long h1), .second, .val (.long h1), .second, .val (.int (1 : Int32)), .val (.int (2 : Int32))] [(.ref a1), (.long rb), (.long (4 : Int64)), (.long (own_m4 ra rb rc rd)), (.long h1)])) _
      refine st12 _ ?_
      show Steps p.tables e below (T12.setTop (mkF m 45 #[.val (.ref a1), .val (.long (own_m4 ra rb rc rd)), .second, .val (.long h1), .second, .val (.long h1), .second, .val (.int (1 : Int32)), .val (.int (2 : Int32))] [(.ref a2), (.long rb), (.long (4 : Int64)), (.long (own_m4 ra rb rc rd)), (.long h1)])) _
      refine XS.iload X12.here hx rfl (hb hby d4_45) rfl ?_
      show Steps p.tables e below (T12.setTop (mkF m 47 #[.val (.ref a1), .val (.long (own_m4 ra rb rc rd)), .second, .val (.long h1), .second, .val (.long h1), .second, .val (.int (1 : Int32)), .val (.int (2 : Int32))] [(.int (2 : Int32)), (.ref a2), (.long rb), (.long (4 : Int64)), (.long (own_m4 ra rb rc rd)), (.long h1)])) _
      refine X12.laload hx (j := (2 : Int32)) (v := (.long rc)) (by rw [e12]; exact Ar.1) (State.isArrayOf_alike hZ.alike Ar.2.1) Ar.2.2 (inb_of Sz ⟨by decide, by decide⟩) t2 (g := (mkF m 47 #[.val (.ref a1), .val (.long (own_m4 ra rb rc rd)), .second, .val (.long h1), .second, .val (.long h1), .second, .val (.int (1 : Int32)), .val (.int (2 : Int32))] [(.int (2 : Int32)), (.ref a2), (.long rb), (.long (4 : Int64)), (.long (own_m4 ra rb rc rd)), (.long h1)])) rfl rfl (hb hby d4_47) _ ?_
      show Steps p.tables e below (T12.setTop (mkF m 48 #[.val (.ref a1), .val (.long (own_m4 ra rb rc rd)), .second, .val (.long h1), .second, .val (.long h1), .second, .val (.int (1 : Int32)), .val (.int (2 : Int32))] [(.long rc), (.long rb), (.long (4 : Int64)), (.long (own_m4 ra rb rc rd)), (.long h1)])) _
      refine XS.ladd X12.here hx rfl (hb hby d4_48) rfl ?_
      show Steps p.tables e below (T12.setTop (mkF m 49 #[.val (.ref a1), .val (.long (own_m4 ra rb rc rd)), .second, .val (.long h1), .second, .val (.long h1), .second, .val (.int (1 : Int32)), .val (.int (2 : Int32))] [(.long (rb + rc)), (.long (4 : Int64)), (.long (own_m4 ra rb rc rd)), (.long h1)])) _
      refine XS.lmul X12.here hx rfl (hb hby d4_49) rfl ?_
      show Steps p.tables e below (T12.setTop (mkF m 50 #[.val (.ref a1), .val (.long (own_m4 ra rb rc rd)), .second, .val (.long h1), .second, .val (.long h1), .second, .val (.int (1 : Int32)), .val (.int (2 : Int32))] [(.long ((4 : Int64) * (rb + rc))), (.long (own_m4 ra rb rc rd)), (.long h1)])) _
      refine XS.lsub X12.here hx rfl (hb hby d4_50) rfl ?_
      show Steps p.tables e below (T12.setTop (mkF m 51 #[.val (.ref a1), .val (.long (own_m4 ra rb rc rd)), .second, .val (.long h1), .second, .val (.long h1), .second, .val (.int (1 : Int32)), .val (.int (2 : Int32))] [(.long ((own_m4 ra rb rc rd) - ((4 : Int64) * (rb + rc)))), (.long h1)])) _
      refine XS.ladd X12.here hx rfl (hb hby d4_51) rfl ?_
      show Steps p.tables e below (T12.setTop (mkF m 52 #[.val (.ref a1), .val (.long (own_m4 ra rb rc rd)), .second, .val (.long h1), .second, .val (.long h1), .second, .val (.int (1 : Int32)), .val (.int (2 : Int32))] [(.long (h1 + ((own_m4 ra rb rc rd) - ((4 : Int64) * (rb + rc)))))])) _
      refine XS.lstoreN X12.here hx rfl (hb hby d4_52) rfl (l' := #[.val (.ref a1), .val (.long (own_m4 ra rb rc rd)), .second, .val (.long (h1 + ((own_m4 ra rb rc rd) - ((4 : Int64) * (rb + rc))))), .second, .val (.long h1), .second, .val (.int (1 : Int32)), .val (.int (2 : Int32))]) rfl ?_
      show Steps p.tables e below (T12.setTop (mkF m 53 #[.val (.ref a1), .val (.long (own_m4 ra rb rc rd)), .second, .val (.long (h1 + ((own_m4 ra rb rc rd) - ((4 : Int64) * (rb + rc))))), .second, .val (.long h1), .second, .val (.int (1 : Int32)), .val (.int (2 : Int32))] [])) _
      exact k
    obtain ⟨h2, hh2⟩ : ∃ z : Int64, z = (own_h4 (own_m4 ra rb rc rd) h1 rb rc) := ⟨_, rfl⟩
    have pre14 : ∀ t, Steps p.tables e below (T12.setTop (mkF m 53 #[.val (.ref a1), .val (.long (own_m4 ra rb rc rd)), .second, .val (.long h2), .second, .val (.long h1), .second, .val (.int (1 : Int32)), .val (.int (2 : Int32))] [])) t → Steps p.tables e below (s₁.setTop (entryFrame m #[(.ref a1)] 9)) t := by rw [hh2]; exact pre13
    have pre15 : ∀ t, Steps p.tables e below (T12.setTop (mkF m 57 #[.val (.ref a1), .val (.long (own_m4 ra rb rc rd)), .second, .val (.long h2), .second, .val (.long h1), .second, .val (.int (1 : Int32)), .val (.int (2 : Int32))] [(.int (lcmpW h2 h1))])) t → Steps p.tables e below (s₁.setTop (entryFrame m #[(.ref a1)] 9)) t := by
      intro t k
      refine pre14 t ?_
      show Steps p.tables e below (T12.setTop (mkF m 53 #[.val (.ref a1), .val (.long (own_m4 ra rb rc rd)), .second, .val (.long h2), .second, .val (.long h1), .second, .val (.int (1 : Int32)), .val (.int (2 : Int32))] [])) _
      refine XS.lloadN X12.here hx rfl (hb hby d4_53) rfl ?_
      show Steps p.tables e below (T12.setTop (mkF m 54 #[.val (.ref a1), .val (.long (own_m4 ra rb rc rd)), .second, .val (.long h2), .second, .val (.long h1), .second, .val (.int (1 : Int32)), .val (.int (2 : Int32))] [(.long h2)])) _
      refine XS.lload X12.here hx rfl (hb hby d4_54) rfl ?_
      show Steps p.tables e below (T12.setTop (mkF m 56 #[.val (.ref a1), .val (.long (own_m4 ra rb rc rd)), .second, .val (.long h2), .second, .val (.long h1), .second, .val (.int (1 : Int32)), .val (.int (2 : Int32))] [(.long h1), (.long h2)])) _
      refine XS.lcmp X12.here hx rfl (hb hby d4_56) rfl ?_
      show Steps p.tables e below (T12.setTop (mkF m 57 #[.val (.ref a1), .val (.long (own_m4 ra rb rc rd)), .second, .val (.long h2), .second, .val (.long h1), .second, .val (.int (1 : Int32)), .val (.int (2 : Int32))] [(.int (lcmpW h2 h1))])) _
      exact k
    by_cases d1_1 : h2 < h1
    · skip
      obtain ⟨T16, X16, e16, st16⟩ := getF X12 hx hZ hown (host := "") (Or.inl (hw _ (List.mem_of_getElem? (i := 15) rfl))) Via.refl e12 F1 (g := (mkF m 19 #[.val (.ref a1), .val (.long (own_m4 ra rb rc rd)), .second, .val (.long h2), .second, .val (.long h2), .second, .val (.int (2 : Int32)), .val (.int (3 : Int32))] [(.ref a1), (.int (3 : Int32))])) rfl rfl (hb hby d4_19)
      obtain ⟨T17, X17, e17, st17⟩ := getF X16 hx hZ hown (host := "") (Or.inl (hw _ (List.mem_of_getElem? (i := 15) rfl))) Via.refl e16 F1 (g := (mkF m 28 #[.val (.ref a1), .val (.long (own_m4 ra rb rc rd)), .second, .val (.long h2), .second, .val (.long h2), .second, .val (.int (2 : Int32)), .val (.int (3 : Int32))] [(.ref a1), (.long (own_m4 ra rb rc rd)), (.long h2)])) rfl rfl (hb hby d4_28)
      obtain ⟨T18, X18, e18, st18⟩ := getF X17 hx hZ hown (host := "") (Or.inl (hw _ (List.mem_of_getElem? (i := 17) rfl))) Via.refl e17 F2 (g := (mkF m 33 #[.val (.ref a1), .val (.long (own_m4 ra rb rc rd)), .second, .val (.long h2), .second, .val (.long h2), .second, .val (.int (2 : Int32)), .val (.int (3 : Int32))] [(.ref a1), (.long (4 : Int64)), (.long (own_m4 ra rb rc rd)), (.long h2)])) rfl rfl (hb hby d4_33)
      obtain ⟨T19, X19, e19, st19⟩ := getF X18 hx hZ hown (host := "") (Or.inl (hw _ (List.mem_of_getElem? (i := 17) rfl))) Via.refl e18 F2 (g := (mkF m 42 #[.val (.ref a1), .val (.long (own_m4 ra rb rc rd)), .second, .val (.long h2), .second, .val (.long h2), .second, .val (.int (2 : Int32)), .val (.int (3 : Int32))] [(.ref a1), (.long rc), (.long (4 : Int64)), (.long (own_m4 ra rb rc rd)), (.long h2)])) rfl rfl (hb hby d4_42)
      have pre20 : ∀ t, Steps p.tables e below (T19.setTop (mkF m 53 #[.val (.ref a1), .val (.long (own_m4 ra rb rc rd)), .second, .val (.long (h2 + ((own_m4 ra rb rc rd) - ((4 : Int64) * (rc + rd))))), .second, .val (.long h2), .second, .val (.int (2 : Int32)), .val (.int (3 : Int32))] [])) t → Steps p.tables e below (s₁.setTop (entryFrame m #[(.ref a1)] 9)) t := by
        intro t k
        refine pre15 t ?_
        refine XS.ifNo X12.here hx rfl (hb hby d4_57) rfl ((if0 _ _).trans (tlt ((lw_lt h2 h1).mpr d1_1)).2.1) ?_
        show Steps p.tables e below (T12.setTop (mkF m 60 #[.val (.ref a1), .val (.long (own_m4 ra rb rc rd)), .second, .val (.long h2), .second, .val (.long h1), .second, .val (.int (1 : Int32)), .val (.int (2 : Int32))] [])) _
        refine XS.lloadN X12.here hx rfl (hb hby d4_60) rfl ?_
        show Steps p.tables e below (T12.setTop (mkF m 61 #[.val (.ref a1), .val (.long (own_m4 ra rb rc rd)), .second, .val (.long h2), .second, .val (.long h1), .second, .val (.int (1 : Int32)), .val (.int (2 : Int32))] [(.long h2)])) _
        refine XS.lstore X12.here hx rfl (hb hby d4_61) rfl (l' := #[.val (.ref a1), .val (.long (own_m4 ra rb rc rd)), .second, .val (.long h2), .second, .val (.long h2), .second, .val (.int (1 : Int32)), .val (.int (2 : Int32))]) rfl ?_
        show Steps p.tables e below (T12.setTop (mkF m 63 #[.val (.ref a1), .val (.long (own_m4 ra rb rc rd)), .second, .val (.long h2), .second, .val (.long h2), .second, .val (.int (1 : Int32)), .val (.int (2 : Int32))] [])) _
        refine XS.iload X12.here hx rfl (hb hby d4_63) rfl ?_
        show Steps p.tables e below (T12.setTop (mkF m 65 #[.val (.ref a1), .val (.long (own_m4 ra rb rc rd)), .second, .val (.long h2), .second, .val (.long h2), .second, .val (.int (1 : Int32)), .val (.int (2 : Int32))] [(.int (2 : Int32))])) _
        refine XS.istore X12.here hx rfl (hb hby d4_65) rfl (l' := #[.val (.ref a1), .val (.long (own_m4 ra rb rc rd)), .second, .val (.long h2), .second, .val (.long h2), .second, .val (.int (2 : Int32)), .val (.int (2 : Int32))]) rfl ?_
        show Steps p.tables e below (T12.setTop (mkF m 67 #[.val (.ref a1), .val (.long (own_m4 ra rb rc rd)), .second, .val (.long h2), .second, .val (.long h2), .second, .val (.int (2 : Int32)), .val (.int (2 : Int32))] [])) _
        refine XS.iinc X12.here hx rfl (hb hby d4_67) rfl (l' := #[.val (.ref a1), .val (.long (own_m4 ra rb rc rd)), .second, .val (.long h2), .second, .val (.long h2), .second, .val (.int (2 : Int32)), .val (.int (3 : Int32))]) rfl ?_
        show Steps p.tables e below (T12.setTop (mkF m 70 #[.val (.ref a1), .val (.long (own_m4 ra rb rc rd)), .second, .val (.long h2), .second, .val (.long h2), .second, .val (.int (2 : Int32)), .val (.int (3 : Int32))] [])) _
        refine XS.goto X12.here hx rfl (pc0 := 70) (pc' := 16) rfl (hb hby d4_70) (by decide) (by decide) ?_
        show Steps p.tables e below (T12.setTop (mkF m 16 #[.val (.ref a1), .val (.long (own_m4 ra rb rc rd)), .second, .val (.long h2), .second, .val (.long h2), .second, .val (.int (2 : Int32)), .val (.int (3 : Int32))] [])) _
        refine XS.iload X12.here hx rfl (hb hby d4_16) rfl ?_
        show Steps p.tables e below (T12.setTop (mkF m 18 #[.val (.ref a1), .val (.long (own_m4 ra rb rc rd)), .second, .val (.long h2), .second, .val (.long h2), .second, .val (.int (2 : Int32)), .val (.int (3 : Int32))] [(.int (3 : Int32))])) _
        refine XS.aloadN X12.here hx rfl (hb hby d4_18) rfl (rfl) ?_
        show Steps p.tables e below (T12.setTop (mkF m 19 #[.val (.ref a1), .val (.long (own_m4 ra rb rc rd)), .second, .val (.long h2), .second, .val (.long h2), .second, .val (.int (2 : Int32)), .val (.int (3 : Int32))] [(.ref a1), (.int (3 : Int32))])) _
        refine st16 _ ?_
        show Steps p.tables e below (T16.setTop (mkF m 22 #[.val (.ref a1), .val (.long (own_m4 ra rb rc rd)), .second, .val (.long h2), .second, .val (.long h2), .second, .val (.int (2 : Int32)), .val (.int (3 : Int32))] [(.int (4 : Int32)), (.int (3 : Int32))])) _
        refine XS.icmpNo X16.here hx rfl (hb hby d4_22) rfl (tlt (by decide : (3 : Int32) < (4 : Int32))).2.1 ?_
        show Steps p.tables e below (T16.setTop (mkF m 25 #[.val (.ref a1), .val (.long (own_m4 ra rb rc rd)), .second, .val (.long h2), .second, .val (.long h2), .second, .val (.int (2 : Int32)), .val (.int (3 : Int32))] [])) _
        refine XS.lloadN X16.here hx rfl (hb hby d4_25) rfl ?_
        show Steps p.tables e below (T16.setTop (mkF m 26 #[.val (.ref a1), .val (.long (own_m4 ra rb rc rd)), .second, .val (.long h2), .second, .val (.long h2), .second, .val (.int (2 : Int32)), .val (.int (3 : Int32))] [(.long h2)])) _
        refine XS.lloadN X16.here hx rfl (hb hby d4_26) rfl ?_
        show Steps p.tables e below (T16.setTop (mkF m 27 #[.val (.ref a1), .val (.long (own_m4 ra rb rc rd)), .second, .val (.long h2), .second, .val (.long h2), .second, .val (.int (2 : Int32)), .val (.int (3 : Int32))] [(.long (own_m4 ra rb rc rd)), (.long h2)])) _
        refine XS.aloadN X16.here hx rfl (hb hby d4_27) rfl (rfl) ?_
        show Steps p.tables e below (T16.setTop (mkF m 28 #[.val (.ref a1), .val (.long (own_m4 ra rb rc rd)), .second, .val (.long h2), .second, .val (.long h2), .second, .val (.int (2 : Int32)), .val (.int (3 : Int32))] [(.ref a1), (.long (own_m4 ra rb rc rd)), (.long h2)])) _
        refine st17 _ ?_
        show Steps p.tables e below (T17.setTop (mkF m 31 #[.val (.ref a1), .val (.long (own_m4 ra rb rc rd)), .second, .val (.long h2), .second, .val (.long h2), .second, .val (.int (2 : Int32)), .val (.int (3 : Int32))] [(.int (4 : Int32)), (.long (own_m4 ra rb rc rd)), (.long h2)])) _
        refine XS.i2l X17.here hx rfl (hb hby d4_31) rfl ?_
        show Steps p.tables e below (T17.setTop (mkF m 32 #[.val (.ref a1), .val (.long (own_m4 ra rb rc rd)), .second, .val (.long h2), .second, .val (.long h2), .second, .val (.int (2 : Int32)), .val (.int (3 : Int32))] [(.long (4 : Int64)), (.long (own_m4 ra rb rc rd)), (.long h2)])) _
        refine XS.aloadN X17.here hx rfl (hb hby d4_32) rfl (rfl) ?_
        show Steps p.tables e below (T17.setTop (mkF m 33 #[.val (.ref a1), .val (.long (own_m4 ra rb rc rd)), .second, .val (.long h2), .second, .val (.long h2), .second, .val (.int (2 : Int32)), .val (.int (3 : Int32))] [(.ref a1), (.long (4 : Int64)), (.long (own_m4 ra rb rc rd)), (.long h2)])) _
        refine st18 _ ?_
        show Steps p.tables e below (T18.setTop (mkF m 36 #[.val (.ref a1), .val (.long (own_m4 ra rb rc rd)), .second, .val (.long h2), .second, .val (.long h2), .second, .val (.int (2 : Int32)), .val (.int (3 : Int32))] [(.ref a2), (.long (4 : Int64)), (.long (own_m4 ra rb rc rd)), (.long h2)])) _
        refine XS.iload X18.here hx rfl (hb hby d4_36) rfl ?_
        show Steps p.tables e below (T18.setTop (mkF m 38 #[.val (.ref a1), .val (.long (own_m4 ra rb rc rd)), .second, .val (.long h2), .second, .val (.long h2), .second, .val (.int (2 : Int32)), .val (.int (3 : Int32))] [(.int (3 : Int32)), (.ref a2), (.long (4 : Int64)), (.long (own_m4 ra rb rc rd)), (.long h2)])) _
        refine XS.iconst X18.here hx rfl (hb hby d4_38) ?_
        show Steps p.tables e below (T18.setTop (mkF m 39 #[.val (.ref a1), .val (.long (own_m4 ra rb rc rd)), .second, .val (.long h2), .second, .val (.long h2), .second, .val (.int (2 : Int32)), .val (.int (3 : Int32))] [(.int (1 : Int32)), (.int (3 : Int32)), (.ref a2), (.long (4 : Int64)), (.long (own_m4 ra rb rc rd)), (.long h2)])) _
        refine XS.isub X18.here hx rfl (hb hby d4_39) rfl ?_
        show Steps p.tables e below (T18.setTop (mkF m 40 #[.val (.ref a1), .val (.long (own_m4 ra rb rc rd)), .second, .val (.long h2), .second, .val (.long h2), .second, .val (.int (2 : Int32)), .val (.int (3 : Int32))] [(.int (2 : Int32)), (.ref a2), (.long (4 : Int64)), (.long (own_m4 ra rb rc rd)), (.long h2)])) _
        refine X18.laload hx (j := (2 : Int32)) (v := (.long rc)) (by rw [e18]; exact Ar.1) (State.isArrayOf_alike hZ.alike Ar.2.1) Ar.2.2 (inb_of Sz ⟨by decide, by decide⟩) t2 (g := (mkF m 40 #[.val (.ref a1), .val (.long (own_m4 ra rb rc rd)), .second, .val (.long h2), .second, .val (.long h2), .second, .val (.int (2 : Int32)), .val (.int (3 : Int32))] [(.int (2 : Int32)), (.ref a2), (.long (4 : Int64)), (.long (own_m4 ra rb rc rd)), (.long h2)])) rfl rfl (hb hby d4_40) _ ?_
        show Steps p.tables e below (T18.setTop (mkF m 41 #[.val (.ref a1), .val (.long (own_m4 ra rb rc rd)), .second, .val (.long h2), .second, .val (.long h2), .second, .val (.int (2 : Int32)), .val (.int (3 : Int32))] [(.long rc), (.long (4 : Int64)), (.long (own_m4 ra rb rc rd)), (.long h2)])) _
        refine XS.aloadN X18.here hx rfl (hb hby d4_41) rfl (rfl) ?_
        show Steps p.tables e below (T18.setTop (mkF m 42 #[.val (.ref a1), .val (.long (own_m4 ra rb rc rd)), .second, .val (.long h2), .second, .val (.long h2), .second, .val (.int (2 : Int32)), .val (.int (3 : Int32))] [(.ref a1), (.long rc), (.long (4 : Int64)), (.long (own_m4 ra rb rc rd)), (.long h2)])) _
        refine st19 _ ?_
        show Steps p.tables e below (T19.setTop (mkF m 45 #[.val (.ref a1), .val (.long (own_m4 ra rb rc rd)), .second, .val (.long h2), .second, .val (.long h2), .second, .val (.int (2 : Int32)), .val (.int (3 : Int32))] [(.ref a2), (.long rc), (.long (4 : Int64)), (.long (own_m4 ra rb rc rd)), (.long h2)])) _
        refine XS.iload X19.here hx rfl (hb hby d4_45) rfl ?_
        show Steps p.tables e below (T19.setTop (mkF m 47 #[.val (.ref a1), .val (.long (own_m4 ra rb rc rd)), .second, .val (.long h2), .second, .val (.long h2), .second, .val (.int (2 : Int32)), .val (.int (3 : Int32))] [(.int (3 : Int32)), (.ref a2), (.long rc), (.long (4 : Int64)), (.long (own_m4 ra rb rc rd)), (.long h2)])) _
        refine X19.laload hx (j := (3 : Int32)) (v := (.long rd)) (by rw [e19]; exact Ar.1) (State.isArrayOf_alike hZ.alike Ar.2.1) Ar.2.2 (inb_of Sz ⟨by decide, by decide⟩) t3 (g := (mkF m 47 #[.val (.ref a1), .val (.long (own_m4 ra rb rc rd)), .second, .val (.long h2), .second, .val (.long h2), .second, .val (.int (2 : Int32)), .val (.int (3 : Int32))] [(.int (3 : Int32)), (.ref a2), (.long rc), (.long (4 : Int64)), (.long (own_m4 ra rb rc rd)), (.long h2)])) rfl rfl (hb hby d4_47) _ ?_
        show Steps p.tables e below (T19.setTop (mkF m 48 #[.val (.ref a1), .val (.long (own_m4 ra rb rc rd)), .second, .val (.long h2), .second, .val (.long h2), .second, .val (.int (2 : Int32)), .val (.int (3 : Int32))] [(.long rd), (.long rc), (.long (4 : Int64)), (.long (own_m4 ra rb rc rd)), (.long h2)])) _
        refine XS.ladd X19.here hx rfl (hb hby d4_48) rfl ?_
        show Steps p.tables e below (T19.setTop (mkF m 49 #[.val (.ref a1), .val (.long (own_m4 ra rb rc rd)), .second, .val (.long h2), .second, .val (.long h2), .second, .val (.int (2 : Int32)), .val (.int (3 : Int32))] [(.long (rc + rd)), (.long (4 : Int64)), (.long (own_m4 ra rb rc rd)), (.long h2)])) _
        refine XS.lmul X19.here hx rfl (hb hby d4_49) rfl ?_
        show Steps p.tables e below (T19.setTop (mkF m 50 #[.val (.ref a1), .val (.long (own_m4 ra rb rc rd)), .second, .val (.long h2), .second, .val (.long h2), .second, .val (.int (2 : Int32)), .val (.int (3 : Int32))] [(.long ((4 : Int64) * (rc + rd))), (.long (own_m4 ra rb rc rd)), (.long h2)])) _
        refine XS.lsub X19.here hx rfl (hb hby d4_50) rfl ?_
        show Steps p.tables e below (T19.setTop (mkF m 51 #[.val (.ref a1), .val (.long (own_m4 ra rb rc rd)), .second, .val (.long h2), .second, .val (.long h2), .second, .val (.int (2 : Int32)), .val (.int (3 : Int32))] [(.long ((own_m4 ra rb rc rd) - ((4 : Int64) * (rc + rd)))), (.long h2)])) _
        refine XS.ladd X19.here hx rfl (hb hby d4_51) rfl ?_
        show Steps p.tables e below (T19.setTop (mkF m 52 #[.val (.ref a1), .val (.long (own_m4 ra rb rc rd)), .second, .val (.long h2), .second, .val (.long h2), .second, .val (.int (2 : Int32)), .val (.int (3 : Int32))] [(.long (h2 + ((own_m4 ra rb rc rd) - ((4 : Int64) * (rc + rd)))))])) _
        refine XS.lstoreN X19.here hx rfl (hb hby d4_52) rfl (l' := #[.val (.ref a1), .val (.long (own_m4 ra rb rc rd)), .second, .val (.long (h2 + ((own_m4 ra rb rc rd) - ((4 : Int64) * (rc + rd))))), .second, .val (.long h2), .second, .val (.int (2 : Int32)), .val (.int (3 : Int32))]) rfl ?_
        show Steps p.tables e below (T19.setTop (mkF m 53 #[.val (.ref a1), .val (.long (own_m4 ra rb rc rd)), .second, .val (.long (h2 + ((own_m4 ra rb rc rd) - ((4 : Int64) * (rc + rd))))), .second, .val (.long h2), .second, .val (.int (2 : Int32)), .val (.int (3 : Int32))] [])) _
        exact k
      obtain ⟨h3, hh3⟩ : ∃ z : Int64, z = (own_h4 (own_m4 ra rb rc rd) h2 rc rd) := ⟨_, rfl⟩
      have pre21 : ∀ t, Steps p.tables e below (T19.setTop (mkF m 53 #[.val (.ref a1), .val (.long (own_m4 ra rb rc rd)), .second, .val (.long h3), .second, .val (.long h2), .second, .val (.int (2 : Int32)), .val (.int (3 : Int32))] [])) t → Steps p.tables e below (s₁.setTop (entryFrame m #[(.ref a1)] 9)) t := by rw [hh3]; exact pre20
      have pre22 : ∀ t, Steps p.tables e below (T19.setTop (mkF m 57 #[.val (.ref a1), .val (.long (own_m4 ra rb rc rd)), .second, .val (.long h3), .second, .val (.long h2), .second, .val (.int (2 : Int32)), .val (.int (3 : Int32))] [(.int (lcmpW h3 h2))])) t → Steps p.tables e below (s₁.setTop (entryFrame m #[(.ref a1)] 9)) t := by
        intro t k
        refine pre21 t ?_
        show Steps p.tables e below (T19.setTop (mkF m 53 #[.val (.ref a1), .val (.long (own_m4 ra rb rc rd)), .second, .val (.long h3), .second, .val (.long h2), .second, .val (.int (2 : Int32)), .val (.int (3 : Int32))] [])) _
        refine XS.lloadN X19.here hx rfl (hb hby d4_53) rfl ?_
        show Steps p.tables e below (T19.setTop (mkF m 54 #[.val (.ref a1), .val (.long (own_m4 ra rb rc rd)), .second, .val (.long h3), .second, .val (.long h2), .second, .val (.int (2 : Int32)), .val (.int (3 : Int32))] [(.long h3)])) _
        refine XS.lload X19.here hx rfl (hb hby d4_54) rfl ?_
        show Steps p.tables e below (T19.setTop (mkF m 56 #[.val (.ref a1), .val (.long (own_m4 ra rb rc rd)), .second, .val (.long h3), .second, .val (.long h2), .second, .val (.int (2 : Int32)), .val (.int (3 : Int32))] [(.long h2), (.long h3)])) _
        refine XS.lcmp X19.here hx rfl (hb hby d4_56) rfl ?_
        show Steps p.tables e below (T19.setTop (mkF m 57 #[.val (.ref a1), .val (.long (own_m4 ra rb rc rd)), .second, .val (.long h3), .second, .val (.long h2), .second, .val (.int (2 : Int32)), .val (.int (3 : Int32))] [(.int (lcmpW h3 h2))])) _
        exact k
      by_cases d2_2 : h3 < h2
      · skip
        obtain ⟨T23, X23, e23, st23⟩ := getF X19 hx hZ hown (host := "") (Or.inl (hw _ (List.mem_of_getElem? (i := 15) rfl))) Via.refl e19 F1 (g := (mkF m 19 #[.val (.ref a1), .val (.long (own_m4 ra rb rc rd)), .second, .val (.long h3), .second, .val (.long h3), .second, .val (.int (3 : Int32)), .val (.int (4 : Int32))] [(.ref a1), (.int (4 : Int32))])) rfl rfl (hb hby d4_19)
        have pre24 : ∀ t, Steps p.tables e below (T23.setTop (mkF m 75 #[.val (.ref a1), .val (.long (own_m4 ra rb rc rd)), .second, .val (.long h3), .second, .val (.long h3), .second, .val (.int (3 : Int32)), .val (.int (4 : Int32))] [(.int (3 : Int32))])) t → Steps p.tables e below (s₁.setTop (entryFrame m #[(.ref a1)] 9)) t := by
          intro t k
          refine pre22 t ?_
          refine XS.ifNo X19.here hx rfl (hb hby d4_57) rfl ((if0 _ _).trans (tlt ((lw_lt h3 h2).mpr d2_2)).2.1) ?_
          show Steps p.tables e below (T19.setTop (mkF m 60 #[.val (.ref a1), .val (.long (own_m4 ra rb rc rd)), .second, .val (.long h3), .second, .val (.long h2), .second, .val (.int (2 : Int32)), .val (.int (3 : Int32))] [])) _
          refine XS.lloadN X19.here hx rfl (hb hby d4_60) rfl ?_
          show Steps p.tables e below (T19.setTop (mkF m 61 #[.val (.ref a1), .val (.long (own_m4 ra rb rc rd)), .second, .val (.long h3), .second, .val (.long h2), .second, .val (.int (2 : Int32)), .val (.int (3 : Int32))] [(.long h3)])) _
          refine XS.lstore X19.here hx rfl (hb hby d4_61) rfl (l' := #[.val (.ref a1), .val (.long (own_m4 ra rb rc rd)), .second, .val (.long h3), .second, .val (.long h3), .second, .val (.int (2 : Int32)), .val (.int (3 : Int32))]) rfl ?_
          show Steps p.tables e below (T19.setTop (mkF m 63 #[.val (.ref a1), .val (.long (own_m4 ra rb rc rd)), .second, .val (.long h3), .second, .val (.long h3), .second, .val (.int (2 : Int32)), .val (.int (3 : Int32))] [])) _
          refine XS.iload X19.here hx rfl (hb hby d4_63) rfl ?_
          show Steps p.tables e below (T19.setTop (mkF m 65 #[.val (.ref a1), .val (.long (own_m4 ra rb rc rd)), .second, .val (.long h3), .second, .val (.long h3), .second, .val (.int (2 : Int32)), .val (.int (3 : Int32))] [(.int (3 : Int32))])) _
          refine XS.istore X19.here hx rfl (hb hby d4_65) rfl (l' := #[.val (.ref a1), .val (.long (own_m4 ra rb rc rd)), .second, .val (.long h3), .second, .val (.long h3), .second, .val (.int (3 : Int32)), .val (.int (3 : Int32))]) rfl ?_
          show Steps p.tables e below (T19.setTop (mkF m 67 #[.val (.ref a1), .val (.long (own_m4 ra rb rc rd)), .second, .val (.long h3), .second, .val (.long h3), .second, .val (.int (3 : Int32)), .val (.int (3 : Int32))] [])) _
          refine XS.iinc X19.here hx rfl (hb hby d4_67) rfl (l' := #[.val (.ref a1), .val (.long (own_m4 ra rb rc rd)), .second, .val (.long h3), .second, .val (.long h3), .second, .val (.int (3 : Int32)), .val (.int (4 : Int32))]) rfl ?_
          show Steps p.tables e below (T19.setTop (mkF m 70 #[.val (.ref a1), .val (.long (own_m4 ra rb rc rd)), .second, .val (.long h3), .second, .val (.long h3), .second, .val (.int (3 : Int32)), .val (.int (4 : Int32))] [])) _
          refine XS.goto X19.here hx rfl (pc0 := 70) (pc' := 16) rfl (hb hby d4_70) (by decide) (by decide) ?_
          show Steps p.tables e below (T19.setTop (mkF m 16 #[.val (.ref a1), .val (.long (own_m4 ra rb rc rd)), .second, .val (.long h3), .second, .val (.long h3), .second, .val (.int (3 : Int32)), .val (.int (4 : Int32))] [])) _
          refine XS.iload X19.here hx rfl (hb hby d4_16) rfl ?_
          show Steps p.tables e below (T19.setTop (mkF m 18 #[.val (.ref a1), .val (.long (own_m4 ra rb rc rd)), .second, .val (.long h3), .second, .val (.long h3), .second, .val (.int (3 : Int32)), .val (.int (4 : Int32))] [(.int (4 : Int32))])) _
          refine XS.aloadN X19.here hx rfl (hb hby d4_18) rfl (rfl) ?_
          show Steps p.tables e below (T19.setTop (mkF m 19 #[.val (.ref a1), .val (.long (own_m4 ra rb rc rd)), .second, .val (.long h3), .second, .val (.long h3), .second, .val (.int (3 : Int32)), .val (.int (4 : Int32))] [(.ref a1), (.int (4 : Int32))])) _
          refine st23 _ ?_
          show Steps p.tables e below (T23.setTop (mkF m 22 #[.val (.ref a1), .val (.long (own_m4 ra rb rc rd)), .second, .val (.long h3), .second, .val (.long h3), .second, .val (.int (3 : Int32)), .val (.int (4 : Int32))] [(.int (4 : Int32)), (.int (4 : Int32))])) _
          refine XS.icmpYes X23.here hx rfl (pc0 := 22) (pc' := 73) rfl (hb hby d4_22) rfl (flt (by decide : ¬ ((4 : Int32) < (4 : Int32)))).2.1 (by decide) (by decide) ?_
          show Steps p.tables e below (T23.setTop (mkF m 73 #[.val (.ref a1), .val (.long (own_m4 ra rb rc rd)), .second, .val (.long h3), .second, .val (.long h3), .second, .val (.int (3 : Int32)), .val (.int (4 : Int32))] [])) _
          refine XS.iload X23.here hx rfl (hb hby d4_73) rfl ?_
          show Steps p.tables e below (T23.setTop (mkF m 75 #[.val (.ref a1), .val (.long (own_m4 ra rb rc rd)), .second, .val (.long h3), .second, .val (.long h3), .second, .val (.int (3 : Int32)), .val (.int (4 : Int32))] [(.int (3 : Int32))])) _
          exact k
        obtain ⟨fs, hr, hrun, hended, hW, hsame⟩ := X23.leave (v := some (.int (3 : Int32))) (fun h => by rw [Bd.returns] at h; cases h)
        refine ⟨_, _, pre24 _ ?_, hrun, hended, _, _, rfl, ?_, ⟨_, rfl⟩, hW, hsame.mono (by decide) (by decide)⟩
        · exact retOut X23 hx Bd.returns rfl (Or.inl ⟨rfl, Or.inl rfl, _, rfl⟩) (hb hby d4_75) hr
        · show Q_rmL4 Z a1 a2 cl ra rb rc rd h0 n0 _ T23.heap _
          rw [e23]
          exact ⟨by simp [own_l4, ← hh1, ← hh2, ← hh3, d0_0, d1_1, d2_2], N1, rfl⟩
      · skip
        obtain ⟨T25, X25, e25, st25⟩ := getF X19 hx hZ hown (host := "") (Or.inl (hw _ (List.mem_of_getElem? (i := 15) rfl))) Via.refl e19 F1 (g := (mkF m 19 #[.val (.ref a1), .val (.long (own_m4 ra rb rc rd)), .second, .val (.long h3), .second, .val (.long h2), .second, .val (.int (2 : Int32)), .val (.int (4 : Int32))] [(.ref a1), (.int (4 : Int32))])) rfl rfl (hb hby d4_19)
        have pre26 : ∀ t, Steps p.tables e below (T25.setTop (mkF m 75 #[.val (.ref a1), .val (.long (own_m4 ra rb rc rd)), .second, .val (.long h3), .second, .val (.long h2), .second, .val (.int (2 : Int32)), .val (.int (4 : Int32))] [(.int (2 : Int32))])) t → Steps p.tables e below (s₁.setTop (entryFrame m #[(.ref a1)] 9)) t := by
          intro t k
          refine pre22 t ?_
          refine XS.ifYes X19.here hx rfl (pc0 := 57) (pc' := 67) rfl (hb hby d4_57) rfl ((if0 _ _).trans (flt (mt (lw_lt h3 h2).mp d2_2)).2.1) (by decide) (by decide) ?_
          show Steps p.tables e below (T19.setTop (mkF m 67 #[.val (.ref a1), .val (.long (own_m4 ra rb rc rd)), .second, .val (.long h3), .second, .val (.long h2), .second, .val (.int (2 : Int32)), .val (.int (3 : Int32))] [])) _
          refine XS.iinc X19.here hx rfl (hb hby d4_67) rfl (l' := #[.val (.ref a1), .val (.long (own_m4 ra rb rc rd)), .second, .val (.long h3), .second, .val (.long h2), .second, .val (.int (2 : Int32)), .val (.int (4 : Int32))]) rfl ?_
          show Steps p.tables e below (T19.setTop (mkF m 70 #[.val (.ref a1), .val (.long (own_m4 ra rb rc rd)), .second, .val (.long h3), .second, .val (.long h2), .second, .val (.int (2 : Int32)), .val (.int (4 : Int32))] [])) _
          refine XS.goto X19.here hx rfl (pc0 := 70) (pc' := 16) rfl (hb hby d4_70) (by decide) (by decide) ?_
          show Steps p.tables e below (T19.setTop (mkF m 16 #[.val (.ref a1), .val (.long (own_m4 ra rb rc rd)), .second, .val (.long h3), .second, .val (.long h2), .second, .val (.int (2 : Int32)), .val (.int (4 : Int32))] [])) _
          refine XS.iload X19.here hx rfl (hb hby d4_16) rfl ?_
          show Steps p.tables e below (T19.setTop (mkF m 18 #[.val (.ref a1), .val (.long (own_m4 ra rb rc rd)), .second, .val (.long h3), .second, .val (.long h2), .second, .val (.int (2 : Int32)), .val (.int (4 : Int32))] [(.int (4 : Int32))])) _
          refine XS.aloadN X19.here hx rfl (hb hby d4_18) rfl (rfl) ?_
          show Steps p.tables e below (T19.setTop (mkF m 19 #[.val (.ref a1), .val (.long (own_m4 ra rb rc rd)), .second, .val (.long h3), .second, .val (.long h2), .second, .val (.int (2 : Int32)), .val (.int (4 : Int32))] [(.ref a1), (.int (4 : Int32))])) _
          refine st25 _ ?_
          show Steps p.tables e below (T25.setTop (mkF m 22 #[.val (.ref a1), .val (.long (own_m4 ra rb rc rd)), .second, .val (.long h3), .second, .val (.long h2), .second, .val (.int (2 : Int32)), .val (.int (4 : Int32))] [(.int (4 : Int32)), (.int (4 : Int32))])) _
          refine XS.icmpYes X25.here hx rfl (pc0 := 22) (pc' := 73) rfl (hb hby d4_22) rfl (flt (by decide : ¬ ((4 : Int32) < (4 : Int32)))).2.1 (by decide) (by decide) ?_
          show Steps p.tables e below (T25.setTop (mkF m 73 #[.val (.ref a1), .val (.long (own_m4 ra rb rc rd)), .second, .val (.long h3), .second, .val (.long h2), .second, .val (.int (2 : Int32)), .val (.int (4 : Int32))] [])) _
          refine XS.iload X25.here hx rfl (hb hby d4_73) rfl ?_
          show Steps p.tables e below (T25.setTop (mkF m 75 #[.val (.ref a1), .val (.long (own_m4 ra rb rc rd)), .second, .val (.long h3), .second, .val (.long h2), .second, .val (.int (2 : Int32)), .val (.int (4 : Int32))] [(.int (2 : Int32))])) _
          exact k
        obtain ⟨fs, hr, hrun, hended, hW, hsame⟩ := X25.leave (v := some (.int (2 : Int32))) (fun h => by rw [Bd.returns] at h; cases h)
        refine ⟨_, _, pre26 _ ?_, hrun, hended, _, _, rfl, ?_, ⟨_, rfl⟩, hW, hsame.mono (by decide) (by decide)⟩
        · exact retOut X25 hx Bd.returns rfl (Or.inl ⟨rfl, Or.inl rfl, _, rfl⟩) (hb hby d4_75) hr
        · show Q_rmL4 Z a1 a2 cl ra rb rc rd h0 n0 _ T25.heap _
          rw [e25]
          exact ⟨by simp [own_l4, ← hh1, ← hh2, ← hh3, d0_0, d1_1, d2_2], N1, rfl⟩
    · skip
      obtain ⟨T27, X27, e27, st27⟩ := getF X12 hx hZ hown (host := "") (Or.inl (hw _ (List.mem_of_getElem? (i := 15) rfl))) Via.refl e12 F1 (g := (mkF m 19 #[.val (.ref a1), .val (.long (own_m4 ra rb rc rd)), .second, .val (.long h2), .second, .val (.long h1), .second, .val (.int (1 : Int32)), .val (.int (3 : Int32))] [(.ref a1), (.int (3 : Int32))])) rfl rfl (hb hby d4_19)
      obtain ⟨T28, X28, e28, st28⟩ := getF X27 hx hZ hown (host := "") (Or.inl (hw _ (List.mem_of_getElem? (i := 15) rfl))) Via.refl e27 F1 (g := (mkF m 28 #[.val (.ref a1), .val (.long (own_m4 ra rb rc rd)), .second, .val (.long h2), .second, .val (.long h1), .second, .val (.int (1 : Int32)), .val (.int (3 : Int32))] [(.ref a1), (.long (own_m4 ra rb rc rd)), (.long h2)])) rfl rfl (hb hby d4_28)
      obtain ⟨T29, X29, e29, st29⟩ := getF X28 hx hZ hown (host := "") (Or.inl (hw _ (List.mem_of_getElem? (i := 17) rfl))) Via.refl e28 F2 (g := (mkF m 33 #[.val (.ref a1), .val (.long (own_m4 ra rb rc rd)), .second, .val (.long h2), .second, .val (.long h1), .second, .val (.int (1 : Int32)), .val (.int (3 : Int32))] [(.ref a1), (.long (4 : Int64)), (.long (own_m4 ra rb rc rd)), (.long h2)])) rfl rfl (hb hby d4_33)
      obtain ⟨T30, X30, e30, st30⟩ := getF X29 hx hZ hown (host := "") (Or.inl (hw _ (List.mem_of_getElem? (i := 17) rfl))) Via.refl e29 F2 (g := (mkF m 42 #[.val (.ref a1), .val (.long (own_m4 ra rb rc rd)), .second, .val (.long h2), .second, .val (.long h1), .second, .val (.int (1 : Int32)), .val (.int (3 : Int32))] [(.ref a1), (.long rc), (.long (4 : Int64)), (.long (own_m4 ra rb rc rd)), (.long h2)])) rfl rfl (hb hby d4_42)
      have pre31 : ∀ t, Steps p.tables e below (T30.setTop (mkF m 53 #[.val (.ref a1), .val (.long (own_m4 ra rb rc rd)), .second, .val (.long (h2 + ((own_m4 ra rb rc rd) - ((4 : Int64) * (rc + rd))))), .second, .val (.long h1), .second, .val (.int (1 : Int32)), .val (.int (3 : Int32))] [])) t → Steps p.tables e below (s₁.setTop (entryFrame m #[(.ref a1)] 9)) t := by
        intro t k
        refine pre15 t ?_
        refine XS.ifYes X12.here hx rfl (pc0 := 57) (pc' := 67) rfl (hb hby d4_57) rfl ((if0 _ _).trans (flt (mt (lw_lt h2 h1).mp d1_1)).2.1) (by decide) (by decide) ?_
        show Steps p.tables e below (T12.setTop (mkF m 67 #[.val (.ref a1), .val (.long (own_m4 ra rb rc rd)), .second, .val (.long h2), .second, .val (.long h1), .second, .val (.int (1 : Int32)), .val (.int (2 : Int32))] [])) _
        refine XS.iinc X12.here hx rfl (hb hby d4_67) rfl (l' := #[.val (.ref a1), .val (.long (own_m4 ra rb rc rd)), .second, .val (.long h2), .second, .val (.long h1), .second, .val (.int (1 : Int32)), .val (.int (3 : Int32))]) rfl ?_
        show Steps p.tables e below (T12.setTop (mkF m 70 #[.val (.ref a1), .val (.long (own_m4 ra rb rc rd)), .second, .val (.long h2), .second, .val (.long h1), .second, .val (.int (1 : Int32)), .val (.int (3 : Int32))] [])) _
        refine XS.goto X12.here hx rfl (pc0 := 70) (pc' := 16) rfl (hb hby d4_70) (by decide) (by decide) ?_
        show Steps p.tables e below (T12.setTop (mkF m 16 #[.val (.ref a1), .val (.long (own_m4 ra rb rc rd)), .second, .val (.long h2), .second, .val (.long h1), .second, .val (.int (1 : Int32)), .val (.int (3 : Int32))] [])) _
        refine XS.iload X12.here hx rfl (hb hby d4_16) rfl ?_
        show Steps p.tables e below (T12.setTop (mkF m 18 #[.val (.ref a1), .val (.long (own_m4 ra rb rc rd)), .second, .val (.long h2), .second, .val (.long h1), .second, .val (.int (1 : Int32)), .val (.int (3 : Int32))] [(.int (3 : Int32))])) _
        refine XS.aloadN X12.here hx rfl (hb hby d4_18) rfl (rfl) ?_
        show Steps p.tables e below (T12.setTop (mkF m 19 #[.val (.ref a1), .val (.long (own_m4 ra rb rc rd)), .second, .val (.long h2), .second, .val (.long h1), .second, .val (.int (1 : Int32)), .val (.int (3 : Int32))] [(.ref a1), (.int (3 : Int32))])) _
        refine st27 _ ?_
        show Steps p.tables e below (T27.setTop (mkF m 22 #[.val (.ref a1), .val (.long (own_m4 ra rb rc rd)), .second, .val (.long h2), .second, .val (.long h1), .second, .val (.int (1 : Int32)), .val (.int (3 : Int32))] [(.int (4 : Int32)), (.int (3 : Int32))])) _
        refine XS.icmpNo X27.here hx rfl (hb hby d4_22) rfl (tlt (by decide : (3 : Int32) < (4 : Int32))).2.1 ?_
        show Steps p.tables e below (T27.setTop (mkF m 25 #[.val (.ref a1), .val (.long (own_m4 ra rb rc rd)), .second, .val (.long h2), .second, .val (.long h1), .second, .val (.int (1 : Int32)), .val (.int (3 : Int32))] [])) _
        refine XS.lloadN X27.here hx rfl (hb hby d4_25) rfl ?_
        show Steps p.tables e below (T27.setTop (mkF m 26 #[.val (.ref a1), .val (.long (own_m4 ra rb rc rd)), .second, .val (.long h2), .second, .val (.long h1), .second, .val (.int (1 : Int32)), .val (.int (3 : Int32))] [(.long h2)])) _
        refine XS.lloadN X27.here hx rfl (hb hby d4_26) rfl ?_
        show Steps p.tables e below (T27.setTop (mkF m 27 #[.val (.ref a1), .val (.long (own_m4 ra rb rc rd)), .second, .val (.long h2), .second, .val (.long h1), .second, .val (.int (1 : Int32)), .val (.int (3 : Int32))] [(.long (own_m4 ra rb rc rd)), (.long h2)])) _
        refine XS.aloadN X27.here hx rfl (hb hby d4_27) rfl (rfl) ?_
        show Steps p.tables e below (T27.setTop (mkF m 28 #[.val (.ref a1), .val (.long (own_m4 ra rb rc rd)), .second, .val (.long h2), .second, .val (.long h1), .second, .val (.int (1 : Int32)), .val (.int (3 : Int32))] [(.ref a1), (.long (own_m4 ra rb rc rd)), (.long h2)])) _
        refine st28 _ ?_
        show Steps p.tables e below (T28.setTop (mkF m 31 #[.val (.ref a1), .val (.long (own_m4 ra rb rc rd)), .second, .val (.long h2), .second, .val (.long h1), .second, .val (.int (1 : Int32)), .val (.int (3 : Int32))] [(.int (4 : Int32)), (.long (own_m4 ra rb rc rd)), (.long h2)])) _
        refine XS.i2l X28.here hx rfl (hb hby d4_31) rfl ?_
        show Steps p.tables e below (T28.setTop (mkF m 32 #[.val (.ref a1), .val (.long (own_m4 ra rb rc rd)), .second, .val (.long h2), .second, .val (.long h1), .second, .val (.int (1 : Int32)), .val (.int (3 : Int32))] [(.long (4 : Int64)), (.long (own_m4 ra rb rc rd)), (.long h2)])) _
        refine XS.aloadN X28.here hx rfl (hb hby d4_32) rfl (rfl) ?_
        show Steps p.tables e below (T28.setTop (mkF m 33 #[.val (.ref a1), .val (.long (own_m4 ra rb rc rd)), .second, .val (.long h2), .second, .val (.long h1), .second, .val (.int (1 : Int32)), .val (.int (3 : Int32))] [(.ref a1), (.long (4 : Int64)), (.long (own_m4 ra rb rc rd)), (.long h2)])) _
        refine st29 _ ?_
        show Steps p.tables e below (T29.setTop (mkF m 36 #[.val (.ref a1), .val (.long (own_m4 ra rb rc rd)), .second, .val (.long h2), .second, .val (.long h1), .second, .val (.int (1 : Int32)), .val (.int (3 : Int32))] [(.ref a2), (.long (4 : Int64)), (.long (own_m4 ra rb rc rd)), (.long h2)])) _
        refine XS.iload X29.here hx rfl (hb hby d4_36) rfl ?_
        show Steps p.tables e below (T29.setTop (mkF m 38 #[.val (.ref a1), .val (.long (own_m4 ra rb rc rd)), .second, .val (.long h2), .second, .val (.long h1), .second, .val (.int (1 : Int32)), .val (.int (3 : Int32))] [(.int (3 : Int32)), (.ref a2), (.long (4 : Int64)), (.long (own_m4 ra rb rc rd)), (.long h2)])) _
        refine XS.iconst X29.here hx rfl (hb hby d4_38) ?_
        show Steps p.tables e below (T29.setTop (mkF m 39 #[.val (.ref a1), .val (.long (own_m4 ra rb rc rd)), .second, .val (.long h2), .second, .val (.long h1), .second, .val (.int (1 : Int32)), .val (.int (3 : Int32))] [(.int (1 : Int32)), (.int (3 : Int32)), (.ref a2), (.long (4 : Int64)), (.long (own_m4 ra rb rc rd)), (.long h2)])) _
        refine XS.isub X29.here hx rfl (hb hby d4_39) rfl ?_
        show Steps p.tables e below (T29.setTop (mkF m 40 #[.val (.ref a1), .val (.long (own_m4 ra rb rc rd)), .second, .val (.long h2), .second, .val (.long h1), .second, .val (.int (1 : Int32)), .val (.int (3 : Int32))] [(.int (2 : Int32)), (.ref a2), (.long (4 : Int64)), (.long (own_m4 ra rb rc rd)), (.long h2)])) _
        refine X29.laload hx (j := (2 : Int32)) (v := (.long rc)) (by rw [e29]; exact Ar.1) (State.isArrayOf_alike hZ.alike Ar.2.1) Ar.2.2 (inb_of Sz ⟨by decide, by decide⟩) t2 (g := (mkF m 40 #[.val (.ref a1), .val (.long (own_m4 ra rb rc rd)), .second, .val (.long h2), .second, .val (.long h1), .second, .val (.int (1 : Int32)), .val (.int (3 : Int32))] [(.int (2 : Int32)), (.ref a2), (.long (4 : Int64)), (.long (own_m4 ra rb rc rd)), (.long h2)])) rfl rfl (hb hby d4_40) _ ?_
        show Steps p.tables e below (T29.setTop (mkF m 41 #[.val (.ref a1), .val (.long (own_m4 ra rb rc rd)), .second, .val (.long h2), .second, .val (.long h1), .second, .val (.int (1 : Int32)), .val (.int (3 : Int32))] [(.long rc), (.long (4 : Int64)), (.long (own_m4 ra rb rc rd)), (.long h2)])) _
        refine XS.aloadN X29.here hx rfl (hb hby d4_41) rfl (rfl) ?_
        show Steps p.tables e below (T29.setTop (mkF m 42 #[.val (.ref a1), .val (.long (own_m4 ra rb rc rd)), .second, .val (.long h2), .second, .val (.long h1), .second, .val (.int (1 : Int32)), .val (.int (3 : Int32))] [(.ref a1), (.long rc), (.long (4 : Int64)), (.long (own_m4 ra rb rc rd)), (.long h2)])) _
        refine st30 _ ?_
        show Steps p.tables e below (T30.setTop (mkF m 45 #[.val (.ref a1), .val (.long (own_m4 ra rb rc rd)), .second, .val (.long h2), .second, .val (.long h1), .second, .val (.int (1 : Int32)), .val (.int (3 : Int32))] [(.ref a2), (.long rc), (.long (4 : Int64)), (.long (own_m4 ra rb rc rd)), (.long h2)])) _
        refine XS.iload X30.here hx rfl (hb hby d4_45) rfl ?_
        show Steps p.tables e below (T30.setTop (mkF m 47 #[.val (.ref a1), .val (.long (own_m4 ra rb rc rd)), .second, .val (.long h2), .second, .val (.long h1), .second, .val (.int (1 : Int32)), .val (.int (3 : Int32))] [(.int (3 : Int32)), (.ref a2), (.long rc), (.long (4 : Int64)), (.long (own_m4 ra rb rc rd)), (.long h2)])) _
        refine X30.laload hx (j := (3 : Int32)) (v := (.long rd)) (by rw [e30]; exact Ar.1) (State.isArrayOf_alike hZ.alike Ar.2.1) Ar.2.2 (inb_of Sz ⟨by decide, by decide⟩) t3 (g := (mkF m 47 #[.val (.ref a1), .val (.long (own_m4 ra rb rc rd)), .second, .val (.long h2), .second, .val (.long h1), .second, .val (.int (1 : Int32)), .val (.int (3 : Int32))] [(.int (3 : Int32)), (.ref a2), (.long rc), (.long (4 : Int64)), (.long (own_m4 ra rb rc rd)), (.long h2)])) rfl rfl (hb hby d4_47) _ ?_
        show Steps p.tables e below (T30.setTop (mkF m 48 #[.val (.ref a1), .val (.long (own_m4 ra rb rc rd)), .second, .val (.long h2), .second, .val (.long h1), .second, .val (.int (1 : Int32)), .val (.int (3 : Int32))] [(.long rd), (.long rc), (.long (4 : Int64)), (.long (own_m4 ra rb rc rd)), (.long h2)])) _
        refine XS.ladd X30.here hx rfl (hb hby d4_48) rfl ?_
        show Steps p.tables e below (T30.setTop (mkF m 49 #[.val (.ref a1), .val (.long (own_m4 ra rb rc rd)), .second, .val (.long h2), .second, .val (.long h1), .second, .val (.int (1 : Int32)), .val (.int (3 : Int32))] [(.long (rc + rd)), (.long (4 : Int64)), (.long (own_m4 ra rb rc rd)), (.long h2)])) _
        refine XS.lmul X30.here hx rfl (hb hby d4_49) rfl ?_
        show Steps p.tables e below (T30.setTop (mkF m 50 #[.val (.ref a1), .val (.long (own_m4 ra rb rc rd)), .second, .val (.long h2), .second, .val (.long h1), .second, .val (.int (1 : Int32)), .val (.int (3 : Int32))] [(.long ((4 : Int64) * (rc + rd))), (.long (own_m4 ra rb rc rd)), (.long h2)])) _
        refine XS.lsub X30.here hx rfl (hb hby d4_50) rfl ?_
        show Steps p.tables e below (T30.setTop (mkF m 51 #[.val (.ref a1), .val (.long (own_m4 ra rb rc rd)), .second, .val (.long h2), .second, .val (.long h1), .second, .val (.int (1 : Int32)), .val (.int (3 : Int32))] [(.long ((own_m4 ra rb rc rd) - ((4 : Int64) * (rc + rd)))), (.long h2)])) _
        refine XS.ladd X30.here hx rfl (hb hby d4_51) rfl ?_
        show Steps p.tables e below (T30.setTop (mkF m 52 #[.val (.ref a1), .val (.long (own_m4 ra rb rc rd)), .second, .val (.long h2), .second, .val (.long h1), .second, .val (.int (1 : Int32)), .val (.int (3 : Int32))] [(.long (h2 + ((own_m4 ra rb rc rd) - ((4 : Int64) * (rc + rd)))))])) _
        refine XS.lstoreN X30.here hx rfl (hb hby d4_52) rfl (l' := #[.val (.ref a1), .val (.long (own_m4 ra rb rc rd)), .second, .val (.long (h2 + ((own_m4 ra rb rc rd) - ((4 : Int64) * (rc + rd))))), .second, .val (.long h1), .second, .val (.int (1 : Int32)), .val (.int (3 : Int32))]) rfl ?_
        show Steps p.tables e below (T30.setTop (mkF m 53 #[.val (.ref a1), .val (.long (own_m4 ra rb rc rd)), .second, .val (.long (h2 + ((own_m4 ra rb rc rd) - ((4 : Int64) * (rc + rd))))), .second, .val (.long h1), .second, .val (.int (1 : Int32)), .val (.int (3 : Int32))] [])) _
        exact k
      obtain ⟨h3, hh3⟩ : ∃ z : Int64, z = (own_h4 (own_m4 ra rb rc rd) h2 rc rd) := ⟨_, rfl⟩
      have pre32 : ∀ t, Steps p.tables e below (T30.setTop (mkF m 53 #[.val (.ref a1), .val (.long (own_m4 ra rb rc rd)), .second, .val (.long h3), .second, .val (.long h1), .second, .val (.int (1 : Int32)), .val (.int (3 : Int32))] [])) t → Steps p.tables e below (s₁.setTop (entryFrame m #[(.ref a1)] 9)) t := by rw [hh3]; exact pre31
      have pre33 : ∀ t, Steps p.tables e below (T30.setTop (mkF m 57 #[.val (.ref a1), .val (.long (own_m4 ra rb rc rd)), .second, .val (.long h3), .second, .val (.long h1), .second, .val (.int (1 : Int32)), .val (.int (3 : Int32))] [(.int (lcmpW h3 h1))])) t → Steps p.tables e below (s₁.setTop (entryFrame m #[(.ref a1)] 9)) t := by
        intro t k
        refine pre32 t ?_
        show Steps p.tables e below (T30.setTop (mkF m 53 #[.val (.ref a1), .val (.long (own_m4 ra rb rc rd)), .second, .val (.long h3), .second, .val (.long h1), .second, .val (.int (1 : Int32)), .val (.int (3 : Int32))] [])) _
        refine XS.lloadN X30.here hx rfl (hb hby d4_53) rfl ?_
        show Steps p.tables e below (T30.setTop (mkF m 54 #[.val (.ref a1), .val (.long (own_m4 ra rb rc rd)), .second, .val (.long h3), .second, .val (.long h1), .second, .val (.int (1 : Int32)), .val (.int (3 : Int32))] [(.long h3)])) _
        refine XS.lload X30.here hx rfl (hb hby d4_54) rfl ?_
        show Steps p.tables e below (T30.setTop (mkF m 56 #[.val (.ref a1), .val (.long (own_m4 ra rb rc rd)), .second, .val (.long h3), .second, .val (.long h1), .second, .val (.int (1 : Int32)), .val (.int (3 : Int32))] [(.long h1), (.long h3)])) _
        refine XS.lcmp X30.here hx rfl (hb hby d4_56) rfl ?_
        show Steps p.tables e below (T30.setTop (mkF m 57 #[.val (.ref a1), .val (.long (own_m4 ra rb rc rd)), .second, .val (.long h3), .second, .val (.long h1), .second, .val (.int (1 : Int32)), .val (.int (3 : Int32))] [(.int (lcmpW h3 h1))])) _
        exact k
      by_cases d2_2 : h3 < h1
      · skip
        obtain ⟨T34, X34, e34, st34⟩ := getF X30 hx hZ hown (host := "") (Or.inl (hw _ (List.mem_of_getElem? (i := 15) rfl))) Via.refl e30 F1 (g := (mkF m 19 #[.val (.ref a1), .val (.long (own_m4 ra rb rc rd)), .second, .val (.long h3), .second, .val (.long h3), .second, .val (.int (3 : Int32)), .val (.int (4 : Int32))] [(.ref a1), (.int (4 : Int32))])) rfl rfl (hb hby d4_19)
        have pre35 : ∀ t, Steps p.tables e below (T34.setTop (mkF m 75 #[.val (.ref a1), .val (.long (own_m4 ra rb rc rd)), .second, .val (.long h3), .second, .val (.long h3), .second, .val (.int (3 : Int32)), .val (.int (4 : Int32))] [(.int (3 : Int32))])) t → Steps p.tables e below (s₁.setTop (entryFrame m #[(.ref a1)] 9)) t := by
          intro t k
          refine pre33 t ?_
          refine XS.ifNo X30.here hx rfl (hb hby d4_57) rfl ((if0 _ _).trans (tlt ((lw_lt h3 h1).mpr d2_2)).2.1) ?_
          show Steps p.tables e below (T30.setTop (mkF m 60 #[.val (.ref a1), .val (.long (own_m4 ra rb rc rd)), .second, .val (.long h3), .second, .val (.long h1), .second, .val (.int (1 : Int32)), .val (.int (3 : Int32))] [])) _
          refine XS.lloadN X30.here hx rfl (hb hby d4_60) rfl ?_
          show Steps p.tables e below (T30.setTop (mkF m 61 #[.val (.ref a1), .val (.long (own_m4 ra rb rc rd)), .second, .val (.long h3), .second, .val (.long h1), .second, .val (.int (1 : Int32)), .val (.int (3 : Int32))] [(.long h3)])) _
          refine XS.lstore X30.here hx rfl (hb hby d4_61) rfl (l' := #[.val (.ref a1), .val (.long (own_m4 ra rb rc rd)), .second, .val (.long h3), .second, .val (.long h3), .second, .val (.int (1 : Int32)), .val (.int (3 : Int32))]) rfl ?_
          show Steps p.tables e below (T30.setTop (mkF m 63 #[.val (.ref a1), .val (.long (own_m4 ra rb rc rd)), .second, .val (.long h3), .second, .val (.long h3), .second, .val (.int (1 : Int32)), .val (.int (3 : Int32))] [])) _
          refine XS.iload X30.here hx rfl (hb hby d4_63) rfl ?_
          show Steps p.tables e below (T30.setTop (mkF m 65 #[.val (.ref a1), .val (.long (own_m4 ra rb rc rd)), .second, .val (.long h3), .second, .val (.long h3), .second, .val (.int (1 : Int32)), .val (.int (3 : Int32))] [(.int (3 : Int32))])) _
          refine XS.istore X30.here hx rfl (hb hby d4_65) rfl (l' := #[.val (.ref a1), .val (.long (own_m4 ra rb rc rd)), .second, .val (.long h3), .second, .val (.long h3), .second, .val (.int (3 : Int32)), .val (.int (3 : Int32))]) rfl ?_
          show Steps p.tables e below (T30.setTop (mkF m 67 #[.val (.ref a1), .val (.long (own_m4 ra rb rc rd)), .second, .val (.long h3), .second, .val (.long h3), .second, .val (.int (3 : Int32)), .val (.int (3 : Int32))] [])) _
          refine XS.iinc X30.here hx rfl (hb hby d4_67) rfl (l' := #[.val (.ref a1), .val (.long (own_m4 ra rb rc rd)), .second, .val (.long h3), .second, .val (.long h3), .second, .val (.int (3 : Int32)), .val (.int (4 : Int32))]) rfl ?_
          show Steps p.tables e below (T30.setTop (mkF m 70 #[.val (.ref a1), .val (.long (own_m4 ra rb rc rd)), .second, .val (.long h3), .second, .val (.long h3), .second, .val (.int (3 : Int32)), .val (.int (4 : Int32))] [])) _
          refine XS.goto X30.here hx rfl (pc0 := 70) (pc' := 16) rfl (hb hby d4_70) (by decide) (by decide) ?_
          show Steps p.tables e below (T30.setTop (mkF m 16 #[.val (.ref a1), .val (.long (own_m4 ra rb rc rd)), .second, .val (.long h3), .second, .val (.long h3), .second, .val (.int (3 : Int32)), .val (.int (4 : Int32))] [])) _
          refine XS.iload X30.here hx rfl (hb hby d4_16) rfl ?_
          show Steps p.tables e below (T30.setTop (mkF m 18 #[.val (.ref a1), .val (.long (own_m4 ra rb rc rd)), .second, .val (.long h3), .second, .val (.long h3), .second, .val (.int (3 : Int32)), .val (.int (4 : Int32))] [(.int (4 : Int32))])) _
          refine XS.aloadN X30.here hx rfl (hb hby d4_18) rfl (rfl) ?_
          show Steps p.tables e below (T30.setTop (mkF m 19 #[.val (.ref a1), .val (.long (own_m4 ra rb rc rd)), .second, .val (.long h3), .second, .val (.long h3), .second, .val (.int (3 : Int32)), .val (.int (4 : Int32))] [(.ref a1), (.int (4 : Int32))])) _
          refine st34 _ ?_
          show Steps p.tables e below (T34.setTop (mkF m 22 #[.val (.ref a1), .val (.long (own_m4 ra rb rc rd)), .second, .val (.long h3), .second, .val (.long h3), .second, .val (.int (3 : Int32)), .val (.int (4 : Int32))] [(.int (4 : Int32)), (.int (4 : Int32))])) _
          refine XS.icmpYes X34.here hx rfl (pc0 := 22) (pc' := 73) rfl (hb hby d4_22) rfl (flt (by decide : ¬ ((4 : Int32) < (4 : Int32)))).2.1 (by decide) (by decide) ?_
          show Steps p.tables e below (T34.setTop (mkF m 73 #[.val (.ref a1), .val (.long (own_m4 ra rb rc rd)), .second, .val (.long h3), .second, .val (.long h3), .second, .val (.int (3 : Int32)), .val (.int (4 : Int32))] [])) _
          refine XS.iload X34.here hx rfl (hb hby d4_73) rfl ?_
          show Steps p.tables e below (T34.setTop (mkF m 75 #[.val (.ref a1), .val (.long (own_m4 ra rb rc rd)), .second, .val (.long h3), .second, .val (.long h3), .second, .val (.int (3 : Int32)), .val (.int (4 : Int32))] [(.int (3 : Int32))])) _
          exact k
        obtain ⟨fs, hr, hrun, hended, hW, hsame⟩ := X34.leave (v := some (.int (3 : Int32))) (fun h => by rw [Bd.returns] at h; cases h)
        refine ⟨_, _, pre35 _ ?_, hrun, hended, _, _, rfl, ?_, ⟨_, rfl⟩, hW, hsame.mono (by decide) (by decide)⟩
        · exact retOut X34 hx Bd.returns rfl (Or.inl ⟨rfl, Or.inl rfl, _, rfl⟩) (hb hby d4_75) hr
        · show Q_rmL4 Z a1 a2 cl ra rb rc rd h0 n0 _ T34.heap _
          rw [e34]
          exact ⟨by simp [own_l4, ← hh1, ← hh2, ← hh3, d0_0, d1_1, d2_2], N1, rfl⟩
      · skip
        obtain ⟨T36, X36, e36, st36⟩ := getF X30 hx hZ hown (host := "") (Or.inl (hw _ (List.mem_of_getElem? (i := 15) rfl))) Via.refl e30 F1 (g := (mkF m 19 #[.val (.ref a1), .val (.long (own_m4 ra rb rc rd)), .second, .val (.long h3), .second, .val (.long h1), .second, .val (.int (1 : Int32)), .val (.int (4 : Int32))] [(.ref a1), (.int (4 : Int32))])) rfl rfl (hb hby d4_19)
        have pre37 : ∀ t, Steps p.tables e below (T36.setTop (mkF m 75 #[.val (.ref a1), .val (.long (own_m4 ra rb rc rd)), .second, .val (.long h3), .second, .val (.long h1), .second, .val (.int (1 : Int32)), .val (.int (4 : Int32))] [(.int (1 : Int32))])) t → Steps p.tables e below (s₁.setTop (entryFrame m #[(.ref a1)] 9)) t := by
          intro t k
          refine pre33 t ?_
          refine XS.ifYes X30.here hx rfl (pc0 := 57) (pc' := 67) rfl (hb hby d4_57) rfl ((if0 _ _).trans (flt (mt (lw_lt h3 h1).mp d2_2)).2.1) (by decide) (by decide) ?_
          show Steps p.tables e below (T30.setTop (mkF m 67 #[.val (.ref a1), .val (.long (own_m4 ra rb rc rd)), .second, .val (.long h3), .second, .val (.long h1), .second, .val (.int (1 : Int32)), .val (.int (3 : Int32))] [])) _
          refine XS.iinc X30.here hx rfl (hb hby d4_67) rfl (l' := #[.val (.ref a1), .val (.long (own_m4 ra rb rc rd)), .second, .val (.long h3), .second, .val (.long h1), .second, .val (.int (1 : Int32)), .val (.int (4 : Int32))]) rfl ?_
          show Steps p.tables e below (T30.setTop (mkF m 70 #[.val (.ref a1), .val (.long (own_m4 ra rb rc rd)), .second, .val (.long h3), .second, .val (.long h1), .second, .val (.int (1 : Int32)), .val (.int (4 : Int32))] [])) _
          refine XS.goto X30.here hx rfl (pc0 := 70) (pc' := 16) rfl (hb hby d4_70) (by decide) (by decide) ?_
          show Steps p.tables e below (T30.setTop (mkF m 16 #[.val (.ref a1), .val (.long (own_m4 ra rb rc rd)), .second, .val (.long h3), .second, .val (.long h1), .second, .val (.int (1 : Int32)), .val (.int (4 : Int32))] [])) _
          refine XS.iload X30.here hx rfl (hb hby d4_16) rfl ?_
          show Steps p.tables e below (T30.setTop (mkF m 18 #[.val (.ref a1), .val (.long (own_m4 ra rb rc rd)), .second, .val (.long h3), .second, .val (.long h1), .second, .val (.int (1 : Int32)), .val (.int (4 : Int32))] [(.int (4 : Int32))])) _
          refine XS.aloadN X30.here hx rfl (hb hby d4_18) rfl (rfl) ?_
          show Steps p.tables e below (T30.setTop (mkF m 19 #[.val (.ref a1), .val (.long (own_m4 ra rb rc rd)), .second, .val (.long h3), .second, .val (.long h1), .second, .val (.int (1 : Int32)), .val (.int (4 : Int32))] [(.ref a1), (.int (4 : Int32))])) _
          refine st36 _ ?_
          show Steps p.tables e below (T36.setTop (mkF m 22 #[.val (.ref a1), .val (.long (own_m4 ra rb rc rd)), .second, .val (.long h3), .second, .val (.long h1), .second, .val (.int (1 : Int32)), .val (.int (4 : Int32))] [(.int (4 : Int32)), (.int (4 : Int32))])) _
          refine XS.icmpYes X36.here hx rfl (pc0 := 22) (pc' := 73) rfl (hb hby d4_22) rfl (flt (by decide : ¬ ((4 : Int32) < (4 : Int32)))).2.1 (by decide) (by decide) ?_
          show Steps p.tables e below (T36.setTop (mkF m 73 #[.val (.ref a1), .val (.long (own_m4 ra rb rc rd)), .second, .val (.long h3), .second, .val (.long h1), .second, .val (.int (1 : Int32)), .val (.int (4 : Int32))] [])) _
          refine XS.iload X36.here hx rfl (hb hby d4_73) rfl ?_
          show Steps p.tables e below (T36.setTop (mkF m 75 #[.val (.ref a1), .val (.long (own_m4 ra rb rc rd)), .second, .val (.long h3), .second, .val (.long h1), .second, .val (.int (1 : Int32)), .val (.int (4 : Int32))] [(.int (1 : Int32))])) _
          exact k
        obtain ⟨fs, hr, hrun, hended, hW, hsame⟩ := X36.leave (v := some (.int (1 : Int32))) (fun h => by rw [Bd.returns] at h; cases h)
        refine ⟨_, _, pre37 _ ?_, hrun, hended, _, _, rfl, ?_, ⟨_, rfl⟩, hW, hsame.mono (by decide) (by decide)⟩
        · exact retOut X36 hx Bd.returns rfl (Or.inl ⟨rfl, Or.inl rfl, _, rfl⟩) (hb hby d4_75) hr
        · show Q_rmL4 Z a1 a2 cl ra rb rc rd h0 n0 _ T36.heap _
          rw [e36]
          exact ⟨by simp [own_l4, ← hh1, ← hh2, ← hh3, d0_0, d1_1, d2_2], N1, rfl⟩
  · skip
    obtain ⟨T38, X38, e38, st38⟩ := getF X5 hx hZ hown (host := "") (Or.inl (hw _ (List.mem_of_getElem? (i := 15) rfl))) Via.refl e5 F1 (g := (mkF m 19 #[.val (.ref a1), .val (.long (own_m4 ra rb rc rd)), .second, .val (.long h1), .second, .val (.long (0 : Int64)), .second, .val (.int (0 : Int32)), .val (.int (2 : Int32))] [(.ref a1), (.int (2 : Int32))])) rfl rfl (hb hby d4_19)
    obtain ⟨T39, X39, e39, st39⟩ := getF X38 hx hZ hown (host := "") (Or.inl (hw _ (List.mem_of_getElem? (i := 15) rfl))) Via.refl e38 F1 (g := (mkF m 28 #[.val (.ref a1), .val (.long (own_m4 ra rb rc rd)), .second, .val (.long h1), .second, .val (.long (0 : Int64)), .second, .val (.int (0 : Int32)), .val (.int (2 : Int32))] [(.ref a1), (.long (own_m4 ra rb rc rd)), (.long h1)])) rfl rfl (hb hby d4_28)
    obtain ⟨T40, X40, e40, st40⟩ := getF X39 hx hZ hown (host := "") (Or.inl (hw _ (List.mem_of_getElem? (i := 17) rfl))) Via.refl e39 F2 (g := (mkF m 33 #[.val (.ref a1), .val (.long (own_m4 ra rb rc rd)), .second, .val (.long h1), .second, .val (.long (0 : Int64)), .second, .val (.int (0 : Int32)), .val (.int (2 : Int32))] [(.ref a1), (.long (4 : Int64)), (.long (own_m4 ra rb rc rd)), (.long h1)])) rfl rfl (hb hby d4_33)
    obtain ⟨T41, X41, e41, st41⟩ := getF X40 hx hZ hown (host := "") (Or.inl (hw _ (List.mem_of_getElem? (i := 17) rfl))) Via.refl e40 F2 (g := (mkF m 42 #[.val (.ref a1), .val (.long (own_m4 ra rb rc rd)), .second, .val (.long h1), .second, .val (.long (0 : Int64)), .second, .val (.int (0 : Int32)), .val (.int (2 : Int32))] [(.ref a1), (.long rb), (.long (4 : Int64)), (.long (own_m4 ra rb rc rd)), (.long h1)])) rfl rfl (hb hby d4_42)
    have pre42 : ∀ t, Steps p.tables e below (T41.setTop (mkF m 53 #[.val (.ref a1), .val (.long (own_m4 ra rb rc rd)), .second, .val (.long (h1 + ((own_m4 ra rb rc rd) - ((4 : Int64) * (rb + rc))))), .second, .val (.long (0 : Int64)), .second, .val (.int (0 : Int32)), .val (.int (2 : Int32))] [])) t → Steps p.tables e below (s₁.setTop (entryFrame m #[(.ref a1)] 9)) t := by
      intro t k
      refine pre8 t ?_
      refine XS.ifYes X5.here hx rfl (pc0 := 57) (pc' := 67) rfl (hb hby d4_57) rfl ((if0 _ _).trans (flt (mt (lw_lt h1 (0 : Int64)).mp d0_0)).2.1) (by decide) (by decide) ?_
      show Steps p.tables e below (T5.setTop (mkF m 67 #[.val (.ref a1), .val (.long (own_m4 ra rb rc rd)), .second, .val (.long h1), .second, .val (.long (0 : Int64)), .second, .val (.int (0 : Int32)), .val (.int (1 : Int32))] [])) _
      refine XS.iinc X5.here hx rfl (hb hby d4_67) rfl (l' := #[.val (.ref a1), .val (.long (own_m4 ra rb rc rd)), .second, .val (.long h1), .second, .val (.long (0 : Int64)), .second, .val (.int (0 : Int32)), .val (.int (2 : Int32))]) rfl ?_
      show Steps p.tables e below (T5.setTop (mkF m 70 #[.val (.ref a1), .val (.long (own_m4 ra rb rc rd)), .second, .val (.long h1), .second, .val (.long (0 : Int64)), .second, .val (.int (0 : Int32)), .val (.int (2 : Int32))] [])) _
      refine XS.goto X5.here hx rfl (pc0 := 70) (pc' := 16) rfl (hb hby d4_70) (by decide) (by decide) ?_
      show Steps p.tables e below (T5.setTop (mkF m 16 #[.val (.ref a1), .val (.long (own_m4 ra rb rc rd)), .second, .val (.long h1), .second, .val (.long (0 : Int64)), .second, .val (.int (0 : Int32)), .val (.int (2 : Int32))] [])) _
      refine XS.iload X5.here hx rfl (hb hby d4_16) rfl ?_
      show Steps p.tables e below (T5.setTop (mkF m 18 #[.val (.ref a1), .val (.long (own_m4 ra rb rc rd)), .second, .val (.long h1), .second, .val (.long (0 : Int64)), .second, .val (.int (0 : Int32)), .val (.int (2 : Int32))] [(.int (2 : Int32))])) _
      refine XS.aloadN X5.here hx rfl (hb hby d4_18) rfl (rfl) ?_
      show Steps p.tables e below (T5.setTop (mkF m 19 #[.val (.ref a1), .val (.long (own_m4 ra rb rc rd)), .second, .val (.long h1), .second, .val (.long (0 : Int64)), .second, .val (.int (0 : Int32)), .val (.int (2 : Int32))] [(.ref a1), (.int (2 : Int32))])) _
      refine st38 _ ?_
      show Steps p.tables e below (T38.setTop (mkF m 22 #[.val (.ref a1), .val (.long (own_m4 ra rb rc rd)), .second, .val (.long h1), .second, .val (.long (0 : Int64)), .second, .val (.int (0 : Int32)), .val (.int (2 : Int32))] [(.int (4 : Int32)), (.int (2 : Int32))])) _
      refine XS.icmpNo X38.here hx rfl (hb hby d4_22) rfl (tlt (by decide : (2 : Int32) < (4 : Int32))).2.1 ?_
      show Steps p.tables e below (T38.setTop (mkF m 25 #[.val (.ref a1), .val (.long (own_m4 ra rb rc rd)), .second, .val (.long h1), .second, .val (.long (0 : Int64)), .second, .val (.int (0 : Int32)), .val (.int (2 : Int32))] [])) _
      refine XS.lloadN X38.here hx rfl (hb hby d4_25) rfl ?_
      show Steps p.tables e below (T38.setTop (mkF m 26 #[.val (.ref a1), .val (.long (own_m4 ra rb rc rd)), .second, .val (.long h1), .second, .val (.long (0 : Int64)), .second, .val (.int (0 : Int32)), .val (.int (2 : Int32))] [(.long h1)])) _
      refine XS.lloadN X38.here hx rfl (hb hby d4_26) rfl ?_
      show Steps p.tables e below (T38.setTop (mkF m 27 #[.val (.ref a1), .val (.long (own_m4 ra rb rc rd)), .second, .val (.long h1), .second, .val (.long (0 : Int64)), .second, .val (.int (0 : Int32)), .val (.int (2 : Int32))] [(.long (own_m4 ra rb rc rd)), (.long h1)])) _
      refine XS.aloadN X38.here hx rfl (hb hby d4_27) rfl (rfl) ?_
      show Steps p.tables e below (T38.setTop (mkF m 28 #[.val (.ref a1), .val (.long (own_m4 ra rb rc rd)), .second, .val (.long h1), .second, .val (.long (0 : Int64)), .second, .val (.int (0 : Int32)), .val (.int (2 : Int32))] [(.ref a1), (.long (own_m4 ra rb rc rd)), (.long h1)])) _
      refine st39 _ ?_
      show Steps p.tables e below (T39.setTop (mkF m 31 #[.val (.ref a1), .val (.long (own_m4 ra rb rc rd)), .second, .val (.long h1), .second, .val (.long (0 : Int64)), .second, .val (.int (0 : Int32)), .val (.int (2 : Int32))] [(.int (4 : Int32)), (.long (own_m4 ra rb rc rd)), (.long h1)])) _
      refine XS.i2l X39.here hx rfl (hb hby d4_31) rfl ?_
      show Steps p.tables e below (T39.setTop (mkF m 32 #[.val (.ref a1), .val (.long (own_m4 ra rb rc rd)), .second, .val (.long h1), .second, .val (.long (0 : Int64)), .second, .val (.int (0 : Int32)), .val (.int (2 : Int32))] [(.long (4 : Int64)), (.long (own_m4 ra rb rc rd)), (.long h1)])) _
      refine XS.aloadN X39.here hx rfl (hb hby d4_32) rfl (rfl) ?_
      show Steps p.tables e below (T39.setTop (mkF m 33 #[.val (.ref a1), .val (.long (own_m4 ra rb rc rd)), .second, .val (.long h1), .second, .val (.long (0 : Int64)), .second, .val (.int (0 : Int32)), .val (.int (2 : Int32))] [(.ref a1), (.long (4 : Int64)), (.long (own_m4 ra rb rc rd)), (.long h1)])) _
      refine st40 _ ?_
      show Steps p.tables e below (T40.setTop (mkF m 36 #[.val (.ref a1), .val (.long (own_m4 ra rb rc rd)), .second, .val (.long h1), .second, .val (.long (0 : Int64)), .second, .val (.int (0 : Int32)), .val (.int (2 : Int32))] [(.ref a2), (.long (4 : Int64)), (.long (own_m4 ra rb rc rd)), (.long h1)])) _
      refine XS.iload X40.here hx rfl (hb hby d4_36) rfl ?_
      show Steps p.tables e below (T40.setTop (mkF m 38 #[.val (.ref a1), .val (.long (own_m4 ra rb rc rd)), .second, .val (.long h1), .second, .val (.long (0 : Int64)), .second, .val (.int (0 : Int32)), .val (.int (2 : Int32))] [(.int (2 : Int32)), (.ref a2), (.long (4 : Int64)), (.long (own_m4 ra rb rc rd)), (.long h1)])) _
      refine XS.iconst X40.here hx rfl (hb hby d4_38) ?_
      show Steps p.tables e below (T40.setTop (mkF m 39 #[.val (.ref a1), .val (.long (own_m4 ra rb rc rd)), .second, .val (.long h1), .second, .val (.long (0 : Int64)), .second, .val (.int (0 : Int32)), .val (.int (2 : Int32))] [(.int (1 : Int32)), (.int (2 : Int32)), (.ref a2), (.long (4 : Int64)), (.long (own_m4 ra rb rc rd)), (.long h1)])) _
      refine XS.isub X40.here hx rfl (hb hby d4_39) rfl ?_
      show Steps p.tables e below (T40.setTop (mkF m 40 #[.val (.ref a1), .val (.long (own_m4 ra rb rc rd)), .second, .val (.long h1), .second, .val (.long (0 : Int64)), .second, .val (.int (0 : Int32)), .val (.int (2 : Int32))] [(.int (1 : Int32)), (.ref a2), (.long (4 : Int64)), (.long (own_m4 ra rb rc rd)), (.long h1)])) _
      refine X40.laload hx (j := (1 : Int32)) (v := (.long rb)) (by rw [e40]; exact Ar.1) (State.isArrayOf_alike hZ.alike Ar.2.1) Ar.2.2 (inb_of Sz ⟨by decide, by decide⟩) t1 (g := (mkF m 40 #[.val (.ref a1), .val (.long (own_m4 ra rb rc rd)), .second, .val (.long h1), .second, .val (.long (0 : Int64)), .second, .val (.int (0 : Int32)), .val (.int (2 : Int32))] [(.int (1 : Int32)), (.ref a2), (.long (4 : Int64)), (.long (own_m4 ra rb rc rd)), (.long h1)])) rfl rfl (hb hby d4_40) _ ?_
      show Steps p.tables e below (T40.setTop (mkF m 41 #[.val (.ref a1), .val (.long (own_m4 ra rb rc rd)), .second, .val (.long h1), .second, .val (.long (0 : Int64)), .second, .val (.int (0 : Int32)), .val (.int (2 : Int32))] [(.long rb), (.long (4 : Int64)), (.long (own_m4 ra rb rc rd)), (.long h1)])) _
      refine XS.aloadN X40.here hx rfl (hb hby d4_41) rfl (rfl) ?_
      show Steps p.tables e below (T40.setTop (mkF m 42 #[.val (.ref a1), .val (.long (own_m4 ra rb rc rd)), .second, .val (.long h1), .second, .val (.long (0 : Int64)), .second, .val (.int (0 : Int32)), .val (.int (2 : Int32))] [(.ref a1), (.long rb), (.long (4 : Int64)), (.long (own_m4 ra rb rc rd)), (.long h1)])) _
      refine st41 _ ?_
      show Steps p.tables e below (T41.setTop (mkF m 45 #[.val (.ref a1), .val (.long (own_m4 ra rb rc rd)), .second, .val (.long h1), .second, .val (.long (0 : Int64)), .second, .val (.int (0 : Int32)), .val (.int (2 : Int32))] [(.ref a2), (.long rb), (.long (4 : Int64)), (.long (own_m4 ra rb rc rd)), (.long h1)])) _
      refine XS.iload X41.here hx rfl (hb hby d4_45) rfl ?_
      show Steps p.tables e below (T41.setTop (mkF m 47 #[.val (.ref a1), .val (.long (own_m4 ra rb rc rd)), .second, .val (.long h1), .second, .val (.long (0 : Int64)), .second, .val (.int (0 : Int32)), .val (.int (2 : Int32))] [(.int (2 : Int32)), (.ref a2), (.long rb), (.long (4 : Int64)), (.long (own_m4 ra rb rc rd)), (.long h1)])) _
      refine X41.laload hx (j := (2 : Int32)) (v := (.long rc)) (by rw [e41]; exact Ar.1) (State.isArrayOf_alike hZ.alike Ar.2.1) Ar.2.2 (inb_of Sz ⟨by decide, by decide⟩) t2 (g := (mkF m 47 #[.val (.ref a1), .val (.long (own_m4 ra rb rc rd)), .second, .val (.long h1), .second, .val (.long (0 : Int64)), .second, .val (.int (0 : Int32)), .val (.int (2 : Int32))] [(.int (2 : Int32)), (.ref a2), (.long rb), (.long (4 : Int64)), (.long (own_m4 ra rb rc rd)), (.long h1)])) rfl rfl (hb hby d4_47) _ ?_
      show Steps p.tables e below (T41.setTop (mkF m 48 #[.val (.ref a1), .val (.long (own_m4 ra rb rc rd)), .second, .val (.long h1), .second, .val (.long (0 : Int64)), .second, .val (.int (0 : Int32)), .val (.int (2 : Int32))] [(.long rc), (.long rb), (.long (4 : Int64)), (.long (own_m4 ra rb rc rd)), (.long h1)])) _
      refine XS.ladd X41.here hx rfl (hb hby d4_48) rfl ?_
      show Steps p.tables e below (T41.setTop (mkF m 49 #[.val (.ref a1), .val (.long (own_m4 ra rb rc rd)), .second, .val (.long h1), .second, .val (.long (0 : Int64)), .second, .val (.int (0 : Int32)), .val (.int (2 : Int32))] [(.long (rb + rc)), (.long (4 : Int64)), (.long (own_m4 ra rb rc rd)), (.long h1)])) _
      refine XS.lmul X41.here hx rfl (hb hby d4_49) rfl ?_
      show Steps p.tables e below (T41.setTop (mkF m 50 #[.val (.ref a1), .val (.long (own_m4 ra rb rc rd)), .second, .val (.long h1), .second, .val (.long (0 : Int64)), .second, .val (.int (0 : Int32)), .val (.int (2 : Int32))] [(.long ((4 : Int64) * (rb + rc))), (.long (own_m4 ra rb rc rd)), (.long h1)])) _
      refine XS.lsub X41.here hx rfl (hb hby d4_50) rfl ?_
      show Steps p.tables e below (T41.setTop (mkF m 51 #[.val (.ref a1), .val (.long (own_m4 ra rb rc rd)), .second, .val (.long h1), .second, .val (.long (0 : Int64)), .second, .val (.int (0 : Int32)), .val (.int (2 : Int32))] [(.long ((own_m4 ra rb rc rd) - ((4 : Int64) * (rb + rc)))), (.long h1)])) _
      refine XS.ladd X41.here hx rfl (hb hby d4_51) rfl ?_
      show Steps p.tables e below (T41.setTop (mkF m 52 #[.val (.ref a1), .val (.long (own_m4 ra rb rc rd)), .second, .val (.long h1), .second, .val (.long (0 : Int64)), .second, .val (.int (0 : Int32)), .val (.int (2 : Int32))] [(.long (h1 + ((own_m4 ra rb rc rd) - ((4 : Int64) * (rb + rc)))))])) _
      refine XS.lstoreN X41.here hx rfl (hb hby d4_52) rfl (l' := #[.val (.ref a1), .val (.long (own_m4 ra rb rc rd)), .second, .val (.long (h1 + ((own_m4 ra rb rc rd) - ((4 : Int64) * (rb + rc))))), .second, .val (.long (0 : Int64)), .second, .val (.int (0 : Int32)), .val (.int (2 : Int32))]) rfl ?_
      show Steps p.tables e below (T41.setTop (mkF m 53 #[.val (.ref a1), .val (.long (own_m4 ra rb rc rd)), .second, .val (.long (h1 + ((own_m4 ra rb rc rd) - ((4 : Int64) * (rb + rc))))), .second, .val (.long (0 : Int64)), .second, .val (.int (0 : Int32)), .val (.int (2 : Int32))] [])) _
      exact k
    obtain ⟨h2, hh2⟩ : ∃ z : Int64, z = (own_h4 (own_m4 ra rb rc rd) h1 rb rc) := ⟨_, rfl⟩
    have pre43 : ∀ t, Steps p.tables e below (T41.setTop (mkF m 53 #[.val (.ref a1), .val (.long (own_m4 ra rb rc rd)), .second, .val (.long h2), .second, .val (.long (0 : Int64)), .second, .val (.int (0 : Int32)), .val (.int (2 : Int32))] [])) t → Steps p.tables e below (s₁.setTop (entryFrame m #[(.ref a1)] 9)) t := by rw [hh2]; exact pre42
    have pre44 : ∀ t, Steps p.tables e below (T41.setTop (mkF m 57 #[.val (.ref a1), .val (.long (own_m4 ra rb rc rd)), .second, .val (.long h2), .second, .val (.long (0 : Int64)), .second, .val (.int (0 : Int32)), .val (.int (2 : Int32))] [(.int (lcmpW h2 (0 : Int64)))])) t → Steps p.tables e below (s₁.setTop (entryFrame m #[(.ref a1)] 9)) t := by
      intro t k
      refine pre43 t ?_
      show Steps p.tables e below (T41.setTop (mkF m 53 #[.val (.ref a1), .val (.long (own_m4 ra rb rc rd)), .second, .val (.long h2), .second, .val (.long (0 : Int64)), .second, .val (.int (0 : Int32)), .val (.int (2 : Int32))] [])) _
      refine XS.lloadN X41.here hx rfl (hb hby d4_53) rfl ?_
      show Steps p.tables e below (T41.setTop (mkF m 54 #[.val (.ref a1), .val (.long (own_m4 ra rb rc rd)), .second, .val (.long h2), .second, .val (.long (0 : Int64)), .second, .val (.int (0 : Int32)), .val (.int (2 : Int32))] [(.long h2)])) _
      refine XS.lload X41.here hx rfl (hb hby d4_54) rfl ?_
      show Steps p.tables e below (T41.setTop (mkF m 56 #[.val (.ref a1), .val (.long (own_m4 ra rb rc rd)), .second, .val (.long h2), .second, .val (.long (0 : Int64)), .second, .val (.int (0 : Int32)), .val (.int (2 : Int32))] [(.long (0 : Int64)), (.long h2)])) _
      refine XS.lcmp X41.here hx rfl (hb hby d4_56) rfl ?_
      show Steps p.tables e below (T41.setTop (mkF m 57 #[.val (.ref a1), .val (.long (own_m4 ra rb rc rd)), .second, .val (.long h2), .second, .val (.long (0 : Int64)), .second, .val (.int (0 : Int32)), .val (.int (2 : Int32))] [(.int (lcmpW h2 (0 : Int64)))])) _
      exact k
    by_cases d1_1 : h2 < (0 : Int64)
    · skip
      obtain ⟨T45, X45, e45, st45⟩ := getF X41 hx hZ hown (host := "") (Or.inl (hw _ (List.mem_of_getElem? (i := 15) rfl))) Via.refl e41 F1 (g := (mkF m 19 #[.val (.ref a1), .val (.long (own_m4 ra rb rc rd)), .second, .val (.long h2), .second, .val (.long h2), .second, .val (.int (2 : Int32)), .val (.int (3 : Int32))] [(.ref a1), (.int (3 : Int32))])) rfl rfl (hb hby d4_19)
      obtain ⟨T46, X46, e46, st46⟩ := getF X45 hx hZ hown (host := "") (Or.inl (hw _ (List.mem_of_getElem? (i := 15) rfl))) Via.refl e45 F1 (g := (mkF m 28 #[.val (.ref a1), .val (.long (own_m4 ra rb rc rd)), .second, .val (.long h2), .second, .val (.long h2), .second, .val (.int (2 : Int32)), .val (.int (3 : Int32))] [(.ref a1), (.long (own_m4 ra rb rc rd)), (.long h2)])) rfl rfl (hb hby d4_28)
      obtain ⟨T47, X47, e47, st47⟩ := getF X46 hx hZ hown (host := "") (Or.inl (hw _ (List.mem_of_getElem? (i := 17) rfl))) Via.refl e46 F2 (g := (mkF m 33 #[.val (.ref a1), .val (.long (own_m4 ra rb rc rd)), .second, .val (.long h2), .second, .val (.long h2), .second, .val (.int (2 : Int32)), .val (.int (3 : Int32))] [(.ref a1), (.long (4 : Int64)), (.long (own_m4 ra rb rc rd)), (.long h2)])) rfl rfl (hb hby d4_33)
      obtain ⟨T48, X48, e48, st48⟩ := getF X47 hx hZ hown (host := "") (Or.inl (hw _ (List.mem_of_getElem? (i := 17) rfl))) Via.refl e47 F2 (g := (mkF m 42 #[.val (.ref a1), .val (.long (own_m4 ra rb rc rd)), .second, .val (.long h2), .second, .val (.long h2), .second, .val (.int (2 : Int32)), .val (.int (3 : Int32))] [(.ref a1), (.long rc), (.long (4 : Int64)), (.long (own_m4 ra rb rc rd)), (.long h2)])) rfl rfl (hb hby d4_42)
      have pre49 : ∀ t, Steps p.tables e below (T48.setTop (mkF m 53 #[.val (.ref a1), .val (.long (own_m4 ra rb rc rd)), .second, .val (.long (h2 + ((own_m4 ra rb rc rd) - ((4 : Int64) * (rc + rd))))), .second, .val (.long h2), .second, .val (.int (2 : Int32)), .val (.int (3 : Int32))] [])) t → Steps p.tables e below (s₁.setTop (entryFrame m #[(.ref a1)] 9)) t := by
        intro t k
        refine pre44 t ?_
        refine XS.ifNo X41.here hx rfl (hb hby d4_57) rfl ((if0 _ _).trans (tlt ((lw_lt h2 (0 : Int64)).mpr d1_1)).2.1) ?_
        show Steps p.tables e below (T41.setTop (mkF m 60 #[.val (.ref a1), .val (.long (own_m4 ra rb rc rd)), .second, .val (.long h2), .second, .val (.long (0 : Int64)), .second, .val (.int (0 : Int32)), .val (.int (2 : Int32))] [])) _
        refine XS.lloadN X41.here hx rfl (hb hby d4_60) rfl ?_
        show Steps p.tables e below (T41.setTop (mkF m 61 #[.val (.ref a1), .val (.long (own_m4 ra rb rc rd)), .second, .val (.long h2), .second, .val (.long (0 : Int64)), .second, .val (.int (0 : Int32)), .val (.int (2 : Int32))] [(.long h2)])) _
        refine XS.lstore X41.here hx rfl (hb hby d4_61) rfl (l' := #[.val (.ref a1), .val (.long (own_m4 ra rb rc rd)), .second, .val (.long h2), .second, .val (.long h2), .second, .val (.int (0 : Int32)), .val (.int (2 : Int32))]) rfl ?_
        show Steps p.tables e below (T41.setTop (mkF m 63 #[.val (.ref a1), .val (.long (own_m4 ra rb rc rd)), .second, .val (.long h2), .second, .val (.long h2), .second, .val (.int (0 : Int32)), .val (.int (2 : Int32))] [])) _
        refine XS.iload X41.here hx rfl (hb hby d4_63) rfl ?_
        show Steps p.tables e below (T41.setTop (mkF m 65 #[.val (.ref a1), .val (.long (own_m4 ra rb rc rd)), .second, .val (.long h2), .second, .val (.long h2), .second, .val (.int (0 : Int32)), .val (.int (2 : Int32))] [(.int (2 : Int32))])) _
        refine XS.istore X41.here hx rfl (hb hby d4_65) rfl (l' := #[.val (.ref a1), .val (.long (own_m4 ra rb rc rd)), .second, .val (.long h2), .second, .val (.long h2), .second, .val (.int (2 : Int32)), .val (.int (2 : Int32))]) rfl ?_
        show Steps p.tables e below (T41.setTop (mkF m 67 #[.val (.ref a1), .val (.long (own_m4 ra rb rc rd)), .second, .val (.long h2), .second, .val (.long h2), .second, .val (.int (2 : Int32)), .val (.int (2 : Int32))] [])) _
        refine XS.iinc X41.here hx rfl (hb hby d4_67) rfl (l' := #[.val (.ref a1), .val (.long (own_m4 ra rb rc rd)), .second, .val (.long h2), .second, .val (.long h2), .second, .val (.int (2 : Int32)), .val (.int (3 : Int32))]) rfl ?_
        show Steps p.tables e below (T41.setTop (mkF m 70 #[.val (.ref a1), .val (.long (own_m4 ra rb rc rd)), .second, .val (.long h2), .second, .val (.long h2), .second, .val (.int (2 : Int32)), .val (.int (3 : Int32))] [])) _
        refine XS.goto X41.here hx rfl (pc0 := 70) (pc' := 16) rfl (hb hby d4_70) (by decide) (by decide) ?_
        show Steps p.tables e below (T41.setTop (mkF m 16 #[.val (.ref a1), .val (.long (own_m4 ra rb rc rd)), .second, .val (.long h2), .second, .val (.long h2), .second, .val (.int (2 : Int32)), .val (.int (3 : Int32))] [])) _
        refine XS.iload X41.here hx rfl (hb hby d4_16) rfl ?_
        show Steps p.tables e below (T41.setTop (mkF m 18 #[.val (.ref a1), .val (.long (own_m4 ra rb rc rd)), .second, .val (.long h2), .second, .val (.long h2), .second, .val (.int (2 : Int32)), .val (.int (3 : Int32))] [(.int (3 : Int32))])) _
        refine XS.aloadN X41.here hx rfl (hb hby d4_18) rfl (rfl) ?_
        show Steps p.tables e below (T41.setTop (mkF m 19 #[.val (.ref a1), .val (.long (own_m4 ra rb rc rd)), .second, .val (.long h2), .second, .val (.long h2), .second, .val (.int (2 : Int32)), .val (.int (3 : Int32))] [(.ref a1), (.int (3 : Int32))])) _
        refine st45 _ ?_
        show Steps p.tables e below (T45.setTop (mkF m 22 #[.val (.ref a1), .val (.long (own_m4 ra rb rc rd)), .second, .val (.long h2), .second, .val (.long h2), .second, .val (.int (2 : Int32)), .val (.int (3 : Int32))] [(.int (4 : Int32)), (.int (3 : Int32))])) _
        refine XS.icmpNo X45.here hx rfl (hb hby d4_22) rfl (tlt (by decide : (3 : Int32) < (4 : Int32))).2.1 ?_
        show Steps p.tables e below (T45.setTop (mkF m 25 #[.val (.ref a1), .val (.long (own_m4 ra rb rc rd)), .second, .val (.long h2), .second, .val (.long h2), .second, .val (.int (2 : Int32)), .val (.int (3 : Int32))] [])) _
        refine XS.lloadN X45.here hx rfl (hb hby d4_25) rfl ?_
        show Steps p.tables e below (T45.setTop (mkF m 26 #[.val (.ref a1), .val (.long (own_m4 ra rb rc rd)), .second, .val (.long h2), .second, .val (.long h2), .second, .val (.int (2 : Int32)), .val (.int (3 : Int32))] [(.long h2)])) _
        refine XS.lloadN X45.here hx rfl (hb hby d4_26) rfl ?_
        show Steps p.tables e below (T45.setTop (mkF m 27 #[.val (.ref a1), .val (.long (own_m4 ra rb rc rd)), .second, .val (.long h2), .second, .val (.long h2), .second, .val (.int (2 : Int32)), .val (.int (3 : Int32))] [(.long (own_m4 ra rb rc rd)), (.long h2)])) _
        refine XS.aloadN X45.here hx rfl (hb hby d4_27) rfl (rfl) ?_
        show Steps p.tables e below (T45.setTop (mkF m 28 #[.val (.ref a1), .val (.long (own_m4 ra rb rc rd)), .second, .val (.long h2), .second, .val (.long h2), .second, .val (.int (2 : Int32)), .val (.int (3 : Int32))] [(.ref a1), (.long (own_m4 ra rb rc rd)), (.long h2)])) _
        refine st46 _ ?_
        show Steps p.tables e below (T46.setTop (mkF m 31 #[.val (.ref a1), .val (.long (own_m4 ra rb rc rd)), .second, .val (.long h2), .second, .val (.long h2), .second, .val (.int (2 : Int32)), .val (.int (3 : Int32))] [(.int (4 : Int32)), (.long (own_m4 ra rb rc rd)), (.long h2)])) _
        refine XS.i2l X46.here hx rfl (hb hby d4_31) rfl ?_
        show Steps p.tables e below (T46.setTop (mkF m 32 #[.val (.ref a1), .val (.long (own_m4 ra rb rc rd)), .second, .val (.long h2), .second, .val (.long h2), .second, .val (.int (2 : Int32)), .val (.int (3 : Int32))] [(.long (4 : Int64)), (.long (own_m4 ra rb rc rd)), (.long h2)])) _
        refine XS.aloadN X46.here hx rfl (hb hby d4_32) rfl (rfl) ?_
        show Steps p.tables e below (T46.setTop (mkF m 33 #[.val (.ref a1), .val (.long (own_m4 ra rb rc rd)), .second, .val (.long h2), .second, .val (.long h2), .second, .val (.int (2 : Int32)), .val (.int (3 : Int32))] [(.ref a1), (.long (4 : Int64)), (.long (own_m4 ra rb rc rd)), (.long h2)])) _
        refine st47 _ ?_
        show Steps p.tables e below (T47.setTop (mkF m 36 #[.val (.ref a1), .val (.long (own_m4 ra rb rc rd)), .second, .val (.long h2), .second, .val (.long h2), .second, .val (.int (2 : Int32)), .val (.int (3 : Int32))] [(.ref a2), (.long (4 : Int64)), (.long (own_m4 ra rb rc rd)), (.long h2)])) _
        refine XS.iload X47.here hx rfl (hb hby d4_36) rfl ?_
        show Steps p.tables e below (T47.setTop (mkF m 38 #[.val (.ref a1), .val (.long (own_m4 ra rb rc rd)), .second, .val (.long h2), .second, .val (.long h2), .second, .val (.int (2 : Int32)), .val (.int (3 : Int32))] [(.int (3 : Int32)), (.ref a2), (.long (4 : Int64)), (.long (own_m4 ra rb rc rd)), (.long h2)])) _
        refine XS.iconst X47.here hx rfl (hb hby d4_38) ?_
        show Steps p.tables e below (T47.setTop (mkF m 39 #[.val (.ref a1), .val (.long (own_m4 ra rb rc rd)), .second, .val (.long h2), .second, .val (.long h2), .second, .val (.int (2 : Int32)), .val (.int (3 : Int32))] [(.int (1 : Int32)), (.int (3 : Int32)), (.ref a2), (.long (4 : Int64)), (.long (own_m4 ra rb rc rd)), (.long h2)])) _
        refine XS.isub X47.here hx rfl (hb hby d4_39) rfl ?_
        show Steps p.tables e below (T47.setTop (mkF m 40 #[.val (.ref a1), .val (.long (own_m4 ra rb rc rd)), .second, .val (.long h2), .second, .val (.long h2), .second, .val (.int (2 : Int32)), .val (.int (3 : Int32))] [(.int (2 : Int32)), (.ref a2), (.long (4 : Int64)), (.long (own_m4 ra rb rc rd)), (.long h2)])) _
        refine X47.laload hx (j := (2 : Int32)) (v := (.long rc)) (by rw [e47]; exact Ar.1) (State.isArrayOf_alike hZ.alike Ar.2.1) Ar.2.2 (inb_of Sz ⟨by decide, by decide⟩) t2 (g := (mkF m 40 #[.val (.ref a1), .val (.long (own_m4 ra rb rc rd)), .second, .val (.long h2), .second, .val (.long h2), .second, .val (.int (2 : Int32)), .val (.int (3 : Int32))] [(.int (2 : Int32)), (.ref a2), (.long (4 : Int64)), (.long (own_m4 ra rb rc rd)), (.long h2)])) rfl rfl (hb hby d4_40) _ ?_
        show Steps p.tables e below (T47.setTop (mkF m 41 #[.val (.ref a1), .val (.long (own_m4 ra rb rc rd)), .second, .val (.long h2), .second, .val (.long h2), .second, .val (.int (2 : Int32)), .val (.int (3 : Int32))] [(.long rc), (.long (4 : Int64)), (.long (own_m4 ra rb rc rd)), (.long h2)])) _
        refine XS.aloadN X47.here hx rfl (hb hby d4_41) rfl (rfl) ?_
        show Steps p.tables e below (T47.setTop (mkF m 42 #[.val (.ref a1), .val (.long (own_m4 ra rb rc rd)), .second, .val (.long h2), .second, .val (.long h2), .second, .val (.int (2 : Int32)), .val (.int (3 : Int32))] [(.ref a1), (.long rc), (.long (4 : Int64)), (.long (own_m4 ra rb rc rd)), (.long h2)])) _
        refine st48 _ ?_
        show Steps p.tables e below (T48.setTop (mkF m 45 #[.val (.ref a1), .val (.long (own_m4 ra rb rc rd)), .second, .val (.long h2), .second, .val (.long h2), .second, .val (.int (2 : Int32)), .val (.int (3 : Int32))] [(.ref a2), (.long rc), (.long (4 : Int64)), (.long (own_m4 ra rb rc rd)), (.long h2)])) _
        refine XS.iload X48.here hx rfl (hb hby d4_45) rfl ?_
        show Steps p.tables e below (T48.setTop (mkF m 47 #[.val (.ref a1), .val (.long (own_m4 ra rb rc rd)), .second, .val (.long h2), .second, .val (.long h2), .second, .val (.int (2 : Int32)), .val (.int (3 : Int32))] [(.int (3 : Int32)), (.ref a2), (.long rc), (.long (4 : Int64)), (.long (own_m4 ra rb rc rd)), (.long h2)])) _
        refine X48.laload hx (j := (3 : Int32)) (v := (.long rd)) (by rw [e48]; exact Ar.1) (State.isArrayOf_alike hZ.alike Ar.2.1) Ar.2.2 (inb_of Sz ⟨by decide, by decide⟩) t3 (g := (mkF m 47 #[.val (.ref a1), .val (.long (own_m4 ra rb rc rd)), .second, .val (.long h2), .second, .val (.long h2), .second, .val (.int (2 : Int32)), .val (.int (3 : Int32))] [(.int (3 : Int32)), (.ref a2), (.long rc), (.long (4 : Int64)), (.long (own_m4 ra rb rc rd)), (.long h2)])) rfl rfl (hb hby d4_47) _ ?_
        show Steps p.tables e below (T48.setTop (mkF m 48 #[.val (.ref a1), .val (.long (own_m4 ra rb rc rd)), .second, .val (.long h2), .second, .val (.long h2), .second, .val (.int (2 : Int32)), .val (.int (3 : Int32))] [(.long rd), (.long rc), (.long (4 : Int64)), (.long (own_m4 ra rb rc rd)), (.long h2)])) _
        refine XS.ladd X48.here hx rfl (hb hby d4_48) rfl ?_
        show Steps p.tables e below (T48.setTop (mkF m 49 #[.val (.ref a1), .val (.long (own_m4 ra rb rc rd)), .second, .val (.long h2), .second, .val (.long h2), .second, .val (.int (2 : Int32)), .val (.int (3 : Int32))] [(.long (rc + rd)), (.long (4 : Int64)), (.long (own_m4 ra rb rc rd)), (.long h2)])) _
        refine XS.lmul X48.here hx rfl (hb hby d4_49) rfl ?_
        show Steps p.tables e below (T48.setTop (mkF m 50 #[.val (.ref a1), .val (.long (own_m4 ra rb rc rd)), .second, .val (.long h2), .second, .val (.long h2), .second, .val (.int (2 : Int32)), .val (.int (3 : Int32))] [(.long ((4 : Int64) * (rc + rd))), (.long (own_m4 ra rb rc rd)), (.long h2)])) _
        refine XS.lsub X48.here hx rfl (hb hby d4_50) rfl ?_
        show Steps p.tables e below (T48.setTop (mkF m 51 #[.val (.ref a1), .val (.long (own_m4 ra rb rc rd)), .second, .val (.long h2), .second, .val (.long h2), .second, .val (.int (2 : Int32)), .val (.int (3 : Int32))] [(.long ((own_m4 ra rb rc rd) - ((4 : Int64) * (rc + rd)))), (.long h2)])) _
        refine XS.ladd X48.here hx rfl (hb hby d4_51) rfl ?_
        show Steps p.tables e below (T48.setTop (mkF m 52 #[.val (.ref a1), .val (.long (own_m4 ra rb rc rd)), .second, .val (.long h2), .second, .val (.long h2), .second, .val (.int (2 : Int32)), .val (.int (3 : Int32))] [(.long (h2 + ((own_m4 ra rb rc rd) - ((4 : Int64) * (rc + rd)))))])) _
        refine XS.lstoreN X48.here hx rfl (hb hby d4_52) rfl (l' := #[.val (.ref a1), .val (.long (own_m4 ra rb rc rd)), .second, .val (.long (h2 + ((own_m4 ra rb rc rd) - ((4 : Int64) * (rc + rd))))), .second, .val (.long h2), .second, .val (.int (2 : Int32)), .val (.int (3 : Int32))]) rfl ?_
        show Steps p.tables e below (T48.setTop (mkF m 53 #[.val (.ref a1), .val (.long (own_m4 ra rb rc rd)), .second, .val (.long (h2 + ((own_m4 ra rb rc rd) - ((4 : Int64) * (rc + rd))))), .second, .val (.long h2), .second, .val (.int (2 : Int32)), .val (.int (3 : Int32))] [])) _
        exact k
      obtain ⟨h3, hh3⟩ : ∃ z : Int64, z = (own_h4 (own_m4 ra rb rc rd) h2 rc rd) := ⟨_, rfl⟩
      have pre50 : ∀ t, Steps p.tables e below (T48.setTop (mkF m 53 #[.val (.ref a1), .val (.long (own_m4 ra rb rc rd)), .second, .val (.long h3), .second, .val (.long h2), .second, .val (.int (2 : Int32)), .val (.int (3 : Int32))] [])) t → Steps p.tables e below (s₁.setTop (entryFrame m #[(.ref a1)] 9)) t := by rw [hh3]; exact pre49
      have pre51 : ∀ t, Steps p.tables e below (T48.setTop (mkF m 57 #[.val (.ref a1), .val (.long (own_m4 ra rb rc rd)), .second, .val (.long h3), .second, .val (.long h2), .second, .val (.int (2 : Int32)), .val (.int (3 : Int32))] [(.int (lcmpW h3 h2))])) t → Steps p.tables e below (s₁.setTop (entryFrame m #[(.ref a1)] 9)) t := by
        intro t k
        refine pre50 t ?_
        show Steps p.tables e below (T48.setTop (mkF m 53 #[.val (.ref a1), .val (.long (own_m4 ra rb rc rd)), .second, .val (.long h3), .second, .val (.long h2), .second, .val (.int (2 : Int32)), .val (.int (3 : Int32))] [])) _
        refine XS.lloadN X48.here hx rfl (hb hby d4_53) rfl ?_
        show Steps p.tables e below (T48.setTop (mkF m 54 #[.val (.ref a1), .val (.long (own_m4 ra rb rc rd)), .second, .val (.long h3), .second, .val (.long h2), .second, .val (.int (2 : Int32)), .val (.int (3 : Int32))] [(.long h3)])) _
        refine XS.lload X48.here hx rfl (hb hby d4_54) rfl ?_
        show Steps p.tables e below (T48.setTop (mkF m 56 #[.val (.ref a1), .val (.long (own_m4 ra rb rc rd)), .second, .val (.long h3), .second, .val (.long h2), .second, .val (.int (2 : Int32)), .val (.int (3 : Int32))] [(.long h2), (.long h3)])) _
        refine XS.lcmp X48.here hx rfl (hb hby d4_56) rfl ?_
        show Steps p.tables e below (T48.setTop (mkF m 57 #[.val (.ref a1), .val (.long (own_m4 ra rb rc rd)), .second, .val (.long h3), .second, .val (.long h2), .second, .val (.int (2 : Int32)), .val (.int (3 : Int32))] [(.int (lcmpW h3 h2))])) _
        exact k
      by_cases d2_2 : h3 < h2
      · skip
        obtain ⟨T52, X52, e52, st52⟩ := getF X48 hx hZ hown (host := "") (Or.inl (hw _ (List.mem_of_getElem? (i := 15) rfl))) Via.refl e48 F1 (g := (mkF m 19 #[.val (.ref a1), .val (.long (own_m4 ra rb rc rd)), .second, .val (.long h3), .second, .val (.long h3), .second, .val (.int (3 : Int32)), .val (.int (4 : Int32))] [(.ref a1), (.int (4 : Int32))])) rfl rfl (hb hby d4_19)
        have pre53 : ∀ t, Steps p.tables e below (T52.setTop (mkF m 75 #[.val (.ref a1), .val (.long (own_m4 ra rb rc rd)), .second, .val (.long h3), .second, .val (.long h3), .second, .val (.int (3 : Int32)), .val (.int (4 : Int32))] [(.int (3 : Int32))])) t → Steps p.tables e below (s₁.setTop (entryFrame m #[(.ref a1)] 9)) t := by
          intro t k
          refine pre51 t ?_
          refine XS.ifNo X48.here hx rfl (hb hby d4_57) rfl ((if0 _ _).trans (tlt ((lw_lt h3 h2).mpr d2_2)).2.1) ?_
          show Steps p.tables e below (T48.setTop (mkF m 60 #[.val (.ref a1), .val (.long (own_m4 ra rb rc rd)), .second, .val (.long h3), .second, .val (.long h2), .second, .val (.int (2 : Int32)), .val (.int (3 : Int32))] [])) _
          refine XS.lloadN X48.here hx rfl (hb hby d4_60) rfl ?_
          show Steps p.tables e below (T48.setTop (mkF m 61 #[.val (.ref a1), .val (.long (own_m4 ra rb rc rd)), .second, .val (.long h3), .second, .val (.long h2), .second, .val (.int (2 : Int32)), .val (.int (3 : Int32))] [(.long h3)])) _
          refine XS.lstore X48.here hx rfl (hb hby d4_61) rfl (l' := #[.val (.ref a1), .val (.long (own_m4 ra rb rc rd)), .second, .val (.long h3), .second, .val (.long h3), .second, .val (.int (2 : Int32)), .val (.int (3 : Int32))]) rfl ?_
          show Steps p.tables e below (T48.setTop (mkF m 63 #[.val (.ref a1), .val (.long (own_m4 ra rb rc rd)), .second, .val (.long h3), .second, .val (.long h3), .second, .val (.int (2 : Int32)), .val (.int (3 : Int32))] [])) _
          refine XS.iload X48.here hx rfl (hb hby d4_63) rfl ?_
          show Steps p.tables e below (T48.setTop (mkF m 65 #[.val (.ref a1), .val (.long (own_m4 ra rb rc rd)), .second, .val (.long h3), .second, .val (.long h3), .second, .val (.int (2 : Int32)), .val (.int (3 : Int32))] [(.int (3 : Int32))])) _
          refine XS.istore X48.here hx rfl (hb hby d4_65) rfl (l' := #[.val (.ref a1), .val (.long (own_m4 ra rb rc rd)), .second, .val (.long h3), .second, .val (.long h3), .second, .val (.int (3 : Int32)), .val (.int (3 : Int32))]) rfl ?_
          show Steps p.tables e below (T48.setTop (mkF m 67 #[.val (.ref a1), .val (.long (own_m4 ra rb rc rd)), .second, .val (.long h3), .second, .val (.long h3), .second, .val (.int (3 : Int32)), .val (.int (3 : Int32))] [])) _
          refine XS.iinc X48.here hx rfl (hb hby d4_67) rfl (l' := #[.val (.ref a1), .val (.long (own_m4 ra rb rc rd)), .second, .val (.long h3), .second, .val (.long h3), .second, .val (.int (3 : Int32)), .val (.int (4 : Int32))]) rfl ?_
          show Steps p.tables e below (T48.setTop (mkF m 70 #[.val (.ref a1), .val (.long (own_m4 ra rb rc rd)), .second, .val (.long h3), .second, .val (.long h3), .second, .val (.int (3 : Int32)), .val (.int (4 : Int32))] [])) _
          refine XS.goto X48.here hx rfl (pc0 := 70) (pc' := 16) rfl (hb hby d4_70) (by decide) (by decide) ?_
          show Steps p.tables e below (T48.setTop (mkF m 16 #[.val (.ref a1), .val (.long (own_m4 ra rb rc rd)), .second, .val (.long h3), .second, .val (.long h3), .second, .val (.int (3 : Int32)), .val (.int (4 : Int32))] [])) _
          refine XS.iload X48.here hx rfl (hb hby d4_16) rfl ?_
          show Steps p.tables e below (T48.setTop (mkF m 18 #[.val (.ref a1), .val (.long (own_m4 ra rb rc rd)), .second, .val (.long h3), .second, .val (.long h3), .second, .val (.int (3 : Int32)), .val (.int (4 : Int32))] [(.int (4 : Int32))])) _
          refine XS.aloadN X48.here hx rfl (hb hby d4_18) rfl (rfl) ?_
          show Steps p.tables e below (T48.setTop (mkF m 19 #[.val (.ref a1), .val (.long (own_m4 ra rb rc rd)), .second, .val (.long h3), .second, .val (.long h3), .second, .val (.int (3 : Int32)), .val (.int (4 : Int32))] [(.ref a1), (.int (4 : Int32))])) _
          refine st52 _ ?_
          show Steps p.tables e below (T52.setTop (mkF m 22 #[.val (.ref a1), .val (.long (own_m4 ra rb rc rd)), .second, .val (.long h3), .second, .val (.long h3), .second, .val (.int (3 : Int32)), .val (.int (4 : Int32))] [(.int (4 : Int32)), (.int (4 : Int32))])) _
          refine XS.icmpYes X52.here hx rfl (pc0 := 22) (pc' := 73) rfl (hb hby d4_22) rfl (flt (by decide : ¬ ((4 : Int32) < (4 : Int32)))).2.1 (by decide) (by decide) ?_
          show Steps p.tables e below (T52.setTop (mkF m 73 #[.val (.ref a1), .val (.long (own_m4 ra rb rc rd)), .second, .val (.long h3), .second, .val (.long h3), .second, .val (.int (3 : Int32)), .val (.int (4 : Int32))] [])) _
          refine XS.iload X52.here hx rfl (hb hby d4_73) rfl ?_
          show Steps p.tables e below (T52.setTop (mkF m 75 #[.val (.ref a1), .val (.long (own_m4 ra rb rc rd)), .second, .val (.long h3), .second, .val (.long h3), .second, .val (.int (3 : Int32)), .val (.int (4 : Int32))] [(.int (3 : Int32))])) _
          exact k
        obtain ⟨fs, hr, hrun, hended, hW, hsame⟩ := X52.leave (v := some (.int (3 : Int32))) (fun h => by rw [Bd.returns] at h; cases h)
        refine ⟨_, _, pre53 _ ?_, hrun, hended, _, _, rfl, ?_, ⟨_, rfl⟩, hW, hsame.mono (by decide) (by decide)⟩
        · exact retOut X52 hx Bd.returns rfl (Or.inl ⟨rfl, Or.inl rfl, _, rfl⟩) (hb hby d4_75) hr
        · show Q_rmL4 Z a1 a2 cl ra rb rc rd h0 n0 _ T52.heap _
          rw [e52]
          exact ⟨by simp [own_l4, ← hh1, ← hh2, ← hh3, d0_0, d1_1, d2_2], N1, rfl⟩
      · skip
        obtain ⟨T54, X54, e54, st54⟩ := getF X48 hx hZ hown (host := "") (Or.inl (hw _ (List.mem_of_getElem? (i := 15) rfl))) Via.refl e48 F1 (g := (mkF m 19 #[.val (.ref a1), .val (.long (own_m4 ra rb rc rd)), .second, .val (.long h3), .second, .val (.long h2), .second, .val (.int (2 : Int32)), .val (.int (4 : Int32))] [(.ref a1), (.int (4 : Int32))])) rfl rfl (hb hby d4_19)
        have pre55 : ∀ t, Steps p.tables e below (T54.setTop (mkF m 75 #[.val (.ref a1), .val (.long (own_m4 ra rb rc rd)), .second, .val (.long h3), .second, .val (.long h2), .second, .val (.int (2 : Int32)), .val (.int (4 : Int32))] [(.int (2 : Int32))])) t → Steps p.tables e below (s₁.setTop (entryFrame m #[(.ref a1)] 9)) t := by
          intro t k
          refine pre51 t ?_
          refine XS.ifYes X48.here hx rfl (pc0 := 57) (pc' := 67) rfl (hb hby d4_57) rfl ((if0 _ _).trans (flt (mt (lw_lt h3 h2).mp d2_2)).2.1) (by decide) (by decide) ?_
          show Steps p.tables e below (T48.setTop (mkF m 67 #[.val (.ref a1), .val (.long (own_m4 ra rb rc rd)), .second, .val (.long h3), .second, .val (.long h2), .second, .val (.int (2 : Int32)), .val (.int (3 : Int32))] [])) _
          refine XS.iinc X48.here hx rfl (hb hby d4_67) rfl (l' := #[.val (.ref a1), .val (.long (own_m4 ra rb rc rd)), .second, .val (.long h3), .second, .val (.long h2), .second, .val (.int (2 : Int32)), .val (.int (4 : Int32))]) rfl ?_
          show Steps p.tables e below (T48.setTop (mkF m 70 #[.val (.ref a1), .val (.long (own_m4 ra rb rc rd)), .second, .val (.long h3), .second, .val (.long h2), .second, .val (.int (2 : Int32)), .val (.int (4 : Int32))] [])) _
          refine XS.goto X48.here hx rfl (pc0 := 70) (pc' := 16) rfl (hb hby d4_70) (by decide) (by decide) ?_
          show Steps p.tables e below (T48.setTop (mkF m 16 #[.val (.ref a1), .val (.long (own_m4 ra rb rc rd)), .second, .val (.long h3), .second, .val (.long h2), .second, .val (.int (2 : Int32)), .val (.int (4 : Int32))] [])) _
          refine XS.iload X48.here hx rfl (hb hby d4_16) rfl ?_
          show Steps p.tables e below (T48.setTop (mkF m 18 #[.val (.ref a1), .val (.long (own_m4 ra rb rc rd)), .second, .val (.long h3), .second, .val (.long h2), .second, .val (.int (2 : Int32)), .val (.int (4 : Int32))] [(.int (4 : Int32))])) _
          refine XS.aloadN X48.here hx rfl (hb hby d4_18) rfl (rfl) ?_
          show Steps p.tables e below (T48.setTop (mkF m 19 #[.val (.ref a1), .val (.long (own_m4 ra rb rc rd)), .second, .val (.long h3), .second, .val (.long h2), .second, .val (.int (2 : Int32)), .val (.int (4 : Int32))] [(.ref a1), (.int (4 : Int32))])) _
          refine st54 _ ?_
          show Steps p.tables e below (T54.setTop (mkF m 22 #[.val (.ref a1), .val (.long (own_m4 ra rb rc rd)), .second, .val (.long h3), .second, .val (.long h2), .second, .val (.int (2 : Int32)), .val (.int (4 : Int32))] [(.int (4 : Int32)), (.int (4 : Int32))])) _
          refine XS.icmpYes X54.here hx rfl (pc0 := 22) (pc' := 73) rfl (hb hby d4_22) rfl (flt (by decide : ¬ ((4 : Int32) < (4 : Int32)))).2.1 (by decide) (by decide) ?_
          show Steps p.tables e below (T54.setTop (mkF m 73 #[.val (.ref a1), .val (.long (own_m4 ra rb rc rd)), .second, .val (.long h3), .second, .val (.long h2), .second, .val (.int (2 : Int32)), .val (.int (4 : Int32))] [])) _
          refine XS.iload X54.here hx rfl (hb hby d4_73) rfl ?_
          show Steps p.tables e below (T54.setTop (mkF m 75 #[.val (.ref a1), .val (.long (own_m4 ra rb rc rd)), .second, .val (.long h3), .second, .val (.long h2), .second, .val (.int (2 : Int32)), .val (.int (4 : Int32))] [(.int (2 : Int32))])) _
          exact k
        obtain ⟨fs, hr, hrun, hended, hW, hsame⟩ := X54.leave (v := some (.int (2 : Int32))) (fun h => by rw [Bd.returns] at h; cases h)
        refine ⟨_, _, pre55 _ ?_, hrun, hended, _, _, rfl, ?_, ⟨_, rfl⟩, hW, hsame.mono (by decide) (by decide)⟩
        · exact retOut X54 hx Bd.returns rfl (Or.inl ⟨rfl, Or.inl rfl, _, rfl⟩) (hb hby d4_75) hr
        · show Q_rmL4 Z a1 a2 cl ra rb rc rd h0 n0 _ T54.heap _
          rw [e54]
          exact ⟨by simp [own_l4, ← hh1, ← hh2, ← hh3, d0_0, d1_1, d2_2], N1, rfl⟩
    · skip
      obtain ⟨T56, X56, e56, st56⟩ := getF X41 hx hZ hown (host := "") (Or.inl (hw _ (List.mem_of_getElem? (i := 15) rfl))) Via.refl e41 F1 (g := (mkF m 19 #[.val (.ref a1), .val (.long (own_m4 ra rb rc rd)), .second, .val (.long h2), .second, .val (.long (0 : Int64)), .second, .val (.int (0 : Int32)), .val (.int (3 : Int32))] [(.ref a1), (.int (3 : Int32))])) rfl rfl (hb hby d4_19)
      obtain ⟨T57, X57, e57, st57⟩ := getF X56 hx hZ hown (host := "") (Or.inl (hw _ (List.mem_of_getElem? (i := 15) rfl))) Via.refl e56 F1 (g := (mkF m 28 #[.val (.ref a1), .val (.long (own_m4 ra rb rc rd)), .second, .val (.long h2), .second, .val (.long (0 : Int64)), .second, .val (.int (0 : Int32)), .val (.int (3 : Int32))] [(.ref a1), (.long (own_m4 ra rb rc rd)), (.long h2)])) rfl rfl (hb hby d4_28)
      obtain ⟨T58, X58, e58, st58⟩ := getF X57 hx hZ hown (host := "") (Or.inl (hw _ (List.mem_of_getElem? (i := 17) rfl))) Via.refl e57 F2 (g := (mkF m 33 #[.val (.ref a1), .val (.long (own_m4 ra rb rc rd)), .second, .val (.long h2), .second, .val (.long (0 : Int64)), .second, .val (.int (0 : Int32)), .val (.int (3 : Int32))] [(.ref a1), (.long (4 : Int64)), (.long (own_m4 ra rb rc rd)), (.long h2)])) rfl rfl (hb hby d4_33)
      obtain ⟨T59, X59, e59, st59⟩ := getF X58 hx hZ hown (host := "") (Or.inl (hw _ (List.mem_of_getElem? (i := 17) rfl))) Via.refl e58 F2 (g := (mkF m 42 #[.val (.ref a1), .val (.long (own_m4 ra rb rc rd)), .second, .val (.long h2), .second, .val (.long (0 : Int64)), .second, .val (.int (0 : Int32)), .val (.int (3 : Int32))] [(.ref a1), (.long rc), (.long (4 : Int64)), (.long (own_m4 ra rb rc rd)), (.long h2)])) rfl rfl (hb hby d4_42)
      have pre60 : ∀ t, Steps p.tables e below (T59.setTop (mkF m 53 #[.val (.ref a1), .val (.long (own_m4 ra rb rc rd)), .second, .val (.long (h2 + ((own_m4 ra rb rc rd) - ((4 : Int64) * (rc + rd))))), .second, .val (.long (0 : Int64)), .second, .val (.int (0 : Int32)), .val (.int (3 : Int32))] [])) t → Steps p.tables e below (s₁.setTop (entryFrame m #[(.ref a1)] 9)) t := by
        intro t k
        refine pre44 t ?_
        refine XS.ifYes X41.here hx rfl (pc0 := 57) (pc' := 67) rfl (hb hby d4_57) rfl ((if0 _ _).trans (flt (mt (lw_lt h2 (0 : Int64)).mp d1_1)).2.1) (by decide) (by decide) ?_
        show Steps p.tables e below (T41.setTop (mkF m 67 #[.val (.ref a1), .val (.long (own_m4 ra rb rc rd)), .second, .val (.long h2), .second, .val (.long (0 : Int64)), .second, .val (.int (0 : Int32)), .val (.int (2 : Int32))] [])) _
        refine XS.iinc X41.here hx rfl (hb hby d4_67) rfl (l' := #[.val (.ref a1), .val (.long (own_m4 ra rb rc rd)), .second, .val (.long h2), .second, .val (.long (0 : Int64)), .second, .val (.int (0 : Int32)), .val (.int (3 : Int32))]) rfl ?_
        show Steps p.tables e below (T41.setTop (mkF m 70 #[.val (.ref a1), .val (.long (own_m4 ra rb rc rd)), .second, .val (.long h2), .second, .val (.long (0 : Int64)), .second, .val (.int (0 : Int32)), .val (.int (3 : Int32))] [])) _
        refine XS.goto X41.here hx rfl (pc0 := 70) (pc' := 16) rfl (hb hby d4_70) (by decide) (by decide) ?_
        show Steps p.tables e below (T41.setTop (mkF m 16 #[.val (.ref a1), .val (.long (own_m4 ra rb rc rd)), .second, .val (.long h2), .second, .val (.long (0 : Int64)), .second, .val (.int (0 : Int32)), .val (.int (3 : Int32))] [])) _
        refine XS.iload X41.here hx rfl (hb hby d4_16) rfl ?_
        show Steps p.tables e below (T41.setTop (mkF m 18 #[.val (.ref a1), .val (.long (own_m4 ra rb rc rd)), .second, .val (.long h2), .second, .val (.long (0 : Int64)), .second, .val (.int (0 : Int32)), .val (.int (3 : Int32))] [(.int (3 : Int32))])) _
        refine XS.aloadN X41.here hx rfl (hb hby d4_18) rfl (rfl) ?_
        show Steps p.tables e below (T41.setTop (mkF m 19 #[.val (.ref a1), .val (.long (own_m4 ra rb rc rd)), .second, .val (.long h2), .second, .val (.long (0 : Int64)), .second, .val (.int (0 : Int32)), .val (.int (3 : Int32))] [(.ref a1), (.int (3 : Int32))])) _
        refine st56 _ ?_
        show Steps p.tables e below (T56.setTop (mkF m 22 #[.val (.ref a1), .val (.long (own_m4 ra rb rc rd)), .second, .val (.long h2), .second, .val (.long (0 : Int64)), .second, .val (.int (0 : Int32)), .val (.int (3 : Int32))] [(.int (4 : Int32)), (.int (3 : Int32))])) _
        refine XS.icmpNo X56.here hx rfl (hb hby d4_22) rfl (tlt (by decide : (3 : Int32) < (4 : Int32))).2.1 ?_
        show Steps p.tables e below (T56.setTop (mkF m 25 #[.val (.ref a1), .val (.long (own_m4 ra rb rc rd)), .second, .val (.long h2), .second, .val (.long (0 : Int64)), .second, .val (.int (0 : Int32)), .val (.int (3 : Int32))] [])) _
        refine XS.lloadN X56.here hx rfl (hb hby d4_25) rfl ?_
        show Steps p.tables e below (T56.setTop (mkF m 26 #[.val (.ref a1), .val (.long (own_m4 ra rb rc rd)), .second, .val (.long h2), .second, .val (.long (0 : Int64)), .second, .val (.int (0 : Int32)), .val (.int (3 : Int32))] [(.long h2)])) _
        refine XS.lloadN X56.here hx rfl (hb hby d4_26) rfl ?_
        show Steps p.tables e below (T56.setTop (mkF m 27 #[.val (.ref a1), .val (.long (own_m4 ra rb rc rd)), .second, .val (.long h2), .second, .val (.long (0 : Int64)), .second, .val (.int (0 : Int32)), .val (.int (3 : Int32))] [(.long (own_m4 ra rb rc rd)), (.long h2)])) _
        refine XS.aloadN X56.here hx rfl (hb hby d4_27) rfl (rfl) ?_
        show Steps p.tables e below (T56.setTop (mkF m 28 #[.val (.ref a1), .val (.long (own_m4 ra rb rc rd)), .second, .val (.long h2), .second, .val (.long (0 : Int64)), .second, .val (.int (0 : Int32)), .val (.int (3 : Int32))] [(.ref a1), (.long (own_m4 ra rb rc rd)), (.long h2)])) _
        refine st57 _ ?_
        show Steps p.tables e below (T57.setTop (mkF m 31 #[.val (.ref a1), .val (.long (own_m4 ra rb rc rd)), .second, .val (.long h2), .second, .val (.long (0 : Int64)), .second, .val (.int (0 : Int32)), .val (.int (3 : Int32))] [(.int (4 : Int32)), (.long (own_m4 ra rb rc rd)), (.long h2)])) _
        refine XS.i2l X57.here hx rfl (hb hby d4_31) rfl ?_
        show Steps p.tables e below (T57.setTop (mkF m 32 #[.val (.ref a1), .val (.long (own_m4 ra rb rc rd)), .second, .val (.long h2), .second, .val (.long (0 : Int64)), .second, .val (.int (0 : Int32)), .val (.int (3 : Int32))] [(.long (4 : Int64)), (.long (own_m4 ra rb rc rd)), (.long h2)])) _
        refine XS.aloadN X57.here hx rfl (hb hby d4_32) rfl (rfl) ?_
        show Steps p.tables e below (T57.setTop (mkF m 33 #[.val (.ref a1), .val (.long (own_m4 ra rb rc rd)), .second, .val (.long h2), .second, .val (.long (0 : Int64)), .second, .val (.int (0 : Int32)), .val (.int (3 : Int32))] [(.ref a1), (.long (4 : Int64)), (.long (own_m4 ra rb rc rd)), (.long h2)])) _
        refine st58 _ ?_
        show Steps p.tables e below (T58.setTop (mkF m 36 #[.val (.ref a1), .val (.long (own_m4 ra rb rc rd)), .second, .val (.long h2), .second, .val (.long (0 : Int64)), .second, .val (.int (0 : Int32)), .val (.int (3 : Int32))] [(.ref a2), (.long (4 : Int64)), (.long (own_m4 ra rb rc rd)), (.long h2)])) _
        refine XS.iload X58.here hx rfl (hb hby d4_36) rfl ?_
        show Steps p.tables e below (T58.setTop (mkF m 38 #[.val (.ref a1), .val (.long (own_m4 ra rb rc rd)), .second, .val (.long h2), .second, .val (.long (0 : Int64)), .second, .val (.int (0 : Int32)), .val (.int (3 : Int32))] [(.int (3 : Int32)), (.ref a2), (.long (4 : Int64)), (.long (own_m4 ra rb rc rd)), (.long h2)])) _
        refine XS.iconst X58.here hx rfl (hb hby d4_38) ?_
        show Steps p.tables e below (T58.setTop (mkF m 39 #[.val (.ref a1), .val (.long (own_m4 ra rb rc rd)), .second, .val (.long h2), .second, .val (.long (0 : Int64)), .second, .val (.int (0 : Int32)), .val (.int (3 : Int32))] [(.int (1 : Int32)), (.int (3 : Int32)), (.ref a2), (.long (4 : Int64)), (.long (own_m4 ra rb rc rd)), (.long h2)])) _
        refine XS.isub X58.here hx rfl (hb hby d4_39) rfl ?_
        show Steps p.tables e below (T58.setTop (mkF m 40 #[.val (.ref a1), .val (.long (own_m4 ra rb rc rd)), .second, .val (.long h2), .second, .val (.long (0 : Int64)), .second, .val (.int (0 : Int32)), .val (.int (3 : Int32))] [(.int (2 : Int32)), (.ref a2), (.long (4 : Int64)), (.long (own_m4 ra rb rc rd)), (.long h2)])) _
        refine X58.laload hx (j := (2 : Int32)) (v := (.long rc)) (by rw [e58]; exact Ar.1) (State.isArrayOf_alike hZ.alike Ar.2.1) Ar.2.2 (inb_of Sz ⟨by decide, by decide⟩) t2 (g := (mkF m 40 #[.val (.ref a1), .val (.long (own_m4 ra rb rc rd)), .second, .val (.long h2), .second, .val (.long (0 : Int64)), .second, .val (.int (0 : Int32)), .val (.int (3 : Int32))] [(.int (2 : Int32)), (.ref a2), (.long (4 : Int64)), (.long (own_m4 ra rb rc rd)), (.long h2)])) rfl rfl (hb hby d4_40) _ ?_
        show Steps p.tables e below (T58.setTop (mkF m 41 #[.val (.ref a1), .val (.long (own_m4 ra rb rc rd)), .second, .val (.long h2), .second, .val (.long (0 : Int64)), .second, .val (.int (0 : Int32)), .val (.int (3 : Int32))] [(.long rc), (.long (4 : Int64)), (.long (own_m4 ra rb rc rd)), (.long h2)])) _
        refine XS.aloadN X58.here hx rfl (hb hby d4_41) rfl (rfl) ?_
        show Steps p.tables e below (T58.setTop (mkF m 42 #[.val (.ref a1), .val (.long (own_m4 ra rb rc rd)), .second, .val (.long h2), .second, .val (.long (0 : Int64)), .second, .val (.int (0 : Int32)), .val (.int (3 : Int32))] [(.ref a1), (.long rc), (.long (4 : Int64)), (.long (own_m4 ra rb rc rd)), (.long h2)])) _
        refine st59 _ ?_
        show Steps p.tables e below (T59.setTop (mkF m 45 #[.val (.ref a1), .val (.long (own_m4 ra rb rc rd)), .second, .val (.long h2), .second, .val (.long (0 : Int64)), .second, .val (.int (0 : Int32)), .val (.int (3 : Int32))] [(.ref a2), (.long rc), (.long (4 : Int64)), (.long (own_m4 ra rb rc rd)), (.long h2)])) _
        refine XS.iload X59.here hx rfl (hb hby d4_45) rfl ?_
        show Steps p.tables e below (T59.setTop (mkF m 47 #[.val (.ref a1), .val (.long (own_m4 ra rb rc rd)), .second, .val (.long h2), .second, .val (.long (0 : Int64)), .second, .val (.int (0 : Int32)), .val (.int (3 : Int32))] [(.int (3 : Int32)), (.ref a2), (.long rc), (.long (4 : Int64)), (.long (own_m4 ra rb rc rd)), (.long h2)])) _
        refine X59.laload hx (j := (3 : Int32)) (v := (.long rd)) (by rw [e59]; exact Ar.1) (State.isArrayOf_alike hZ.alike Ar.2.1) Ar.2.2 (inb_of Sz ⟨by decide, by decide⟩) t3 (g := (mkF m 47 #[.val (.ref a1), .val (.long (own_m4 ra rb rc rd)), .second, .val (.long h2), .second, .val (.long (0 : Int64)), .second, .val (.int (0 : Int32)), .val (.int (3 : Int32))] [(.int (3 : Int32)), (.ref a2), (.long rc), (.long (4 : Int64)), (.long (own_m4 ra rb rc rd)), (.long h2)])) rfl rfl (hb hby d4_47) _ ?_
        show Steps p.tables e below (T59.setTop (mkF m 48 #[.val (.ref a1), .val (.long (own_m4 ra rb rc rd)), .second, .val (.long h2), .second, .val (.long (0 : Int64)), .second, .val (.int (0 : Int32)), .val (.int (3 : Int32))] [(.long rd), (.long rc), (.long (4 : Int64)), (.long (own_m4 ra rb rc rd)), (.long h2)])) _
        refine XS.ladd X59.here hx rfl (hb hby d4_48) rfl ?_
        show Steps p.tables e below (T59.setTop (mkF m 49 #[.val (.ref a1), .val (.long (own_m4 ra rb rc rd)), .second, .val (.long h2), .second, .val (.long (0 : Int64)), .second, .val (.int (0 : Int32)), .val (.int (3 : Int32))] [(.long (rc + rd)), (.long (4 : Int64)), (.long (own_m4 ra rb rc rd)), (.long h2)])) _
        refine XS.lmul X59.here hx rfl (hb hby d4_49) rfl ?_
        show Steps p.tables e below (T59.setTop (mkF m 50 #[.val (.ref a1), .val (.long (own_m4 ra rb rc rd)), .second, .val (.long h2), .second, .val (.long (0 : Int64)), .second, .val (.int (0 : Int32)), .val (.int (3 : Int32))] [(.long ((4 : Int64) * (rc + rd))), (.long (own_m4 ra rb rc rd)), (.long h2)])) _
        refine XS.lsub X59.here hx rfl (hb hby d4_50) rfl ?_
        show Steps p.tables e below (T59.setTop (mkF m 51 #[.val (.ref a1), .val (.long (own_m4 ra rb rc rd)), .second, .val (.long h2), .second, .val (.long (0 : Int64)), .second, .val (.int (0 : Int32)), .val (.int (3 : Int32))] [(.long ((own_m4 ra rb rc rd) - ((4 : Int64) * (rc + rd)))), (.long h2)])) _
        refine XS.ladd X59.here hx rfl (hb hby d4_51) rfl ?_
        show Steps p.tables e below (T59.setTop (mkF m 52 #[.val (.ref a1), .val (.long (own_m4 ra rb rc rd)), .second, .val (.long h2), .second, .val (.long (0 : Int64)), .second, .val (.int (0 : Int32)), .val (.int (3 : Int32))] [(.long (h2 + ((own_m4 ra rb rc rd) - ((4 : Int64) * (rc + rd)))))])) _
        refine XS.lstoreN X59.here hx rfl (hb hby d4_52) rfl (l' := #[.val (.ref a1), .val (.long (own_m4 ra rb rc rd)), .second, .val (.long (h2 + ((own_m4 ra rb rc rd) - ((4 : Int64) * (rc + rd))))), .second, .val (.long (0 : Int64)), .second, .val (.int (0 : Int32)), .val (.int (3 : Int32))]) rfl ?_
        show Steps p.tables e below (T59.setTop (mkF m 53 #[.val (.ref a1), .val (.long (own_m4 ra rb rc rd)), .second, .val (.long (h2 + ((own_m4 ra rb rc rd) - ((4 : Int64) * (rc + rd))))), .second, .val (.long (0 : Int64)), .second, .val (.int (0 : Int32)), .val (.int (3 : Int32))] [])) _
        exact k
      obtain ⟨h3, hh3⟩ : ∃ z : Int64, z = (own_h4 (own_m4 ra rb rc rd) h2 rc rd) := ⟨_, rfl⟩
      have pre61 : ∀ t, Steps p.tables e below (T59.setTop (mkF m 53 #[.val (.ref a1), .val (.long (own_m4 ra rb rc rd)), .second, .val (.long h3), .second, .val (.long (0 : Int64)), .second, .val (.int (0 : Int32)), .val (.int (3 : Int32))] [])) t → Steps p.tables e below (s₁.setTop (entryFrame m #[(.ref a1)] 9)) t := by rw [hh3]; exact pre60
      have pre62 : ∀ t, Steps p.tables e below (T59.setTop (mkF m 57 #[.val (.ref a1), .val (.long (own_m4 ra rb rc rd)), .second, .val (.long h3), .second, .val (.long (0 : Int64)), .second, .val (.int (0 : Int32)), .val (.int (3 : Int32))] [(.int (lcmpW h3 (0 : Int64)))])) t → Steps p.tables e below (s₁.setTop (entryFrame m #[(.ref a1)] 9)) t := by
        intro t k
        refine pre61 t ?_
        show Steps p.tables e below (T59.setTop (mkF m 53 #[.val (.ref a1), .val (.long (own_m4 ra rb rc rd)), .second, .val (.long h3), .second, .val (.long (0 : Int64)), .second, .val (.int (0 : Int32)), .val (.int (3 : Int32))] [])) _
        refine XS.lloadN X59.here hx rfl (hb hby d4_53) rfl ?_
        show Steps p.tables e below (T59.setTop (mkF m 54 #[.val (.ref a1), .val (.long (own_m4 ra rb rc rd)), .second, .val (.long h3), .second, .val (.long (0 : Int64)), .second, .val (.int (0 : Int32)), .val (.int (3 : Int32))] [(.long h3)])) _
        refine XS.lload X59.here hx rfl (hb hby d4_54) rfl ?_
        show Steps p.tables e below (T59.setTop (mkF m 56 #[.val (.ref a1), .val (.long (own_m4 ra rb rc rd)), .second, .val (.long h3), .second, .val (.long (0 : Int64)), .second, .val (.int (0 : Int32)), .val (.int (3 : Int32))] [(.long (0 : Int64)), (.long h3)])) _
        refine XS.lcmp X59.here hx rfl (hb hby d4_56) rfl ?_
        show Steps p.tables e below (T59.setTop (mkF m 57 #[.val (.ref a1), .val (.long (own_m4 ra rb rc rd)), .second, .val (.long h3), .second, .val (.long (0 : Int64)), .second, .val (.int (0 : Int32)), .val (.int (3 : Int32))] [(.int (lcmpW h3 (0 : Int64)))])) _
        exact k
      by_cases d2_2 : h3 < (0 : Int64)
      · skip
        obtain ⟨T63, X63, e63, st63⟩ := getF X59 hx hZ hown (host := "") (Or.inl (hw _ (List.mem_of_getElem? (i := 15) rfl))) Via.refl e59 F1 (g := (mkF m 19 #[.val (.ref a1), .val (.long (own_m4 ra rb rc rd)), .second, .val (.long h3), .second, .val (.long h3), .second, .val (.int (3 : Int32)), .val (.int (4 : Int32))] [(.ref a1), (.int (4 : Int32))])) rfl rfl (hb hby d4_19)
        have pre64 : ∀ t, Steps p.tables e below (T63.setTop (mkF m 75 #[.val (.ref a1), .val (.long (own_m4 ra rb rc rd)), .second, .val (.long h3), .second, .val (.long h3), .second, .val (.int (3 : Int32)), .val (.int (4 : Int32))] [(.int (3 : Int32))])) t → Steps p.tables e below (s₁.setTop (entryFrame m #[(.ref a1)] 9)) t := by
          intro t k
          refine pre62 t ?_
          refine XS.ifNo X59.here hx rfl (hb hby d4_57) rfl ((if0 _ _).trans (tlt ((lw_lt h3 (0 : Int64)).mpr d2_2)).2.1) ?_
          show Steps p.tables e below (T59.setTop (mkF m 60 #[.val (.ref a1), .val (.long (own_m4 ra rb rc rd)), .second, .val (.long h3), .second, .val (.long (0 : Int64)), .second, .val (.int (0 : Int32)), .val (.int (3 : Int32))] [])) _
          refine XS.lloadN X59.here hx rfl (hb hby d4_60) rfl ?_
          show Steps p.tables e below (T59.setTop (mkF m 61 #[.val (.ref a1), .val (.long (own_m4 ra rb rc rd)), .second, .val (.long h3), .second, .val (.long (0 : Int64)), .second, .val (.int (0 : Int32)), .val (.int (3 : Int32))] [(.long h3)])) _
          refine XS.lstore X59.here hx rfl (hb hby d4_61) rfl (l' := #[.val (.ref a1), .val (.long (own_m4 ra rb rc rd)), .second, .val (.long h3), .second, .val (.long h3), .second, .val (.int (0 : Int32)), .val (.int (3 : Int32))]) rfl ?_
          show Steps p.tables e below (T59.setTop (mkF m 63 #[.val (.ref a1), .val (.long (own_m4 ra rb rc rd)), .second, .val (.long h3), .second, .val (.long h3), .second, .val (.int (0 : Int32)), .val (.int (3 : Int32))] [])) _
          refine XS.iload X59.here hx rfl (hb hby d4_63) rfl ?_
          show Steps p.tables e below (T59.setTop (mkF m 65 #[.val (.ref a1), .val (.long (own_m4 ra rb rc rd)), .second, .val (.long h3), .second, .val (.long h3), .second, .val (.int (0 : Int32)), .val (.int (3 : Int32))] [(.int (3 : Int32))])) _
          refine XS.istore X59.here hx rfl (hb hby d4_65) rfl (l' := #[.val (.ref a1), .val (.long (own_m4 ra rb rc rd)), .second, .val (.long h3), .second, .val (.long h3), .second, .val (.int (3 : Int32)), .val (.int (3 : Int32))]) rfl ?_
          show Steps p.tables e below (T59.setTop (mkF m 67 #[.val (.ref a1), .val (.long (own_m4 ra rb rc rd)), .second, .val (.long h3), .second, .val (.long h3), .second, .val (.int (3 : Int32)), .val (.int (3 : Int32))] [])) _
          refine XS.iinc X59.here hx rfl (hb hby d4_67) rfl (l' := #[.val (.ref a1), .val (.long (own_m4 ra rb rc rd)), .second, .val (.long h3), .second, .val (.long h3), .second, .val (.int (3 : Int32)), .val (.int (4 : Int32))]) rfl ?_
          show Steps p.tables e below (T59.setTop (mkF m 70 #[.val (.ref a1), .val (.long (own_m4 ra rb rc rd)), .second, .val (.long h3), .second, .val (.long h3), .second, .val (.int (3 : Int32)), .val (.int (4 : Int32))] [])) _
          refine XS.goto X59.here hx rfl (pc0 := 70) (pc' := 16) rfl (hb hby d4_70) (by decide) (by decide) ?_
          show Steps p.tables e below (T59.setTop (mkF m 16 #[.val (.ref a1), .val (.long (own_m4 ra rb rc rd)), .second, .val (.long h3), .second, .val (.long h3), .second, .val (.int (3 : Int32)), .val (.int (4 : Int32))] [])) _
          refine XS.iload X59.here hx rfl (hb hby d4_16) rfl ?_
          show Steps p.tables e below (T59.setTop (mkF m 18 #[.val (.ref a1), .val (.long (own_m4 ra rb rc rd)), .second, .val (.long h3), .second, .val (.long h3), .second, .val (.int (3 : Int32)), .val (.int (4 : Int32))] [(.int (4 : Int32))])) _
          refine XS.aloadN X59.here hx rfl (hb hby d4_18) rfl (rfl) ?_
          show Steps p.tables e below (T59.setTop (mkF m 19 #[.val (.ref a1), .val (.long (own_m4 ra rb rc rd)), .second, .val (.long h3), .second, .val (.long h3), .second, .val (.int (3 : Int32)), .val (.int (4 : Int32))] [(.ref a1), (.int (4 : Int32))])) _
          refine st63 _ ?_
          show Steps p.tables e below (T63.setTop (mkF m 22 #[.val (.ref a1), .val (.long (own_m4 ra rb rc rd)), .second, .val (.long h3), .second, .val (.long h3), .second, .val (.int (3 : Int32)), .val (.int (4 : Int32))] [(.int (4 : Int32)), (.int (4 : Int32))])) _
          refine XS.icmpYes X63.here hx rfl (pc0 := 22) (pc' := 73) rfl (hb hby d4_22) rfl (flt (by decide : ¬ ((4 : Int32) < (4 : Int32)))).2.1 (by decide) (by decide) ?_
          show Steps p.tables e below (T63.setTop (mkF m 73 #[.val (.ref a1), .val (.long (own_m4 ra rb rc rd)), .second, .val (.long h3), .second, .val (.long h3), .second, .val (.int (3 : Int32)), .val (.int (4 : Int32))] [])) _
          refine XS.iload X63.here hx rfl (hb hby d4_73) rfl ?_
          show Steps p.tables e below (T63.setTop (mkF m 75 #[.val (.ref a1), .val (.long (own_m4 ra rb rc rd)), .second, .val (.long h3), .second, .val (.long h3), .second, .val (.int (3 : Int32)), .val (.int (4 : Int32))] [(.int (3 : Int32))])) _
          exact k
        obtain ⟨fs, hr, hrun, hended, hW, hsame⟩ := X63.leave (v := some (.int (3 : Int32))) (fun h => by rw [Bd.returns] at h; cases h)
        refine ⟨_, _, pre64 _ ?_, hrun, hended, _, _, rfl, ?_, ⟨_, rfl⟩, hW, hsame.mono (by decide) (by decide)⟩
        · exact retOut X63 hx Bd.returns rfl (Or.inl ⟨rfl, Or.inl rfl, _, rfl⟩) (hb hby d4_75) hr
        · show Q_rmL4 Z a1 a2 cl ra rb rc rd h0 n0 _ T63.heap _
          rw [e63]
          exact ⟨by simp [own_l4, ← hh1, ← hh2, ← hh3, d0_0, d1_1, d2_2], N1, rfl⟩
      · skip
        obtain ⟨T65, X65, e65, st65⟩ := getF X59 hx hZ hown (host := "") (Or.inl (hw _ (List.mem_of_getElem? (i := 15) rfl))) Via.refl e59 F1 (g := (mkF m 19 #[.val (.ref a1), .val (.long (own_m4 ra rb rc rd)), .second, .val (.long h3), .second, .val (.long (0 : Int64)), .second, .val (.int (0 : Int32)), .val (.int (4 : Int32))] [(.ref a1), (.int (4 : Int32))])) rfl rfl (hb hby d4_19)
        have pre66 : ∀ t, Steps p.tables e below (T65.setTop (mkF m 75 #[.val (.ref a1), .val (.long (own_m4 ra rb rc rd)), .second, .val (.long h3), .second, .val (.long (0 : Int64)), .second, .val (.int (0 : Int32)), .val (.int (4 : Int32))] [(.int (0 : Int32))])) t → Steps p.tables e below (s₁.setTop (entryFrame m #[(.ref a1)] 9)) t := by
          intro t k
          refine pre62 t ?_
          refine XS.ifYes X59.here hx rfl (pc0 := 57) (pc' := 67) rfl (hb hby d4_57) rfl ((if0 _ _).trans (flt (mt (lw_lt h3 (0 : Int64)).mp d2_2)).2.1) (by decide) (by decide) ?_
          show Steps p.tables e below (T59.setTop (mkF m 67 #[.val (.ref a1), .val (.long (own_m4 ra rb rc rd)), .second, .val (.long h3), .second, .val (.long (0 : Int64)), .second, .val (.int (0 : Int32)), .val (.int (3 : Int32))] [])) _
          refine XS.iinc X59.here hx rfl (hb hby d4_67) rfl (l' := #[.val (.ref a1), .val (.long (own_m4 ra rb rc rd)), .second, .val (.long h3), .second, .val (.long (0 : Int64)), .second, .val (.int (0 : Int32)), .val (.int (4 : Int32))]) rfl ?_
          show Steps p.tables e below (T59.setTop (mkF m 70 #[.val (.ref a1), .val (.long (own_m4 ra rb rc rd)), .second, .val (.long h3), .second, .val (.long (0 : Int64)), .second, .val (.int (0 : Int32)), .val (.int (4 : Int32))] [])) _
          refine XS.goto X59.here hx rfl (pc0 := 70) (pc' := 16) rfl (hb hby d4_70) (by decide) (by decide) ?_
          show Steps p.tables e below (T59.setTop (mkF m 16 #[.val (.ref a1), .val (.long (own_m4 ra rb rc rd)), .second, .val (.long h3), .second, .val (.long (0 : Int64)), .second, .val (.int (0 : Int32)), .val (.int (4 : Int32))] [])) _
          refine XS.iload X59.here hx rfl (hb hby d4_16) rfl ?_
          show Steps p.tables e below (T59.setTop (mkF m 18 #[.val (.ref a1), .val (.long (own_m4 ra rb rc rd)), .second, .val (.long h3), .second, .val (.long (0 : Int64)), .second, .val (.int (0 : Int32)), .val (.int (4 : Int32))] [(.int (4 : Int32))])) _
          refine XS.aloadN X59.here hx rfl (hb hby d4_18) rfl (rfl) ?_
          show Steps p.tables e below (T59.setTop (mkF m 19 #[.val (.ref a1), .val (.long (own_m4 ra rb rc rd)), .second, .val (.long h3), .second, .val (.long (0 : Int64)), .second, .val (.int (0 : Int32)), .val (.int (4 : Int32))] [(.ref a1), (.int (4 : Int32))])) _
          refine st65 _ ?_
          show Steps p.tables e below (T65.setTop (mkF m 22 #[.val (.ref a1), .val (.long (own_m4 ra rb rc rd)), .second, .val (.long h3), .second, .val (.long (0 : Int64)), .second, .val (.int (0 : Int32)), .val (.int (4 : Int32))] [(.int (4 : Int32)), (.int (4 : Int32))])) _
          refine XS.icmpYes X65.here hx rfl (pc0 := 22) (pc' := 73) rfl (hb hby d4_22) rfl (flt (by decide : ¬ ((4 : Int32) < (4 : Int32)))).2.1 (by decide) (by decide) ?_
          show Steps p.tables e below (T65.setTop (mkF m 73 #[.val (.ref a1), .val (.long (own_m4 ra rb rc rd)), .second, .val (.long h3), .second, .val (.long (0 : Int64)), .second, .val (.int (0 : Int32)), .val (.int (4 : Int32))] [])) _
          refine XS.iload X65.here hx rfl (hb hby d4_73) rfl ?_
          show Steps p.tables e below (T65.setTop (mkF m 75 #[.val (.ref a1), .val (.long (own_m4 ra rb rc rd)), .second, .val (.long h3), .second, .val (.long (0 : Int64)), .second, .val (.int (0 : Int32)), .val (.int (4 : Int32))] [(.int (0 : Int32))])) _
          exact k
        obtain ⟨fs, hr, hrun, hended, hW, hsame⟩ := X65.leave (v := some (.int (0 : Int32))) (fun h => by rw [Bd.returns] at h; cases h)
        refine ⟨_, _, pre66 _ ?_, hrun, hended, _, _, rfl, ?_, ⟨_, rfl⟩, hW, hsame.mono (by decide) (by decide)⟩
        · exact retOut X65 hx Bd.returns rfl (Or.inl ⟨rfl, Or.inl rfl, _, rfl⟩) (hb hby d4_75) hr
        · show Q_rmL4 Z a1 a2 cl ra rb rc rd h0 n0 _ T65.heap _
          rw [e65]
          exact ⟨by simp [own_l4, ← hh1, ← hh2, ← hh3, d0_0, d1_1, d2_2], N1, rfl⟩
theorem own_n {x z : Int32} (e : z = (1 : Int32) + (x &&& (3 : Int32))) : z = 1 ∨ z = 2 ∨ z = 3 ∨ z = 4 := by
  have e1 : (x &&& 3).toInt = x.toInt % 2 ^ 2 := Jvm.Kit.i32_mask x 3 (k := 2) (by decide) (by decide)
  have o1 : (1 : Int32).toInt = 1 := rfl
  have o2 : (2 : Int32).toInt = 2 := rfl
  have o3 : (3 : Int32).toInt = 3 := rfl
  have o4 : (4 : Int32).toInt = 4 := rfl
  have e2 : z.toInt = (1 : Int32).toInt + (x &&& 3).toInt := by rw [e]; exact Jvm.Kit.i32_add (by omega) (by omega)
  simp only [← Int32.toInt_inj]
  omega
def own_B (r : Int64) : Prop := 0 ≤ r.toInt ∧ r.toInt < 2 ^ 56
theorem own_r {x z : Int64} (e : z = x &&& (72057594037927935 : Int64)) : own_B z := by
  have e1 : (x &&& 72057594037927935).toInt = x.toInt % 2 ^ 56 := Jvm.Kit.i64_mask x 72057594037927935 (k := 56) (by decide) (by decide)
  unfold own_B; rw [e, e1]; omega
theorem own_mc {r : Int64} (h : own_B r) (c : Int64) (C : Int) (hc : c.toInt = C) (h0 : 0 ≤ C) (h1 : C ≤ 7) : (c * r).toInt = C * r.toInt ∧ 0 ≤ C * r.toInt ∧ C * r.toInt ≤ 7 * 2 ^ 56 := by
  obtain ⟨r0, r1⟩ := h
  have n1 : 0 ≤ C * r.toInt := Int.mul_nonneg h0 r0
  have n2 : C * r.toInt ≤ 7 * 2 ^ 56 := Int.mul_le_mul h1 (Int.le_of_lt r1) r0 (by decide)
  refine ⟨?_, n1, n2⟩
  rw [Jvm.Kit.i64_mul (by rw [hc]; omega) (by rw [hc]; omega), hc]
theorem own_v4 {a b c d v : Int64} (ha : own_B a) (hb : own_B b) (hc : own_B c) (hd : own_B d) {k1 k2 k3 k4 : Int64} {C1 C2 C3 C4 : Int} (e1 : k1.toInt = C1) (e2 : k2.toInt = C2) (e3 : k3.toInt = C3) (e4 : k4.toInt = C4)
    (g1 : 0 ≤ C1 ∧ C1 ≤ 7) (g2 : 0 ≤ C2 ∧ C2 ≤ 7) (g3 : 0 ≤ C3 ∧ C3 ≤ 7) (g4 : 0 ≤ C4 ∧ C4 ≤ 7) (hv : v = (((k1 * a) + (k2 * b)) + (k3 * c)) + (k4 * d)) : v.toInt = C1 * a.toInt + C2 * b.toInt + C3 * c.toInt + C4 * d.toInt := by
  obtain ⟨x1, y1, z1⟩ := own_mc ha k1 C1 e1 g1.1 g1.2
  obtain ⟨x2, y2, z2⟩ := own_mc hb k2 C2 e2 g2.1 g2.2
  obtain ⟨x3, y3, z3⟩ := own_mc hc k3 C3 e3 g3.1 g3.2
  obtain ⟨x4, y4, z4⟩ := own_mc hd k4 C4 e4 g4.1 g4.2
  generalize k1 * a = w1 at *
  generalize k2 * b = w2 at *
  generalize k3 * c = w3 at *
  generalize k4 * d = w4 at *
  generalize C1 * a.toInt = u1 at *
  generalize C2 * b.toInt = u2 at *
  generalize C3 * c.toInt = u3 at *
  generalize C4 * d.toInt = u4 at *
  have s1 : (w1 + w2).toInt = w1.toInt + w2.toInt := Jvm.Kit.i64_add (by omega) (by omega)
  have s2 : (w1 + w2 + w3).toInt = (w1 + w2).toInt + w3.toInt := Jvm.Kit.i64_add (by omega) (by omega)
  have s3 : (w1 + w2 + w3 + w4).toInt = (w1 + w2 + w3).toInt + w4.toInt := Jvm.Kit.i64_add (by omega) (by omega)
  rw [hv]; omega
theorem own_v3 {a b c v : Int64} (ha : own_B a) (hb : own_B b) (hc : own_B c) {k1 k2 k3 : Int64} {C1 C2 C3 : Int} (e1 : k1.toInt = C1) (e2 : k2.toInt = C2) (e3 : k3.toInt = C3)
    (g1 : 0 ≤ C1 ∧ C1 ≤ 7) (g2 : 0 ≤ C2 ∧ C2 ≤ 7) (g3 : 0 ≤ C3 ∧ C3 ≤ 7) (hv : v = ((k1 * a) + (k2 * b)) + (k3 * c)) : v.toInt = C1 * a.toInt + C2 * b.toInt + C3 * c.toInt := by
  obtain ⟨x1, y1, z1⟩ := own_mc ha k1 C1 e1 g1.1 g1.2
  obtain ⟨x2, y2, z2⟩ := own_mc hb k2 C2 e2 g2.1 g2.2
  obtain ⟨x3, y3, z3⟩ := own_mc hc k3 C3 e3 g3.1 g3.2
  generalize k1 * a = w1 at *
  generalize k2 * b = w2 at *
  generalize k3 * c = w3 at *
  generalize C1 * a.toInt = u1 at *
  generalize C2 * b.toInt = u2 at *
  generalize C3 * c.toInt = u3 at *
  have s1 : (w1 + w2).toInt = w1.toInt + w2.toInt := Jvm.Kit.i64_add (by omega) (by omega)
  have s2 : (w1 + w2 + w3).toInt = (w1 + w2).toInt + w3.toInt := Jvm.Kit.i64_add (by omega) (by omega)
  rw [hv]; omega
theorem own_v2 {a b v : Int64} (ha : own_B a) (hb : own_B b) {k1 k2 : Int64} {C1 C2 : Int} (e1 : k1.toInt = C1) (e2 : k2.toInt = C2)
    (g1 : 0 ≤ C1 ∧ C1 ≤ 7) (g2 : 0 ≤ C2 ∧ C2 ≤ 7) (hv : v = (k1 * a) + (k2 * b)) : v.toInt = C1 * a.toInt + C2 * b.toInt := by
  obtain ⟨x1, y1, z1⟩ := own_mc ha k1 C1 e1 g1.1 g1.2
  obtain ⟨x2, y2, z2⟩ := own_mc hb k2 C2 e2 g2.1 g2.2
  generalize k1 * a = w1 at *
  generalize k2 * b = w2 at *
  generalize C1 * a.toInt = u1 at *
  generalize C2 * b.toInt = u2 at *
  have s1 : (w1 + w2).toInt = w1.toInt + w2.toInt := Jvm.Kit.i64_add (by omega) (by omega)
  rw [hv]; omega
theorem own_ms {m r : Int64} (hr : own_B r) (h0 : 0 ≤ m.toInt) (h1 : m.toInt ≤ 2 ^ 60) : (m + (2 : Int64) * r).toInt = m.toInt + 2 * r.toInt := by
  obtain ⟨x1, y1, z1⟩ := own_mc hr (2 : Int64) 2 rfl (by decide) (by decide)
  rw [Jvm.Kit.i64_add (by omega) (by omega), x1]
theorem own_hs {m h a b k : Int64} {C : Int} (ha : own_B a) (hb : own_B b) (ek : k.toInt = C) (hC : 0 ≤ C ∧ C ≤ 4) (m0 : 0 ≤ m.toInt) (m1 : m.toInt ≤ 2 ^ 60) (h0 : -2 ^ 61 ≤ h.toInt) (h1 : h.toInt ≤ 2 ^ 61) : (h + (m - k * (a + b))).toInt = h.toInt + (m.toInt - C * (a.toInt + b.toInt)) := by
  obtain ⟨a0, a1⟩ := ha
  obtain ⟨b0, b1⟩ := hb
  have s1 : (a + b).toInt = a.toInt + b.toInt := Jvm.Kit.i64_add (by omega) (by omega)
  have n1 : 0 ≤ C * (a.toInt + b.toInt) := Int.mul_nonneg hC.1 (by omega)
  have n2 : C * (a.toInt + b.toInt) ≤ 4 * 2 ^ 57 := Int.mul_le_mul hC.2 (by omega) (by omega) (by decide)
  have s2 : (k * (a + b)).toInt = C * (a.toInt + b.toInt) := by rw [Jvm.Kit.i64_mul (by rw [ek, s1]; omega) (by rw [ek, s1]; omega), ek, s1]
  generalize k * (a + b) = w1 at *
  generalize C * (a.toInt + b.toInt) = u1 at *
  have s3 : (m - w1).toInt = m.toInt - w1.toInt := Jvm.Kit.i64_sub (by omega) (by omega)
  rw [Jvm.Kit.i64_add (by omega) (by omega), s3, s2]
theorem own_law1 (ra v0 v1 v2 v3 : Int64) : own_l1 ra = own_e 1 v0 v1 v2 v3 := rfl
theorem own_law2 {ra rb v0 v1 v2 v3 : Int64} (ha : own_B ra) (hb : own_B rb) (e0 : v0 = ((3 : Int64) * ra) + ((3 : Int64) * rb)) (e1 : v1 = ((3 : Int64) * rb) + ((3 : Int64) * ra)) : own_l2 ra rb = own_e 2 v0 v1 v2 v3 := by
  have w0 := own_v2 ha hb (C1 := 3) (C2 := 3) rfl rfl (by decide) (by decide) e0
  have w1 := own_v2 hb ha (C1 := 3) (C2 := 3) rfl rfl (by decide) (by decide) e1
  have z0 : (0 : Int64).toInt = 0 := rfl
  have p1 : 0 ≤ ra.toInt := ha.1
  have p2 : ra.toInt < 2 ^ 56 := ha.2
  have p3 : 0 ≤ rb.toInt := hb.1
  have p4 : rb.toInt < 2 ^ 56 := hb.2
  have m1 := own_ms (m := (0 : Int64)) ha (by decide) (by decide)
  have m2 := own_ms (m := (0 : Int64) + (2 : Int64) * ra) hb (by omega) (by omega)
  have q1 : (own_m2 ra rb).toInt = 2 * ra.toInt + 2 * rb.toInt := by unfold own_m2; omega
  have h1 : (own_h2 (own_m2 ra rb) 0 ra rb).toInt = (0 : Int64).toInt + ((own_m2 ra rb).toInt - 2 * (ra.toInt + rb.toInt)) := own_hs ha hb rfl (by decide) (by omega) (by omega) (by decide) (by decide)
  unfold own_l2 own_e own_e2
  generalize own_m2 ra rb = m at *
  generalize own_h2 m 0 ra rb = g1 at *
  have t1 : ¬ ((2 : Int32) = 1) := by decide
  simp only [t1, if_false, if_true, Int64.lt_iff_toInt_lt]
  repeat' split
  all_goals first | rfl | omega
theorem own_law3 {ra rb rc v0 v1 v2 v3 : Int64} (ha : own_B ra) (hb : own_B rb) (hc : own_B rc) (e0 : v0 = (((4 : Int64) * ra) + ((5 : Int64) * rb)) + ((3 : Int64) * rc)) (e1 : v1 = (((4 : Int64) * rb) + ((5 : Int64) * rc)) + ((3 : Int64) * ra)) (e2 : v2 = (((4 : Int64) * rc) + ((5 : Int64) * ra)) + ((3 : Int64) * rb)) : own_l3 ra rb rc = own_e 3 v0 v1 v2 v3 := by
  have w0 := own_v3 ha hb hc (C1 := 4) (C2 := 5) (C3 := 3) rfl rfl rfl (by decide) (by decide) (by decide) e0
  have w1 := own_v3 hb hc ha (C1 := 4) (C2 := 5) (C3 := 3) rfl rfl rfl (by decide) (by decide) (by decide) e1
  have w2 := own_v3 hc ha hb (C1 := 4) (C2 := 5) (C3 := 3) rfl rfl rfl (by decide) (by decide) (by decide) e2
  have z0 : (0 : Int64).toInt = 0 := rfl
  have p1 : 0 ≤ ra.toInt := ha.1
  have p2 : ra.toInt < 2 ^ 56 := ha.2
  have p3 : 0 ≤ rb.toInt := hb.1
  have p4 : rb.toInt < 2 ^ 56 := hb.2
  have p5 : 0 ≤ rc.toInt := hc.1
  have p6 : rc.toInt < 2 ^ 56 := hc.2
  have m1 := own_ms (m := (0 : Int64)) ha (by decide) (by decide)
  have m2 := own_ms (m := (0 : Int64) + (2 : Int64) * ra) hb (by omega) (by omega)
  have m3 := own_ms (m := (0 : Int64) + (2 : Int64) * ra + (2 : Int64) * rb) hc (by omega) (by omega)
  have q1 : (own_m3 ra rb rc).toInt = 2 * ra.toInt + 2 * rb.toInt + 2 * rc.toInt := by unfold own_m3; omega
  generalize hm : own_m3 ra rb rc = m at *
  have h1 : (own_h3 m 0 ra rb).toInt = (0 : Int64).toInt + (m.toInt - 3 * (ra.toInt + rb.toInt)) := own_hs ha hb rfl (by decide) (by omega) (by omega) (by decide) (by decide)
  generalize hg1 : own_h3 m 0 ra rb = g1 at *
  have h2 : (own_h3 m g1 rb rc).toInt = g1.toInt + (m.toInt - 3 * (rb.toInt + rc.toInt)) := own_hs hb hc rfl (by decide) (by omega) (by omega) (by omega) (by omega)
  generalize hg2 : own_h3 m g1 rb rc = g2 at *
  unfold own_l3 own_e own_e3
  simp only [hm, hg1, hg2]
  have t1 : ¬ ((3 : Int32) = 1) := by decide
  have t2 : ¬ ((3 : Int32) = 2) := by decide
  simp only [t1, t2, if_false, if_true, Int64.lt_iff_toInt_lt]
  repeat' split
  all_goals first | rfl | omega
theorem own_law4 {ra rb rc rd v0 v1 v2 v3 : Int64} (ha : own_B ra) (hb : own_B rb) (hc : own_B rc) (hd : own_B rd) (e0 : v0 = ((((5 : Int64) * ra) + ((7 : Int64) * rb)) + ((5 : Int64) * rc)) + ((3 : Int64) * rd)) (e1 : v1 = ((((5 : Int64) * rb) + ((7 : Int64) * rc)) + ((5 : Int64) * rd)) + ((3 : Int64) * ra))
    (e2 : v2 = ((((5 : Int64) * rc) + ((7 : Int64) * rd)) + ((5 : Int64) * ra)) + ((3 : Int64) * rb)) (e3 : v3 = ((((5 : Int64) * rd) + ((7 : Int64) * ra)) + ((5 : Int64) * rb)) + ((3 : Int64) * rc)) : own_l4 ra rb rc rd = own_e 4 v0 v1 v2 v3 := by
  have w0 := own_v4 ha hb hc hd (C1 := 5) (C2 := 7) (C3 := 5) (C4 := 3) rfl rfl rfl rfl (by decide) (by decide) (by decide) (by decide) e0
  have w1 := own_v4 hb hc hd ha (C1 := 5) (C2 := 7) (C3 := 5) (C4 := 3) rfl rfl rfl rfl (by decide) (by decide) (by decide) (by decide) e1
  have w2 := own_v4 hc hd ha hb (C1 := 5) (C2 := 7) (C3 := 5) (C4 := 3) rfl rfl rfl rfl (by decide) (by decide) (by decide) (by decide) e2
  have w3 := own_v4 hd ha hb hc (C1 := 5) (C2 := 7) (C3 := 5) (C4 := 3) rfl rfl rfl rfl (by decide) (by decide) (by decide) (by decide) e3
  have z0 : (0 : Int64).toInt = 0 := rfl
  have p1 : 0 ≤ ra.toInt := ha.1
  have p2 : ra.toInt < 2 ^ 56 := ha.2
  have p3 : 0 ≤ rb.toInt := hb.1
  have p4 : rb.toInt < 2 ^ 56 := hb.2
  have p5 : 0 ≤ rc.toInt := hc.1
  have p6 : rc.toInt < 2 ^ 56 := hc.2
  have p7 : 0 ≤ rd.toInt := hd.1
  have p8 : rd.toInt < 2 ^ 56 := hd.2
  have m1 := own_ms (m := (0 : Int64)) ha (by decide) (by decide)
  have m2 := own_ms (m := (0 : Int64) + (2 : Int64) * ra) hb (by omega) (by omega)
  have m3 := own_ms (m := (0 : Int64) + (2 : Int64) * ra + (2 : Int64) * rb) hc (by omega) (by omega)
  have m4 := own_ms (m := (0 : Int64) + (2 : Int64) * ra + (2 : Int64) * rb + (2 : Int64) * rc) hd (by omega) (by omega)
  have q1 : (own_m4 ra rb rc rd).toInt = 2 * ra.toInt + 2 * rb.toInt + 2 * rc.toInt + 2 * rd.toInt := by unfold own_m4; omega
  clear m1 m2 m3 m4 e0 e1 e2 e3
  generalize hm : own_m4 ra rb rc rd = m at *
  have h1 : (own_h4 m 0 ra rb).toInt = (0 : Int64).toInt + (m.toInt - 4 * (ra.toInt + rb.toInt)) := own_hs ha hb rfl (by decide) (by omega) (by omega) (by decide) (by decide)
  generalize hg1 : own_h4 m 0 ra rb = g1 at *
  have h2 : (own_h4 m g1 rb rc).toInt = g1.toInt + (m.toInt - 4 * (rb.toInt + rc.toInt)) := own_hs hb hc rfl (by decide) (by omega) (by omega) (by omega) (by omega)
  generalize hg2 : own_h4 m g1 rb rc = g2 at *
  have h3 : (own_h4 m g2 rc rd).toInt = g2.toInt + (m.toInt - 4 * (rc.toInt + rd.toInt)) := own_hs hc hd rfl (by decide) (by omega) (by omega) (by omega) (by omega)
  generalize hg3 : own_h4 m g2 rc rd = g3 at *
  unfold own_l4 own_e own_e4
  simp only [hm, hg1, hg2, hg3]
  have t1 : ¬ ((4 : Int32) = 1) := by decide
  have t2 : ¬ ((4 : Int32) = 2) := by decide
  have t3 : ¬ ((4 : Int32) = 3) := by decide
  simp only [t1, t2, t3, if_false, if_true, Int64.lt_iff_toInt_lt]
  repeat' split
  all_goals first | rfl | omega

theorem ef_rm0 (m : MethodId) (x0 : Int32) (x1 : Int64) (x2 : Int64) (x3 : Int64) (x4 : Int64) : entryFrame m #[(.int x0), (.long x1), (.long x2), (.long x3), (.long x4)] maxLocals = mkF m 0 #[.val (.int x0), .val (.long x1), .second, .val (.long x2), .second, .val (.long x3), .second, .val (.long x4), .second, .unset, .unset, .unset, .unset, .unset, .unset, .unset, .unset, .unset, .unset, .unset, .unset, .unset, .unset, .unset, .unset, .unset, .unset, .unset, .unset] [] := by first | (simp [entryFrame, mkF, argsToLocals, Value.category, maxLocals]; done) | rfl
theorem pd_1 : parseMethodDescriptor "(IJJJJ)I" = some ⟨[.int, .long, .long, .long, .long], some .int⟩ := by decide +kernel
theorem pd_2 : parseMethodDescriptor "([J)V" = some ⟨[(.array .long)], none⟩ := by decide +kernel
theorem pd_3 : parseMethodDescriptor "()I" = some ⟨[], some .int⟩ := by decide +kernel
def Q_rm0 (Z : State) (p0 : Int32) (q1 : Int64) (q2 : Int64) (q3 : Int64) (q4 : Int64) (h0 : Heap) (n0 : Nat) (v : Option Value) (h : Heap) (L : List Loc) : Prop := v = some (.int 1) ∧ Fr n0 L
set_option maxRecDepth 65536 in
set_option maxHeartbeats 40000000 in
theorem rm0 (l : Launch) (Z : State) (a0 : Array Value) (hw : ∀ d ∈ tables_1, d.before a0 Z = true) (ws : List Jvm.Cond) (p0 : Int32) (q1 : Int64) (q2 : Int64) (q3 : Int64) (q4 : Int64) (h0 : Heap) (n0 : Nat) (Z0 : n0 ≤ h0.size) :
    MetFree l x (head1 (Jvm.Cond.code x code maxLocals ret :: ws) room_1) (fun a U => a = #[(.int p0), (.long q1), (.long q2), (.long q3), (.long q4)] ∧ Z.Warmed39 U.vm ∧ U.heap = h0) (fun _ _ _ _ _ => True) (fun _ U o U' => ∃ v L, o = .returned v ∧ Q_rm0 Z p0 q1 q2 q3 q4 h0 n0 v U'.heap L ∧ FrameEnd U o U' L room_1.cells room_1.slots) := by
  refine MetFree.of_bodySF (plainFor_of_name pn_1) hisR ?_
  intro p e s m args below meth c s₁ Bd hml0 hP hK
  obtain ⟨rfl, hZ, hh⟩ := hP
  have hx := Bd.exec
  have hby := Bd.bytes
  have hml : c.maxLocals = 29 := hml0
  have hown : s.vm.findClass "com/example/hummingbird/hummingbird/engine/RhythmLeastWaitingPointPinLaw" = some m.cls := findClass_of_methodNamed Bd.named
  have hnm := (name_of_methodNamed Bd.named Bd.method).1
  have X0 : Stand p l e room_1 s m #[(.int p0), (.long q1), (.long q2), (.long q3), (.long q4)] below meth c s₁ [] 0 0 := Stand.of_body Bd
  have e0 : s₁.heap = h0 := by rw [← hh, Bd.state]; rfl
  have N0 := Fr.nil n0
  have pre0 : ∀ t, Steps p.tables e below (s₁.setTop (mkF m 0 #[.val (.int p0), .val (.long q1), .second, .val (.long q2), .second, .val (.long q3), .second, .val (.long q4), .second, .unset, .unset, .unset, .unset, .unset, .unset, .unset, .unset, .unset, .unset, .unset, .unset, .unset, .unset, .unset, .unset, .unset, .unset, .unset, .unset] [])) t → Steps p.tables e below (s₁.setTop (entryFrame m #[(.int p0), (.long q1), (.long q2), (.long q3), (.long q4)] maxLocals)) t := fun t k => castTop (ef_rm0 m p0 q1 q2 q3 q4) k
  have pre1 : ∀ t, Steps p.tables e below (s₁.setTop (mkF m 5 #[.val (.int p0), .val (.long q1), .second, .val (.long q2), .second, .val (.long q3), .second, .val (.long q4), .second, .unset, .unset, .unset, .unset, .unset, .unset, .unset, .unset, .unset, .unset, .unset, .unset, .unset, .unset, .unset, .unset, .unset, .unset, .unset, .unset] [(.int ((1 : Int32) + (p0 &&& (3 : Int32))))])) t → Steps p.tables e below (s₁.setTop (entryFrame m #[(.int p0), (.long q1), (.long q2), (.long q3), (.long q4)] maxLocals)) t := by
    intro t k
    refine pre0 t ?_
    show Steps p.tables e below (s₁.setTop (mkF m 0 #[.val (.int p0), .val (.long q1), .second, .val (.long q2), .second, .val (.long q3), .second, .val (.long q4), .second, .unset, .unset, .unset, .unset, .unset, .unset, .unset, .unset, .unset, .unset, .unset, .unset, .unset, .unset, .unset, .unset, .unset, .unset, .unset, .unset] [])) _
    refine XS.iconst X0.here hx rfl (hb hby at_0) ?_
    show Steps p.tables e below (s₁.setTop (mkF m 1 #[.val (.int p0), .val (.long q1), .second, .val (.long q2), .second, .val (.long q3), .second, .val (.long q4), .second, .unset, .unset, .unset, .unset, .unset, .unset, .unset, .unset, .unset, .unset, .unset, .unset, .unset, .unset, .unset, .unset, .unset, .unset, .unset, .unset] [(.int (1 : Int32))])) _
    refine XS.iloadN X0.here hx rfl (hb hby at_1) rfl ?_
    show Steps p.tables e below (s₁.setTop (mkF m 2 #[.val (.int p0), .val (.long q1), .second, .val (.long q2), .second, .val (.long q3), .second, .val (.long q4), .second, .unset, .unset, .unset, .unset, .unset, .unset, .unset, .unset, .unset, .unset, .unset, .unset, .unset, .unset, .unset, .unset, .unset, .unset, .unset, .unset] [(.int p0), (.int (1 : Int32))])) _
    refine XS.iconst X0.here hx rfl (hb hby at_2) ?_
    show Steps p.tables e below (s₁.setTop (mkF m 3 #[.val (.int p0), .val (.long q1), .second, .val (.long q2), .second, .val (.long q3), .second, .val (.long q4), .second, .unset, .unset, .unset, .unset, .unset, .unset, .unset, .unset, .unset, .unset, .unset, .unset, .unset, .unset, .unset, .unset, .unset, .unset, .unset, .unset] [(.int (3 : Int32)), (.int p0), (.int (1 : Int32))])) _
    refine XS.iand X0.here hx rfl (hb hby at_3) rfl ?_
    show Steps p.tables e below (s₁.setTop (mkF m 4 #[.val (.int p0), .val (.long q1), .second, .val (.long q2), .second, .val (.long q3), .second, .val (.long q4), .second, .unset, .unset, .unset, .unset, .unset, .unset, .unset, .unset, .unset, .unset, .unset, .unset, .unset, .unset, .unset, .unset, .unset, .unset, .unset, .unset] [(.int (p0 &&& (3 : Int32))), (.int (1 : Int32))])) _
    refine XS.iadd X0.here hx rfl (hb hby at_4) rfl ?_
    show Steps p.tables e below (s₁.setTop (mkF m 5 #[.val (.int p0), .val (.long q1), .second, .val (.long q2), .second, .val (.long q3), .second, .val (.long q4), .second, .unset, .unset, .unset, .unset, .unset, .unset, .unset, .unset, .unset, .unset, .unset, .unset, .unset, .unset, .unset, .unset, .unset, .unset, .unset, .unset] [(.int ((1 : Int32) + (p0 &&& (3 : Int32))))])) _
    exact k
  obtain ⟨nn, hnn⟩ : ∃ z : Int32, z = ((1 : Int32) + (p0 &&& (3 : Int32))) := ⟨_, rfl⟩
  rw [← hnn] at pre1
  have hn := own_n hnn
  have pre2 : ∀ t, Steps p.tables e below (s₁.setTop (mkF m 12 #[.val (.int p0), .val (.long q1), .second, .val (.long q2), .second, .val (.long q3), .second, .val (.long q4), .second, .val (.int nn), .unset, .unset, .unset, .unset, .unset, .unset, .unset, .unset, .unset, .unset, .unset, .unset, .unset, .unset, .unset, .unset, .unset, .unset, .unset] [(.long (q1 &&& (72057594037927935 : Int64)))])) t → Steps p.tables e below (s₁.setTop (entryFrame m #[(.int p0), (.long q1), (.long q2), (.long q3), (.long q4)] maxLocals)) t := by
    intro t k
    refine pre1 t ?_
    show Steps p.tables e below (s₁.setTop (mkF m 5 #[.val (.int p0), .val (.long q1), .second, .val (.long q2), .second, .val (.long q3), .second, .val (.long q4), .second, .unset, .unset, .unset, .unset, .unset, .unset, .unset, .unset, .unset, .unset, .unset, .unset, .unset, .unset, .unset, .unset, .unset, .unset, .unset, .unset] [(.int nn)])) _
    refine XS.istore X0.here hx rfl (hb hby at_5) rfl (l' := #[.val (.int p0), .val (.long q1), .second, .val (.long q2), .second, .val (.long q3), .second, .val (.long q4), .second, .val (.int nn), .unset, .unset, .unset, .unset, .unset, .unset, .unset, .unset, .unset, .unset, .unset, .unset, .unset, .unset, .unset, .unset, .unset, .unset, .unset]) rfl ?_
    show Steps p.tables e below (s₁.setTop (mkF m 7 #[.val (.int p0), .val (.long q1), .second, .val (.long q2), .second, .val (.long q3), .second, .val (.long q4), .second, .val (.int nn), .unset, .unset, .unset, .unset, .unset, .unset, .unset, .unset, .unset, .unset, .unset, .unset, .unset, .unset, .unset, .unset, .unset, .unset, .unset] [])) _
    refine XS.lloadN X0.here hx rfl (hb hby at_7) rfl ?_
    show Steps p.tables e below (s₁.setTop (mkF m 8 #[.val (.int p0), .val (.long q1), .second, .val (.long q2), .second, .val (.long q3), .second, .val (.long q4), .second, .val (.int nn), .unset, .unset, .unset, .unset, .unset, .unset, .unset, .unset, .unset, .unset, .unset, .unset, .unset, .unset, .unset, .unset, .unset, .unset, .unset] [(.long q1)])) _
    refine X0.ldc2Long hx hown (mvT hZ (hw _ (List.mem_of_getElem? (i := 0) rfl))) (g := (mkF m 8 #[.val (.int p0), .val (.long q1), .second, .val (.long q2), .second, .val (.long q3), .second, .val (.long q4), .second, .val (.int nn), .unset, .unset, .unset, .unset, .unset, .unset, .unset, .unset, .unset, .unset, .unset, .unset, .unset, .unset, .unset, .unset, .unset, .unset, .unset] [(.long q1)])) rfl (hb hby at_8) _ ?_
    show Steps p.tables e below (s₁.setTop (mkF m 11 #[.val (.int p0), .val (.long q1), .second, .val (.long q2), .second, .val (.long q3), .second, .val (.long q4), .second, .val (.int nn), .unset, .unset, .unset, .unset, .unset, .unset, .unset, .unset, .unset, .unset, .unset, .unset, .unset, .unset, .unset, .unset, .unset, .unset, .unset] [(.long (72057594037927935 : Int64)), (.long q1)])) _
    refine XS.land X0.here hx rfl (hb hby at_11) rfl ?_
    show Steps p.tables e below (s₁.setTop (mkF m 12 #[.val (.int p0), .val (.long q1), .second, .val (.long q2), .second, .val (.long q3), .second, .val (.long q4), .second, .val (.int nn), .unset, .unset, .unset, .unset, .unset, .unset, .unset, .unset, .unset, .unset, .unset, .unset, .unset, .unset, .unset, .unset, .unset, .unset, .unset] [(.long (q1 &&& (72057594037927935 : Int64)))])) _
    exact k
  obtain ⟨ra, hra⟩ : ∃ z : Int64, z = (q1 &&& (72057594037927935 : Int64)) := ⟨_, rfl⟩
  rw [← hra] at pre2
  have bra := own_r hra
  have pre3 : ∀ t, Steps p.tables e below (s₁.setTop (mkF m 19 #[.val (.int p0), .val (.long q1), .second, .val (.long q2), .second, .val (.long q3), .second, .val (.long q4), .second, .val (.int nn), .val (.long ra), .second, .unset, .unset, .unset, .unset, .unset, .unset, .unset, .unset, .unset, .unset, .unset, .unset, .unset, .unset, .unset, .unset, .unset] [(.long (q2 &&& (72057594037927935 : Int64)))])) t → Steps p.tables e below (s₁.setTop (entryFrame m #[(.int p0), (.long q1), (.long q2), (.long q3), (.long q4)] maxLocals)) t := by
    intro t k
    refine pre2 t ?_
    show Steps p.tables e below (s₁.setTop (mkF m 12 #[.val (.int p0), .val (.long q1), .second, .val (.long q2), .second, .val (.long q3), .second, .val (.long q4), .second, .val (.int nn), .unset, .unset, .unset, .unset, .unset, .unset, .unset, .unset, .unset, .unset, .unset, .unset, .unset, .unset, .unset, .unset, .unset, .unset, .unset] [(.long ra)])) _
    refine XS.lstore X0.here hx rfl (hb hby at_12) rfl (l' := #[.val (.int p0), .val (.long q1), .second, .val (.long q2), .second, .val (.long q3), .second, .val (.long q4), .second, .val (.int nn), .val (.long ra), .second, .unset, .unset, .unset, .unset, .unset, .unset, .unset, .unset, .unset, .unset, .unset, .unset, .unset, .unset, .unset, .unset, .unset]) rfl ?_
    show Steps p.tables e below (s₁.setTop (mkF m 14 #[.val (.int p0), .val (.long q1), .second, .val (.long q2), .second, .val (.long q3), .second, .val (.long q4), .second, .val (.int nn), .val (.long ra), .second, .unset, .unset, .unset, .unset, .unset, .unset, .unset, .unset, .unset, .unset, .unset, .unset, .unset, .unset, .unset, .unset, .unset] [])) _
    refine XS.lloadN X0.here hx rfl (hb hby at_14) rfl ?_
    show Steps p.tables e below (s₁.setTop (mkF m 15 #[.val (.int p0), .val (.long q1), .second, .val (.long q2), .second, .val (.long q3), .second, .val (.long q4), .second, .val (.int nn), .val (.long ra), .second, .unset, .unset, .unset, .unset, .unset, .unset, .unset, .unset, .unset, .unset, .unset, .unset, .unset, .unset, .unset, .unset, .unset] [(.long q2)])) _
    refine X0.ldc2Long hx hown (mvT hZ (hw _ (List.mem_of_getElem? (i := 0) rfl))) (g := (mkF m 15 #[.val (.int p0), .val (.long q1), .second, .val (.long q2), .second, .val (.long q3), .second, .val (.long q4), .second, .val (.int nn), .val (.long ra), .second, .unset, .unset, .unset, .unset, .unset, .unset, .unset, .unset, .unset, .unset, .unset, .unset, .unset, .unset, .unset, .unset, .unset] [(.long q2)])) rfl (hb hby at_15) _ ?_
    show Steps p.tables e below (s₁.setTop (mkF m 18 #[.val (.int p0), .val (.long q1), .second, .val (.long q2), .second, .val (.long q3), .second, .val (.long q4), .second, .val (.int nn), .val (.long ra), .second, .unset, .unset, .unset, .unset, .unset, .unset, .unset, .unset, .unset, .unset, .unset, .unset, .unset, .unset, .unset, .unset, .unset] [(.long (72057594037927935 : Int64)), (.long q2)])) _
    refine XS.land X0.here hx rfl (hb hby at_18) rfl ?_
    show Steps p.tables e below (s₁.setTop (mkF m 19 #[.val (.int p0), .val (.long q1), .second, .val (.long q2), .second, .val (.long q3), .second, .val (.long q4), .second, .val (.int nn), .val (.long ra), .second, .unset, .unset, .unset, .unset, .unset, .unset, .unset, .unset, .unset, .unset, .unset, .unset, .unset, .unset, .unset, .unset, .unset] [(.long (q2 &&& (72057594037927935 : Int64)))])) _
    exact k
  obtain ⟨rb, hrb⟩ : ∃ z : Int64, z = (q2 &&& (72057594037927935 : Int64)) := ⟨_, rfl⟩
  rw [← hrb] at pre3
  have brb := own_r hrb
  have pre4 : ∀ t, Steps p.tables e below (s₁.setTop (mkF m 27 #[.val (.int p0), .val (.long q1), .second, .val (.long q2), .second, .val (.long q3), .second, .val (.long q4), .second, .val (.int nn), .val (.long ra), .second, .val (.long rb), .second, .unset, .unset, .unset, .unset, .unset, .unset, .unset, .unset, .unset, .unset, .unset, .unset, .unset, .unset, .unset] [(.long (q3 &&& (72057594037927935 : Int64)))])) t → Steps p.tables e below (s₁.setTop (entryFrame m #[(.int p0), (.long q1), (.long q2), (.long q3), (.long q4)] maxLocals)) t := by
    intro t k
    refine pre3 t ?_
    show Steps p.tables e below (s₁.setTop (mkF m 19 #[.val (.int p0), .val (.long q1), .second, .val (.long q2), .second, .val (.long q3), .second, .val (.long q4), .second, .val (.int nn), .val (.long ra), .second, .unset, .unset, .unset, .unset, .unset, .unset, .unset, .unset, .unset, .unset, .unset, .unset, .unset, .unset, .unset, .unset, .unset] [(.long rb)])) _
    refine XS.lstore X0.here hx rfl (hb hby at_19) rfl (l' := #[.val (.int p0), .val (.long q1), .second, .val (.long q2), .second, .val (.long q3), .second, .val (.long q4), .second, .val (.int nn), .val (.long ra), .second, .val (.long rb), .second, .unset, .unset, .unset, .unset, .unset, .unset, .unset, .unset, .unset, .unset, .unset, .unset, .unset, .unset, .unset]) rfl ?_
    show Steps p.tables e below (s₁.setTop (mkF m 21 #[.val (.int p0), .val (.long q1), .second, .val (.long q2), .second, .val (.long q3), .second, .val (.long q4), .second, .val (.int nn), .val (.long ra), .second, .val (.long rb), .second, .unset, .unset, .unset, .unset, .unset, .unset, .unset, .unset, .unset, .unset, .unset, .unset, .unset, .unset, .unset] [])) _
    refine XS.lload X0.here hx rfl (hb hby at_21) rfl ?_
    show Steps p.tables e below (s₁.setTop (mkF m 23 #[.val (.int p0), .val (.long q1), .second, .val (.long q2), .second, .val (.long q3), .second, .val (.long q4), .second, .val (.int nn), .val (.long ra), .second, .val (.long rb), .second, .unset, .unset, .unset, .unset, .unset, .unset, .unset, .unset, .unset, .unset, .unset, .unset, .unset, .unset, .unset] [(.long q3)])) _
    refine X0.ldc2Long hx hown (mvT hZ (hw _ (List.mem_of_getElem? (i := 0) rfl))) (g := (mkF m 23 #[.val (.int p0), .val (.long q1), .second, .val (.long q2), .second, .val (.long q3), .second, .val (.long q4), .second, .val (.int nn), .val (.long ra), .second, .val (.long rb), .second, .unset, .unset, .unset, .unset, .unset, .unset, .unset, .unset, .unset, .unset, .unset, .unset, .unset, .unset, .unset] [(.long q3)])) rfl (hb hby at_23) _ ?_
    show Steps p.tables e below (s₁.setTop (mkF m 26 #[.val (.int p0), .val (.long q1), .second, .val (.long q2), .second, .val (.long q3), .second, .val (.long q4), .second, .val (.int nn), .val (.long ra), .second, .val (.long rb), .second, .unset, .unset, .unset, .unset, .unset, .unset, .unset, .unset, .unset, .unset, .unset, .unset, .unset, .unset, .unset] [(.long (72057594037927935 : Int64)), (.long q3)])) _
    refine XS.land X0.here hx rfl (hb hby at_26) rfl ?_
    show Steps p.tables e below (s₁.setTop (mkF m 27 #[.val (.int p0), .val (.long q1), .second, .val (.long q2), .second, .val (.long q3), .second, .val (.long q4), .second, .val (.int nn), .val (.long ra), .second, .val (.long rb), .second, .unset, .unset, .unset, .unset, .unset, .unset, .unset, .unset, .unset, .unset, .unset, .unset, .unset, .unset, .unset] [(.long (q3 &&& (72057594037927935 : Int64)))])) _
    exact k
  obtain ⟨rc, hrc⟩ : ∃ z : Int64, z = (q3 &&& (72057594037927935 : Int64)) := ⟨_, rfl⟩
  rw [← hrc] at pre4
  have brc := own_r hrc
  have pre5 : ∀ t, Steps p.tables e below (s₁.setTop (mkF m 35 #[.val (.int p0), .val (.long q1), .second, .val (.long q2), .second, .val (.long q3), .second, .val (.long q4), .second, .val (.int nn), .val (.long ra), .second, .val (.long rb), .second, .val (.long rc), .second, .unset, .unset, .unset, .unset, .unset, .unset, .unset, .unset, .unset, .unset, .unset, .unset, .unset] [(.long (q4 &&& (72057594037927935 : Int64)))])) t → Steps p.tables e below (s₁.setTop (entryFrame m #[(.int p0), (.long q1), (.long q2), (.long q3), (.long q4)] maxLocals)) t := by
    intro t k
    refine pre4 t ?_
    show Steps p.tables e below (s₁.setTop (mkF m 27 #[.val (.int p0), .val (.long q1), .second, .val (.long q2), .second, .val (.long q3), .second, .val (.long q4), .second, .val (.int nn), .val (.long ra), .second, .val (.long rb), .second, .unset, .unset, .unset, .unset, .unset, .unset, .unset, .unset, .unset, .unset, .unset, .unset, .unset, .unset, .unset] [(.long rc)])) _
    refine XS.lstore X0.here hx rfl (hb hby at_27) rfl (l' := #[.val (.int p0), .val (.long q1), .second, .val (.long q2), .second, .val (.long q3), .second, .val (.long q4), .second, .val (.int nn), .val (.long ra), .second, .val (.long rb), .second, .val (.long rc), .second, .unset, .unset, .unset, .unset, .unset, .unset, .unset, .unset, .unset, .unset, .unset, .unset, .unset]) rfl ?_
    show Steps p.tables e below (s₁.setTop (mkF m 29 #[.val (.int p0), .val (.long q1), .second, .val (.long q2), .second, .val (.long q3), .second, .val (.long q4), .second, .val (.int nn), .val (.long ra), .second, .val (.long rb), .second, .val (.long rc), .second, .unset, .unset, .unset, .unset, .unset, .unset, .unset, .unset, .unset, .unset, .unset, .unset, .unset] [])) _
    refine XS.lload X0.here hx rfl (hb hby at_29) rfl ?_
    show Steps p.tables e below (s₁.setTop (mkF m 31 #[.val (.int p0), .val (.long q1), .second, .val (.long q2), .second, .val (.long q3), .second, .val (.long q4), .second, .val (.int nn), .val (.long ra), .second, .val (.long rb), .second, .val (.long rc), .second, .unset, .unset, .unset, .unset, .unset, .unset, .unset, .unset, .unset, .unset, .unset, .unset, .unset] [(.long q4)])) _
    refine X0.ldc2Long hx hown (mvT hZ (hw _ (List.mem_of_getElem? (i := 0) rfl))) (g := (mkF m 31 #[.val (.int p0), .val (.long q1), .second, .val (.long q2), .second, .val (.long q3), .second, .val (.long q4), .second, .val (.int nn), .val (.long ra), .second, .val (.long rb), .second, .val (.long rc), .second, .unset, .unset, .unset, .unset, .unset, .unset, .unset, .unset, .unset, .unset, .unset, .unset, .unset] [(.long q4)])) rfl (hb hby at_31) _ ?_
    show Steps p.tables e below (s₁.setTop (mkF m 34 #[.val (.int p0), .val (.long q1), .second, .val (.long q2), .second, .val (.long q3), .second, .val (.long q4), .second, .val (.int nn), .val (.long ra), .second, .val (.long rb), .second, .val (.long rc), .second, .unset, .unset, .unset, .unset, .unset, .unset, .unset, .unset, .unset, .unset, .unset, .unset, .unset] [(.long (72057594037927935 : Int64)), (.long q4)])) _
    refine XS.land X0.here hx rfl (hb hby at_34) rfl ?_
    show Steps p.tables e below (s₁.setTop (mkF m 35 #[.val (.int p0), .val (.long q1), .second, .val (.long q2), .second, .val (.long q3), .second, .val (.long q4), .second, .val (.int nn), .val (.long ra), .second, .val (.long rb), .second, .val (.long rc), .second, .unset, .unset, .unset, .unset, .unset, .unset, .unset, .unset, .unset, .unset, .unset, .unset, .unset] [(.long (q4 &&& (72057594037927935 : Int64)))])) _
    exact k
  obtain ⟨rd, hrd⟩ : ∃ z : Int64, z = (q4 &&& (72057594037927935 : Int64)) := ⟨_, rfl⟩
  rw [← hrd] at pre5
  have brd := own_r hrd
  have pre6 : ∀ t, Steps p.tables e below (s₁.setTop (mkF m 37 #[.val (.int p0), .val (.long q1), .second, .val (.long q2), .second, .val (.long q3), .second, .val (.long q4), .second, .val (.int nn), .val (.long ra), .second, .val (.long rb), .second, .val (.long rc), .second, .val (.long rd), .second, .unset, .unset, .unset, .unset, .unset, .unset, .unset, .unset, .unset, .unset, .unset] [])) t → Steps p.tables e below (s₁.setTop (entryFrame m #[(.int p0), (.long q1), (.long q2), (.long q3), (.long q4)] maxLocals)) t := by
    intro t k
    refine pre5 t ?_
    show Steps p.tables e below (s₁.setTop (mkF m 35 #[.val (.int p0), .val (.long q1), .second, .val (.long q2), .second, .val (.long q3), .second, .val (.long q4), .second, .val (.int nn), .val (.long ra), .second, .val (.long rb), .second, .val (.long rc), .second, .unset, .unset, .unset, .unset, .unset, .unset, .unset, .unset, .unset, .unset, .unset, .unset, .unset] [(.long rd)])) _
    refine XS.lstore X0.here hx rfl (hb hby at_35) rfl (l' := #[.val (.int p0), .val (.long q1), .second, .val (.long q2), .second, .val (.long q3), .second, .val (.long q4), .second, .val (.int nn), .val (.long ra), .second, .val (.long rb), .second, .val (.long rc), .second, .val (.long rd), .second, .unset, .unset, .unset, .unset, .unset, .unset, .unset, .unset, .unset, .unset, .unset]) rfl ?_
    show Steps p.tables e below (s₁.setTop (mkF m 37 #[.val (.int p0), .val (.long q1), .second, .val (.long q2), .second, .val (.long q3), .second, .val (.long q4), .second, .val (.int nn), .val (.long ra), .second, .val (.long rb), .second, .val (.long rc), .second, .val (.long rd), .second, .unset, .unset, .unset, .unset, .unset, .unset, .unset, .unset, .unset, .unset, .unset] [])) _
    exact k
  clear hnn hra hrb hrc hrd
  rcases hn with rfl | rfl | rfl | rfl
  · skip
    obtain ⟨T7, h7, k7, X7, e7, E7, A7, st7⟩ := newP X0 hx hZ (hw _ (List.mem_of_getElem? (i := 1) rfl)) e0 (g := (mkF m 39 #[.val (.int p0), .val (.long q1), .second, .val (.long q2), .second, .val (.long q3), .second, .val (.long q4), .second, .val (.int (1 : Int32)), .val (.long ra), .second, .val (.long rb), .second, .val (.long rc), .second, .val (.long rd), .second, .unset, .unset, .unset, .unset, .unset, .unset, .unset, .unset, .unset, .unset, .unset] [(.int (1 : Int32))])) rfl (hb hby at_39) rfl (by decide) (cap := 1) (by decide) (by decide) (by decide) (by decide)
    obtain ⟨b7, g7⟩ : ∃ z, z = h0.size := ⟨_, rfl⟩
    rw [← g7] at A7 st7
    have V7 : Arv Z h7 b7 k7 .long (1 : Int32) [(.long (0 : Int64))] (.long (0 : Int64)) := (Arv.new A7 (by decide)).pad (pad_rep [] (.long (0 : Int64)) 1)
    have g_b7 : n0 ≤ b7 := Nat.le_trans Z0 (Nat.le_of_eq g7.symm)
    have sz_b7 : h0.size ≤ b7 := (Nat.le_trans (Keep.refl h0 []).1 (Nat.le_of_eq g7.symm))
    have K7 : Keep h0 h7 [] := (Keep.refl h0 []).ext E7
    obtain ⟨cl8, Ar8, q8, S8, M8, H8, G8⟩ := V7
    have hin8 : ¬ ((0 : Int32) < 0 ∨ cl8.slots.size ≤ ((0 : Int32)).toNatClampNeg) := inb_of S8 ⟨by decide, by decide⟩
    obtain ⟨T9, h9, X9, e9, W9, st9⟩ := stJ X7 hx hZ e7 Ar8 (j := (0 : Int32)) hin8 (g := (mkF m 48 #[.val (.int p0), .val (.long q1), .second, .val (.long q2), .second, .val (.long q3), .second, .val (.long q4), .second, .val (.int (1 : Int32)), .val (.long ra), .second, .val (.long rb), .second, .val (.long rc), .second, .val (.long rd), .second, .val (.ref b7), .unset, .unset, .unset, .unset, .unset, .unset, .unset, .unset, .unset, .unset] [(.long ra), (.int (0 : Int32)), (.ref b7)])) rfl rfl (hb hby at_48)
    have V9 : Arv Z h9 b7 k7 .long (1 : Int32) [(.long ra)] (.long (0 : Int64)) := Arv.set Ar8 q8 S8 M8 H8 G8 rfl W9 0 rfl (Nat.le_of_ble_eq_true rfl)
    have K9 : Keep h0 h9 [] := K7.wr W9 (Or.inr sz_b7)
    have N9 := Fr.snoc X9 N0 g_b7
    obtain ⟨_, _, ⟨T10, L10, k10, n10⟩, -, X10, ⟨Lc10, hQ10, l10, y10, z10⟩, st10⟩ := Jvm.LawKit.callS X9 hx (y := (⟨"com/example/hummingbird/hummingbird/engine/RhythmLeastWaitingPointPinLaw", "earliestLeast", "(IJJJJ)I"⟩ : MethodName)) hown (mvT hZ (hw _ (List.mem_of_getElem? (i := 2) rfl))) (mvT hZ (hw _ (List.mem_of_getElem? (i := 3) rfl))) (mvT hZ (hw _ (List.mem_of_getElem? (i := 4) rfl))) (mvT hZ (hw _ (List.mem_of_getElem? (i := 5) rfl))) (by decide) (backOf (W := 0) (rmE1 l Z a0 hw [] (0 : Int64) (0 : Int64) (0 : Int64) (0 : Int64)  h9 n0 (Nat.le_trans (Nat.le_trans Z0 E7.1) (Keep.of_wr W9).1) ) hZ (hw _ (List.mem_of_getElem? (i := 5) rfl)) (hw _ (List.mem_of_getElem? (i := 4) rfl)) (by decide) (by decide)) (g := (mkF m 355 #[.val (.int p0), .val (.long q1), .second, .val (.long q2), .second, .val (.long q3), .second, .val (.long q4), .second, .val (.int (1 : Int32)), .val (.long ra), .second, .val (.long rb), .second, .val (.long rc), .second, .val (.long rd), .second, .val (.ref b7), .val (.long (0 : Int64)), .second, .val (.long (0 : Int64)), .second, .val (.long (0 : Int64)), .second, .val (.long (0 : Int64)), .second, .unset, .unset] [(.long (0 : Int64)), (.long (0 : Int64)), (.long (0 : Int64)), (.long (0 : Int64)), (.int (1 : Int32))])) rfl (by rw [hml]; rfl) (argsL := [(.int (1 : Int32)), (.long (0 : Int64)), (.long (0 : Int64)), (.long (0 : Int64)), (.long (0 : Int64))]) (rest := []) (lenOf pd_1 rfl) rfl (by show 2 * 0 + _ ≤ _; exact Nat.le_of_eq rfl) (hb hby at_355) (fun _ _ => ⟨rfl, e9, (by decide : 1 + 0 ≤ _), (by decide : 1 + 0 ≤ _)⟩)
    dsimp only [Pt.U, Pt.locs, Pt.cells, Pt.slots] at X10 l10 y10 z10 st10 hQ10
    subst l10 y10 z10
    obtain ⟨rfl, N10q, hq10⟩ := hQ10
    have N10 := Fr.app N9 N10q
    obtain ⟨T11, h11, X11, e11, E11, A11, D11, -, st11⟩ := newO X10 hx hZ hown (hw _ (List.mem_of_getElem? (i := 6) rfl)) (hw _ (List.mem_of_getElem? (i := 7) rfl)) (hw _ (List.mem_of_getElem? (i := 8) rfl)) hq10 (g := (mkF m 360 #[.val (.int p0), .val (.long q1), .second, .val (.long q2), .second, .val (.long q3), .second, .val (.long q4), .second, .val (.int (1 : Int32)), .val (.long ra), .second, .val (.long rb), .second, .val (.long rc), .second, .val (.long rd), .second, .val (.ref b7), .val (.long (0 : Int64)), .second, .val (.long (0 : Int64)), .second, .val (.long (0 : Int64)), .second, .val (.long (0 : Int64)), .second, .val (.int (own_e (1 : Int32) (0 : Int64) (0 : Int64) (0 : Int64) (0 : Int64))), .unset] [])) rfl (hb hby at_360) (by decide) (by decide)
    obtain ⟨b11, g11⟩ : ∃ z, z = h9.size := ⟨_, rfl⟩
    rw [← g11] at A11 D11 st11
    have F11_points : Fld Z h11 b11 "com/example/hummingbird/hummingbird/engine/Rhythm" "points" "I" (.int (0 : Int32)) := D11 (Or.inr (hw _ (List.mem_of_getElem? (i := 16) rfl))) (ty := .int) (by decide)
    have F11_rates : Fld Z h11 b11 "com/example/hummingbird/hummingbird/engine/Rhythm" "rates" "[J" .null := D11 (Or.inr (hw _ (List.mem_of_getElem? (i := 18) rfl))) (ty := (.array .long)) (by decide)
    have g_b11 : n0 ≤ b11 := Nat.le_trans (Nat.le_trans (Nat.le_trans Z0 E7.1) (Keep.of_wr W9).1) (Nat.le_of_eq g11.symm)
    have sz_b11 : h0.size ≤ b11 := (Nat.le_trans K9.1 (Nat.le_of_eq g11.symm))
    have K11 : Keep h0 h11 [] := K9.ext E11
    obtain ⟨cl12, Ar12, q12, S12, M12, H12, G12⟩ := (V9.ext E11)
    obtain ⟨_, _, ⟨T13, L13, k13, n13⟩, -, X13, ⟨Lc13, hQ13, l13, y13, z13⟩, st13⟩ := X11.specialBack hx (y := (⟨"com/example/hummingbird/hummingbird/engine/Rhythm", "<init>", "([J)V"⟩ : MethodName)) rfl hown (mvT hZ (hw _ (List.mem_of_getElem? (i := 9) rfl))) (mvT hZ (hw _ (List.mem_of_getElem? (i := 10) rfl))) (mvT hZ (hw _ (List.mem_of_getElem? (i := 11) rfl))) (by decide) (backOf (W := 1) (rmI l Z a0 hw [] b11 b7 cl12 (1 : Int32) h11 n0 (Nat.le_trans (Nat.le_trans (Nat.le_trans Z0 E7.1) (Keep.of_wr W9).1) E11.1) F11_points F11_rates A11 g_b11 Ar12 S12 M12) hZ (hw _ (List.mem_of_getElem? (i := 11) rfl)) (hw _ (List.mem_of_getElem? (i := 8) rfl)) (by decide) (by decide)) (g := (mkF m 366 #[.val (.int p0), .val (.long q1), .second, .val (.long q2), .second, .val (.long q3), .second, .val (.long q4), .second, .val (.int (1 : Int32)), .val (.long ra), .second, .val (.long rb), .second, .val (.long rc), .second, .val (.long rd), .second, .val (.ref b7), .val (.long (0 : Int64)), .second, .val (.long (0 : Int64)), .second, .val (.long (0 : Int64)), .second, .val (.long (0 : Int64)), .second, .val (.int (own_e (1 : Int32) (0 : Int64) (0 : Int64) (0 : Int64) (0 : Int64))), .unset] [(.ref b7), (.ref b11), (.ref b11)])) rfl (by rw [hml]; rfl) (Steps.refl _) (a := b11) (argsL := [(.ref b7)]) (rest := [(.ref b11)]) (lenOf pd_2 rfl) rfl (by show 2 * 0 + _ ≤ _; exact Nat.le_of_eq rfl) (hb hby at_366) (fun _ _ => ⟨rfl, e11, (by decide : 2 + 0 ≤ _), (by decide : 5 + 0 ≤ _)⟩)
    dsimp only [Pt.U, Pt.locs, Pt.cells, Pt.slots] at X13 l13 y13 z13 st13 hQ13
    subst l13 y13 z13
    obtain ⟨rfl, N13q, Kq13, Eq13, F1q13, F2q13⟩ := hQ13
    have N13 := Fr.app N10 N13q
    have K13 : Keep h0 T13.heap [] := K11.trans Kq13 (allS (Or.inr sz_b11) all0)
    obtain ⟨cl14, Ar14, q14, S14, M14, H14, G14⟩ := ((V9.ext E11).keep Kq13 (ninS (Nat.ne_of_lt (Nat.lt_of_lt_of_le V9.lt (Nat.le_of_eq g11.symm))) nin0))
    have t0 : cl14.slots[0]? = some (.long ra) := H14 0 (by rw [S14]; decide)
    obtain ⟨cq15, kq15, q15a, q15b, q15c⟩ := isOf hZ rfl Eq13
    obtain ⟨_, _, ⟨T15, L15, k15, n15⟩, -, X15, ⟨Lc15, hQ15, l15, y15, z15⟩, st15⟩ := X13.virtualBack hx (y := (⟨"com/example/hummingbird/hummingbird/engine/Rhythm", "leastWaitingPoint", "()I"⟩ : MethodName)) (z := (⟨"com/example/hummingbird/hummingbird/engine/Rhythm", "leastWaitingPoint", "()I"⟩ : MethodName)) hown (mvT hZ (hw _ (List.mem_of_getElem? (i := 19) rfl))) (mvT hZ (hw _ (List.mem_of_getElem? (i := 20) rfl))) (notFace_of_selects (args := #[]) (mvT hZ (hw _ (List.mem_of_getElem? (i := 22) rfl)))) (mvT hZ (hw _ (List.mem_of_getElem? (i := 22) rfl))) (mvT hZ (hw _ (List.mem_of_getElem? (i := 21) rfl))) (by decide) (backOf (W := 0) (rmL1 l Z a0 hw [] b11 b7 cl14 ra T13.heap n0 (Nat.le_trans (Nat.le_trans (Nat.le_trans (Nat.le_trans Z0 E7.1) (Keep.of_wr W9).1) E11.1) Kq13.1) Eq13 F1q13 F2q13 Ar14 S14 t0) hZ (hw _ (List.mem_of_getElem? (i := 23) rfl)) (hw _ (List.mem_of_getElem? (i := 8) rfl)) (by decide) (by decide)) q15a q15c (g := (mkF m 369 #[.val (.int p0), .val (.long q1), .second, .val (.long q2), .second, .val (.long q3), .second, .val (.long q4), .second, .val (.int (1 : Int32)), .val (.long ra), .second, .val (.long rb), .second, .val (.long rc), .second, .val (.long rd), .second, .val (.ref b7), .val (.long (0 : Int64)), .second, .val (.long (0 : Int64)), .second, .val (.long (0 : Int64)), .second, .val (.long (0 : Int64)), .second, .val (.int (own_e (1 : Int32) (0 : Int64) (0 : Int64) (0 : Int64) (0 : Int64))), .unset] [(.ref b11)])) rfl (by rw [hml]; rfl) (Steps.refl _) (argsL := []) (rest := []) (lenOf pd_3 rfl) rfl (by show 2 * 0 + _ ≤ _; exact Nat.le_of_eq rfl) (hb hby at_369) (fun _ _ => ⟨rfl, rfl, (by decide : 2 + 0 ≤ _), (by decide : 5 + 0 ≤ _)⟩)
    dsimp only [Pt.U, Pt.locs, Pt.cells, Pt.slots] at X15 l15 y15 z15 st15 hQ15
    subst l15 y15 z15
    obtain ⟨rfl, N15q, hq15⟩ := hQ15
    have N15 := Fr.app N13 N15q
    have pre16 : ∀ t, Steps p.tables e below (T15.setTop (mkF m 386 #[.val (.int p0), .val (.long q1), .second, .val (.long q2), .second, .val (.long q3), .second, .val (.long q4), .second, .val (.int (1 : Int32)), .val (.long ra), .second, .val (.long rb), .second, .val (.long rc), .second, .val (.long rd), .second, .val (.ref b7), .val (.long (0 : Int64)), .second, .val (.long (0 : Int64)), .second, .val (.long (0 : Int64)), .second, .val (.long (0 : Int64)), .second, .val (.int (own_e (1 : Int32) (0 : Int64) (0 : Int64) (0 : Int64) (0 : Int64))), .val (.int (own_l1 ra))] [(.int (1 : Int32))])) t → Steps p.tables e below (s₁.setTop (entryFrame m #[(.int p0), (.long q1), (.long q2), (.long q3), (.long q4)] maxLocals)) t := by
      intro t k
      refine pre6 t ?_
      show Steps p.tables e below (s₁.setTop (mkF m 37 #[.val (.int p0), .val (.long q1), .second, .val (.long q2), .second, .val (.long q3), .second, .val (.long q4), .second, .val (.int (1 : Int32)), .val (.long ra), .second, .val (.long rb), .second, .val (.long rc), .second, .val (.long rd), .second, .unset, .unset, .unset, .unset, .unset, .unset, .unset, .unset, .unset, .unset, .unset] [])) _
      refine XS.iload X0.here hx rfl (hb hby at_37) rfl ?_
      show Steps p.tables e below (s₁.setTop (mkF m 39 #[.val (.int p0), .val (.long q1), .second, .val (.long q2), .second, .val (.long q3), .second, .val (.long q4), .second, .val (.int (1 : Int32)), .val (.long ra), .second, .val (.long rb), .second, .val (.long rc), .second, .val (.long rd), .second, .unset, .unset, .unset, .unset, .unset, .unset, .unset, .unset, .unset, .unset, .unset] [(.int (1 : Int32))])) _
      refine st7 _ ?_
      show Steps p.tables e below (T7.setTop (mkF m 41 #[.val (.int p0), .val (.long q1), .second, .val (.long q2), .second, .val (.long q3), .second, .val (.long q4), .second, .val (.int (1 : Int32)), .val (.long ra), .second, .val (.long rb), .second, .val (.long rc), .second, .val (.long rd), .second, .unset, .unset, .unset, .unset, .unset, .unset, .unset, .unset, .unset, .unset, .unset] [(.ref b7)])) _
      refine XS.astore X7.here hx rfl (hb hby at_41) rfl (rfl) (l' := #[.val (.int p0), .val (.long q1), .second, .val (.long q2), .second, .val (.long q3), .second, .val (.long q4), .second, .val (.int (1 : Int32)), .val (.long ra), .second, .val (.long rb), .second, .val (.long rc), .second, .val (.long rd), .second, .val (.ref b7), .unset, .unset, .unset, .unset, .unset, .unset, .unset, .unset, .unset, .unset]) rfl ?_
      show Steps p.tables e below (T7.setTop (mkF m 43 #[.val (.int p0), .val (.long q1), .second, .val (.long q2), .second, .val (.long q3), .second, .val (.long q4), .second, .val (.int (1 : Int32)), .val (.long ra), .second, .val (.long rb), .second, .val (.long rc), .second, .val (.long rd), .second, .val (.ref b7), .unset, .unset, .unset, .unset, .unset, .unset, .unset, .unset, .unset, .unset] [])) _
      refine XS.aload X7.here hx rfl (hb hby at_43) rfl (rfl) ?_
      show Steps p.tables e below (T7.setTop (mkF m 45 #[.val (.int p0), .val (.long q1), .second, .val (.long q2), .second, .val (.long q3), .second, .val (.long q4), .second, .val (.int (1 : Int32)), .val (.long ra), .second, .val (.long rb), .second, .val (.long rc), .second, .val (.long rd), .second, .val (.ref b7), .unset, .unset, .unset, .unset, .unset, .unset, .unset, .unset, .unset, .unset] [(.ref b7)])) _
      refine XS.iconst X7.here hx rfl (hb hby at_45) ?_
      show Steps p.tables e below (T7.setTop (mkF m 46 #[.val (.int p0), .val (.long q1), .second, .val (.long q2), .second, .val (.long q3), .second, .val (.long q4), .second, .val (.int (1 : Int32)), .val (.long ra), .second, .val (.long rb), .second, .val (.long rc), .second, .val (.long rd), .second, .val (.ref b7), .unset, .unset, .unset, .unset, .unset, .unset, .unset, .unset, .unset, .unset] [(.int (0 : Int32)), (.ref b7)])) _
      refine XS.lload X7.here hx rfl (hb hby at_46) rfl ?_
      show Steps p.tables e below (T7.setTop (mkF m 48 #[.val (.int p0), .val (.long q1), .second, .val (.long q2), .second, .val (.long q3), .second, .val (.long q4), .second, .val (.int (1 : Int32)), .val (.long ra), .second, .val (.long rb), .second, .val (.long rc), .second, .val (.long rd), .second, .val (.ref b7), .unset, .unset, .unset, .unset, .unset, .unset, .unset, .unset, .unset, .unset] [(.long ra), (.int (0 : Int32)), (.ref b7)])) _
      refine st9 _ ?_
      show Steps p.tables e below (T9.setTop (mkF m 49 #[.val (.int p0), .val (.long q1), .second, .val (.long q2), .second, .val (.long q3), .second, .val (.long q4), .second, .val (.int (1 : Int32)), .val (.long ra), .second, .val (.long rb), .second, .val (.long rc), .second, .val (.long rd), .second, .val (.ref b7), .unset, .unset, .unset, .unset, .unset, .unset, .unset, .unset, .unset, .unset] [])) _
      refine XS.iload X9.here hx rfl (hb hby at_49) rfl ?_
      show Steps p.tables e below (T9.setTop (mkF m 51 #[.val (.int p0), .val (.long q1), .second, .val (.long q2), .second, .val (.long q3), .second, .val (.long q4), .second, .val (.int (1 : Int32)), .val (.long ra), .second, .val (.long rb), .second, .val (.long rc), .second, .val (.long rd), .second, .val (.ref b7), .unset, .unset, .unset, .unset, .unset, .unset, .unset, .unset, .unset, .unset] [(.int (1 : Int32))])) _
      refine XS.iconst X9.here hx rfl (hb hby at_51) ?_
      show Steps p.tables e below (T9.setTop (mkF m 52 #[.val (.int p0), .val (.long q1), .second, .val (.long q2), .second, .val (.long q3), .second, .val (.long q4), .second, .val (.int (1 : Int32)), .val (.long ra), .second, .val (.long rb), .second, .val (.long rc), .second, .val (.long rd), .second, .val (.ref b7), .unset, .unset, .unset, .unset, .unset, .unset, .unset, .unset, .unset, .unset] [(.int (1 : Int32)), (.int (1 : Int32))])) _
      refine XS.icmpYes X9.here hx rfl (pc0 := 52) (pc' := 61) rfl (hb hby at_52) rfl (flt (by decide : ¬ ((1 : Int32) < (1 : Int32)))).2.2.2 (by decide) (by decide) ?_
      show Steps p.tables e below (T9.setTop (mkF m 61 #[.val (.int p0), .val (.long q1), .second, .val (.long q2), .second, .val (.long q3), .second, .val (.long q4), .second, .val (.int (1 : Int32)), .val (.long ra), .second, .val (.long rb), .second, .val (.long rc), .second, .val (.long rd), .second, .val (.ref b7), .unset, .unset, .unset, .unset, .unset, .unset, .unset, .unset, .unset, .unset] [])) _
      refine XS.iload X9.here hx rfl (hb hby at_61) rfl ?_
      show Steps p.tables e below (T9.setTop (mkF m 63 #[.val (.int p0), .val (.long q1), .second, .val (.long q2), .second, .val (.long q3), .second, .val (.long q4), .second, .val (.int (1 : Int32)), .val (.long ra), .second, .val (.long rb), .second, .val (.long rc), .second, .val (.long rd), .second, .val (.ref b7), .unset, .unset, .unset, .unset, .unset, .unset, .unset, .unset, .unset, .unset] [(.int (1 : Int32))])) _
      refine XS.iconst X9.here hx rfl (hb hby at_63) ?_
      show Steps p.tables e below (T9.setTop (mkF m 64 #[.val (.int p0), .val (.long q1), .second, .val (.long q2), .second, .val (.long q3), .second, .val (.long q4), .second, .val (.int (1 : Int32)), .val (.long ra), .second, .val (.long rb), .second, .val (.long rc), .second, .val (.long rd), .second, .val (.ref b7), .unset, .unset, .unset, .unset, .unset, .unset, .unset, .unset, .unset, .unset] [(.int (2 : Int32)), (.int (1 : Int32))])) _
      refine XS.icmpYes X9.here hx rfl (pc0 := 64) (pc' := 73) rfl (hb hby at_64) rfl (flt (by decide : ¬ ((2 : Int32) < (1 : Int32)))).2.2.2 (by decide) (by decide) ?_
      show Steps p.tables e below (T9.setTop (mkF m 73 #[.val (.int p0), .val (.long q1), .second, .val (.long q2), .second, .val (.long q3), .second, .val (.long q4), .second, .val (.int (1 : Int32)), .val (.long ra), .second, .val (.long rb), .second, .val (.long rc), .second, .val (.long rd), .second, .val (.ref b7), .unset, .unset, .unset, .unset, .unset, .unset, .unset, .unset, .unset, .unset] [])) _
      refine XS.iload X9.here hx rfl (hb hby at_73) rfl ?_
      show Steps p.tables e below (T9.setTop (mkF m 75 #[.val (.int p0), .val (.long q1), .second, .val (.long q2), .second, .val (.long q3), .second, .val (.long q4), .second, .val (.int (1 : Int32)), .val (.long ra), .second, .val (.long rb), .second, .val (.long rc), .second, .val (.long rd), .second, .val (.ref b7), .unset, .unset, .unset, .unset, .unset, .unset, .unset, .unset, .unset, .unset] [(.int (1 : Int32))])) _
      refine XS.iconst X9.here hx rfl (hb hby at_75) ?_
      show Steps p.tables e below (T9.setTop (mkF m 76 #[.val (.int p0), .val (.long q1), .second, .val (.long q2), .second, .val (.long q3), .second, .val (.long q4), .second, .val (.int (1 : Int32)), .val (.long ra), .second, .val (.long rb), .second, .val (.long rc), .second, .val (.long rd), .second, .val (.ref b7), .unset, .unset, .unset, .unset, .unset, .unset, .unset, .unset, .unset, .unset] [(.int (3 : Int32)), (.int (1 : Int32))])) _
      refine XS.icmpYes X9.here hx rfl (pc0 := 76) (pc' := 85) rfl (hb hby at_76) rfl (flt (by decide : ¬ ((3 : Int32) < (1 : Int32)))).2.2.2 (by decide) (by decide) ?_
      show Steps p.tables e below (T9.setTop (mkF m 85 #[.val (.int p0), .val (.long q1), .second, .val (.long q2), .second, .val (.long q3), .second, .val (.long q4), .second, .val (.int (1 : Int32)), .val (.long ra), .second, .val (.long rb), .second, .val (.long rc), .second, .val (.long rd), .second, .val (.ref b7), .unset, .unset, .unset, .unset, .unset, .unset, .unset, .unset, .unset, .unset] [])) _
      refine XS.iload X9.here hx rfl (hb hby at_85) rfl ?_
      show Steps p.tables e below (T9.setTop (mkF m 87 #[.val (.int p0), .val (.long q1), .second, .val (.long q2), .second, .val (.long q3), .second, .val (.long q4), .second, .val (.int (1 : Int32)), .val (.long ra), .second, .val (.long rb), .second, .val (.long rc), .second, .val (.long rd), .second, .val (.ref b7), .unset, .unset, .unset, .unset, .unset, .unset, .unset, .unset, .unset, .unset] [(.int (1 : Int32))])) _
      refine XS.iconst X9.here hx rfl (hb hby at_87) ?_
      show Steps p.tables e below (T9.setTop (mkF m 88 #[.val (.int p0), .val (.long q1), .second, .val (.long q2), .second, .val (.long q3), .second, .val (.long q4), .second, .val (.int (1 : Int32)), .val (.long ra), .second, .val (.long rb), .second, .val (.long rc), .second, .val (.long rd), .second, .val (.ref b7), .unset, .unset, .unset, .unset, .unset, .unset, .unset, .unset, .unset, .unset] [(.int (4 : Int32)), (.int (1 : Int32))])) _
      refine XS.icmpYes X9.here hx rfl (pc0 := 88) (pc' := 210) rfl (hb hby at_88) rfl (feq (by decide : ¬ ((1 : Int32) = (4 : Int32)))).2 (by decide) (by decide) ?_
      show Steps p.tables e below (T9.setTop (mkF m 210 #[.val (.int p0), .val (.long q1), .second, .val (.long q2), .second, .val (.long q3), .second, .val (.long q4), .second, .val (.int (1 : Int32)), .val (.long ra), .second, .val (.long rb), .second, .val (.long rc), .second, .val (.long rd), .second, .val (.ref b7), .unset, .unset, .unset, .unset, .unset, .unset, .unset, .unset, .unset, .unset] [])) _
      refine XS.iload X9.here hx rfl (hb hby at_210) rfl ?_
      show Steps p.tables e below (T9.setTop (mkF m 212 #[.val (.int p0), .val (.long q1), .second, .val (.long q2), .second, .val (.long q3), .second, .val (.long q4), .second, .val (.int (1 : Int32)), .val (.long ra), .second, .val (.long rb), .second, .val (.long rc), .second, .val (.long rd), .second, .val (.ref b7), .unset, .unset, .unset, .unset, .unset, .unset, .unset, .unset, .unset, .unset] [(.int (1 : Int32))])) _
      refine XS.iconst X9.here hx rfl (hb hby at_212) ?_
      show Steps p.tables e below (T9.setTop (mkF m 213 #[.val (.int p0), .val (.long q1), .second, .val (.long q2), .second, .val (.long q3), .second, .val (.long q4), .second, .val (.int (1 : Int32)), .val (.long ra), .second, .val (.long rb), .second, .val (.long rc), .second, .val (.long rd), .second, .val (.ref b7), .unset, .unset, .unset, .unset, .unset, .unset, .unset, .unset, .unset, .unset] [(.int (3 : Int32)), (.int (1 : Int32))])) _
      refine XS.icmpYes X9.here hx rfl (pc0 := 213) (pc' := 288) rfl (hb hby at_213) rfl (feq (by decide : ¬ ((1 : Int32) = (3 : Int32)))).2 (by decide) (by decide) ?_
      show Steps p.tables e below (T9.setTop (mkF m 288 #[.val (.int p0), .val (.long q1), .second, .val (.long q2), .second, .val (.long q3), .second, .val (.long q4), .second, .val (.int (1 : Int32)), .val (.long ra), .second, .val (.long rb), .second, .val (.long rc), .second, .val (.long rd), .second, .val (.ref b7), .unset, .unset, .unset, .unset, .unset, .unset, .unset, .unset, .unset, .unset] [])) _
      refine XS.iload X9.here hx rfl (hb hby at_288) rfl ?_
      show Steps p.tables e below (T9.setTop (mkF m 290 #[.val (.int p0), .val (.long q1), .second, .val (.long q2), .second, .val (.long q3), .second, .val (.long q4), .second, .val (.int (1 : Int32)), .val (.long ra), .second, .val (.long rb), .second, .val (.long rc), .second, .val (.long rd), .second, .val (.ref b7), .unset, .unset, .unset, .unset, .unset, .unset, .unset, .unset, .unset, .unset] [(.int (1 : Int32))])) _
      refine XS.iconst X9.here hx rfl (hb hby at_290) ?_
      show Steps p.tables e below (T9.setTop (mkF m 291 #[.val (.int p0), .val (.long q1), .second, .val (.long q2), .second, .val (.long q3), .second, .val (.long q4), .second, .val (.int (1 : Int32)), .val (.long ra), .second, .val (.long rb), .second, .val (.long rc), .second, .val (.long rd), .second, .val (.ref b7), .unset, .unset, .unset, .unset, .unset, .unset, .unset, .unset, .unset, .unset] [(.int (2 : Int32)), (.int (1 : Int32))])) _
      refine XS.icmpYes X9.here hx rfl (pc0 := 291) (pc' := 333) rfl (hb hby at_291) rfl (feq (by decide : ¬ ((1 : Int32) = (2 : Int32)))).2 (by decide) (by decide) ?_
      show Steps p.tables e below (T9.setTop (mkF m 333 #[.val (.int p0), .val (.long q1), .second, .val (.long q2), .second, .val (.long q3), .second, .val (.long q4), .second, .val (.int (1 : Int32)), .val (.long ra), .second, .val (.long rb), .second, .val (.long rc), .second, .val (.long rd), .second, .val (.ref b7), .unset, .unset, .unset, .unset, .unset, .unset, .unset, .unset, .unset, .unset] [])) _
      refine XS.lconst X9.here hx rfl (hb hby at_333) ?_
      show Steps p.tables e below (T9.setTop (mkF m 334 #[.val (.int p0), .val (.long q1), .second, .val (.long q2), .second, .val (.long q3), .second, .val (.long q4), .second, .val (.int (1 : Int32)), .val (.long ra), .second, .val (.long rb), .second, .val (.long rc), .second, .val (.long rd), .second, .val (.ref b7), .unset, .unset, .unset, .unset, .unset, .unset, .unset, .unset, .unset, .unset] [(.long (0 : Int64))])) _
      refine XS.lstore X9.here hx rfl (hb hby at_334) rfl (l' := #[.val (.int p0), .val (.long q1), .second, .val (.long q2), .second, .val (.long q3), .second, .val (.long q4), .second, .val (.int (1 : Int32)), .val (.long ra), .second, .val (.long rb), .second, .val (.long rc), .second, .val (.long rd), .second, .val (.ref b7), .val (.long (0 : Int64)), .second, .unset, .unset, .unset, .unset, .unset, .unset, .unset, .unset]) rfl ?_
      show Steps p.tables e below (T9.setTop (mkF m 336 #[.val (.int p0), .val (.long q1), .second, .val (.long q2), .second, .val (.long q3), .second, .val (.long q4), .second, .val (.int (1 : Int32)), .val (.long ra), .second, .val (.long rb), .second, .val (.long rc), .second, .val (.long rd), .second, .val (.ref b7), .val (.long (0 : Int64)), .second, .unset, .unset, .unset, .unset, .unset, .unset, .unset, .unset] [])) _
      refine XS.lconst X9.here hx rfl (hb hby at_336) ?_
      show Steps p.tables e below (T9.setTop (mkF m 337 #[.val (.int p0), .val (.long q1), .second, .val (.long q2), .second, .val (.long q3), .second, .val (.long q4), .second, .val (.int (1 : Int32)), .val (.long ra), .second, .val (.long rb), .second, .val (.long rc), .second, .val (.long rd), .second, .val (.ref b7), .val (.long (0 : Int64)), .second, .unset, .unset, .unset, .unset, .unset, .unset, .unset, .unset] [(.long (0 : Int64))])) _
      refine XS.lstore X9.here hx rfl (hb hby at_337) rfl (l' := #[.val (.int p0), .val (.long q1), .second, .val (.long q2), .second, .val (.long q3), .second, .val (.long q4), .second, .val (.int (1 : Int32)), .val (.long ra), .second, .val (.long rb), .second, .val (.long rc), .second, .val (.long rd), .second, .val (.ref b7), .val (.long (0 : Int64)), .second, .val (.long (0 : Int64)), .second, .unset, .unset, .unset, .unset, .unset, .unset]) rfl ?_
      show Steps p.tables e below (T9.setTop (mkF m 339 #[.val (.int p0), .val (.long q1), .second, .val (.long q2), .second, .val (.long q3), .second, .val (.long q4), .second, .val (.int (1 : Int32)), .val (.long ra), .second, .val (.long rb), .second, .val (.long rc), .second, .val (.long rd), .second, .val (.ref b7), .val (.long (0 : Int64)), .second, .val (.long (0 : Int64)), .second, .unset, .unset, .unset, .unset, .unset, .unset] [])) _
      refine XS.lconst X9.here hx rfl (hb hby at_339) ?_
      show Steps p.tables e below (T9.setTop (mkF m 340 #[.val (.int p0), .val (.long q1), .second, .val (.long q2), .second, .val (.long q3), .second, .val (.long q4), .second, .val (.int (1 : Int32)), .val (.long ra), .second, .val (.long rb), .second, .val (.long rc), .second, .val (.long rd), .second, .val (.ref b7), .val (.long (0 : Int64)), .second, .val (.long (0 : Int64)), .second, .unset, .unset, .unset, .unset, .unset, .unset] [(.long (0 : Int64))])) _
      refine XS.lstore X9.here hx rfl (hb hby at_340) rfl (l' := #[.val (.int p0), .val (.long q1), .second, .val (.long q2), .second, .val (.long q3), .second, .val (.long q4), .second, .val (.int (1 : Int32)), .val (.long ra), .second, .val (.long rb), .second, .val (.long rc), .second, .val (.long rd), .second, .val (.ref b7), .val (.long (0 : Int64)), .second, .val (.long (0 : Int64)), .second, .val (.long (0 : Int64)), .second, .unset, .unset, .unset, .unset]) rfl ?_
      show Steps p.tables e below (T9.setTop (mkF m 342 #[.val (.int p0), .val (.long q1), .second, .val (.long q2), .second, .val (.long q3), .second, .val (.long q4), .second, .val (.int (1 : Int32)), .val (.long ra), .second, .val (.long rb), .second, .val (.long rc), .second, .val (.long rd), .second, .val (.ref b7), .val (.long (0 : Int64)), .second, .val (.long (0 : Int64)), .second, .val (.long (0 : Int64)), .second, .unset, .unset, .unset, .unset] [])) _
      refine XS.lconst X9.here hx rfl (hb hby at_342) ?_
      show Steps p.tables e below (T9.setTop (mkF m 343 #[.val (.int p0), .val (.long q1), .second, .val (.long q2), .second, .val (.long q3), .second, .val (.long q4), .second, .val (.int (1 : Int32)), .val (.long ra), .second, .val (.long rb), .second, .val (.long rc), .second, .val (.long rd), .second, .val (.ref b7), .val (.long (0 : Int64)), .second, .val (.long (0 : Int64)), .second, .val (.long (0 : Int64)), .second, .unset, .unset, .unset, .unset] [(.long (0 : Int64))])) _
      refine XS.lstore X9.here hx rfl (hb hby at_343) rfl (l' := #[.val (.int p0), .val (.long q1), .second, .val (.long q2), .second, .val (.long q3), .second, .val (.long q4), .second, .val (.int (1 : Int32)), .val (.long ra), .second, .val (.long rb), .second, .val (.long rc), .second, .val (.long rd), .second, .val (.ref b7), .val (.long (0 : Int64)), .second, .val (.long (0 : Int64)), .second, .val (.long (0 : Int64)), .second, .val (.long (0 : Int64)), .second, .unset, .unset]) rfl ?_
      show Steps p.tables e below (T9.setTop (mkF m 345 #[.val (.int p0), .val (.long q1), .second, .val (.long q2), .second, .val (.long q3), .second, .val (.long q4), .second, .val (.int (1 : Int32)), .val (.long ra), .second, .val (.long rb), .second, .val (.long rc), .second, .val (.long rd), .second, .val (.ref b7), .val (.long (0 : Int64)), .second, .val (.long (0 : Int64)), .second, .val (.long (0 : Int64)), .second, .val (.long (0 : Int64)), .second, .unset, .unset] [])) _
      refine XS.iload X9.here hx rfl (hb hby at_345) rfl ?_
      show Steps p.tables e below (T9.setTop (mkF m 347 #[.val (.int p0), .val (.long q1), .second, .val (.long q2), .second, .val (.long q3), .second, .val (.long q4), .second, .val (.int (1 : Int32)), .val (.long ra), .second, .val (.long rb), .second, .val (.long rc), .second, .val (.long rd), .second, .val (.ref b7), .val (.long (0 : Int64)), .second, .val (.long (0 : Int64)), .second, .val (.long (0 : Int64)), .second, .val (.long (0 : Int64)), .second, .unset, .unset] [(.int (1 : Int32))])) _
      refine XS.lload X9.here hx rfl (hb hby at_347) rfl ?_
      show Steps p.tables e below (T9.setTop (mkF m 349 #[.val (.int p0), .val (.long q1), .second, .val (.long q2), .second, .val (.long q3), .second, .val (.long q4), .second, .val (.int (1 : Int32)), .val (.long ra), .second, .val (.long rb), .second, .val (.long rc), .second, .val (.long rd), .second, .val (.ref b7), .val (.long (0 : Int64)), .second, .val (.long (0 : Int64)), .second, .val (.long (0 : Int64)), .second, .val (.long (0 : Int64)), .second, .unset, .unset] [(.long (0 : Int64)), (.int (1 : Int32))])) _
      refine XS.lload X9.here hx rfl (hb hby at_349) rfl ?_
      show Steps p.tables e below (T9.setTop (mkF m 351 #[.val (.int p0), .val (.long q1), .second, .val (.long q2), .second, .val (.long q3), .second, .val (.long q4), .second, .val (.int (1 : Int32)), .val (.long ra), .second, .val (.long rb), .second, .val (.long rc), .second, .val (.long rd), .second, .val (.ref b7), .val (.long (0 : Int64)), .second, .val (.long (0 : Int64)), .second, .val (.long (0 : Int64)), .second, .val (.long (0 : Int64)), .second, .unset, .unset] [(.long (0 : Int64)), (.long (0 : Int64)), (.int (1 : Int32))])) _
      refine XS.lload X9.here hx rfl (hb hby at_351) rfl ?_
      show Steps p.tables e below (T9.setTop (mkF m 353 #[.val (.int p0), .val (.long q1), .second, .val (.long q2), .second, .val (.long q3), .second, .val (.long q4), .second, .val (.int (1 : Int32)), .val (.long ra), .second, .val (.long rb), .second, .val (.long rc), .second, .val (.long rd), .second, .val (.ref b7), .val (.long (0 : Int64)), .second, .val (.long (0 : Int64)), .second, .val (.long (0 : Int64)), .second, .val (.long (0 : Int64)), .second, .unset, .unset] [(.long (0 : Int64)), (.long (0 : Int64)), (.long (0 : Int64)), (.int (1 : Int32))])) _
      refine XS.lload X9.here hx rfl (hb hby at_353) rfl ?_
      show Steps p.tables e below (T9.setTop (mkF m 355 #[.val (.int p0), .val (.long q1), .second, .val (.long q2), .second, .val (.long q3), .second, .val (.long q4), .second, .val (.int (1 : Int32)), .val (.long ra), .second, .val (.long rb), .second, .val (.long rc), .second, .val (.long rd), .second, .val (.ref b7), .val (.long (0 : Int64)), .second, .val (.long (0 : Int64)), .second, .val (.long (0 : Int64)), .second, .val (.long (0 : Int64)), .second, .unset, .unset] [(.long (0 : Int64)), (.long (0 : Int64)), (.long (0 : Int64)), (.long (0 : Int64)), (.int (1 : Int32))])) _
      refine st10 _ ?_
      show Steps p.tables e below (T10.setTop (mkF m 358 #[.val (.int p0), .val (.long q1), .second, .val (.long q2), .second, .val (.long q3), .second, .val (.long q4), .second, .val (.int (1 : Int32)), .val (.long ra), .second, .val (.long rb), .second, .val (.long rc), .second, .val (.long rd), .second, .val (.ref b7), .val (.long (0 : Int64)), .second, .val (.long (0 : Int64)), .second, .val (.long (0 : Int64)), .second, .val (.long (0 : Int64)), .second, .unset, .unset] [(.int (own_e (1 : Int32) (0 : Int64) (0 : Int64) (0 : Int64) (0 : Int64)))])) _
      refine XS.istore X10.here hx rfl (hb hby at_358) rfl (l' := #[.val (.int p0), .val (.long q1), .second, .val (.long q2), .second, .val (.long q3), .second, .val (.long q4), .second, .val (.int (1 : Int32)), .val (.long ra), .second, .val (.long rb), .second, .val (.long rc), .second, .val (.long rd), .second, .val (.ref b7), .val (.long (0 : Int64)), .second, .val (.long (0 : Int64)), .second, .val (.long (0 : Int64)), .second, .val (.long (0 : Int64)), .second, .val (.int (own_e (1 : Int32) (0 : Int64) (0 : Int64) (0 : Int64) (0 : Int64))), .unset]) rfl ?_
      show Steps p.tables e below (T10.setTop (mkF m 360 #[.val (.int p0), .val (.long q1), .second, .val (.long q2), .second, .val (.long q3), .second, .val (.long q4), .second, .val (.int (1 : Int32)), .val (.long ra), .second, .val (.long rb), .second, .val (.long rc), .second, .val (.long rd), .second, .val (.ref b7), .val (.long (0 : Int64)), .second, .val (.long (0 : Int64)), .second, .val (.long (0 : Int64)), .second, .val (.long (0 : Int64)), .second, .val (.int (own_e (1 : Int32) (0 : Int64) (0 : Int64) (0 : Int64) (0 : Int64))), .unset] [])) _
      refine st11 _ ?_
      show Steps p.tables e below (T11.setTop (mkF m 363 #[.val (.int p0), .val (.long q1), .second, .val (.long q2), .second, .val (.long q3), .second, .val (.long q4), .second, .val (.int (1 : Int32)), .val (.long ra), .second, .val (.long rb), .second, .val (.long rc), .second, .val (.long rd), .second, .val (.ref b7), .val (.long (0 : Int64)), .second, .val (.long (0 : Int64)), .second, .val (.long (0 : Int64)), .second, .val (.long (0 : Int64)), .second, .val (.int (own_e (1 : Int32) (0 : Int64) (0 : Int64) (0 : Int64) (0 : Int64))), .unset] [(.ref b11)])) _
      refine XS.dup X11.here hx rfl (hb hby at_363) rfl rfl ?_
      show Steps p.tables e below (T11.setTop (mkF m 364 #[.val (.int p0), .val (.long q1), .second, .val (.long q2), .second, .val (.long q3), .second, .val (.long q4), .second, .val (.int (1 : Int32)), .val (.long ra), .second, .val (.long rb), .second, .val (.long rc), .second, .val (.long rd), .second, .val (.ref b7), .val (.long (0 : Int64)), .second, .val (.long (0 : Int64)), .second, .val (.long (0 : Int64)), .second, .val (.long (0 : Int64)), .second, .val (.int (own_e (1 : Int32) (0 : Int64) (0 : Int64) (0 : Int64) (0 : Int64))), .unset] [(.ref b11), (.ref b11)])) _
      refine XS.aload X11.here hx rfl (hb hby at_364) rfl (rfl) ?_
      show Steps p.tables e below (T11.setTop (mkF m 366 #[.val (.int p0), .val (.long q1), .second, .val (.long q2), .second, .val (.long q3), .second, .val (.long q4), .second, .val (.int (1 : Int32)), .val (.long ra), .second, .val (.long rb), .second, .val (.long rc), .second, .val (.long rd), .second, .val (.ref b7), .val (.long (0 : Int64)), .second, .val (.long (0 : Int64)), .second, .val (.long (0 : Int64)), .second, .val (.long (0 : Int64)), .second, .val (.int (own_e (1 : Int32) (0 : Int64) (0 : Int64) (0 : Int64) (0 : Int64))), .unset] [(.ref b7), (.ref b11), (.ref b11)])) _
      refine st13.trans ?_
      show Steps p.tables e below (T13.setTop (mkF m 369 #[.val (.int p0), .val (.long q1), .second, .val (.long q2), .second, .val (.long q3), .second, .val (.long q4), .second, .val (.int (1 : Int32)), .val (.long ra), .second, .val (.long rb), .second, .val (.long rc), .second, .val (.long rd), .second, .val (.ref b7), .val (.long (0 : Int64)), .second, .val (.long (0 : Int64)), .second, .val (.long (0 : Int64)), .second, .val (.long (0 : Int64)), .second, .val (.int (own_e (1 : Int32) (0 : Int64) (0 : Int64) (0 : Int64) (0 : Int64))), .unset] [(.ref b11)])) _
      refine st15.trans ?_
      show Steps p.tables e below (T15.setTop (mkF m 372 #[.val (.int p0), .val (.long q1), .second, .val (.long q2), .second, .val (.long q3), .second, .val (.long q4), .second, .val (.int (1 : Int32)), .val (.long ra), .second, .val (.long rb), .second, .val (.long rc), .second, .val (.long rd), .second, .val (.ref b7), .val (.long (0 : Int64)), .second, .val (.long (0 : Int64)), .second, .val (.long (0 : Int64)), .second, .val (.long (0 : Int64)), .second, .val (.int (own_e (1 : Int32) (0 : Int64) (0 : Int64) (0 : Int64) (0 : Int64))), .unset] [(.int (own_l1 ra))])) _
      refine XS.istore X15.here hx rfl (hb hby at_372) rfl (l' := #[.val (.int p0), .val (.long q1), .second, .val (.long q2), .second, .val (.long q3), .second, .val (.long q4), .second, .val (.int (1 : Int32)), .val (.long ra), .second, .val (.long rb), .second, .val (.long rc), .second, .val (.long rd), .second, .val (.ref b7), .val (.long (0 : Int64)), .second, .val (.long (0 : Int64)), .second, .val (.long (0 : Int64)), .second, .val (.long (0 : Int64)), .second, .val (.int (own_e (1 : Int32) (0 : Int64) (0 : Int64) (0 : Int64) (0 : Int64))), .val (.int (own_l1 ra))]) rfl ?_
      show Steps p.tables e below (T15.setTop (mkF m 374 #[.val (.int p0), .val (.long q1), .second, .val (.long q2), .second, .val (.long q3), .second, .val (.long q4), .second, .val (.int (1 : Int32)), .val (.long ra), .second, .val (.long rb), .second, .val (.long rc), .second, .val (.long rd), .second, .val (.ref b7), .val (.long (0 : Int64)), .second, .val (.long (0 : Int64)), .second, .val (.long (0 : Int64)), .second, .val (.long (0 : Int64)), .second, .val (.int (own_e (1 : Int32) (0 : Int64) (0 : Int64) (0 : Int64) (0 : Int64))), .val (.int (own_l1 ra))] [])) _
      refine XS.iload X15.here hx rfl (hb hby at_374) rfl ?_
      show Steps p.tables e below (T15.setTop (mkF m 376 #[.val (.int p0), .val (.long q1), .second, .val (.long q2), .second, .val (.long q3), .second, .val (.long q4), .second, .val (.int (1 : Int32)), .val (.long ra), .second, .val (.long rb), .second, .val (.long rc), .second, .val (.long rd), .second, .val (.ref b7), .val (.long (0 : Int64)), .second, .val (.long (0 : Int64)), .second, .val (.long (0 : Int64)), .second, .val (.long (0 : Int64)), .second, .val (.int (own_e (1 : Int32) (0 : Int64) (0 : Int64) (0 : Int64) (0 : Int64))), .val (.int (own_l1 ra))] [(.int (own_l1 ra))])) _
      refine XS.iload X15.here hx rfl (hb hby at_376) rfl ?_
      show Steps p.tables e below (T15.setTop (mkF m 378 #[.val (.int p0), .val (.long q1), .second, .val (.long q2), .second, .val (.long q3), .second, .val (.long q4), .second, .val (.int (1 : Int32)), .val (.long ra), .second, .val (.long rb), .second, .val (.long rc), .second, .val (.long rd), .second, .val (.ref b7), .val (.long (0 : Int64)), .second, .val (.long (0 : Int64)), .second, .val (.long (0 : Int64)), .second, .val (.long (0 : Int64)), .second, .val (.int (own_e (1 : Int32) (0 : Int64) (0 : Int64) (0 : Int64) (0 : Int64))), .val (.int (own_l1 ra))] [(.int (own_e (1 : Int32) (0 : Int64) (0 : Int64) (0 : Int64) (0 : Int64))), (.int (own_l1 ra))])) _
      refine XS.icmpNo X15.here hx rfl (hb hby at_378) rfl (teq (own_law1 ra _ _ _ _)).2 ?_
      show Steps p.tables e below (T15.setTop (mkF m 381 #[.val (.int p0), .val (.long q1), .second, .val (.long q2), .second, .val (.long q3), .second, .val (.long q4), .second, .val (.int (1 : Int32)), .val (.long ra), .second, .val (.long rb), .second, .val (.long rc), .second, .val (.long rd), .second, .val (.ref b7), .val (.long (0 : Int64)), .second, .val (.long (0 : Int64)), .second, .val (.long (0 : Int64)), .second, .val (.long (0 : Int64)), .second, .val (.int (own_e (1 : Int32) (0 : Int64) (0 : Int64) (0 : Int64) (0 : Int64))), .val (.int (own_l1 ra))] [])) _
      refine XS.iconst X15.here hx rfl (hb hby at_381) ?_
      show Steps p.tables e below (T15.setTop (mkF m 382 #[.val (.int p0), .val (.long q1), .second, .val (.long q2), .second, .val (.long q3), .second, .val (.long q4), .second, .val (.int (1 : Int32)), .val (.long ra), .second, .val (.long rb), .second, .val (.long rc), .second, .val (.long rd), .second, .val (.ref b7), .val (.long (0 : Int64)), .second, .val (.long (0 : Int64)), .second, .val (.long (0 : Int64)), .second, .val (.long (0 : Int64)), .second, .val (.int (own_e (1 : Int32) (0 : Int64) (0 : Int64) (0 : Int64) (0 : Int64))), .val (.int (own_l1 ra))] [(.int (1 : Int32))])) _
      refine XS.goto X15.here hx rfl (pc0 := 382) (pc' := 386) rfl (hb hby at_382) (by decide) (by decide) ?_
      show Steps p.tables e below (T15.setTop (mkF m 386 #[.val (.int p0), .val (.long q1), .second, .val (.long q2), .second, .val (.long q3), .second, .val (.long q4), .second, .val (.int (1 : Int32)), .val (.long ra), .second, .val (.long rb), .second, .val (.long rc), .second, .val (.long rd), .second, .val (.ref b7), .val (.long (0 : Int64)), .second, .val (.long (0 : Int64)), .second, .val (.long (0 : Int64)), .second, .val (.long (0 : Int64)), .second, .val (.int (own_e (1 : Int32) (0 : Int64) (0 : Int64) (0 : Int64) (0 : Int64))), .val (.int (own_l1 ra))] [(.int (1 : Int32))])) _
      exact k
    obtain ⟨fs, hr, hrun, hended, hW, hsame⟩ := X15.leave (v := some (.int (1 : Int32))) (fun h => by rw [Bd.returns] at h; cases h)
    refine ⟨_, _, pre16 _ ?_, hrun, hended, _, _, rfl, ?_, ⟨_, rfl⟩, hW, hsame.mono (by decide) (by decide)⟩
    · exact retN X15 hx (t := .boolean) Bd.returns (by simp) (hb hby at_386) hr
    · show Q_rm0 Z p0 q1 q2 q3 q4 h0 n0 _ T15.heap _
      rw [hq15]
      exact ⟨rfl, N15⟩
  · skip
    obtain ⟨T17, h17, k17, X17, e17, E17, A17, st17⟩ := newP X0 hx hZ (hw _ (List.mem_of_getElem? (i := 1) rfl)) e0 (g := (mkF m 39 #[.val (.int p0), .val (.long q1), .second, .val (.long q2), .second, .val (.long q3), .second, .val (.long q4), .second, .val (.int (2 : Int32)), .val (.long ra), .second, .val (.long rb), .second, .val (.long rc), .second, .val (.long rd), .second, .unset, .unset, .unset, .unset, .unset, .unset, .unset, .unset, .unset, .unset, .unset] [(.int (2 : Int32))])) rfl (hb hby at_39) rfl (by decide) (cap := 2) (by decide) (by decide) (by decide) (by decide)
    obtain ⟨b17, g17⟩ : ∃ z, z = h0.size := ⟨_, rfl⟩
    rw [← g17] at A17 st17
    have V17 : Arv Z h17 b17 k17 .long (2 : Int32) [(.long (0 : Int64)), (.long (0 : Int64))] (.long (0 : Int64)) := (Arv.new A17 (by decide)).pad (pad_rep [] (.long (0 : Int64)) 2)
    have g_b17 : n0 ≤ b17 := Nat.le_trans Z0 (Nat.le_of_eq g17.symm)
    have sz_b17 : h0.size ≤ b17 := (Nat.le_trans (Keep.refl h0 []).1 (Nat.le_of_eq g17.symm))
    have K17 : Keep h0 h17 [] := (Keep.refl h0 []).ext E17
    obtain ⟨cl18, Ar18, q18, S18, M18, H18, G18⟩ := V17
    have hin18 : ¬ ((0 : Int32) < 0 ∨ cl18.slots.size ≤ ((0 : Int32)).toNatClampNeg) := inb_of S18 ⟨by decide, by decide⟩
    obtain ⟨T19, h19, X19, e19, W19, st19⟩ := stJ X17 hx hZ e17 Ar18 (j := (0 : Int32)) hin18 (g := (mkF m 48 #[.val (.int p0), .val (.long q1), .second, .val (.long q2), .second, .val (.long q3), .second, .val (.long q4), .second, .val (.int (2 : Int32)), .val (.long ra), .second, .val (.long rb), .second, .val (.long rc), .second, .val (.long rd), .second, .val (.ref b17), .unset, .unset, .unset, .unset, .unset, .unset, .unset, .unset, .unset, .unset] [(.long ra), (.int (0 : Int32)), (.ref b17)])) rfl rfl (hb hby at_48)
    have V19 : Arv Z h19 b17 k17 .long (2 : Int32) [(.long ra), (.long (0 : Int64))] (.long (0 : Int64)) := Arv.set Ar18 q18 S18 M18 H18 G18 rfl W19 0 rfl (Nat.le_of_ble_eq_true rfl)
    have K19 : Keep h0 h19 [] := K17.wr W19 (Or.inr sz_b17)
    have N19 := Fr.snoc X19 N0 g_b17
    obtain ⟨cl20, Ar20, q20, S20, M20, H20, G20⟩ := V19
    have hin20 : ¬ ((1 : Int32) < 0 ∨ cl20.slots.size ≤ ((1 : Int32)).toNatClampNeg) := inb_of S20 ⟨by decide, by decide⟩
    obtain ⟨T21, h21, X21, e21, W21, st21⟩ := stJ X19 hx hZ e19 Ar20 (j := (1 : Int32)) hin20 (g := (mkF m 60 #[.val (.int p0), .val (.long q1), .second, .val (.long q2), .second, .val (.long q3), .second, .val (.long q4), .second, .val (.int (2 : Int32)), .val (.long ra), .second, .val (.long rb), .second, .val (.long rc), .second, .val (.long rd), .second, .val (.ref b17), .unset, .unset, .unset, .unset, .unset, .unset, .unset, .unset, .unset, .unset] [(.long rb), (.int (1 : Int32)), (.ref b17)])) rfl rfl (hb hby at_60)
    have V21 : Arv Z h21 b17 k17 .long (2 : Int32) [(.long ra), (.long rb)] (.long (0 : Int64)) := Arv.set Ar20 q20 S20 M20 H20 G20 rfl W21 1 rfl (Nat.le_of_ble_eq_true rfl)
    have K21 : Keep h0 h21 [] := K19.wr W21 (Or.inr sz_b17)
    have N21 := Fr.snoc X21 N19 g_b17
    have pre22 : ∀ t, Steps p.tables e below (T21.setTop (mkF m 345 #[.val (.int p0), .val (.long q1), .second, .val (.long q2), .second, .val (.long q3), .second, .val (.long q4), .second, .val (.int (2 : Int32)), .val (.long ra), .second, .val (.long rb), .second, .val (.long rc), .second, .val (.long rd), .second, .val (.ref b17), .val (.long (((3 : Int64) * ra) + ((3 : Int64) * rb))), .second, .val (.long (((3 : Int64) * rb) + ((3 : Int64) * ra))), .second, .val (.long (0 : Int64)), .second, .val (.long (0 : Int64)), .second, .unset, .unset] [])) t → Steps p.tables e below (s₁.setTop (entryFrame m #[(.int p0), (.long q1), (.long q2), (.long q3), (.long q4)] maxLocals)) t := by
      intro t k
      refine pre6 t ?_
      show Steps p.tables e below (s₁.setTop (mkF m 37 #[.val (.int p0), .val (.long q1), .second, .val (.long q2), .second, .val (.long q3), .second, .val (.long q4), .second, .val (.int (2 : Int32)), .val (.long ra), .second, .val (.long rb), .second, .val (.long rc), .second, .val (.long rd), .second, .unset, .unset, .unset, .unset, .unset, .unset, .unset, .unset, .unset, .unset, .unset] [])) _
      refine XS.iload X0.here hx rfl (hb hby at_37) rfl ?_
      show Steps p.tables e below (s₁.setTop (mkF m 39 #[.val (.int p0), .val (.long q1), .second, .val (.long q2), .second, .val (.long q3), .second, .val (.long q4), .second, .val (.int (2 : Int32)), .val (.long ra), .second, .val (.long rb), .second, .val (.long rc), .second, .val (.long rd), .second, .unset, .unset, .unset, .unset, .unset, .unset, .unset, .unset, .unset, .unset, .unset] [(.int (2 : Int32))])) _
      refine st17 _ ?_
      show Steps p.tables e below (T17.setTop (mkF m 41 #[.val (.int p0), .val (.long q1), .second, .val (.long q2), .second, .val (.long q3), .second, .val (.long q4), .second, .val (.int (2 : Int32)), .val (.long ra), .second, .val (.long rb), .second, .val (.long rc), .second, .val (.long rd), .second, .unset, .unset, .unset, .unset, .unset, .unset, .unset, .unset, .unset, .unset, .unset] [(.ref b17)])) _
      refine XS.astore X17.here hx rfl (hb hby at_41) rfl (rfl) (l' := #[.val (.int p0), .val (.long q1), .second, .val (.long q2), .second, .val (.long q3), .second, .val (.long q4), .second, .val (.int (2 : Int32)), .val (.long ra), .second, .val (.long rb), .second, .val (.long rc), .second, .val (.long rd), .second, .val (.ref b17), .unset, .unset, .unset, .unset, .unset, .unset, .unset, .unset, .unset, .unset]) rfl ?_
      show Steps p.tables e below (T17.setTop (mkF m 43 #[.val (.int p0), .val (.long q1), .second, .val (.long q2), .second, .val (.long q3), .second, .val (.long q4), .second, .val (.int (2 : Int32)), .val (.long ra), .second, .val (.long rb), .second, .val (.long rc), .second, .val (.long rd), .second, .val (.ref b17), .unset, .unset, .unset, .unset, .unset, .unset, .unset, .unset, .unset, .unset] [])) _
      refine XS.aload X17.here hx rfl (hb hby at_43) rfl (rfl) ?_
      show Steps p.tables e below (T17.setTop (mkF m 45 #[.val (.int p0), .val (.long q1), .second, .val (.long q2), .second, .val (.long q3), .second, .val (.long q4), .second, .val (.int (2 : Int32)), .val (.long ra), .second, .val (.long rb), .second, .val (.long rc), .second, .val (.long rd), .second, .val (.ref b17), .unset, .unset, .unset, .unset, .unset, .unset, .unset, .unset, .unset, .unset] [(.ref b17)])) _
      refine XS.iconst X17.here hx rfl (hb hby at_45) ?_
      show Steps p.tables e below (T17.setTop (mkF m 46 #[.val (.int p0), .val (.long q1), .second, .val (.long q2), .second, .val (.long q3), .second, .val (.long q4), .second, .val (.int (2 : Int32)), .val (.long ra), .second, .val (.long rb), .second, .val (.long rc), .second, .val (.long rd), .second, .val (.ref b17), .unset, .unset, .unset, .unset, .unset, .unset, .unset, .unset, .unset, .unset] [(.int (0 : Int32)), (.ref b17)])) _
      refine XS.lload X17.here hx rfl (hb hby at_46) rfl ?_
      show Steps p.tables e below (T17.setTop (mkF m 48 #[.val (.int p0), .val (.long q1), .second, .val (.long q2), .second, .val (.long q3), .second, .val (.long q4), .second, .val (.int (2 : Int32)), .val (.long ra), .second, .val (.long rb), .second, .val (.long rc), .second, .val (.long rd), .second, .val (.ref b17), .unset, .unset, .unset, .unset, .unset, .unset, .unset, .unset, .unset, .unset] [(.long ra), (.int (0 : Int32)), (.ref b17)])) _
      refine st19 _ ?_
      show Steps p.tables e below (T19.setTop (mkF m 49 #[.val (.int p0), .val (.long q1), .second, .val (.long q2), .second, .val (.long q3), .second, .val (.long q4), .second, .val (.int (2 : Int32)), .val (.long ra), .second, .val (.long rb), .second, .val (.long rc), .second, .val (.long rd), .second, .val (.ref b17), .unset, .unset, .unset, .unset, .unset, .unset, .unset, .unset, .unset, .unset] [])) _
      refine XS.iload X19.here hx rfl (hb hby at_49) rfl ?_
      show Steps p.tables e below (T19.setTop (mkF m 51 #[.val (.int p0), .val (.long q1), .second, .val (.long q2), .second, .val (.long q3), .second, .val (.long q4), .second, .val (.int (2 : Int32)), .val (.long ra), .second, .val (.long rb), .second, .val (.long rc), .second, .val (.long rd), .second, .val (.ref b17), .unset, .unset, .unset, .unset, .unset, .unset, .unset, .unset, .unset, .unset] [(.int (2 : Int32))])) _
      refine XS.iconst X19.here hx rfl (hb hby at_51) ?_
      show Steps p.tables e below (T19.setTop (mkF m 52 #[.val (.int p0), .val (.long q1), .second, .val (.long q2), .second, .val (.long q3), .second, .val (.long q4), .second, .val (.int (2 : Int32)), .val (.long ra), .second, .val (.long rb), .second, .val (.long rc), .second, .val (.long rd), .second, .val (.ref b17), .unset, .unset, .unset, .unset, .unset, .unset, .unset, .unset, .unset, .unset] [(.int (1 : Int32)), (.int (2 : Int32))])) _
      refine XS.icmpNo X19.here hx rfl (hb hby at_52) rfl (tlt (by decide : (1 : Int32) < (2 : Int32))).2.2.2 ?_
      show Steps p.tables e below (T19.setTop (mkF m 55 #[.val (.int p0), .val (.long q1), .second, .val (.long q2), .second, .val (.long q3), .second, .val (.long q4), .second, .val (.int (2 : Int32)), .val (.long ra), .second, .val (.long rb), .second, .val (.long rc), .second, .val (.long rd), .second, .val (.ref b17), .unset, .unset, .unset, .unset, .unset, .unset, .unset, .unset, .unset, .unset] [])) _
      refine XS.aload X19.here hx rfl (hb hby at_55) rfl (rfl) ?_
      show Steps p.tables e below (T19.setTop (mkF m 57 #[.val (.int p0), .val (.long q1), .second, .val (.long q2), .second, .val (.long q3), .second, .val (.long q4), .second, .val (.int (2 : Int32)), .val (.long ra), .second, .val (.long rb), .second, .val (.long rc), .second, .val (.long rd), .second, .val (.ref b17), .unset, .unset, .unset, .unset, .unset, .unset, .unset, .unset, .unset, .unset] [(.ref b17)])) _
      refine XS.iconst X19.here hx rfl (hb hby at_57) ?_
      show Steps p.tables e below (T19.setTop (mkF m 58 #[.val (.int p0), .val (.long q1), .second, .val (.long q2), .second, .val (.long q3), .second, .val (.long q4), .second, .val (.int (2 : Int32)), .val (.long ra), .second, .val (.long rb), .second, .val (.long rc), .second, .val (.long rd), .second, .val (.ref b17), .unset, .unset, .unset, .unset, .unset, .unset, .unset, .unset, .unset, .unset] [(.int (1 : Int32)), (.ref b17)])) _
      refine XS.lload X19.here hx rfl (hb hby at_58) rfl ?_
      show Steps p.tables e below (T19.setTop (mkF m 60 #[.val (.int p0), .val (.long q1), .second, .val (.long q2), .second, .val (.long q3), .second, .val (.long q4), .second, .val (.int (2 : Int32)), .val (.long ra), .second, .val (.long rb), .second, .val (.long rc), .second, .val (.long rd), .second, .val (.ref b17), .unset, .unset, .unset, .unset, .unset, .unset, .unset, .unset, .unset, .unset] [(.long rb), (.int (1 : Int32)), (.ref b17)])) _
      refine st21 _ ?_
      show Steps p.tables e below (T21.setTop (mkF m 61 #[.val (.int p0), .val (.long q1), .second, .val (.long q2), .second, .val (.long q3), .second, .val (.long q4), .second, .val (.int (2 : Int32)), .val (.long ra), .second, .val (.long rb), .second, .val (.long rc), .second, .val (.long rd), .second, .val (.ref b17), .unset, .unset, .unset, .unset, .unset, .unset, .unset, .unset, .unset, .unset] [])) _
      refine XS.iload X21.here hx rfl (hb hby at_61) rfl ?_
      show Steps p.tables e below (T21.setTop (mkF m 63 #[.val (.int p0), .val (.long q1), .second, .val (.long q2), .second, .val (.long q3), .second, .val (.long q4), .second, .val (.int (2 : Int32)), .val (.long ra), .second, .val (.long rb), .second, .val (.long rc), .second, .val (.long rd), .second, .val (.ref b17), .unset, .unset, .unset, .unset, .unset, .unset, .unset, .unset, .unset, .unset] [(.int (2 : Int32))])) _
      refine XS.iconst X21.here hx rfl (hb hby at_63) ?_
      show Steps p.tables e below (T21.setTop (mkF m 64 #[.val (.int p0), .val (.long q1), .second, .val (.long q2), .second, .val (.long q3), .second, .val (.long q4), .second, .val (.int (2 : Int32)), .val (.long ra), .second, .val (.long rb), .second, .val (.long rc), .second, .val (.long rd), .second, .val (.ref b17), .unset, .unset, .unset, .unset, .unset, .unset, .unset, .unset, .unset, .unset] [(.int (2 : Int32)), (.int (2 : Int32))])) _
      refine XS.icmpYes X21.here hx rfl (pc0 := 64) (pc' := 73) rfl (hb hby at_64) rfl (flt (by decide : ¬ ((2 : Int32) < (2 : Int32)))).2.2.2 (by decide) (by decide) ?_
      show Steps p.tables e below (T21.setTop (mkF m 73 #[.val (.int p0), .val (.long q1), .second, .val (.long q2), .second, .val (.long q3), .second, .val (.long q4), .second, .val (.int (2 : Int32)), .val (.long ra), .second, .val (.long rb), .second, .val (.long rc), .second, .val (.long rd), .second, .val (.ref b17), .unset, .unset, .unset, .unset, .unset, .unset, .unset, .unset, .unset, .unset] [])) _
      refine XS.iload X21.here hx rfl (hb hby at_73) rfl ?_
      show Steps p.tables e below (T21.setTop (mkF m 75 #[.val (.int p0), .val (.long q1), .second, .val (.long q2), .second, .val (.long q3), .second, .val (.long q4), .second, .val (.int (2 : Int32)), .val (.long ra), .second, .val (.long rb), .second, .val (.long rc), .second, .val (.long rd), .second, .val (.ref b17), .unset, .unset, .unset, .unset, .unset, .unset, .unset, .unset, .unset, .unset] [(.int (2 : Int32))])) _
      refine XS.iconst X21.here hx rfl (hb hby at_75) ?_
      show Steps p.tables e below (T21.setTop (mkF m 76 #[.val (.int p0), .val (.long q1), .second, .val (.long q2), .second, .val (.long q3), .second, .val (.long q4), .second, .val (.int (2 : Int32)), .val (.long ra), .second, .val (.long rb), .second, .val (.long rc), .second, .val (.long rd), .second, .val (.ref b17), .unset, .unset, .unset, .unset, .unset, .unset, .unset, .unset, .unset, .unset] [(.int (3 : Int32)), (.int (2 : Int32))])) _
      refine XS.icmpYes X21.here hx rfl (pc0 := 76) (pc' := 85) rfl (hb hby at_76) rfl (flt (by decide : ¬ ((3 : Int32) < (2 : Int32)))).2.2.2 (by decide) (by decide) ?_
      show Steps p.tables e below (T21.setTop (mkF m 85 #[.val (.int p0), .val (.long q1), .second, .val (.long q2), .second, .val (.long q3), .second, .val (.long q4), .second, .val (.int (2 : Int32)), .val (.long ra), .second, .val (.long rb), .second, .val (.long rc), .second, .val (.long rd), .second, .val (.ref b17), .unset, .unset, .unset, .unset, .unset, .unset, .unset, .unset, .unset, .unset] [])) _
      refine XS.iload X21.here hx rfl (hb hby at_85) rfl ?_
      show Steps p.tables e below (T21.setTop (mkF m 87 #[.val (.int p0), .val (.long q1), .second, .val (.long q2), .second, .val (.long q3), .second, .val (.long q4), .second, .val (.int (2 : Int32)), .val (.long ra), .second, .val (.long rb), .second, .val (.long rc), .second, .val (.long rd), .second, .val (.ref b17), .unset, .unset, .unset, .unset, .unset, .unset, .unset, .unset, .unset, .unset] [(.int (2 : Int32))])) _
      refine XS.iconst X21.here hx rfl (hb hby at_87) ?_
      show Steps p.tables e below (T21.setTop (mkF m 88 #[.val (.int p0), .val (.long q1), .second, .val (.long q2), .second, .val (.long q3), .second, .val (.long q4), .second, .val (.int (2 : Int32)), .val (.long ra), .second, .val (.long rb), .second, .val (.long rc), .second, .val (.long rd), .second, .val (.ref b17), .unset, .unset, .unset, .unset, .unset, .unset, .unset, .unset, .unset, .unset] [(.int (4 : Int32)), (.int (2 : Int32))])) _
      refine XS.icmpYes X21.here hx rfl (pc0 := 88) (pc' := 210) rfl (hb hby at_88) rfl (feq (by decide : ¬ ((2 : Int32) = (4 : Int32)))).2 (by decide) (by decide) ?_
      show Steps p.tables e below (T21.setTop (mkF m 210 #[.val (.int p0), .val (.long q1), .second, .val (.long q2), .second, .val (.long q3), .second, .val (.long q4), .second, .val (.int (2 : Int32)), .val (.long ra), .second, .val (.long rb), .second, .val (.long rc), .second, .val (.long rd), .second, .val (.ref b17), .unset, .unset, .unset, .unset, .unset, .unset, .unset, .unset, .unset, .unset] [])) _
      refine XS.iload X21.here hx rfl (hb hby at_210) rfl ?_
      show Steps p.tables e below (T21.setTop (mkF m 212 #[.val (.int p0), .val (.long q1), .second, .val (.long q2), .second, .val (.long q3), .second, .val (.long q4), .second, .val (.int (2 : Int32)), .val (.long ra), .second, .val (.long rb), .second, .val (.long rc), .second, .val (.long rd), .second, .val (.ref b17), .unset, .unset, .unset, .unset, .unset, .unset, .unset, .unset, .unset, .unset] [(.int (2 : Int32))])) _
      refine XS.iconst X21.here hx rfl (hb hby at_212) ?_
      show Steps p.tables e below (T21.setTop (mkF m 213 #[.val (.int p0), .val (.long q1), .second, .val (.long q2), .second, .val (.long q3), .second, .val (.long q4), .second, .val (.int (2 : Int32)), .val (.long ra), .second, .val (.long rb), .second, .val (.long rc), .second, .val (.long rd), .second, .val (.ref b17), .unset, .unset, .unset, .unset, .unset, .unset, .unset, .unset, .unset, .unset] [(.int (3 : Int32)), (.int (2 : Int32))])) _
      refine XS.icmpYes X21.here hx rfl (pc0 := 213) (pc' := 288) rfl (hb hby at_213) rfl (feq (by decide : ¬ ((2 : Int32) = (3 : Int32)))).2 (by decide) (by decide) ?_
      show Steps p.tables e below (T21.setTop (mkF m 288 #[.val (.int p0), .val (.long q1), .second, .val (.long q2), .second, .val (.long q3), .second, .val (.long q4), .second, .val (.int (2 : Int32)), .val (.long ra), .second, .val (.long rb), .second, .val (.long rc), .second, .val (.long rd), .second, .val (.ref b17), .unset, .unset, .unset, .unset, .unset, .unset, .unset, .unset, .unset, .unset] [])) _
      refine XS.iload X21.here hx rfl (hb hby at_288) rfl ?_
      show Steps p.tables e below (T21.setTop (mkF m 290 #[.val (.int p0), .val (.long q1), .second, .val (.long q2), .second, .val (.long q3), .second, .val (.long q4), .second, .val (.int (2 : Int32)), .val (.long ra), .second, .val (.long rb), .second, .val (.long rc), .second, .val (.long rd), .second, .val (.ref b17), .unset, .unset, .unset, .unset, .unset, .unset, .unset, .unset, .unset, .unset] [(.int (2 : Int32))])) _
      refine XS.iconst X21.here hx rfl (hb hby at_290) ?_
      show Steps p.tables e below (T21.setTop (mkF m 291 #[.val (.int p0), .val (.long q1), .second, .val (.long q2), .second, .val (.long q3), .second, .val (.long q4), .second, .val (.int (2 : Int32)), .val (.long ra), .second, .val (.long rb), .second, .val (.long rc), .second, .val (.long rd), .second, .val (.ref b17), .unset, .unset, .unset, .unset, .unset, .unset, .unset, .unset, .unset, .unset] [(.int (2 : Int32)), (.int (2 : Int32))])) _
      refine XS.icmpNo X21.here hx rfl (hb hby at_291) rfl (teq (by decide : (2 : Int32) = (2 : Int32))).2 ?_
      show Steps p.tables e below (T21.setTop (mkF m 294 #[.val (.int p0), .val (.long q1), .second, .val (.long q2), .second, .val (.long q3), .second, .val (.long q4), .second, .val (.int (2 : Int32)), .val (.long ra), .second, .val (.long rb), .second, .val (.long rc), .second, .val (.long rd), .second, .val (.ref b17), .unset, .unset, .unset, .unset, .unset, .unset, .unset, .unset, .unset, .unset] [])) _
      refine X21.ldc2Long hx hown (mvT hZ (hw _ (List.mem_of_getElem? (i := 29) rfl))) (g := (mkF m 294 #[.val (.int p0), .val (.long q1), .second, .val (.long q2), .second, .val (.long q3), .second, .val (.long q4), .second, .val (.int (2 : Int32)), .val (.long ra), .second, .val (.long rb), .second, .val (.long rc), .second, .val (.long rd), .second, .val (.ref b17), .unset, .unset, .unset, .unset, .unset, .unset, .unset, .unset, .unset, .unset] [])) rfl (hb hby at_294) _ ?_
      show Steps p.tables e below (T21.setTop (mkF m 297 #[.val (.int p0), .val (.long q1), .second, .val (.long q2), .second, .val (.long q3), .second, .val (.long q4), .second, .val (.int (2 : Int32)), .val (.long ra), .second, .val (.long rb), .second, .val (.long rc), .second, .val (.long rd), .second, .val (.ref b17), .unset, .unset, .unset, .unset, .unset, .unset, .unset, .unset, .unset, .unset] [(.long (3 : Int64))])) _
      refine XS.lload X21.here hx rfl (hb hby at_297) rfl ?_
      show Steps p.tables e below (T21.setTop (mkF m 299 #[.val (.int p0), .val (.long q1), .second, .val (.long q2), .second, .val (.long q3), .second, .val (.long q4), .second, .val (.int (2 : Int32)), .val (.long ra), .second, .val (.long rb), .second, .val (.long rc), .second, .val (.long rd), .second, .val (.ref b17), .unset, .unset, .unset, .unset, .unset, .unset, .unset, .unset, .unset, .unset] [(.long ra), (.long (3 : Int64))])) _
      refine XS.lmul X21.here hx rfl (hb hby at_299) rfl ?_
      show Steps p.tables e below (T21.setTop (mkF m 300 #[.val (.int p0), .val (.long q1), .second, .val (.long q2), .second, .val (.long q3), .second, .val (.long q4), .second, .val (.int (2 : Int32)), .val (.long ra), .second, .val (.long rb), .second, .val (.long rc), .second, .val (.long rd), .second, .val (.ref b17), .unset, .unset, .unset, .unset, .unset, .unset, .unset, .unset, .unset, .unset] [(.long ((3 : Int64) * ra))])) _
      refine X21.ldc2Long hx hown (mvT hZ (hw _ (List.mem_of_getElem? (i := 29) rfl))) (g := (mkF m 300 #[.val (.int p0), .val (.long q1), .second, .val (.long q2), .second, .val (.long q3), .second, .val (.long q4), .second, .val (.int (2 : Int32)), .val (.long ra), .second, .val (.long rb), .second, .val (.long rc), .second, .val (.long rd), .second, .val (.ref b17), .unset, .unset, .unset, .unset, .unset, .unset, .unset, .unset, .unset, .unset] [(.long ((3 : Int64) * ra))])) rfl (hb hby at_300) _ ?_
      show Steps p.tables e below (T21.setTop (mkF m 303 #[.val (.int p0), .val (.long q1), .second, .val (.long q2), .second, .val (.long q3), .second, .val (.long q4), .second, .val (.int (2 : Int32)), .val (.long ra), .second, .val (.long rb), .second, .val (.long rc), .second, .val (.long rd), .second, .val (.ref b17), .unset, .unset, .unset, .unset, .unset, .unset, .unset, .unset, .unset, .unset] [(.long (3 : Int64)), (.long ((3 : Int64) * ra))])) _
      refine XS.lload X21.here hx rfl (hb hby at_303) rfl ?_
      show Steps p.tables e below (T21.setTop (mkF m 305 #[.val (.int p0), .val (.long q1), .second, .val (.long q2), .second, .val (.long q3), .second, .val (.long q4), .second, .val (.int (2 : Int32)), .val (.long ra), .second, .val (.long rb), .second, .val (.long rc), .second, .val (.long rd), .second, .val (.ref b17), .unset, .unset, .unset, .unset, .unset, .unset, .unset, .unset, .unset, .unset] [(.long rb), (.long (3 : Int64)), (.long ((3 : Int64) * ra))])) _
      refine XS.lmul X21.here hx rfl (hb hby at_305) rfl ?_
      show Steps p.tables e below (T21.setTop (mkF m 306 #[.val (.int p0), .val (.long q1), .second, .val (.long q2), .second, .val (.long q3), .second, .val (.long q4), .second, .val (.int (2 : Int32)), .val (.long ra), .second, .val (.long rb), .second, .val (.long rc), .second, .val (.long rd), .second, .val (.ref b17), .unset, .unset, .unset, .unset, .unset, .unset, .unset, .unset, .unset, .unset] [(.long ((3 : Int64) * rb)), (.long ((3 : Int64) * ra))])) _
      refine XS.ladd X21.here hx rfl (hb hby at_306) rfl ?_
      show Steps p.tables e below (T21.setTop (mkF m 307 #[.val (.int p0), .val (.long q1), .second, .val (.long q2), .second, .val (.long q3), .second, .val (.long q4), .second, .val (.int (2 : Int32)), .val (.long ra), .second, .val (.long rb), .second, .val (.long rc), .second, .val (.long rd), .second, .val (.ref b17), .unset, .unset, .unset, .unset, .unset, .unset, .unset, .unset, .unset, .unset] [(.long (((3 : Int64) * ra) + ((3 : Int64) * rb)))])) _
      refine XS.lstore X21.here hx rfl (hb hby at_307) rfl (l' := #[.val (.int p0), .val (.long q1), .second, .val (.long q2), .second, .val (.long q3), .second, .val (.long q4), .second, .val (.int (2 : Int32)), .val (.long ra), .second, .val (.long rb), .second, .val (.long rc), .second, .val (.long rd), .second, .val (.ref b17), .val (.long (((3 : Int64) * ra) + ((3 : Int64) * rb))), .second, .unset, .unset, .unset, .unset, .unset, .unset, .unset, .unset]) rfl ?_
      show Steps p.tables e below (T21.setTop (mkF m 309 #[.val (.int p0), .val (.long q1), .second, .val (.long q2), .second, .val (.long q3), .second, .val (.long q4), .second, .val (.int (2 : Int32)), .val (.long ra), .second, .val (.long rb), .second, .val (.long rc), .second, .val (.long rd), .second, .val (.ref b17), .val (.long (((3 : Int64) * ra) + ((3 : Int64) * rb))), .second, .unset, .unset, .unset, .unset, .unset, .unset, .unset, .unset] [])) _
      refine X21.ldc2Long hx hown (mvT hZ (hw _ (List.mem_of_getElem? (i := 29) rfl))) (g := (mkF m 309 #[.val (.int p0), .val (.long q1), .second, .val (.long q2), .second, .val (.long q3), .second, .val (.long q4), .second, .val (.int (2 : Int32)), .val (.long ra), .second, .val (.long rb), .second, .val (.long rc), .second, .val (.long rd), .second, .val (.ref b17), .val (.long (((3 : Int64) * ra) + ((3 : Int64) * rb))), .second, .unset, .unset, .unset, .unset, .unset, .unset, .unset, .unset] [])) rfl (hb hby at_309) _ ?_
      show Steps p.tables e below (T21.setTop (mkF m 312 #[.val (.int p0), .val (.long q1), .second, .val (.long q2), .second, .val (.long q3), .second, .val (.long q4), .second, .val (.int (2 : Int32)), .val (.long ra), .second, .val (.long rb), .second, .val (.long rc), .second, .val (.long rd), .second, .val (.ref b17), .val (.long (((3 : Int64) * ra) + ((3 : Int64) * rb))), .second, .unset, .unset, .unset, .unset, .unset, .unset, .unset, .unset] [(.long (3 : Int64))])) _
      refine XS.lload X21.here hx rfl (hb hby at_312) rfl ?_
      show Steps p.tables e below (T21.setTop (mkF m 314 #[.val (.int p0), .val (.long q1), .second, .val (.long q2), .second, .val (.long q3), .second, .val (.long q4), .second, .val (.int (2 : Int32)), .val (.long ra), .second, .val (.long rb), .second, .val (.long rc), .second, .val (.long rd), .second, .val (.ref b17), .val (.long (((3 : Int64) * ra) + ((3 : Int64) * rb))), .second, .unset, .unset, .unset, .unset, .unset, .unset, .unset, .unset] [(.long rb), (.long (3 : Int64))])) _
      refine XS.lmul X21.here hx rfl (hb hby at_314) rfl ?_
      show Steps p.tables e below (T21.setTop (mkF m 315 #[.val (.int p0), .val (.long q1), .second, .val (.long q2), .second, .val (.long q3), .second, .val (.long q4), .second, .val (.int (2 : Int32)), .val (.long ra), .second, .val (.long rb), .second, .val (.long rc), .second, .val (.long rd), .second, .val (.ref b17), .val (.long (((3 : Int64) * ra) + ((3 : Int64) * rb))), .second, .unset, .unset, .unset, .unset, .unset, .unset, .unset, .unset] [(.long ((3 : Int64) * rb))])) _
      refine X21.ldc2Long hx hown (mvT hZ (hw _ (List.mem_of_getElem? (i := 29) rfl))) (g := (mkF m 315 #[.val (.int p0), .val (.long q1), .second, .val (.long q2), .second, .val (.long q3), .second, .val (.long q4), .second, .val (.int (2 : Int32)), .val (.long ra), .second, .val (.long rb), .second, .val (.long rc), .second, .val (.long rd), .second, .val (.ref b17), .val (.long (((3 : Int64) * ra) + ((3 : Int64) * rb))), .second, .unset, .unset, .unset, .unset, .unset, .unset, .unset, .unset] [(.long ((3 : Int64) * rb))])) rfl (hb hby at_315) _ ?_
      show Steps p.tables e below (T21.setTop (mkF m 318 #[.val (.int p0), .val (.long q1), .second, .val (.long q2), .second, .val (.long q3), .second, .val (.long q4), .second, .val (.int (2 : Int32)), .val (.long ra), .second, .val (.long rb), .second, .val (.long rc), .second, .val (.long rd), .second, .val (.ref b17), .val (.long (((3 : Int64) * ra) + ((3 : Int64) * rb))), .second, .unset, .unset, .unset, .unset, .unset, .unset, .unset, .unset] [(.long (3 : Int64)), (.long ((3 : Int64) * rb))])) _
      refine XS.lload X21.here hx rfl (hb hby at_318) rfl ?_
      show Steps p.tables e below (T21.setTop (mkF m 320 #[.val (.int p0), .val (.long q1), .second, .val (.long q2), .second, .val (.long q3), .second, .val (.long q4), .second, .val (.int (2 : Int32)), .val (.long ra), .second, .val (.long rb), .second, .val (.long rc), .second, .val (.long rd), .second, .val (.ref b17), .val (.long (((3 : Int64) * ra) + ((3 : Int64) * rb))), .second, .unset, .unset, .unset, .unset, .unset, .unset, .unset, .unset] [(.long ra), (.long (3 : Int64)), (.long ((3 : Int64) * rb))])) _
      refine XS.lmul X21.here hx rfl (hb hby at_320) rfl ?_
      show Steps p.tables e below (T21.setTop (mkF m 321 #[.val (.int p0), .val (.long q1), .second, .val (.long q2), .second, .val (.long q3), .second, .val (.long q4), .second, .val (.int (2 : Int32)), .val (.long ra), .second, .val (.long rb), .second, .val (.long rc), .second, .val (.long rd), .second, .val (.ref b17), .val (.long (((3 : Int64) * ra) + ((3 : Int64) * rb))), .second, .unset, .unset, .unset, .unset, .unset, .unset, .unset, .unset] [(.long ((3 : Int64) * ra)), (.long ((3 : Int64) * rb))])) _
      refine XS.ladd X21.here hx rfl (hb hby at_321) rfl ?_
      show Steps p.tables e below (T21.setTop (mkF m 322 #[.val (.int p0), .val (.long q1), .second, .val (.long q2), .second, .val (.long q3), .second, .val (.long q4), .second, .val (.int (2 : Int32)), .val (.long ra), .second, .val (.long rb), .second, .val (.long rc), .second, .val (.long rd), .second, .val (.ref b17), .val (.long (((3 : Int64) * ra) + ((3 : Int64) * rb))), .second, .unset, .unset, .unset, .unset, .unset, .unset, .unset, .unset] [(.long (((3 : Int64) * rb) + ((3 : Int64) * ra)))])) _
      refine XS.lstore X21.here hx rfl (hb hby at_322) rfl (l' := #[.val (.int p0), .val (.long q1), .second, .val (.long q2), .second, .val (.long q3), .second, .val (.long q4), .second, .val (.int (2 : Int32)), .val (.long ra), .second, .val (.long rb), .second, .val (.long rc), .second, .val (.long rd), .second, .val (.ref b17), .val (.long (((3 : Int64) * ra) + ((3 : Int64) * rb))), .second, .val (.long (((3 : Int64) * rb) + ((3 : Int64) * ra))), .second, .unset, .unset, .unset, .unset, .unset, .unset]) rfl ?_
      show Steps p.tables e below (T21.setTop (mkF m 324 #[.val (.int p0), .val (.long q1), .second, .val (.long q2), .second, .val (.long q3), .second, .val (.long q4), .second, .val (.int (2 : Int32)), .val (.long ra), .second, .val (.long rb), .second, .val (.long rc), .second, .val (.long rd), .second, .val (.ref b17), .val (.long (((3 : Int64) * ra) + ((3 : Int64) * rb))), .second, .val (.long (((3 : Int64) * rb) + ((3 : Int64) * ra))), .second, .unset, .unset, .unset, .unset, .unset, .unset] [])) _
      refine XS.lconst X21.here hx rfl (hb hby at_324) ?_
      show Steps p.tables e below (T21.setTop (mkF m 325 #[.val (.int p0), .val (.long q1), .second, .val (.long q2), .second, .val (.long q3), .second, .val (.long q4), .second, .val (.int (2 : Int32)), .val (.long ra), .second, .val (.long rb), .second, .val (.long rc), .second, .val (.long rd), .second, .val (.ref b17), .val (.long (((3 : Int64) * ra) + ((3 : Int64) * rb))), .second, .val (.long (((3 : Int64) * rb) + ((3 : Int64) * ra))), .second, .unset, .unset, .unset, .unset, .unset, .unset] [(.long (0 : Int64))])) _
      refine XS.lstore X21.here hx rfl (hb hby at_325) rfl (l' := #[.val (.int p0), .val (.long q1), .second, .val (.long q2), .second, .val (.long q3), .second, .val (.long q4), .second, .val (.int (2 : Int32)), .val (.long ra), .second, .val (.long rb), .second, .val (.long rc), .second, .val (.long rd), .second, .val (.ref b17), .val (.long (((3 : Int64) * ra) + ((3 : Int64) * rb))), .second, .val (.long (((3 : Int64) * rb) + ((3 : Int64) * ra))), .second, .val (.long (0 : Int64)), .second, .unset, .unset, .unset, .unset]) rfl ?_
      show Steps p.tables e below (T21.setTop (mkF m 327 #[.val (.int p0), .val (.long q1), .second, .val (.long q2), .second, .val (.long q3), .second, .val (.long q4), .second, .val (.int (2 : Int32)), .val (.long ra), .second, .val (.long rb), .second, .val (.long rc), .second, .val (.long rd), .second, .val (.ref b17), .val (.long (((3 : Int64) * ra) + ((3 : Int64) * rb))), .second, .val (.long (((3 : Int64) * rb) + ((3 : Int64) * ra))), .second, .val (.long (0 : Int64)), .second, .unset, .unset, .unset, .unset] [])) _
      refine XS.lconst X21.here hx rfl (hb hby at_327) ?_
      show Steps p.tables e below (T21.setTop (mkF m 328 #[.val (.int p0), .val (.long q1), .second, .val (.long q2), .second, .val (.long q3), .second, .val (.long q4), .second, .val (.int (2 : Int32)), .val (.long ra), .second, .val (.long rb), .second, .val (.long rc), .second, .val (.long rd), .second, .val (.ref b17), .val (.long (((3 : Int64) * ra) + ((3 : Int64) * rb))), .second, .val (.long (((3 : Int64) * rb) + ((3 : Int64) * ra))), .second, .val (.long (0 : Int64)), .second, .unset, .unset, .unset, .unset] [(.long (0 : Int64))])) _
      refine XS.lstore X21.here hx rfl (hb hby at_328) rfl (l' := #[.val (.int p0), .val (.long q1), .second, .val (.long q2), .second, .val (.long q3), .second, .val (.long q4), .second, .val (.int (2 : Int32)), .val (.long ra), .second, .val (.long rb), .second, .val (.long rc), .second, .val (.long rd), .second, .val (.ref b17), .val (.long (((3 : Int64) * ra) + ((3 : Int64) * rb))), .second, .val (.long (((3 : Int64) * rb) + ((3 : Int64) * ra))), .second, .val (.long (0 : Int64)), .second, .val (.long (0 : Int64)), .second, .unset, .unset]) rfl ?_
      show Steps p.tables e below (T21.setTop (mkF m 330 #[.val (.int p0), .val (.long q1), .second, .val (.long q2), .second, .val (.long q3), .second, .val (.long q4), .second, .val (.int (2 : Int32)), .val (.long ra), .second, .val (.long rb), .second, .val (.long rc), .second, .val (.long rd), .second, .val (.ref b17), .val (.long (((3 : Int64) * ra) + ((3 : Int64) * rb))), .second, .val (.long (((3 : Int64) * rb) + ((3 : Int64) * ra))), .second, .val (.long (0 : Int64)), .second, .val (.long (0 : Int64)), .second, .unset, .unset] [])) _
      refine XS.goto X21.here hx rfl (pc0 := 330) (pc' := 345) rfl (hb hby at_330) (by decide) (by decide) ?_
      show Steps p.tables e below (T21.setTop (mkF m 345 #[.val (.int p0), .val (.long q1), .second, .val (.long q2), .second, .val (.long q3), .second, .val (.long q4), .second, .val (.int (2 : Int32)), .val (.long ra), .second, .val (.long rb), .second, .val (.long rc), .second, .val (.long rd), .second, .val (.ref b17), .val (.long (((3 : Int64) * ra) + ((3 : Int64) * rb))), .second, .val (.long (((3 : Int64) * rb) + ((3 : Int64) * ra))), .second, .val (.long (0 : Int64)), .second, .val (.long (0 : Int64)), .second, .unset, .unset] [])) _
      exact k
    obtain ⟨v0, hv0⟩ : ∃ z : Int64, z = (((3 : Int64) * ra) + ((3 : Int64) * rb)) := ⟨_, rfl⟩
    rw [← hv0] at pre22
    obtain ⟨v1, hv1⟩ : ∃ z : Int64, z = (((3 : Int64) * rb) + ((3 : Int64) * ra)) := ⟨_, rfl⟩
    rw [← hv1] at pre22
    obtain ⟨_, _, ⟨T23, L23, k23, n23⟩, -, X23, ⟨Lc23, hQ23, l23, y23, z23⟩, st23⟩ := Jvm.LawKit.callS X21 hx (y := (⟨"com/example/hummingbird/hummingbird/engine/RhythmLeastWaitingPointPinLaw", "earliestLeast", "(IJJJJ)I"⟩ : MethodName)) hown (mvT hZ (hw _ (List.mem_of_getElem? (i := 2) rfl))) (mvT hZ (hw _ (List.mem_of_getElem? (i := 3) rfl))) (mvT hZ (hw _ (List.mem_of_getElem? (i := 4) rfl))) (mvT hZ (hw _ (List.mem_of_getElem? (i := 5) rfl))) (by decide) (backOf (W := 0) (rmE2 l Z a0 hw [] v0 v1 (0 : Int64) (0 : Int64)  h21 n0 (Nat.le_trans (Nat.le_trans (Nat.le_trans Z0 E17.1) (Keep.of_wr W19).1) (Keep.of_wr W21).1) ) hZ (hw _ (List.mem_of_getElem? (i := 5) rfl)) (hw _ (List.mem_of_getElem? (i := 4) rfl)) (by decide) (by decide)) (g := (mkF m 355 #[.val (.int p0), .val (.long q1), .second, .val (.long q2), .second, .val (.long q3), .second, .val (.long q4), .second, .val (.int (2 : Int32)), .val (.long ra), .second, .val (.long rb), .second, .val (.long rc), .second, .val (.long rd), .second, .val (.ref b17), .val (.long v0), .second, .val (.long v1), .second, .val (.long (0 : Int64)), .second, .val (.long (0 : Int64)), .second, .unset, .unset] [(.long (0 : Int64)), (.long (0 : Int64)), (.long v1), (.long v0), (.int (2 : Int32))])) rfl (by rw [hml]; rfl) (argsL := [(.int (2 : Int32)), (.long v0), (.long v1), (.long (0 : Int64)), (.long (0 : Int64))]) (rest := []) (lenOf pd_1 rfl) rfl (by show 2 * 0 + _ ≤ _; exact Nat.le_of_eq rfl) (hb hby at_355) (fun _ _ => ⟨rfl, e21, (by decide : 1 + 0 ≤ _), (by decide : 2 + 0 ≤ _)⟩)
    dsimp only [Pt.U, Pt.locs, Pt.cells, Pt.slots] at X23 l23 y23 z23 st23 hQ23
    subst l23 y23 z23
    obtain ⟨rfl, N23q, hq23⟩ := hQ23
    have N23 := Fr.app N21 N23q
    obtain ⟨T24, h24, X24, e24, E24, A24, D24, -, st24⟩ := newO X23 hx hZ hown (hw _ (List.mem_of_getElem? (i := 6) rfl)) (hw _ (List.mem_of_getElem? (i := 7) rfl)) (hw _ (List.mem_of_getElem? (i := 8) rfl)) hq23 (g := (mkF m 360 #[.val (.int p0), .val (.long q1), .second, .val (.long q2), .second, .val (.long q3), .second, .val (.long q4), .second, .val (.int (2 : Int32)), .val (.long ra), .second, .val (.long rb), .second, .val (.long rc), .second, .val (.long rd), .second, .val (.ref b17), .val (.long v0), .second, .val (.long v1), .second, .val (.long (0 : Int64)), .second, .val (.long (0 : Int64)), .second, .val (.int (own_e (2 : Int32) v0 v1 (0 : Int64) (0 : Int64))), .unset] [])) rfl (hb hby at_360) (by decide) (by decide)
    obtain ⟨b24, g24⟩ : ∃ z, z = h21.size := ⟨_, rfl⟩
    rw [← g24] at A24 D24 st24
    have F24_points : Fld Z h24 b24 "com/example/hummingbird/hummingbird/engine/Rhythm" "points" "I" (.int (0 : Int32)) := D24 (Or.inr (hw _ (List.mem_of_getElem? (i := 16) rfl))) (ty := .int) (by decide)
    have F24_rates : Fld Z h24 b24 "com/example/hummingbird/hummingbird/engine/Rhythm" "rates" "[J" .null := D24 (Or.inr (hw _ (List.mem_of_getElem? (i := 18) rfl))) (ty := (.array .long)) (by decide)
    have g_b24 : n0 ≤ b24 := Nat.le_trans (Nat.le_trans (Nat.le_trans (Nat.le_trans Z0 E17.1) (Keep.of_wr W19).1) (Keep.of_wr W21).1) (Nat.le_of_eq g24.symm)
    have sz_b24 : h0.size ≤ b24 := (Nat.le_trans K21.1 (Nat.le_of_eq g24.symm))
    have K24 : Keep h0 h24 [] := K21.ext E24
    obtain ⟨cl25, Ar25, q25, S25, M25, H25, G25⟩ := (V21.ext E24)
    obtain ⟨_, _, ⟨T26, L26, k26, n26⟩, -, X26, ⟨Lc26, hQ26, l26, y26, z26⟩, st26⟩ := X24.specialBack hx (y := (⟨"com/example/hummingbird/hummingbird/engine/Rhythm", "<init>", "([J)V"⟩ : MethodName)) rfl hown (mvT hZ (hw _ (List.mem_of_getElem? (i := 9) rfl))) (mvT hZ (hw _ (List.mem_of_getElem? (i := 10) rfl))) (mvT hZ (hw _ (List.mem_of_getElem? (i := 11) rfl))) (by decide) (backOf (W := 1) (rmI l Z a0 hw [] b24 b17 cl25 (2 : Int32) h24 n0 (Nat.le_trans (Nat.le_trans (Nat.le_trans (Nat.le_trans Z0 E17.1) (Keep.of_wr W19).1) (Keep.of_wr W21).1) E24.1) F24_points F24_rates A24 g_b24 Ar25 S25 M25) hZ (hw _ (List.mem_of_getElem? (i := 11) rfl)) (hw _ (List.mem_of_getElem? (i := 8) rfl)) (by decide) (by decide)) (g := (mkF m 366 #[.val (.int p0), .val (.long q1), .second, .val (.long q2), .second, .val (.long q3), .second, .val (.long q4), .second, .val (.int (2 : Int32)), .val (.long ra), .second, .val (.long rb), .second, .val (.long rc), .second, .val (.long rd), .second, .val (.ref b17), .val (.long v0), .second, .val (.long v1), .second, .val (.long (0 : Int64)), .second, .val (.long (0 : Int64)), .second, .val (.int (own_e (2 : Int32) v0 v1 (0 : Int64) (0 : Int64))), .unset] [(.ref b17), (.ref b24), (.ref b24)])) rfl (by rw [hml]; rfl) (Steps.refl _) (a := b24) (argsL := [(.ref b17)]) (rest := [(.ref b24)]) (lenOf pd_2 rfl) rfl (by show 2 * 0 + _ ≤ _; exact Nat.le_of_eq rfl) (hb hby at_366) (fun _ _ => ⟨rfl, e24, (by decide : 2 + 0 ≤ _), (by decide : 6 + 0 ≤ _)⟩)
    dsimp only [Pt.U, Pt.locs, Pt.cells, Pt.slots] at X26 l26 y26 z26 st26 hQ26
    subst l26 y26 z26
    obtain ⟨rfl, N26q, Kq26, Eq26, F1q26, F2q26⟩ := hQ26
    have N26 := Fr.app N23 N26q
    have K26 : Keep h0 T26.heap [] := K24.trans Kq26 (allS (Or.inr sz_b24) all0)
    obtain ⟨cl27, Ar27, q27, S27, M27, H27, G27⟩ := ((V21.ext E24).keep Kq26 (ninS (Nat.ne_of_lt (Nat.lt_of_lt_of_le V21.lt (Nat.le_of_eq g24.symm))) nin0))
    have t0 : cl27.slots[0]? = some (.long ra) := H27 0 (by rw [S27]; decide)
    have t1 : cl27.slots[1]? = some (.long rb) := H27 1 (by rw [S27]; decide)
    obtain ⟨cq28, kq28, q28a, q28b, q28c⟩ := isOf hZ rfl Eq26
    obtain ⟨_, _, ⟨T28, L28, k28, n28⟩, -, X28, ⟨Lc28, hQ28, l28, y28, z28⟩, st28⟩ := X26.virtualBack hx (y := (⟨"com/example/hummingbird/hummingbird/engine/Rhythm", "leastWaitingPoint", "()I"⟩ : MethodName)) (z := (⟨"com/example/hummingbird/hummingbird/engine/Rhythm", "leastWaitingPoint", "()I"⟩ : MethodName)) hown (mvT hZ (hw _ (List.mem_of_getElem? (i := 19) rfl))) (mvT hZ (hw _ (List.mem_of_getElem? (i := 20) rfl))) (notFace_of_selects (args := #[]) (mvT hZ (hw _ (List.mem_of_getElem? (i := 22) rfl)))) (mvT hZ (hw _ (List.mem_of_getElem? (i := 22) rfl))) (mvT hZ (hw _ (List.mem_of_getElem? (i := 21) rfl))) (by decide) (backOf (W := 0) (rmL2 l Z a0 hw [] b24 b17 cl27 ra rb T26.heap n0 (Nat.le_trans (Nat.le_trans (Nat.le_trans (Nat.le_trans (Nat.le_trans Z0 E17.1) (Keep.of_wr W19).1) (Keep.of_wr W21).1) E24.1) Kq26.1) Eq26 F1q26 F2q26 Ar27 S27 t0 t1) hZ (hw _ (List.mem_of_getElem? (i := 23) rfl)) (hw _ (List.mem_of_getElem? (i := 8) rfl)) (by decide) (by decide)) q28a q28c (g := (mkF m 369 #[.val (.int p0), .val (.long q1), .second, .val (.long q2), .second, .val (.long q3), .second, .val (.long q4), .second, .val (.int (2 : Int32)), .val (.long ra), .second, .val (.long rb), .second, .val (.long rc), .second, .val (.long rd), .second, .val (.ref b17), .val (.long v0), .second, .val (.long v1), .second, .val (.long (0 : Int64)), .second, .val (.long (0 : Int64)), .second, .val (.int (own_e (2 : Int32) v0 v1 (0 : Int64) (0 : Int64))), .unset] [(.ref b24)])) rfl (by rw [hml]; rfl) (Steps.refl _) (argsL := []) (rest := []) (lenOf pd_3 rfl) rfl (by show 2 * 0 + _ ≤ _; exact Nat.le_of_eq rfl) (hb hby at_369) (fun _ _ => ⟨rfl, rfl, (by decide : 2 + 0 ≤ _), (by decide : 6 + 0 ≤ _)⟩)
    dsimp only [Pt.U, Pt.locs, Pt.cells, Pt.slots] at X28 l28 y28 z28 st28 hQ28
    subst l28 y28 z28
    obtain ⟨rfl, N28q, hq28⟩ := hQ28
    have N28 := Fr.app N26 N28q
    have pre29 : ∀ t, Steps p.tables e below (T28.setTop (mkF m 386 #[.val (.int p0), .val (.long q1), .second, .val (.long q2), .second, .val (.long q3), .second, .val (.long q4), .second, .val (.int (2 : Int32)), .val (.long ra), .second, .val (.long rb), .second, .val (.long rc), .second, .val (.long rd), .second, .val (.ref b17), .val (.long v0), .second, .val (.long v1), .second, .val (.long (0 : Int64)), .second, .val (.long (0 : Int64)), .second, .val (.int (own_e (2 : Int32) v0 v1 (0 : Int64) (0 : Int64))), .val (.int (own_l2 ra rb))] [(.int (1 : Int32))])) t → Steps p.tables e below (s₁.setTop (entryFrame m #[(.int p0), (.long q1), (.long q2), (.long q3), (.long q4)] maxLocals)) t := by
      intro t k
      refine pre22 t ?_
      show Steps p.tables e below (T21.setTop (mkF m 345 #[.val (.int p0), .val (.long q1), .second, .val (.long q2), .second, .val (.long q3), .second, .val (.long q4), .second, .val (.int (2 : Int32)), .val (.long ra), .second, .val (.long rb), .second, .val (.long rc), .second, .val (.long rd), .second, .val (.ref b17), .val (.long v0), .second, .val (.long v1), .second, .val (.long (0 : Int64)), .second, .val (.long (0 : Int64)), .second, .unset, .unset] [])) _
      refine XS.iload X21.here hx rfl (hb hby at_345) rfl ?_
      show Steps p.tables e below (T21.setTop (mkF m 347 #[.val (.int p0), .val (.long q1), .second, .val (.long q2), .second, .val (.long q3), .second, .val (.long q4), .second, .val (.int (2 : Int32)), .val (.long ra), .second, .val (.long rb), .second, .val (.long rc), .second, .val (.long rd), .second, .val (.ref b17), .val (.long v0), .second, .val (.long v1), .second, .val (.long (0 : Int64)), .second, .val (.long (0 : Int64)), .second, .unset, .unset] [(.int (2 : Int32))])) _
      refine XS.lload X21.here hx rfl (hb hby at_347) rfl ?_
      show Steps p.tables e below (T21.setTop (mkF m 349 #[.val (.int p0), .val (.long q1), .second, .val (.long q2), .second, .val (.long q3), .second, .val (.long q4), .second, .val (.int (2 : Int32)), .val (.long ra), .second, .val (.long rb), .second, .val (.long rc), .second, .val (.long rd), .second, .val (.ref b17), .val (.long v0), .second, .val (.long v1), .second, .val (.long (0 : Int64)), .second, .val (.long (0 : Int64)), .second, .unset, .unset] [(.long v0), (.int (2 : Int32))])) _
      refine XS.lload X21.here hx rfl (hb hby at_349) rfl ?_
      show Steps p.tables e below (T21.setTop (mkF m 351 #[.val (.int p0), .val (.long q1), .second, .val (.long q2), .second, .val (.long q3), .second, .val (.long q4), .second, .val (.int (2 : Int32)), .val (.long ra), .second, .val (.long rb), .second, .val (.long rc), .second, .val (.long rd), .second, .val (.ref b17), .val (.long v0), .second, .val (.long v1), .second, .val (.long (0 : Int64)), .second, .val (.long (0 : Int64)), .second, .unset, .unset] [(.long v1), (.long v0), (.int (2 : Int32))])) _
      refine XS.lload X21.here hx rfl (hb hby at_351) rfl ?_
      show Steps p.tables e below (T21.setTop (mkF m 353 #[.val (.int p0), .val (.long q1), .second, .val (.long q2), .second, .val (.long q3), .second, .val (.long q4), .second, .val (.int (2 : Int32)), .val (.long ra), .second, .val (.long rb), .second, .val (.long rc), .second, .val (.long rd), .second, .val (.ref b17), .val (.long v0), .second, .val (.long v1), .second, .val (.long (0 : Int64)), .second, .val (.long (0 : Int64)), .second, .unset, .unset] [(.long (0 : Int64)), (.long v1), (.long v0), (.int (2 : Int32))])) _
      refine XS.lload X21.here hx rfl (hb hby at_353) rfl ?_
      show Steps p.tables e below (T21.setTop (mkF m 355 #[.val (.int p0), .val (.long q1), .second, .val (.long q2), .second, .val (.long q3), .second, .val (.long q4), .second, .val (.int (2 : Int32)), .val (.long ra), .second, .val (.long rb), .second, .val (.long rc), .second, .val (.long rd), .second, .val (.ref b17), .val (.long v0), .second, .val (.long v1), .second, .val (.long (0 : Int64)), .second, .val (.long (0 : Int64)), .second, .unset, .unset] [(.long (0 : Int64)), (.long (0 : Int64)), (.long v1), (.long v0), (.int (2 : Int32))])) _
      refine st23 _ ?_
      show Steps p.tables e below (T23.setTop (mkF m 358 #[.val (.int p0), .val (.long q1), .second, .val (.long q2), .second, .val (.long q3), .second, .val (.long q4), .second, .val (.int (2 : Int32)), .val (.long ra), .second, .val (.long rb), .second, .val (.long rc), .second, .val (.long rd), .second, .val (.ref b17), .val (.long v0), .second, .val (.long v1), .second, .val (.long (0 : Int64)), .second, .val (.long (0 : Int64)), .second, .unset, .unset] [(.int (own_e (2 : Int32) v0 v1 (0 : Int64) (0 : Int64)))])) _
      refine XS.istore X23.here hx rfl (hb hby at_358) rfl (l' := #[.val (.int p0), .val (.long q1), .second, .val (.long q2), .second, .val (.long q3), .second, .val (.long q4), .second, .val (.int (2 : Int32)), .val (.long ra), .second, .val (.long rb), .second, .val (.long rc), .second, .val (.long rd), .second, .val (.ref b17), .val (.long v0), .second, .val (.long v1), .second, .val (.long (0 : Int64)), .second, .val (.long (0 : Int64)), .second, .val (.int (own_e (2 : Int32) v0 v1 (0 : Int64) (0 : Int64))), .unset]) rfl ?_
      show Steps p.tables e below (T23.setTop (mkF m 360 #[.val (.int p0), .val (.long q1), .second, .val (.long q2), .second, .val (.long q3), .second, .val (.long q4), .second, .val (.int (2 : Int32)), .val (.long ra), .second, .val (.long rb), .second, .val (.long rc), .second, .val (.long rd), .second, .val (.ref b17), .val (.long v0), .second, .val (.long v1), .second, .val (.long (0 : Int64)), .second, .val (.long (0 : Int64)), .second, .val (.int (own_e (2 : Int32) v0 v1 (0 : Int64) (0 : Int64))), .unset] [])) _
      refine st24 _ ?_
      show Steps p.tables e below (T24.setTop (mkF m 363 #[.val (.int p0), .val (.long q1), .second, .val (.long q2), .second, .val (.long q3), .second, .val (.long q4), .second, .val (.int (2 : Int32)), .val (.long ra), .second, .val (.long rb), .second, .val (.long rc), .second, .val (.long rd), .second, .val (.ref b17), .val (.long v0), .second, .val (.long v1), .second, .val (.long (0 : Int64)), .second, .val (.long (0 : Int64)), .second, .val (.int (own_e (2 : Int32) v0 v1 (0 : Int64) (0 : Int64))), .unset] [(.ref b24)])) _
      refine XS.dup X24.here hx rfl (hb hby at_363) rfl rfl ?_
      show Steps p.tables e below (T24.setTop (mkF m 364 #[.val (.int p0), .val (.long q1), .second, .val (.long q2), .second, .val (.long q3), .second, .val (.long q4), .second, .val (.int (2 : Int32)), .val (.long ra), .second, .val (.long rb), .second, .val (.long rc), .second, .val (.long rd), .second, .val (.ref b17), .val (.long v0), .second, .val (.long v1), .second, .val (.long (0 : Int64)), .second, .val (.long (0 : Int64)), .second, .val (.int (own_e (2 : Int32) v0 v1 (0 : Int64) (0 : Int64))), .unset] [(.ref b24), (.ref b24)])) _
      refine XS.aload X24.here hx rfl (hb hby at_364) rfl (rfl) ?_
      show Steps p.tables e below (T24.setTop (mkF m 366 #[.val (.int p0), .val (.long q1), .second, .val (.long q2), .second, .val (.long q3), .second, .val (.long q4), .second, .val (.int (2 : Int32)), .val (.long ra), .second, .val (.long rb), .second, .val (.long rc), .second, .val (.long rd), .second, .val (.ref b17), .val (.long v0), .second, .val (.long v1), .second, .val (.long (0 : Int64)), .second, .val (.long (0 : Int64)), .second, .val (.int (own_e (2 : Int32) v0 v1 (0 : Int64) (0 : Int64))), .unset] [(.ref b17), (.ref b24), (.ref b24)])) _
      refine st26.trans ?_
      show Steps p.tables e below (T26.setTop (mkF m 369 #[.val (.int p0), .val (.long q1), .second, .val (.long q2), .second, .val (.long q3), .second, .val (.long q4), .second, .val (.int (2 : Int32)), .val (.long ra), .second, .val (.long rb), .second, .val (.long rc), .second, .val (.long rd), .second, .val (.ref b17), .val (.long v0), .second, .val (.long v1), .second, .val (.long (0 : Int64)), .second, .val (.long (0 : Int64)), .second, .val (.int (own_e (2 : Int32) v0 v1 (0 : Int64) (0 : Int64))), .unset] [(.ref b24)])) _
      refine st28.trans ?_
      show Steps p.tables e below (T28.setTop (mkF m 372 #[.val (.int p0), .val (.long q1), .second, .val (.long q2), .second, .val (.long q3), .second, .val (.long q4), .second, .val (.int (2 : Int32)), .val (.long ra), .second, .val (.long rb), .second, .val (.long rc), .second, .val (.long rd), .second, .val (.ref b17), .val (.long v0), .second, .val (.long v1), .second, .val (.long (0 : Int64)), .second, .val (.long (0 : Int64)), .second, .val (.int (own_e (2 : Int32) v0 v1 (0 : Int64) (0 : Int64))), .unset] [(.int (own_l2 ra rb))])) _
      refine XS.istore X28.here hx rfl (hb hby at_372) rfl (l' := #[.val (.int p0), .val (.long q1), .second, .val (.long q2), .second, .val (.long q3), .second, .val (.long q4), .second, .val (.int (2 : Int32)), .val (.long ra), .second, .val (.long rb), .second, .val (.long rc), .second, .val (.long rd), .second, .val (.ref b17), .val (.long v0), .second, .val (.long v1), .second, .val (.long (0 : Int64)), .second, .val (.long (0 : Int64)), .second, .val (.int (own_e (2 : Int32) v0 v1 (0 : Int64) (0 : Int64))), .val (.int (own_l2 ra rb))]) rfl ?_
      show Steps p.tables e below (T28.setTop (mkF m 374 #[.val (.int p0), .val (.long q1), .second, .val (.long q2), .second, .val (.long q3), .second, .val (.long q4), .second, .val (.int (2 : Int32)), .val (.long ra), .second, .val (.long rb), .second, .val (.long rc), .second, .val (.long rd), .second, .val (.ref b17), .val (.long v0), .second, .val (.long v1), .second, .val (.long (0 : Int64)), .second, .val (.long (0 : Int64)), .second, .val (.int (own_e (2 : Int32) v0 v1 (0 : Int64) (0 : Int64))), .val (.int (own_l2 ra rb))] [])) _
      refine XS.iload X28.here hx rfl (hb hby at_374) rfl ?_
      show Steps p.tables e below (T28.setTop (mkF m 376 #[.val (.int p0), .val (.long q1), .second, .val (.long q2), .second, .val (.long q3), .second, .val (.long q4), .second, .val (.int (2 : Int32)), .val (.long ra), .second, .val (.long rb), .second, .val (.long rc), .second, .val (.long rd), .second, .val (.ref b17), .val (.long v0), .second, .val (.long v1), .second, .val (.long (0 : Int64)), .second, .val (.long (0 : Int64)), .second, .val (.int (own_e (2 : Int32) v0 v1 (0 : Int64) (0 : Int64))), .val (.int (own_l2 ra rb))] [(.int (own_l2 ra rb))])) _
      refine XS.iload X28.here hx rfl (hb hby at_376) rfl ?_
      show Steps p.tables e below (T28.setTop (mkF m 378 #[.val (.int p0), .val (.long q1), .second, .val (.long q2), .second, .val (.long q3), .second, .val (.long q4), .second, .val (.int (2 : Int32)), .val (.long ra), .second, .val (.long rb), .second, .val (.long rc), .second, .val (.long rd), .second, .val (.ref b17), .val (.long v0), .second, .val (.long v1), .second, .val (.long (0 : Int64)), .second, .val (.long (0 : Int64)), .second, .val (.int (own_e (2 : Int32) v0 v1 (0 : Int64) (0 : Int64))), .val (.int (own_l2 ra rb))] [(.int (own_e (2 : Int32) v0 v1 (0 : Int64) (0 : Int64))), (.int (own_l2 ra rb))])) _
      refine XS.icmpNo X28.here hx rfl (hb hby at_378) rfl (teq (own_law2 bra brb hv0 hv1)).2 ?_
      show Steps p.tables e below (T28.setTop (mkF m 381 #[.val (.int p0), .val (.long q1), .second, .val (.long q2), .second, .val (.long q3), .second, .val (.long q4), .second, .val (.int (2 : Int32)), .val (.long ra), .second, .val (.long rb), .second, .val (.long rc), .second, .val (.long rd), .second, .val (.ref b17), .val (.long v0), .second, .val (.long v1), .second, .val (.long (0 : Int64)), .second, .val (.long (0 : Int64)), .second, .val (.int (own_e (2 : Int32) v0 v1 (0 : Int64) (0 : Int64))), .val (.int (own_l2 ra rb))] [])) _
      refine XS.iconst X28.here hx rfl (hb hby at_381) ?_
      show Steps p.tables e below (T28.setTop (mkF m 382 #[.val (.int p0), .val (.long q1), .second, .val (.long q2), .second, .val (.long q3), .second, .val (.long q4), .second, .val (.int (2 : Int32)), .val (.long ra), .second, .val (.long rb), .second, .val (.long rc), .second, .val (.long rd), .second, .val (.ref b17), .val (.long v0), .second, .val (.long v1), .second, .val (.long (0 : Int64)), .second, .val (.long (0 : Int64)), .second, .val (.int (own_e (2 : Int32) v0 v1 (0 : Int64) (0 : Int64))), .val (.int (own_l2 ra rb))] [(.int (1 : Int32))])) _
      refine XS.goto X28.here hx rfl (pc0 := 382) (pc' := 386) rfl (hb hby at_382) (by decide) (by decide) ?_
      show Steps p.tables e below (T28.setTop (mkF m 386 #[.val (.int p0), .val (.long q1), .second, .val (.long q2), .second, .val (.long q3), .second, .val (.long q4), .second, .val (.int (2 : Int32)), .val (.long ra), .second, .val (.long rb), .second, .val (.long rc), .second, .val (.long rd), .second, .val (.ref b17), .val (.long v0), .second, .val (.long v1), .second, .val (.long (0 : Int64)), .second, .val (.long (0 : Int64)), .second, .val (.int (own_e (2 : Int32) v0 v1 (0 : Int64) (0 : Int64))), .val (.int (own_l2 ra rb))] [(.int (1 : Int32))])) _
      exact k
    obtain ⟨fs, hr, hrun, hended, hW, hsame⟩ := X28.leave (v := some (.int (1 : Int32))) (fun h => by rw [Bd.returns] at h; cases h)
    refine ⟨_, _, pre29 _ ?_, hrun, hended, _, _, rfl, ?_, ⟨_, rfl⟩, hW, hsame.mono (by decide) (by decide)⟩
    · exact retN X28 hx (t := .boolean) Bd.returns (by simp) (hb hby at_386) hr
    · show Q_rm0 Z p0 q1 q2 q3 q4 h0 n0 _ T28.heap _
      rw [hq28]
      exact ⟨rfl, N28⟩
  · skip
    obtain ⟨T30, h30, k30, X30, e30, E30, A30, st30⟩ := newP X0 hx hZ (hw _ (List.mem_of_getElem? (i := 1) rfl)) e0 (g := (mkF m 39 #[.val (.int p0), .val (.long q1), .second, .val (.long q2), .second, .val (.long q3), .second, .val (.long q4), .second, .val (.int (3 : Int32)), .val (.long ra), .second, .val (.long rb), .second, .val (.long rc), .second, .val (.long rd), .second, .unset, .unset, .unset, .unset, .unset, .unset, .unset, .unset, .unset, .unset, .unset] [(.int (3 : Int32))])) rfl (hb hby at_39) rfl (by decide) (cap := 3) (by decide) (by decide) (by decide) (by decide)
    obtain ⟨b30, g30⟩ : ∃ z, z = h0.size := ⟨_, rfl⟩
    rw [← g30] at A30 st30
    have V30 : Arv Z h30 b30 k30 .long (3 : Int32) [(.long (0 : Int64)), (.long (0 : Int64)), (.long (0 : Int64))] (.long (0 : Int64)) := (Arv.new A30 (by decide)).pad (pad_rep [] (.long (0 : Int64)) 3)
    have g_b30 : n0 ≤ b30 := Nat.le_trans Z0 (Nat.le_of_eq g30.symm)
    have sz_b30 : h0.size ≤ b30 := (Nat.le_trans (Keep.refl h0 []).1 (Nat.le_of_eq g30.symm))
    have K30 : Keep h0 h30 [] := (Keep.refl h0 []).ext E30
    obtain ⟨cl31, Ar31, q31, S31, M31, H31, G31⟩ := V30
    have hin31 : ¬ ((0 : Int32) < 0 ∨ cl31.slots.size ≤ ((0 : Int32)).toNatClampNeg) := inb_of S31 ⟨by decide, by decide⟩
    obtain ⟨T32, h32, X32, e32, W32, st32⟩ := stJ X30 hx hZ e30 Ar31 (j := (0 : Int32)) hin31 (g := (mkF m 48 #[.val (.int p0), .val (.long q1), .second, .val (.long q2), .second, .val (.long q3), .second, .val (.long q4), .second, .val (.int (3 : Int32)), .val (.long ra), .second, .val (.long rb), .second, .val (.long rc), .second, .val (.long rd), .second, .val (.ref b30), .unset, .unset, .unset, .unset, .unset, .unset, .unset, .unset, .unset, .unset] [(.long ra), (.int (0 : Int32)), (.ref b30)])) rfl rfl (hb hby at_48)
    have V32 : Arv Z h32 b30 k30 .long (3 : Int32) [(.long ra), (.long (0 : Int64)), (.long (0 : Int64))] (.long (0 : Int64)) := Arv.set Ar31 q31 S31 M31 H31 G31 rfl W32 0 rfl (Nat.le_of_ble_eq_true rfl)
    have K32 : Keep h0 h32 [] := K30.wr W32 (Or.inr sz_b30)
    have N32 := Fr.snoc X32 N0 g_b30
    obtain ⟨cl33, Ar33, q33, S33, M33, H33, G33⟩ := V32
    have hin33 : ¬ ((1 : Int32) < 0 ∨ cl33.slots.size ≤ ((1 : Int32)).toNatClampNeg) := inb_of S33 ⟨by decide, by decide⟩
    obtain ⟨T34, h34, X34, e34, W34, st34⟩ := stJ X32 hx hZ e32 Ar33 (j := (1 : Int32)) hin33 (g := (mkF m 60 #[.val (.int p0), .val (.long q1), .second, .val (.long q2), .second, .val (.long q3), .second, .val (.long q4), .second, .val (.int (3 : Int32)), .val (.long ra), .second, .val (.long rb), .second, .val (.long rc), .second, .val (.long rd), .second, .val (.ref b30), .unset, .unset, .unset, .unset, .unset, .unset, .unset, .unset, .unset, .unset] [(.long rb), (.int (1 : Int32)), (.ref b30)])) rfl rfl (hb hby at_60)
    have V34 : Arv Z h34 b30 k30 .long (3 : Int32) [(.long ra), (.long rb), (.long (0 : Int64))] (.long (0 : Int64)) := Arv.set Ar33 q33 S33 M33 H33 G33 rfl W34 1 rfl (Nat.le_of_ble_eq_true rfl)
    have K34 : Keep h0 h34 [] := K32.wr W34 (Or.inr sz_b30)
    have N34 := Fr.snoc X34 N32 g_b30
    obtain ⟨cl35, Ar35, q35, S35, M35, H35, G35⟩ := V34
    have hin35 : ¬ ((2 : Int32) < 0 ∨ cl35.slots.size ≤ ((2 : Int32)).toNatClampNeg) := inb_of S35 ⟨by decide, by decide⟩
    obtain ⟨T36, h36, X36, e36, W36, st36⟩ := stJ X34 hx hZ e34 Ar35 (j := (2 : Int32)) hin35 (g := (mkF m 72 #[.val (.int p0), .val (.long q1), .second, .val (.long q2), .second, .val (.long q3), .second, .val (.long q4), .second, .val (.int (3 : Int32)), .val (.long ra), .second, .val (.long rb), .second, .val (.long rc), .second, .val (.long rd), .second, .val (.ref b30), .unset, .unset, .unset, .unset, .unset, .unset, .unset, .unset, .unset, .unset] [(.long rc), (.int (2 : Int32)), (.ref b30)])) rfl rfl (hb hby at_72)
    have V36 : Arv Z h36 b30 k30 .long (3 : Int32) [(.long ra), (.long rb), (.long rc)] (.long (0 : Int64)) := Arv.set Ar35 q35 S35 M35 H35 G35 rfl W36 2 rfl (Nat.le_of_ble_eq_true rfl)
    have K36 : Keep h0 h36 [] := K34.wr W36 (Or.inr sz_b30)
    have N36 := Fr.snoc X36 N34 g_b30
    have pre37 : ∀ t, Steps p.tables e below (T36.setTop (mkF m 345 #[.val (.int p0), .val (.long q1), .second, .val (.long q2), .second, .val (.long q3), .second, .val (.long q4), .second, .val (.int (3 : Int32)), .val (.long ra), .second, .val (.long rb), .second, .val (.long rc), .second, .val (.long rd), .second, .val (.ref b30), .val (.long ((((4 : Int64) * ra) + ((5 : Int64) * rb)) + ((3 : Int64) * rc))), .second, .val (.long ((((4 : Int64) * rb) + ((5 : Int64) * rc)) + ((3 : Int64) * ra))), .second, .val (.long ((((4 : Int64) * rc) + ((5 : Int64) * ra)) + ((3 : Int64) * rb))), .second, .val (.long (0 : Int64)), .second, .unset, .unset] [])) t → Steps p.tables e below (s₁.setTop (entryFrame m #[(.int p0), (.long q1), (.long q2), (.long q3), (.long q4)] maxLocals)) t := by
      intro t k
      refine pre6 t ?_
      show Steps p.tables e below (s₁.setTop (mkF m 37 #[.val (.int p0), .val (.long q1), .second, .val (.long q2), .second, .val (.long q3), .second, .val (.long q4), .second, .val (.int (3 : Int32)), .val (.long ra), .second, .val (.long rb), .second, .val (.long rc), .second, .val (.long rd), .second, .unset, .unset, .unset, .unset, .unset, .unset, .unset, .unset, .unset, .unset, .unset] [])) _
      refine XS.iload X0.here hx rfl (hb hby at_37) rfl ?_
      show Steps p.tables e below (s₁.setTop (mkF m 39 #[.val (.int p0), .val (.long q1), .second, .val (.long q2), .second, .val (.long q3), .second, .val (.long q4), .second, .val (.int (3 : Int32)), .val (.long ra), .second, .val (.long rb), .second, .val (.long rc), .second, .val (.long rd), .second, .unset, .unset, .unset, .unset, .unset, .unset, .unset, .unset, .unset, .unset, .unset] [(.int (3 : Int32))])) _
      refine st30 _ ?_
      show Steps p.tables e below (T30.setTop (mkF m 41 #[.val (.int p0), .val (.long q1), .second, .val (.long q2), .second, .val (.long q3), .second, .val (.long q4), .second, .val (.int (3 : Int32)), .val (.long ra), .second, .val (.long rb), .second, .val (.long rc), .second, .val (.long rd), .second, .unset, .unset, .unset, .unset, .unset, .unset, .unset, .unset, .unset, .unset, .unset] [(.ref b30)])) _
      refine XS.astore X30.here hx rfl (hb hby at_41) rfl (rfl) (l' := #[.val (.int p0), .val (.long q1), .second, .val (.long q2), .second, .val (.long q3), .second, .val (.long q4), .second, .val (.int (3 : Int32)), .val (.long ra), .second, .val (.long rb), .second, .val (.long rc), .second, .val (.long rd), .second, .val (.ref b30), .unset, .unset, .unset, .unset, .unset, .unset, .unset, .unset, .unset, .unset]) rfl ?_
      show Steps p.tables e below (T30.setTop (mkF m 43 #[.val (.int p0), .val (.long q1), .second, .val (.long q2), .second, .val (.long q3), .second, .val (.long q4), .second, .val (.int (3 : Int32)), .val (.long ra), .second, .val (.long rb), .second, .val (.long rc), .second, .val (.long rd), .second, .val (.ref b30), .unset, .unset, .unset, .unset, .unset, .unset, .unset, .unset, .unset, .unset] [])) _
      refine XS.aload X30.here hx rfl (hb hby at_43) rfl (rfl) ?_
      show Steps p.tables e below (T30.setTop (mkF m 45 #[.val (.int p0), .val (.long q1), .second, .val (.long q2), .second, .val (.long q3), .second, .val (.long q4), .second, .val (.int (3 : Int32)), .val (.long ra), .second, .val (.long rb), .second, .val (.long rc), .second, .val (.long rd), .second, .val (.ref b30), .unset, .unset, .unset, .unset, .unset, .unset, .unset, .unset, .unset, .unset] [(.ref b30)])) _
      refine XS.iconst X30.here hx rfl (hb hby at_45) ?_
      show Steps p.tables e below (T30.setTop (mkF m 46 #[.val (.int p0), .val (.long q1), .second, .val (.long q2), .second, .val (.long q3), .second, .val (.long q4), .second, .val (.int (3 : Int32)), .val (.long ra), .second, .val (.long rb), .second, .val (.long rc), .second, .val (.long rd), .second, .val (.ref b30), .unset, .unset, .unset, .unset, .unset, .unset, .unset, .unset, .unset, .unset] [(.int (0 : Int32)), (.ref b30)])) _
      refine XS.lload X30.here hx rfl (hb hby at_46) rfl ?_
      show Steps p.tables e below (T30.setTop (mkF m 48 #[.val (.int p0), .val (.long q1), .second, .val (.long q2), .second, .val (.long q3), .second, .val (.long q4), .second, .val (.int (3 : Int32)), .val (.long ra), .second, .val (.long rb), .second, .val (.long rc), .second, .val (.long rd), .second, .val (.ref b30), .unset, .unset, .unset, .unset, .unset, .unset, .unset, .unset, .unset, .unset] [(.long ra), (.int (0 : Int32)), (.ref b30)])) _
      refine st32 _ ?_
      show Steps p.tables e below (T32.setTop (mkF m 49 #[.val (.int p0), .val (.long q1), .second, .val (.long q2), .second, .val (.long q3), .second, .val (.long q4), .second, .val (.int (3 : Int32)), .val (.long ra), .second, .val (.long rb), .second, .val (.long rc), .second, .val (.long rd), .second, .val (.ref b30), .unset, .unset, .unset, .unset, .unset, .unset, .unset, .unset, .unset, .unset] [])) _
      refine XS.iload X32.here hx rfl (hb hby at_49) rfl ?_
      show Steps p.tables e below (T32.setTop (mkF m 51 #[.val (.int p0), .val (.long q1), .second, .val (.long q2), .second, .val (.long q3), .second, .val (.long q4), .second, .val (.int (3 : Int32)), .val (.long ra), .second, .val (.long rb), .second, .val (.long rc), .second, .val (.long rd), .second, .val (.ref b30), .unset, .unset, .unset, .unset, .unset, .unset, .unset, .unset, .unset, .unset] [(.int (3 : Int32))])) _
      refine XS.iconst X32.here hx rfl (hb hby at_51) ?_
      show Steps p.tables e below (T32.setTop (mkF m 52 #[.val (.int p0), .val (.long q1), .second, .val (.long q2), .second, .val (.long q3), .second, .val (.long q4), .second, .val (.int (3 : Int32)), .val (.long ra), .second, .val (.long rb), .second, .val (.long rc), .second, .val (.long rd), .second, .val (.ref b30), .unset, .unset, .unset, .unset, .unset, .unset, .unset, .unset, .unset, .unset] [(.int (1 : Int32)), (.int (3 : Int32))])) _
      refine XS.icmpNo X32.here hx rfl (hb hby at_52) rfl (tlt (by decide : (1 : Int32) < (3 : Int32))).2.2.2 ?_
      show Steps p.tables e below (T32.setTop (mkF m 55 #[.val (.int p0), .val (.long q1), .second, .val (.long q2), .second, .val (.long q3), .second, .val (.long q4), .second, .val (.int (3 : Int32)), .val (.long ra), .second, .val (.long rb), .second, .val (.long rc), .second, .val (.long rd), .second, .val (.ref b30), .unset, .unset, .unset, .unset, .unset, .unset, .unset, .unset, .unset, .unset] [])) _
      refine XS.aload X32.here hx rfl (hb hby at_55) rfl (rfl) ?_
      show Steps p.tables e below (T32.setTop (mkF m 57 #[.val (.int p0), .val (.long q1), .second, .val (.long q2), .second, .val (.long q3), .second, .val (.long q4), .second, .val (.int (3 : Int32)), .val (.long ra), .second, .val (.long rb), .second, .val (.long rc), .second, .val (.long rd), .second, .val (.ref b30), .unset, .unset, .unset, .unset, .unset, .unset, .unset, .unset, .unset, .unset] [(.ref b30)])) _
      refine XS.iconst X32.here hx rfl (hb hby at_57) ?_
      show Steps p.tables e below (T32.setTop (mkF m 58 #[.val (.int p0), .val (.long q1), .second, .val (.long q2), .second, .val (.long q3), .second, .val (.long q4), .second, .val (.int (3 : Int32)), .val (.long ra), .second, .val (.long rb), .second, .val (.long rc), .second, .val (.long rd), .second, .val (.ref b30), .unset, .unset, .unset, .unset, .unset, .unset, .unset, .unset, .unset, .unset] [(.int (1 : Int32)), (.ref b30)])) _
      refine XS.lload X32.here hx rfl (hb hby at_58) rfl ?_
      show Steps p.tables e below (T32.setTop (mkF m 60 #[.val (.int p0), .val (.long q1), .second, .val (.long q2), .second, .val (.long q3), .second, .val (.long q4), .second, .val (.int (3 : Int32)), .val (.long ra), .second, .val (.long rb), .second, .val (.long rc), .second, .val (.long rd), .second, .val (.ref b30), .unset, .unset, .unset, .unset, .unset, .unset, .unset, .unset, .unset, .unset] [(.long rb), (.int (1 : Int32)), (.ref b30)])) _
      refine st34 _ ?_
      show Steps p.tables e below (T34.setTop (mkF m 61 #[.val (.int p0), .val (.long q1), .second, .val (.long q2), .second, .val (.long q3), .second, .val (.long q4), .second, .val (.int (3 : Int32)), .val (.long ra), .second, .val (.long rb), .second, .val (.long rc), .second, .val (.long rd), .second, .val (.ref b30), .unset, .unset, .unset, .unset, .unset, .unset, .unset, .unset, .unset, .unset] [])) _
      refine XS.iload X34.here hx rfl (hb hby at_61) rfl ?_
      show Steps p.tables e below (T34.setTop (mkF m 63 #[.val (.int p0), .val (.long q1), .second, .val (.long q2), .second, .val (.long q3), .second, .val (.long q4), .second, .val (.int (3 : Int32)), .val (.long ra), .second, .val (.long rb), .second, .val (.long rc), .second, .val (.long rd), .second, .val (.ref b30), .unset, .unset, .unset, .unset, .unset, .unset, .unset, .unset, .unset, .unset] [(.int (3 : Int32))])) _
      refine XS.iconst X34.here hx rfl (hb hby at_63) ?_
      show Steps p.tables e below (T34.setTop (mkF m 64 #[.val (.int p0), .val (.long q1), .second, .val (.long q2), .second, .val (.long q3), .second, .val (.long q4), .second, .val (.int (3 : Int32)), .val (.long ra), .second, .val (.long rb), .second, .val (.long rc), .second, .val (.long rd), .second, .val (.ref b30), .unset, .unset, .unset, .unset, .unset, .unset, .unset, .unset, .unset, .unset] [(.int (2 : Int32)), (.int (3 : Int32))])) _
      refine XS.icmpNo X34.here hx rfl (hb hby at_64) rfl (tlt (by decide : (2 : Int32) < (3 : Int32))).2.2.2 ?_
      show Steps p.tables e below (T34.setTop (mkF m 67 #[.val (.int p0), .val (.long q1), .second, .val (.long q2), .second, .val (.long q3), .second, .val (.long q4), .second, .val (.int (3 : Int32)), .val (.long ra), .second, .val (.long rb), .second, .val (.long rc), .second, .val (.long rd), .second, .val (.ref b30), .unset, .unset, .unset, .unset, .unset, .unset, .unset, .unset, .unset, .unset] [])) _
      refine XS.aload X34.here hx rfl (hb hby at_67) rfl (rfl) ?_
      show Steps p.tables e below (T34.setTop (mkF m 69 #[.val (.int p0), .val (.long q1), .second, .val (.long q2), .second, .val (.long q3), .second, .val (.long q4), .second, .val (.int (3 : Int32)), .val (.long ra), .second, .val (.long rb), .second, .val (.long rc), .second, .val (.long rd), .second, .val (.ref b30), .unset, .unset, .unset, .unset, .unset, .unset, .unset, .unset, .unset, .unset] [(.ref b30)])) _
      refine XS.iconst X34.here hx rfl (hb hby at_69) ?_
      show Steps p.tables e below (T34.setTop (mkF m 70 #[.val (.int p0), .val (.long q1), .second, .val (.long q2), .second, .val (.long q3), .second, .val (.long q4), .second, .val (.int (3 : Int32)), .val (.long ra), .second, .val (.long rb), .second, .val (.long rc), .second, .val (.long rd), .second, .val (.ref b30), .unset, .unset, .unset, .unset, .unset, .unset, .unset, .unset, .unset, .unset] [(.int (2 : Int32)), (.ref b30)])) _
      refine XS.lload X34.here hx rfl (hb hby at_70) rfl ?_
      show Steps p.tables e below (T34.setTop (mkF m 72 #[.val (.int p0), .val (.long q1), .second, .val (.long q2), .second, .val (.long q3), .second, .val (.long q4), .second, .val (.int (3 : Int32)), .val (.long ra), .second, .val (.long rb), .second, .val (.long rc), .second, .val (.long rd), .second, .val (.ref b30), .unset, .unset, .unset, .unset, .unset, .unset, .unset, .unset, .unset, .unset] [(.long rc), (.int (2 : Int32)), (.ref b30)])) _
      refine st36 _ ?_
      show Steps p.tables e below (T36.setTop (mkF m 73 #[.val (.int p0), .val (.long q1), .second, .val (.long q2), .second, .val (.long q3), .second, .val (.long q4), .second, .val (.int (3 : Int32)), .val (.long ra), .second, .val (.long rb), .second, .val (.long rc), .second, .val (.long rd), .second, .val (.ref b30), .unset, .unset, .unset, .unset, .unset, .unset, .unset, .unset, .unset, .unset] [])) _
      refine XS.iload X36.here hx rfl (hb hby at_73) rfl ?_
      show Steps p.tables e below (T36.setTop (mkF m 75 #[.val (.int p0), .val (.long q1), .second, .val (.long q2), .second, .val (.long q3), .second, .val (.long q4), .second, .val (.int (3 : Int32)), .val (.long ra), .second, .val (.long rb), .second, .val (.long rc), .second, .val (.long rd), .second, .val (.ref b30), .unset, .unset, .unset, .unset, .unset, .unset, .unset, .unset, .unset, .unset] [(.int (3 : Int32))])) _
      refine XS.iconst X36.here hx rfl (hb hby at_75) ?_
      show Steps p.tables e below (T36.setTop (mkF m 76 #[.val (.int p0), .val (.long q1), .second, .val (.long q2), .second, .val (.long q3), .second, .val (.long q4), .second, .val (.int (3 : Int32)), .val (.long ra), .second, .val (.long rb), .second, .val (.long rc), .second, .val (.long rd), .second, .val (.ref b30), .unset, .unset, .unset, .unset, .unset, .unset, .unset, .unset, .unset, .unset] [(.int (3 : Int32)), (.int (3 : Int32))])) _
      refine XS.icmpYes X36.here hx rfl (pc0 := 76) (pc' := 85) rfl (hb hby at_76) rfl (flt (by decide : ¬ ((3 : Int32) < (3 : Int32)))).2.2.2 (by decide) (by decide) ?_
      show Steps p.tables e below (T36.setTop (mkF m 85 #[.val (.int p0), .val (.long q1), .second, .val (.long q2), .second, .val (.long q3), .second, .val (.long q4), .second, .val (.int (3 : Int32)), .val (.long ra), .second, .val (.long rb), .second, .val (.long rc), .second, .val (.long rd), .second, .val (.ref b30), .unset, .unset, .unset, .unset, .unset, .unset, .unset, .unset, .unset, .unset] [])) _
      refine XS.iload X36.here hx rfl (hb hby at_85) rfl ?_
      show Steps p.tables e below (T36.setTop (mkF m 87 #[.val (.int p0), .val (.long q1), .second, .val (.long q2), .second, .val (.long q3), .second, .val (.long q4), .second, .val (.int (3 : Int32)), .val (.long ra), .second, .val (.long rb), .second, .val (.long rc), .second, .val (.long rd), .second, .val (.ref b30), .unset, .unset, .unset, .unset, .unset, .unset, .unset, .unset, .unset, .unset] [(.int (3 : Int32))])) _
      refine XS.iconst X36.here hx rfl (hb hby at_87) ?_
      show Steps p.tables e below (T36.setTop (mkF m 88 #[.val (.int p0), .val (.long q1), .second, .val (.long q2), .second, .val (.long q3), .second, .val (.long q4), .second, .val (.int (3 : Int32)), .val (.long ra), .second, .val (.long rb), .second, .val (.long rc), .second, .val (.long rd), .second, .val (.ref b30), .unset, .unset, .unset, .unset, .unset, .unset, .unset, .unset, .unset, .unset] [(.int (4 : Int32)), (.int (3 : Int32))])) _
      refine XS.icmpYes X36.here hx rfl (pc0 := 88) (pc' := 210) rfl (hb hby at_88) rfl (feq (by decide : ¬ ((3 : Int32) = (4 : Int32)))).2 (by decide) (by decide) ?_
      show Steps p.tables e below (T36.setTop (mkF m 210 #[.val (.int p0), .val (.long q1), .second, .val (.long q2), .second, .val (.long q3), .second, .val (.long q4), .second, .val (.int (3 : Int32)), .val (.long ra), .second, .val (.long rb), .second, .val (.long rc), .second, .val (.long rd), .second, .val (.ref b30), .unset, .unset, .unset, .unset, .unset, .unset, .unset, .unset, .unset, .unset] [])) _
      refine XS.iload X36.here hx rfl (hb hby at_210) rfl ?_
      show Steps p.tables e below (T36.setTop (mkF m 212 #[.val (.int p0), .val (.long q1), .second, .val (.long q2), .second, .val (.long q3), .second, .val (.long q4), .second, .val (.int (3 : Int32)), .val (.long ra), .second, .val (.long rb), .second, .val (.long rc), .second, .val (.long rd), .second, .val (.ref b30), .unset, .unset, .unset, .unset, .unset, .unset, .unset, .unset, .unset, .unset] [(.int (3 : Int32))])) _
      refine XS.iconst X36.here hx rfl (hb hby at_212) ?_
      show Steps p.tables e below (T36.setTop (mkF m 213 #[.val (.int p0), .val (.long q1), .second, .val (.long q2), .second, .val (.long q3), .second, .val (.long q4), .second, .val (.int (3 : Int32)), .val (.long ra), .second, .val (.long rb), .second, .val (.long rc), .second, .val (.long rd), .second, .val (.ref b30), .unset, .unset, .unset, .unset, .unset, .unset, .unset, .unset, .unset, .unset] [(.int (3 : Int32)), (.int (3 : Int32))])) _
      refine XS.icmpNo X36.here hx rfl (hb hby at_213) rfl (teq (by decide : (3 : Int32) = (3 : Int32))).2 ?_
      show Steps p.tables e below (T36.setTop (mkF m 216 #[.val (.int p0), .val (.long q1), .second, .val (.long q2), .second, .val (.long q3), .second, .val (.long q4), .second, .val (.int (3 : Int32)), .val (.long ra), .second, .val (.long rb), .second, .val (.long rc), .second, .val (.long rd), .second, .val (.ref b30), .unset, .unset, .unset, .unset, .unset, .unset, .unset, .unset, .unset, .unset] [])) _
      refine X36.ldc2Long hx hown (mvT hZ (hw _ (List.mem_of_getElem? (i := 30) rfl))) (g := (mkF m 216 #[.val (.int p0), .val (.long q1), .second, .val (.long q2), .second, .val (.long q3), .second, .val (.long q4), .second, .val (.int (3 : Int32)), .val (.long ra), .second, .val (.long rb), .second, .val (.long rc), .second, .val (.long rd), .second, .val (.ref b30), .unset, .unset, .unset, .unset, .unset, .unset, .unset, .unset, .unset, .unset] [])) rfl (hb hby at_216) _ ?_
      show Steps p.tables e below (T36.setTop (mkF m 219 #[.val (.int p0), .val (.long q1), .second, .val (.long q2), .second, .val (.long q3), .second, .val (.long q4), .second, .val (.int (3 : Int32)), .val (.long ra), .second, .val (.long rb), .second, .val (.long rc), .second, .val (.long rd), .second, .val (.ref b30), .unset, .unset, .unset, .unset, .unset, .unset, .unset, .unset, .unset, .unset] [(.long (4 : Int64))])) _
      refine XS.lload X36.here hx rfl (hb hby at_219) rfl ?_
      show Steps p.tables e below (T36.setTop (mkF m 221 #[.val (.int p0), .val (.long q1), .second, .val (.long q2), .second, .val (.long q3), .second, .val (.long q4), .second, .val (.int (3 : Int32)), .val (.long ra), .second, .val (.long rb), .second, .val (.long rc), .second, .val (.long rd), .second, .val (.ref b30), .unset, .unset, .unset, .unset, .unset, .unset, .unset, .unset, .unset, .unset] [(.long ra), (.long (4 : Int64))])) _
      refine XS.lmul X36.here hx rfl (hb hby at_221) rfl ?_
      show Steps p.tables e below (T36.setTop (mkF m 222 #[.val (.int p0), .val (.long q1), .second, .val (.long q2), .second, .val (.long q3), .second, .val (.long q4), .second, .val (.int (3 : Int32)), .val (.long ra), .second, .val (.long rb), .second, .val (.long rc), .second, .val (.long rd), .second, .val (.ref b30), .unset, .unset, .unset, .unset, .unset, .unset, .unset, .unset, .unset, .unset] [(.long ((4 : Int64) * ra))])) _
      refine X36.ldc2Long hx hown (mvT hZ (hw _ (List.mem_of_getElem? (i := 31) rfl))) (g := (mkF m 222 #[.val (.int p0), .val (.long q1), .second, .val (.long q2), .second, .val (.long q3), .second, .val (.long q4), .second, .val (.int (3 : Int32)), .val (.long ra), .second, .val (.long rb), .second, .val (.long rc), .second, .val (.long rd), .second, .val (.ref b30), .unset, .unset, .unset, .unset, .unset, .unset, .unset, .unset, .unset, .unset] [(.long ((4 : Int64) * ra))])) rfl (hb hby at_222) _ ?_
      show Steps p.tables e below (T36.setTop (mkF m 225 #[.val (.int p0), .val (.long q1), .second, .val (.long q2), .second, .val (.long q3), .second, .val (.long q4), .second, .val (.int (3 : Int32)), .val (.long ra), .second, .val (.long rb), .second, .val (.long rc), .second, .val (.long rd), .second, .val (.ref b30), .unset, .unset, .unset, .unset, .unset, .unset, .unset, .unset, .unset, .unset] [(.long (5 : Int64)), (.long ((4 : Int64) * ra))])) _
      refine XS.lload X36.here hx rfl (hb hby at_225) rfl ?_
      show Steps p.tables e below (T36.setTop (mkF m 227 #[.val (.int p0), .val (.long q1), .second, .val (.long q2), .second, .val (.long q3), .second, .val (.long q4), .second, .val (.int (3 : Int32)), .val (.long ra), .second, .val (.long rb), .second, .val (.long rc), .second, .val (.long rd), .second, .val (.ref b30), .unset, .unset, .unset, .unset, .unset, .unset, .unset, .unset, .unset, .unset] [(.long rb), (.long (5 : Int64)), (.long ((4 : Int64) * ra))])) _
      refine XS.lmul X36.here hx rfl (hb hby at_227) rfl ?_
      show Steps p.tables e below (T36.setTop (mkF m 228 #[.val (.int p0), .val (.long q1), .second, .val (.long q2), .second, .val (.long q3), .second, .val (.long q4), .second, .val (.int (3 : Int32)), .val (.long ra), .second, .val (.long rb), .second, .val (.long rc), .second, .val (.long rd), .second, .val (.ref b30), .unset, .unset, .unset, .unset, .unset, .unset, .unset, .unset, .unset, .unset] [(.long ((5 : Int64) * rb)), (.long ((4 : Int64) * ra))])) _
      refine XS.ladd X36.here hx rfl (hb hby at_228) rfl ?_
      show Steps p.tables e below (T36.setTop (mkF m 229 #[.val (.int p0), .val (.long q1), .second, .val (.long q2), .second, .val (.long q3), .second, .val (.long q4), .second, .val (.int (3 : Int32)), .val (.long ra), .second, .val (.long rb), .second, .val (.long rc), .second, .val (.long rd), .second, .val (.ref b30), .unset, .unset, .unset, .unset, .unset, .unset, .unset, .unset, .unset, .unset] [(.long (((4 : Int64) * ra) + ((5 : Int64) * rb)))])) _
      refine X36.ldc2Long hx hown (mvT hZ (hw _ (List.mem_of_getElem? (i := 29) rfl))) (g := (mkF m 229 #[.val (.int p0), .val (.long q1), .second, .val (.long q2), .second, .val (.long q3), .second, .val (.long q4), .second, .val (.int (3 : Int32)), .val (.long ra), .second, .val (.long rb), .second, .val (.long rc), .second, .val (.long rd), .second, .val (.ref b30), .unset, .unset, .unset, .unset, .unset, .unset, .unset, .unset, .unset, .unset] [(.long (((4 : Int64) * ra) + ((5 : Int64) * rb)))])) rfl (hb hby at_229) _ ?_
      show Steps p.tables e below (T36.setTop (mkF m 232 #[.val (.int p0), .val (.long q1), .second, .val (.long q2), .second, .val (.long q3), .second, .val (.long q4), .second, .val (.int (3 : Int32)), .val (.long ra), .second, .val (.long rb), .second, .val (.long rc), .second, .val (.long rd), .second, .val (.ref b30), .unset, .unset, .unset, .unset, .unset, .unset, .unset, .unset, .unset, .unset] [(.long (3 : Int64)), (.long (((4 : Int64) * ra) + ((5 : Int64) * rb)))])) _
      refine XS.lload X36.here hx rfl (hb hby at_232) rfl ?_
      show Steps p.tables e below (T36.setTop (mkF m 234 #[.val (.int p0), .val (.long q1), .second, .val (.long q2), .second, .val (.long q3), .second, .val (.long q4), .second, .val (.int (3 : Int32)), .val (.long ra), .second, .val (.long rb), .second, .val (.long rc), .second, .val (.long rd), .second, .val (.ref b30), .unset, .unset, .unset, .unset, .unset, .unset, .unset, .unset, .unset, .unset] [(.long rc), (.long (3 : Int64)), (.long (((4 : Int64) * ra) + ((5 : Int64) * rb)))])) _
      refine XS.lmul X36.here hx rfl (hb hby at_234) rfl ?_
      show Steps p.tables e below (T36.setTop (mkF m 235 #[.val (.int p0), .val (.long q1), .second, .val (.long q2), .second, .val (.long q3), .second, .val (.long q4), .second, .val (.int (3 : Int32)), .val (.long ra), .second, .val (.long rb), .second, .val (.long rc), .second, .val (.long rd), .second, .val (.ref b30), .unset, .unset, .unset, .unset, .unset, .unset, .unset, .unset, .unset, .unset] [(.long ((3 : Int64) * rc)), (.long (((4 : Int64) * ra) + ((5 : Int64) * rb)))])) _
      refine XS.ladd X36.here hx rfl (hb hby at_235) rfl ?_
      show Steps p.tables e below (T36.setTop (mkF m 236 #[.val (.int p0), .val (.long q1), .second, .val (.long q2), .second, .val (.long q3), .second, .val (.long q4), .second, .val (.int (3 : Int32)), .val (.long ra), .second, .val (.long rb), .second, .val (.long rc), .second, .val (.long rd), .second, .val (.ref b30), .unset, .unset, .unset, .unset, .unset, .unset, .unset, .unset, .unset, .unset] [(.long ((((4 : Int64) * ra) + ((5 : Int64) * rb)) + ((3 : Int64) * rc)))])) _
      refine XS.lstore X36.here hx rfl (hb hby at_236) rfl (l' := #[.val (.int p0), .val (.long q1), .second, .val (.long q2), .second, .val (.long q3), .second, .val (.long q4), .second, .val (.int (3 : Int32)), .val (.long ra), .second, .val (.long rb), .second, .val (.long rc), .second, .val (.long rd), .second, .val (.ref b30), .val (.long ((((4 : Int64) * ra) + ((5 : Int64) * rb)) + ((3 : Int64) * rc))), .second, .unset, .unset, .unset, .unset, .unset, .unset, .unset, .unset]) rfl ?_
      show Steps p.tables e below (T36.setTop (mkF m 238 #[.val (.int p0), .val (.long q1), .second, .val (.long q2), .second, .val (.long q3), .second, .val (.long q4), .second, .val (.int (3 : Int32)), .val (.long ra), .second, .val (.long rb), .second, .val (.long rc), .second, .val (.long rd), .second, .val (.ref b30), .val (.long ((((4 : Int64) * ra) + ((5 : Int64) * rb)) + ((3 : Int64) * rc))), .second, .unset, .unset, .unset, .unset, .unset, .unset, .unset, .unset] [])) _
      refine X36.ldc2Long hx hown (mvT hZ (hw _ (List.mem_of_getElem? (i := 30) rfl))) (g := (mkF m 238 #[.val (.int p0), .val (.long q1), .second, .val (.long q2), .second, .val (.long q3), .second, .val (.long q4), .second, .val (.int (3 : Int32)), .val (.long ra), .second, .val (.long rb), .second, .val (.long rc), .second, .val (.long rd), .second, .val (.ref b30), .val (.long ((((4 : Int64) * ra) + ((5 : Int64) * rb)) + ((3 : Int64) * rc))), .second, .unset, .unset, .unset, .unset, .unset, .unset, .unset, .unset] [])) rfl (hb hby at_238) _ ?_
      show Steps p.tables e below (T36.setTop (mkF m 241 #[.val (.int p0), .val (.long q1), .second, .val (.long q2), .second, .val (.long q3), .second, .val (.long q4), .second, .val (.int (3 : Int32)), .val (.long ra), .second, .val (.long rb), .second, .val (.long rc), .second, .val (.long rd), .second, .val (.ref b30), .val (.long ((((4 : Int64) * ra) + ((5 : Int64) * rb)) + ((3 : Int64) * rc))), .second, .unset, .unset, .unset, .unset, .unset, .unset, .unset, .unset] [(.long (4 : Int64))])) _
      refine XS.lload X36.here hx rfl (hb hby at_241) rfl ?_
      show Steps p.tables e below (T36.setTop (mkF m 243 #[.val (.int p0), .val (.long q1), .second, .val (.long q2), .second, .val (.long q3), .second, .val (.long q4), .second, .val (.int (3 : Int32)), .val (.long ra), .second, .val (.long rb), .second, .val (.long rc), .second, .val (.long rd), .second, .val (.ref b30), .val (.long ((((4 : Int64) * ra) + ((5 : Int64) * rb)) + ((3 : Int64) * rc))), .second, .unset, .unset, .unset, .unset, .unset, .unset, .unset, .unset] [(.long rb), (.long (4 : Int64))])) _
      refine XS.lmul X36.here hx rfl (hb hby at_243) rfl ?_
      show Steps p.tables e below (T36.setTop (mkF m 244 #[.val (.int p0), .val (.long q1), .second, .val (.long q2), .second, .val (.long q3), .second, .val (.long q4), .second, .val (.int (3 : Int32)), .val (.long ra), .second, .val (.long rb), .second, .val (.long rc), .second, .val (.long rd), .second, .val (.ref b30), .val (.long ((((4 : Int64) * ra) + ((5 : Int64) * rb)) + ((3 : Int64) * rc))), .second, .unset, .unset, .unset, .unset, .unset, .unset, .unset, .unset] [(.long ((4 : Int64) * rb))])) _
      refine X36.ldc2Long hx hown (mvT hZ (hw _ (List.mem_of_getElem? (i := 31) rfl))) (g := (mkF m 244 #[.val (.int p0), .val (.long q1), .second, .val (.long q2), .second, .val (.long q3), .second, .val (.long q4), .second, .val (.int (3 : Int32)), .val (.long ra), .second, .val (.long rb), .second, .val (.long rc), .second, .val (.long rd), .second, .val (.ref b30), .val (.long ((((4 : Int64) * ra) + ((5 : Int64) * rb)) + ((3 : Int64) * rc))), .second, .unset, .unset, .unset, .unset, .unset, .unset, .unset, .unset] [(.long ((4 : Int64) * rb))])) rfl (hb hby at_244) _ ?_
      show Steps p.tables e below (T36.setTop (mkF m 247 #[.val (.int p0), .val (.long q1), .second, .val (.long q2), .second, .val (.long q3), .second, .val (.long q4), .second, .val (.int (3 : Int32)), .val (.long ra), .second, .val (.long rb), .second, .val (.long rc), .second, .val (.long rd), .second, .val (.ref b30), .val (.long ((((4 : Int64) * ra) + ((5 : Int64) * rb)) + ((3 : Int64) * rc))), .second, .unset, .unset, .unset, .unset, .unset, .unset, .unset, .unset] [(.long (5 : Int64)), (.long ((4 : Int64) * rb))])) _
      refine XS.lload X36.here hx rfl (hb hby at_247) rfl ?_
      show Steps p.tables e below (T36.setTop (mkF m 249 #[.val (.int p0), .val (.long q1), .second, .val (.long q2), .second, .val (.long q3), .second, .val (.long q4), .second, .val (.int (3 : Int32)), .val (.long ra), .second, .val (.long rb), .second, .val (.long rc), .second, .val (.long rd), .second, .val (.ref b30), .val (.long ((((4 : Int64) * ra) + ((5 : Int64) * rb)) + ((3 : Int64) * rc))), .second, .unset, .unset, .unset, .unset, .unset, .unset, .unset, .unset] [(.long rc), (.long (5 : Int64)), (.long ((4 : Int64) * rb))])) _
      refine XS.lmul X36.here hx rfl (hb hby at_249) rfl ?_
      show Steps p.tables e below (T36.setTop (mkF m 250 #[.val (.int p0), .val (.long q1), .second, .val (.long q2), .second, .val (.long q3), .second, .val (.long q4), .second, .val (.int (3 : Int32)), .val (.long ra), .second, .val (.long rb), .second, .val (.long rc), .second, .val (.long rd), .second, .val (.ref b30), .val (.long ((((4 : Int64) * ra) + ((5 : Int64) * rb)) + ((3 : Int64) * rc))), .second, .unset, .unset, .unset, .unset, .unset, .unset, .unset, .unset] [(.long ((5 : Int64) * rc)), (.long ((4 : Int64) * rb))])) _
      refine XS.ladd X36.here hx rfl (hb hby at_250) rfl ?_
      show Steps p.tables e below (T36.setTop (mkF m 251 #[.val (.int p0), .val (.long q1), .second, .val (.long q2), .second, .val (.long q3), .second, .val (.long q4), .second, .val (.int (3 : Int32)), .val (.long ra), .second, .val (.long rb), .second, .val (.long rc), .second, .val (.long rd), .second, .val (.ref b30), .val (.long ((((4 : Int64) * ra) + ((5 : Int64) * rb)) + ((3 : Int64) * rc))), .second, .unset, .unset, .unset, .unset, .unset, .unset, .unset, .unset] [(.long (((4 : Int64) * rb) + ((5 : Int64) * rc)))])) _
      refine X36.ldc2Long hx hown (mvT hZ (hw _ (List.mem_of_getElem? (i := 29) rfl))) (g := (mkF m 251 #[.val (.int p0), .val (.long q1), .second, .val (.long q2), .second, .val (.long q3), .second, .val (.long q4), .second, .val (.int (3 : Int32)), .val (.long ra), .second, .val (.long rb), .second, .val (.long rc), .second, .val (.long rd), .second, .val (.ref b30), .val (.long ((((4 : Int64) * ra) + ((5 : Int64) * rb)) + ((3 : Int64) * rc))), .second, .unset, .unset, .unset, .unset, .unset, .unset, .unset, .unset] [(.long (((4 : Int64) * rb) + ((5 : Int64) * rc)))])) rfl (hb hby at_251) _ ?_
      show Steps p.tables e below (T36.setTop (mkF m 254 #[.val (.int p0), .val (.long q1), .second, .val (.long q2), .second, .val (.long q3), .second, .val (.long q4), .second, .val (.int (3 : Int32)), .val (.long ra), .second, .val (.long rb), .second, .val (.long rc), .second, .val (.long rd), .second, .val (.ref b30), .val (.long ((((4 : Int64) * ra) + ((5 : Int64) * rb)) + ((3 : Int64) * rc))), .second, .unset, .unset, .unset, .unset, .unset, .unset, .unset, .unset] [(.long (3 : Int64)), (.long (((4 : Int64) * rb) + ((5 : Int64) * rc)))])) _
      refine XS.lload X36.here hx rfl (hb hby at_254) rfl ?_
      show Steps p.tables e below (T36.setTop (mkF m 256 #[.val (.int p0), .val (.long q1), .second, .val (.long q2), .second, .val (.long q3), .second, .val (.long q4), .second, .val (.int (3 : Int32)), .val (.long ra), .second, .val (.long rb), .second, .val (.long rc), .second, .val (.long rd), .second, .val (.ref b30), .val (.long ((((4 : Int64) * ra) + ((5 : Int64) * rb)) + ((3 : Int64) * rc))), .second, .unset, .unset, .unset, .unset, .unset, .unset, .unset, .unset] [(.long ra), (.long (3 : Int64)), (.long (((4 : Int64) * rb) + ((5 : Int64) * rc)))])) _
      refine XS.lmul X36.here hx rfl (hb hby at_256) rfl ?_
      show Steps p.tables e below (T36.setTop (mkF m 257 #[.val (.int p0), .val (.long q1), .second, .val (.long q2), .second, .val (.long q3), .second, .val (.long q4), .second, .val (.int (3 : Int32)), .val (.long ra), .second, .val (.long rb), .second, .val (.long rc), .second, .val (.long rd), .second, .val (.ref b30), .val (.long ((((4 : Int64) * ra) + ((5 : Int64) * rb)) + ((3 : Int64) * rc))), .second, .unset, .unset, .unset, .unset, .unset, .unset, .unset, .unset] [(.long ((3 : Int64) * ra)), (.long (((4 : Int64) * rb) + ((5 : Int64) * rc)))])) _
      refine XS.ladd X36.here hx rfl (hb hby at_257) rfl ?_
      show Steps p.tables e below (T36.setTop (mkF m 258 #[.val (.int p0), .val (.long q1), .second, .val (.long q2), .second, .val (.long q3), .second, .val (.long q4), .second, .val (.int (3 : Int32)), .val (.long ra), .second, .val (.long rb), .second, .val (.long rc), .second, .val (.long rd), .second, .val (.ref b30), .val (.long ((((4 : Int64) * ra) + ((5 : Int64) * rb)) + ((3 : Int64) * rc))), .second, .unset, .unset, .unset, .unset, .unset, .unset, .unset, .unset] [(.long ((((4 : Int64) * rb) + ((5 : Int64) * rc)) + ((3 : Int64) * ra)))])) _
      refine XS.lstore X36.here hx rfl (hb hby at_258) rfl (l' := #[.val (.int p0), .val (.long q1), .second, .val (.long q2), .second, .val (.long q3), .second, .val (.long q4), .second, .val (.int (3 : Int32)), .val (.long ra), .second, .val (.long rb), .second, .val (.long rc), .second, .val (.long rd), .second, .val (.ref b30), .val (.long ((((4 : Int64) * ra) + ((5 : Int64) * rb)) + ((3 : Int64) * rc))), .second, .val (.long ((((4 : Int64) * rb) + ((5 : Int64) * rc)) + ((3 : Int64) * ra))), .second, .unset, .unset, .unset, .unset, .unset, .unset]) rfl ?_
      show Steps p.tables e below (T36.setTop (mkF m 260 #[.val (.int p0), .val (.long q1), .second, .val (.long q2), .second, .val (.long q3), .second, .val (.long q4), .second, .val (.int (3 : Int32)), .val (.long ra), .second, .val (.long rb), .second, .val (.long rc), .second, .val (.long rd), .second, .val (.ref b30), .val (.long ((((4 : Int64) * ra) + ((5 : Int64) * rb)) + ((3 : Int64) * rc))), .second, .val (.long ((((4 : Int64) * rb) + ((5 : Int64) * rc)) + ((3 : Int64) * ra))), .second, .unset, .unset, .unset, .unset, .unset, .unset] [])) _
      refine X36.ldc2Long hx hown (mvT hZ (hw _ (List.mem_of_getElem? (i := 30) rfl))) (g := (mkF m 260 #[.val (.int p0), .val (.long q1), .second, .val (.long q2), .second, .val (.long q3), .second, .val (.long q4), .second, .val (.int (3 : Int32)), .val (.long ra), .second, .val (.long rb), .second, .val (.long rc), .second, .val (.long rd), .second, .val (.ref b30), .val (.long ((((4 : Int64) * ra) + ((5 : Int64) * rb)) + ((3 : Int64) * rc))), .second, .val (.long ((((4 : Int64) * rb) + ((5 : Int64) * rc)) + ((3 : Int64) * ra))), .second, .unset, .unset, .unset, .unset, .unset, .unset] [])) rfl (hb hby at_260) _ ?_
      show Steps p.tables e below (T36.setTop (mkF m 263 #[.val (.int p0), .val (.long q1), .second, .val (.long q2), .second, .val (.long q3), .second, .val (.long q4), .second, .val (.int (3 : Int32)), .val (.long ra), .second, .val (.long rb), .second, .val (.long rc), .second, .val (.long rd), .second, .val (.ref b30), .val (.long ((((4 : Int64) * ra) + ((5 : Int64) * rb)) + ((3 : Int64) * rc))), .second, .val (.long ((((4 : Int64) * rb) + ((5 : Int64) * rc)) + ((3 : Int64) * ra))), .second, .unset, .unset, .unset, .unset, .unset, .unset] [(.long (4 : Int64))])) _
      refine XS.lload X36.here hx rfl (hb hby at_263) rfl ?_
      show Steps p.tables e below (T36.setTop (mkF m 265 #[.val (.int p0), .val (.long q1), .second, .val (.long q2), .second, .val (.long q3), .second, .val (.long q4), .second, .val (.int (3 : Int32)), .val (.long ra), .second, .val (.long rb), .second, .val (.long rc), .second, .val (.long rd), .second, .val (.ref b30), .val (.long ((((4 : Int64) * ra) + ((5 : Int64) * rb)) + ((3 : Int64) * rc))), .second, .val (.long ((((4 : Int64) * rb) + ((5 : Int64) * rc)) + ((3 : Int64) * ra))), .second, .unset, .unset, .unset, .unset, .unset, .unset] [(.long rc), (.long (4 : Int64))])) _
      refine XS.lmul X36.here hx rfl (hb hby at_265) rfl ?_
      show Steps p.tables e below (T36.setTop (mkF m 266 #[.val (.int p0), .val (.long q1), .second, .val (.long q2), .second, .val (.long q3), .second, .val (.long q4), .second, .val (.int (3 : Int32)), .val (.long ra), .second, .val (.long rb), .second, .val (.long rc), .second, .val (.long rd), .second, .val (.ref b30), .val (.long ((((4 : Int64) * ra) + ((5 : Int64) * rb)) + ((3 : Int64) * rc))), .second, .val (.long ((((4 : Int64) * rb) + ((5 : Int64) * rc)) + ((3 : Int64) * ra))), .second, .unset, .unset, .unset, .unset, .unset, .unset] [(.long ((4 : Int64) * rc))])) _
      refine X36.ldc2Long hx hown (mvT hZ (hw _ (List.mem_of_getElem? (i := 31) rfl))) (g := (mkF m 266 #[.val (.int p0), .val (.long q1), .second, .val (.long q2), .second, .val (.long q3), .second, .val (.long q4), .second, .val (.int (3 : Int32)), .val (.long ra), .second, .val (.long rb), .second, .val (.long rc), .second, .val (.long rd), .second, .val (.ref b30), .val (.long ((((4 : Int64) * ra) + ((5 : Int64) * rb)) + ((3 : Int64) * rc))), .second, .val (.long ((((4 : Int64) * rb) + ((5 : Int64) * rc)) + ((3 : Int64) * ra))), .second, .unset, .unset, .unset, .unset, .unset, .unset] [(.long ((4 : Int64) * rc))])) rfl (hb hby at_266) _ ?_
      show Steps p.tables e below (T36.setTop (mkF m 269 #[.val (.int p0), .val (.long q1), .second, .val (.long q2), .second, .val (.long q3), .second, .val (.long q4), .second, .val (.int (3 : Int32)), .val (.long ra), .second, .val (.long rb), .second, .val (.long rc), .second, .val (.long rd), .second, .val (.ref b30), .val (.long ((((4 : Int64) * ra) + ((5 : Int64) * rb)) + ((3 : Int64) * rc))), .second, .val (.long ((((4 : Int64) * rb) + ((5 : Int64) * rc)) + ((3 : Int64) * ra))), .second, .unset, .unset, .unset, .unset, .unset, .unset] [(.long (5 : Int64)), (.long ((4 : Int64) * rc))])) _
      refine XS.lload X36.here hx rfl (hb hby at_269) rfl ?_
      show Steps p.tables e below (T36.setTop (mkF m 271 #[.val (.int p0), .val (.long q1), .second, .val (.long q2), .second, .val (.long q3), .second, .val (.long q4), .second, .val (.int (3 : Int32)), .val (.long ra), .second, .val (.long rb), .second, .val (.long rc), .second, .val (.long rd), .second, .val (.ref b30), .val (.long ((((4 : Int64) * ra) + ((5 : Int64) * rb)) + ((3 : Int64) * rc))), .second, .val (.long ((((4 : Int64) * rb) + ((5 : Int64) * rc)) + ((3 : Int64) * ra))), .second, .unset, .unset, .unset, .unset, .unset, .unset] [(.long ra), (.long (5 : Int64)), (.long ((4 : Int64) * rc))])) _
      refine XS.lmul X36.here hx rfl (hb hby at_271) rfl ?_
      show Steps p.tables e below (T36.setTop (mkF m 272 #[.val (.int p0), .val (.long q1), .second, .val (.long q2), .second, .val (.long q3), .second, .val (.long q4), .second, .val (.int (3 : Int32)), .val (.long ra), .second, .val (.long rb), .second, .val (.long rc), .second, .val (.long rd), .second, .val (.ref b30), .val (.long ((((4 : Int64) * ra) + ((5 : Int64) * rb)) + ((3 : Int64) * rc))), .second, .val (.long ((((4 : Int64) * rb) + ((5 : Int64) * rc)) + ((3 : Int64) * ra))), .second, .unset, .unset, .unset, .unset, .unset, .unset] [(.long ((5 : Int64) * ra)), (.long ((4 : Int64) * rc))])) _
      refine XS.ladd X36.here hx rfl (hb hby at_272) rfl ?_
      show Steps p.tables e below (T36.setTop (mkF m 273 #[.val (.int p0), .val (.long q1), .second, .val (.long q2), .second, .val (.long q3), .second, .val (.long q4), .second, .val (.int (3 : Int32)), .val (.long ra), .second, .val (.long rb), .second, .val (.long rc), .second, .val (.long rd), .second, .val (.ref b30), .val (.long ((((4 : Int64) * ra) + ((5 : Int64) * rb)) + ((3 : Int64) * rc))), .second, .val (.long ((((4 : Int64) * rb) + ((5 : Int64) * rc)) + ((3 : Int64) * ra))), .second, .unset, .unset, .unset, .unset, .unset, .unset] [(.long (((4 : Int64) * rc) + ((5 : Int64) * ra)))])) _
      refine X36.ldc2Long hx hown (mvT hZ (hw _ (List.mem_of_getElem? (i := 29) rfl))) (g := (mkF m 273 #[.val (.int p0), .val (.long q1), .second, .val (.long q2), .second, .val (.long q3), .second, .val (.long q4), .second, .val (.int (3 : Int32)), .val (.long ra), .second, .val (.long rb), .second, .val (.long rc), .second, .val (.long rd), .second, .val (.ref b30), .val (.long ((((4 : Int64) * ra) + ((5 : Int64) * rb)) + ((3 : Int64) * rc))), .second, .val (.long ((((4 : Int64) * rb) + ((5 : Int64) * rc)) + ((3 : Int64) * ra))), .second, .unset, .unset, .unset, .unset, .unset, .unset] [(.long (((4 : Int64) * rc) + ((5 : Int64) * ra)))])) rfl (hb hby at_273) _ ?_
      show Steps p.tables e below (T36.setTop (mkF m 276 #[.val (.int p0), .val (.long q1), .second, .val (.long q2), .second, .val (.long q3), .second, .val (.long q4), .second, .val (.int (3 : Int32)), .val (.long ra), .second, .val (.long rb), .second, .val (.long rc), .second, .val (.long rd), .second, .val (.ref b30), .val (.long ((((4 : Int64) * ra) + ((5 : Int64) * rb)) + ((3 : Int64) * rc))), .second, .val (.long ((((4 : Int64) * rb) + ((5 : Int64) * rc)) + ((3 : Int64) * ra))), .second, .unset, .unset, .unset, .unset, .unset, .unset] [(.long (3 : Int64)), (.long (((4 : Int64) * rc) + ((5 : Int64) * ra)))])) _
      refine XS.lload X36.here hx rfl (hb hby at_276) rfl ?_
      show Steps p.tables e below (T36.setTop (mkF m 278 #[.val (.int p0), .val (.long q1), .second, .val (.long q2), .second, .val (.long q3), .second, .val (.long q4), .second, .val (.int (3 : Int32)), .val (.long ra), .second, .val (.long rb), .second, .val (.long rc), .second, .val (.long rd), .second, .val (.ref b30), .val (.long ((((4 : Int64) * ra) + ((5 : Int64) * rb)) + ((3 : Int64) * rc))), .second, .val (.long ((((4 : Int64) * rb) + ((5 : Int64) * rc)) + ((3 : Int64) * ra))), .second, .unset, .unset, .unset, .unset, .unset, .unset] [(.long rb), (.long (3 : Int64)), (.long (((4 : Int64) * rc) + ((5 : Int64) * ra)))])) _
      refine XS.lmul X36.here hx rfl (hb hby at_278) rfl ?_
      show Steps p.tables e below (T36.setTop (mkF m 279 #[.val (.int p0), .val (.long q1), .second, .val (.long q2), .second, .val (.long q3), .second, .val (.long q4), .second, .val (.int (3 : Int32)), .val (.long ra), .second, .val (.long rb), .second, .val (.long rc), .second, .val (.long rd), .second, .val (.ref b30), .val (.long ((((4 : Int64) * ra) + ((5 : Int64) * rb)) + ((3 : Int64) * rc))), .second, .val (.long ((((4 : Int64) * rb) + ((5 : Int64) * rc)) + ((3 : Int64) * ra))), .second, .unset, .unset, .unset, .unset, .unset, .unset] [(.long ((3 : Int64) * rb)), (.long (((4 : Int64) * rc) + ((5 : Int64) * ra)))])) _
      refine XS.ladd X36.here hx rfl (hb hby at_279) rfl ?_
      show Steps p.tables e below (T36.setTop (mkF m 280 #[.val (.int p0), .val (.long q1), .second, .val (.long q2), .second, .val (.long q3), .second, .val (.long q4), .second, .val (.int (3 : Int32)), .val (.long ra), .second, .val (.long rb), .second, .val (.long rc), .second, .val (.long rd), .second, .val (.ref b30), .val (.long ((((4 : Int64) * ra) + ((5 : Int64) * rb)) + ((3 : Int64) * rc))), .second, .val (.long ((((4 : Int64) * rb) + ((5 : Int64) * rc)) + ((3 : Int64) * ra))), .second, .unset, .unset, .unset, .unset, .unset, .unset] [(.long ((((4 : Int64) * rc) + ((5 : Int64) * ra)) + ((3 : Int64) * rb)))])) _
      refine XS.lstore X36.here hx rfl (hb hby at_280) rfl (l' := #[.val (.int p0), .val (.long q1), .second, .val (.long q2), .second, .val (.long q3), .second, .val (.long q4), .second, .val (.int (3 : Int32)), .val (.long ra), .second, .val (.long rb), .second, .val (.long rc), .second, .val (.long rd), .second, .val (.ref b30), .val (.long ((((4 : Int64) * ra) + ((5 : Int64) * rb)) + ((3 : Int64) * rc))), .second, .val (.long ((((4 : Int64) * rb) + ((5 : Int64) * rc)) + ((3 : Int64) * ra))), .second, .val (.long ((((4 : Int64) * rc) + ((5 : Int64) * ra)) + ((3 : Int64) * rb))), .second, .unset, .unset, .unset, .unset]) rfl ?_
      show Steps p.tables e below (T36.setTop (mkF m 282 #[.val (.int p0), .val (.long q1), .second, .val (.long q2), .second, .val (.long q3), .second, .val (.long q4), .second, .val (.int (3 : Int32)), .val (.long ra), .second, .val (.long rb), .second, .val (.long rc), .second, .val (.long rd), .second, .val (.ref b30), .val (.long ((((4 : Int64) * ra) + ((5 : Int64) * rb)) + ((3 : Int64) * rc))), .second, .val (.long ((((4 : Int64) * rb) + ((5 : Int64) * rc)) + ((3 : Int64) * ra))), .second, .val (.long ((((4 : Int64) * rc) + ((5 : Int64) * ra)) + ((3 : Int64) * rb))), .second, .unset, .unset, .unset, .unset] [])) _
      refine XS.lconst X36.here hx rfl (hb hby at_282) ?_
      show Steps p.tables e below (T36.setTop (mkF m 283 #[.val (.int p0), .val (.long q1), .second, .val (.long q2), .second, .val (.long q3), .second, .val (.long q4), .second, .val (.int (3 : Int32)), .val (.long ra), .second, .val (.long rb), .second, .val (.long rc), .second, .val (.long rd), .second, .val (.ref b30), .val (.long ((((4 : Int64) * ra) + ((5 : Int64) * rb)) + ((3 : Int64) * rc))), .second, .val (.long ((((4 : Int64) * rb) + ((5 : Int64) * rc)) + ((3 : Int64) * ra))), .second, .val (.long ((((4 : Int64) * rc) + ((5 : Int64) * ra)) + ((3 : Int64) * rb))), .second, .unset, .unset, .unset, .unset] [(.long (0 : Int64))])) _
      refine XS.lstore X36.here hx rfl (hb hby at_283) rfl (l' := #[.val (.int p0), .val (.long q1), .second, .val (.long q2), .second, .val (.long q3), .second, .val (.long q4), .second, .val (.int (3 : Int32)), .val (.long ra), .second, .val (.long rb), .second, .val (.long rc), .second, .val (.long rd), .second, .val (.ref b30), .val (.long ((((4 : Int64) * ra) + ((5 : Int64) * rb)) + ((3 : Int64) * rc))), .second, .val (.long ((((4 : Int64) * rb) + ((5 : Int64) * rc)) + ((3 : Int64) * ra))), .second, .val (.long ((((4 : Int64) * rc) + ((5 : Int64) * ra)) + ((3 : Int64) * rb))), .second, .val (.long (0 : Int64)), .second, .unset, .unset]) rfl ?_
      show Steps p.tables e below (T36.setTop (mkF m 285 #[.val (.int p0), .val (.long q1), .second, .val (.long q2), .second, .val (.long q3), .second, .val (.long q4), .second, .val (.int (3 : Int32)), .val (.long ra), .second, .val (.long rb), .second, .val (.long rc), .second, .val (.long rd), .second, .val (.ref b30), .val (.long ((((4 : Int64) * ra) + ((5 : Int64) * rb)) + ((3 : Int64) * rc))), .second, .val (.long ((((4 : Int64) * rb) + ((5 : Int64) * rc)) + ((3 : Int64) * ra))), .second, .val (.long ((((4 : Int64) * rc) + ((5 : Int64) * ra)) + ((3 : Int64) * rb))), .second, .val (.long (0 : Int64)), .second, .unset, .unset] [])) _
      refine XS.goto X36.here hx rfl (pc0 := 285) (pc' := 345) rfl (hb hby at_285) (by decide) (by decide) ?_
      show Steps p.tables e below (T36.setTop (mkF m 345 #[.val (.int p0), .val (.long q1), .second, .val (.long q2), .second, .val (.long q3), .second, .val (.long q4), .second, .val (.int (3 : Int32)), .val (.long ra), .second, .val (.long rb), .second, .val (.long rc), .second, .val (.long rd), .second, .val (.ref b30), .val (.long ((((4 : Int64) * ra) + ((5 : Int64) * rb)) + ((3 : Int64) * rc))), .second, .val (.long ((((4 : Int64) * rb) + ((5 : Int64) * rc)) + ((3 : Int64) * ra))), .second, .val (.long ((((4 : Int64) * rc) + ((5 : Int64) * ra)) + ((3 : Int64) * rb))), .second, .val (.long (0 : Int64)), .second, .unset, .unset] [])) _
      exact k
    obtain ⟨v0, hv0⟩ : ∃ z : Int64, z = ((((4 : Int64) * ra) + ((5 : Int64) * rb)) + ((3 : Int64) * rc)) := ⟨_, rfl⟩
    rw [← hv0] at pre37
    obtain ⟨v1, hv1⟩ : ∃ z : Int64, z = ((((4 : Int64) * rb) + ((5 : Int64) * rc)) + ((3 : Int64) * ra)) := ⟨_, rfl⟩
    rw [← hv1] at pre37
    obtain ⟨v2, hv2⟩ : ∃ z : Int64, z = ((((4 : Int64) * rc) + ((5 : Int64) * ra)) + ((3 : Int64) * rb)) := ⟨_, rfl⟩
    rw [← hv2] at pre37
    obtain ⟨_, _, ⟨T38, L38, k38, n38⟩, -, X38, ⟨Lc38, hQ38, l38, y38, z38⟩, st38⟩ := Jvm.LawKit.callS X36 hx (y := (⟨"com/example/hummingbird/hummingbird/engine/RhythmLeastWaitingPointPinLaw", "earliestLeast", "(IJJJJ)I"⟩ : MethodName)) hown (mvT hZ (hw _ (List.mem_of_getElem? (i := 2) rfl))) (mvT hZ (hw _ (List.mem_of_getElem? (i := 3) rfl))) (mvT hZ (hw _ (List.mem_of_getElem? (i := 4) rfl))) (mvT hZ (hw _ (List.mem_of_getElem? (i := 5) rfl))) (by decide) (backOf (W := 0) (rmE3 l Z a0 hw [] v0 v1 v2 (0 : Int64)  h36 n0 (Nat.le_trans (Nat.le_trans (Nat.le_trans (Nat.le_trans Z0 E30.1) (Keep.of_wr W32).1) (Keep.of_wr W34).1) (Keep.of_wr W36).1) ) hZ (hw _ (List.mem_of_getElem? (i := 5) rfl)) (hw _ (List.mem_of_getElem? (i := 4) rfl)) (by decide) (by decide)) (g := (mkF m 355 #[.val (.int p0), .val (.long q1), .second, .val (.long q2), .second, .val (.long q3), .second, .val (.long q4), .second, .val (.int (3 : Int32)), .val (.long ra), .second, .val (.long rb), .second, .val (.long rc), .second, .val (.long rd), .second, .val (.ref b30), .val (.long v0), .second, .val (.long v1), .second, .val (.long v2), .second, .val (.long (0 : Int64)), .second, .unset, .unset] [(.long (0 : Int64)), (.long v2), (.long v1), (.long v0), (.int (3 : Int32))])) rfl (by rw [hml]; rfl) (argsL := [(.int (3 : Int32)), (.long v0), (.long v1), (.long v2), (.long (0 : Int64))]) (rest := []) (lenOf pd_1 rfl) rfl (by show 2 * 0 + _ ≤ _; exact Nat.le_of_eq rfl) (hb hby at_355) (fun _ _ => ⟨rfl, e36, (by decide : 1 + 0 ≤ _), (by decide : 3 + 0 ≤ _)⟩)
    dsimp only [Pt.U, Pt.locs, Pt.cells, Pt.slots] at X38 l38 y38 z38 st38 hQ38
    subst l38 y38 z38
    obtain ⟨rfl, N38q, hq38⟩ := hQ38
    have N38 := Fr.app N36 N38q
    obtain ⟨T39, h39, X39, e39, E39, A39, D39, -, st39⟩ := newO X38 hx hZ hown (hw _ (List.mem_of_getElem? (i := 6) rfl)) (hw _ (List.mem_of_getElem? (i := 7) rfl)) (hw _ (List.mem_of_getElem? (i := 8) rfl)) hq38 (g := (mkF m 360 #[.val (.int p0), .val (.long q1), .second, .val (.long q2), .second, .val (.long q3), .second, .val (.long q4), .second, .val (.int (3 : Int32)), .val (.long ra), .second, .val (.long rb), .second, .val (.long rc), .second, .val (.long rd), .second, .val (.ref b30), .val (.long v0), .second, .val (.long v1), .second, .val (.long v2), .second, .val (.long (0 : Int64)), .second, .val (.int (own_e (3 : Int32) v0 v1 v2 (0 : Int64))), .unset] [])) rfl (hb hby at_360) (by decide) (by decide)
    obtain ⟨b39, g39⟩ : ∃ z, z = h36.size := ⟨_, rfl⟩
    rw [← g39] at A39 D39 st39
    have F39_points : Fld Z h39 b39 "com/example/hummingbird/hummingbird/engine/Rhythm" "points" "I" (.int (0 : Int32)) := D39 (Or.inr (hw _ (List.mem_of_getElem? (i := 16) rfl))) (ty := .int) (by decide)
    have F39_rates : Fld Z h39 b39 "com/example/hummingbird/hummingbird/engine/Rhythm" "rates" "[J" .null := D39 (Or.inr (hw _ (List.mem_of_getElem? (i := 18) rfl))) (ty := (.array .long)) (by decide)
    have g_b39 : n0 ≤ b39 := Nat.le_trans (Nat.le_trans (Nat.le_trans (Nat.le_trans (Nat.le_trans Z0 E30.1) (Keep.of_wr W32).1) (Keep.of_wr W34).1) (Keep.of_wr W36).1) (Nat.le_of_eq g39.symm)
    have sz_b39 : h0.size ≤ b39 := (Nat.le_trans K36.1 (Nat.le_of_eq g39.symm))
    have K39 : Keep h0 h39 [] := K36.ext E39
    obtain ⟨cl40, Ar40, q40, S40, M40, H40, G40⟩ := (V36.ext E39)
    obtain ⟨_, _, ⟨T41, L41, k41, n41⟩, -, X41, ⟨Lc41, hQ41, l41, y41, z41⟩, st41⟩ := X39.specialBack hx (y := (⟨"com/example/hummingbird/hummingbird/engine/Rhythm", "<init>", "([J)V"⟩ : MethodName)) rfl hown (mvT hZ (hw _ (List.mem_of_getElem? (i := 9) rfl))) (mvT hZ (hw _ (List.mem_of_getElem? (i := 10) rfl))) (mvT hZ (hw _ (List.mem_of_getElem? (i := 11) rfl))) (by decide) (backOf (W := 1) (rmI l Z a0 hw [] b39 b30 cl40 (3 : Int32) h39 n0 (Nat.le_trans (Nat.le_trans (Nat.le_trans (Nat.le_trans (Nat.le_trans Z0 E30.1) (Keep.of_wr W32).1) (Keep.of_wr W34).1) (Keep.of_wr W36).1) E39.1) F39_points F39_rates A39 g_b39 Ar40 S40 M40) hZ (hw _ (List.mem_of_getElem? (i := 11) rfl)) (hw _ (List.mem_of_getElem? (i := 8) rfl)) (by decide) (by decide)) (g := (mkF m 366 #[.val (.int p0), .val (.long q1), .second, .val (.long q2), .second, .val (.long q3), .second, .val (.long q4), .second, .val (.int (3 : Int32)), .val (.long ra), .second, .val (.long rb), .second, .val (.long rc), .second, .val (.long rd), .second, .val (.ref b30), .val (.long v0), .second, .val (.long v1), .second, .val (.long v2), .second, .val (.long (0 : Int64)), .second, .val (.int (own_e (3 : Int32) v0 v1 v2 (0 : Int64))), .unset] [(.ref b30), (.ref b39), (.ref b39)])) rfl (by rw [hml]; rfl) (Steps.refl _) (a := b39) (argsL := [(.ref b30)]) (rest := [(.ref b39)]) (lenOf pd_2 rfl) rfl (by show 2 * 0 + _ ≤ _; exact Nat.le_of_eq rfl) (hb hby at_366) (fun _ _ => ⟨rfl, e39, (by decide : 2 + 0 ≤ _), (by decide : 7 + 0 ≤ _)⟩)
    dsimp only [Pt.U, Pt.locs, Pt.cells, Pt.slots] at X41 l41 y41 z41 st41 hQ41
    subst l41 y41 z41
    obtain ⟨rfl, N41q, Kq41, Eq41, F1q41, F2q41⟩ := hQ41
    have N41 := Fr.app N38 N41q
    have K41 : Keep h0 T41.heap [] := K39.trans Kq41 (allS (Or.inr sz_b39) all0)
    obtain ⟨cl42, Ar42, q42, S42, M42, H42, G42⟩ := ((V36.ext E39).keep Kq41 (ninS (Nat.ne_of_lt (Nat.lt_of_lt_of_le V36.lt (Nat.le_of_eq g39.symm))) nin0))
    have t0 : cl42.slots[0]? = some (.long ra) := H42 0 (by rw [S42]; decide)
    have t1 : cl42.slots[1]? = some (.long rb) := H42 1 (by rw [S42]; decide)
    have t2 : cl42.slots[2]? = some (.long rc) := H42 2 (by rw [S42]; decide)
    obtain ⟨cq43, kq43, q43a, q43b, q43c⟩ := isOf hZ rfl Eq41
    obtain ⟨_, _, ⟨T43, L43, k43, n43⟩, -, X43, ⟨Lc43, hQ43, l43, y43, z43⟩, st43⟩ := X41.virtualBack hx (y := (⟨"com/example/hummingbird/hummingbird/engine/Rhythm", "leastWaitingPoint", "()I"⟩ : MethodName)) (z := (⟨"com/example/hummingbird/hummingbird/engine/Rhythm", "leastWaitingPoint", "()I"⟩ : MethodName)) hown (mvT hZ (hw _ (List.mem_of_getElem? (i := 19) rfl))) (mvT hZ (hw _ (List.mem_of_getElem? (i := 20) rfl))) (notFace_of_selects (args := #[]) (mvT hZ (hw _ (List.mem_of_getElem? (i := 22) rfl)))) (mvT hZ (hw _ (List.mem_of_getElem? (i := 22) rfl))) (mvT hZ (hw _ (List.mem_of_getElem? (i := 21) rfl))) (by decide) (backOf (W := 0) (rmL3 l Z a0 hw [] b39 b30 cl42 ra rb rc T41.heap n0 (Nat.le_trans (Nat.le_trans (Nat.le_trans (Nat.le_trans (Nat.le_trans (Nat.le_trans Z0 E30.1) (Keep.of_wr W32).1) (Keep.of_wr W34).1) (Keep.of_wr W36).1) E39.1) Kq41.1) Eq41 F1q41 F2q41 Ar42 S42 t0 t1 t2) hZ (hw _ (List.mem_of_getElem? (i := 23) rfl)) (hw _ (List.mem_of_getElem? (i := 8) rfl)) (by decide) (by decide)) q43a q43c (g := (mkF m 369 #[.val (.int p0), .val (.long q1), .second, .val (.long q2), .second, .val (.long q3), .second, .val (.long q4), .second, .val (.int (3 : Int32)), .val (.long ra), .second, .val (.long rb), .second, .val (.long rc), .second, .val (.long rd), .second, .val (.ref b30), .val (.long v0), .second, .val (.long v1), .second, .val (.long v2), .second, .val (.long (0 : Int64)), .second, .val (.int (own_e (3 : Int32) v0 v1 v2 (0 : Int64))), .unset] [(.ref b39)])) rfl (by rw [hml]; rfl) (Steps.refl _) (argsL := []) (rest := []) (lenOf pd_3 rfl) rfl (by show 2 * 0 + _ ≤ _; exact Nat.le_of_eq rfl) (hb hby at_369) (fun _ _ => ⟨rfl, rfl, (by decide : 2 + 0 ≤ _), (by decide : 7 + 0 ≤ _)⟩)
    dsimp only [Pt.U, Pt.locs, Pt.cells, Pt.slots] at X43 l43 y43 z43 st43 hQ43
    subst l43 y43 z43
    obtain ⟨rfl, N43q, hq43⟩ := hQ43
    have N43 := Fr.app N41 N43q
    have pre44 : ∀ t, Steps p.tables e below (T43.setTop (mkF m 386 #[.val (.int p0), .val (.long q1), .second, .val (.long q2), .second, .val (.long q3), .second, .val (.long q4), .second, .val (.int (3 : Int32)), .val (.long ra), .second, .val (.long rb), .second, .val (.long rc), .second, .val (.long rd), .second, .val (.ref b30), .val (.long v0), .second, .val (.long v1), .second, .val (.long v2), .second, .val (.long (0 : Int64)), .second, .val (.int (own_e (3 : Int32) v0 v1 v2 (0 : Int64))), .val (.int (own_l3 ra rb rc))] [(.int (1 : Int32))])) t → Steps p.tables e below (s₁.setTop (entryFrame m #[(.int p0), (.long q1), (.long q2), (.long q3), (.long q4)] maxLocals)) t := by
      intro t k
      refine pre37 t ?_
      show Steps p.tables e below (T36.setTop (mkF m 345 #[.val (.int p0), .val (.long q1), .second, .val (.long q2), .second, .val (.long q3), .second, .val (.long q4), .second, .val (.int (3 : Int32)), .val (.long ra), .second, .val (.long rb), .second, .val (.long rc), .second, .val (.long rd), .second, .val (.ref b30), .val (.long v0), .second, .val (.long v1), .second, .val (.long v2), .second, .val (.long (0 : Int64)), .second, .unset, .unset] [])) _
      refine XS.iload X36.here hx rfl (hb hby at_345) rfl ?_
      show Steps p.tables e below (T36.setTop (mkF m 347 #[.val (.int p0), .val (.long q1), .second, .val (.long q2), .second, .val (.long q3), .second, .val (.long q4), .second, .val (.int (3 : Int32)), .val (.long ra), .second, .val (.long rb), .second, .val (.long rc), .second, .val (.long rd), .second, .val (.ref b30), .val (.long v0), .second, .val (.long v1), .second, .val (.long v2), .second, .val (.long (0 : Int64)), .second, .unset, .unset] [(.int (3 : Int32))])) _
      refine XS.lload X36.here hx rfl (hb hby at_347) rfl ?_
      show Steps p.tables e below (T36.setTop (mkF m 349 #[.val (.int p0), .val (.long q1), .second, .val (.long q2), .second, .val (.long q3), .second, .val (.long q4), .second, .val (.int (3 : Int32)), .val (.long ra), .second, .val (.long rb), .second, .val (.long rc), .second, .val (.long rd), .second, .val (.ref b30), .val (.long v0), .second, .val (.long v1), .second, .val (.long v2), .second, .val (.long (0 : Int64)), .second, .unset, .unset] [(.long v0), (.int (3 : Int32))])) _
      refine XS.lload X36.here hx rfl (hb hby at_349) rfl ?_
      show Steps p.tables e below (T36.setTop (mkF m 351 #[.val (.int p0), .val (.long q1), .second, .val (.long q2), .second, .val (.long q3), .second, .val (.long q4), .second, .val (.int (3 : Int32)), .val (.long ra), .second, .val (.long rb), .second, .val (.long rc), .second, .val (.long rd), .second, .val (.ref b30), .val (.long v0), .second, .val (.long v1), .second, .val (.long v2), .second, .val (.long (0 : Int64)), .second, .unset, .unset] [(.long v1), (.long v0), (.int (3 : Int32))])) _
      refine XS.lload X36.here hx rfl (hb hby at_351) rfl ?_
      show Steps p.tables e below (T36.setTop (mkF m 353 #[.val (.int p0), .val (.long q1), .second, .val (.long q2), .second, .val (.long q3), .second, .val (.long q4), .second, .val (.int (3 : Int32)), .val (.long ra), .second, .val (.long rb), .second, .val (.long rc), .second, .val (.long rd), .second, .val (.ref b30), .val (.long v0), .second, .val (.long v1), .second, .val (.long v2), .second, .val (.long (0 : Int64)), .second, .unset, .unset] [(.long v2), (.long v1), (.long v0), (.int (3 : Int32))])) _
      refine XS.lload X36.here hx rfl (hb hby at_353) rfl ?_
      show Steps p.tables e below (T36.setTop (mkF m 355 #[.val (.int p0), .val (.long q1), .second, .val (.long q2), .second, .val (.long q3), .second, .val (.long q4), .second, .val (.int (3 : Int32)), .val (.long ra), .second, .val (.long rb), .second, .val (.long rc), .second, .val (.long rd), .second, .val (.ref b30), .val (.long v0), .second, .val (.long v1), .second, .val (.long v2), .second, .val (.long (0 : Int64)), .second, .unset, .unset] [(.long (0 : Int64)), (.long v2), (.long v1), (.long v0), (.int (3 : Int32))])) _
      refine st38 _ ?_
      show Steps p.tables e below (T38.setTop (mkF m 358 #[.val (.int p0), .val (.long q1), .second, .val (.long q2), .second, .val (.long q3), .second, .val (.long q4), .second, .val (.int (3 : Int32)), .val (.long ra), .second, .val (.long rb), .second, .val (.long rc), .second, .val (.long rd), .second, .val (.ref b30), .val (.long v0), .second, .val (.long v1), .second, .val (.long v2), .second, .val (.long (0 : Int64)), .second, .unset, .unset] [(.int (own_e (3 : Int32) v0 v1 v2 (0 : Int64)))])) _
      refine XS.istore X38.here hx rfl (hb hby at_358) rfl (l' := #[.val (.int p0), .val (.long q1), .second, .val (.long q2), .second, .val (.long q3), .second, .val (.long q4), .second, .val (.int (3 : Int32)), .val (.long ra), .second, .val (.long rb), .second, .val (.long rc), .second, .val (.long rd), .second, .val (.ref b30), .val (.long v0), .second, .val (.long v1), .second, .val (.long v2), .second, .val (.long (0 : Int64)), .second, .val (.int (own_e (3 : Int32) v0 v1 v2 (0 : Int64))), .unset]) rfl ?_
      show Steps p.tables e below (T38.setTop (mkF m 360 #[.val (.int p0), .val (.long q1), .second, .val (.long q2), .second, .val (.long q3), .second, .val (.long q4), .second, .val (.int (3 : Int32)), .val (.long ra), .second, .val (.long rb), .second, .val (.long rc), .second, .val (.long rd), .second, .val (.ref b30), .val (.long v0), .second, .val (.long v1), .second, .val (.long v2), .second, .val (.long (0 : Int64)), .second, .val (.int (own_e (3 : Int32) v0 v1 v2 (0 : Int64))), .unset] [])) _
      refine st39 _ ?_
      show Steps p.tables e below (T39.setTop (mkF m 363 #[.val (.int p0), .val (.long q1), .second, .val (.long q2), .second, .val (.long q3), .second, .val (.long q4), .second, .val (.int (3 : Int32)), .val (.long ra), .second, .val (.long rb), .second, .val (.long rc), .second, .val (.long rd), .second, .val (.ref b30), .val (.long v0), .second, .val (.long v1), .second, .val (.long v2), .second, .val (.long (0 : Int64)), .second, .val (.int (own_e (3 : Int32) v0 v1 v2 (0 : Int64))), .unset] [(.ref b39)])) _
      refine XS.dup X39.here hx rfl (hb hby at_363) rfl rfl ?_
      show Steps p.tables e below (T39.setTop (mkF m 364 #[.val (.int p0), .val (.long q1), .second, .val (.long q2), .second, .val (.long q3), .second, .val (.long q4), .second, .val (.int (3 : Int32)), .val (.long ra), .second, .val (.long rb), .second, .val (.long rc), .second, .val (.long rd), .second, .val (.ref b30), .val (.long v0), .second, .val (.long v1), .second, .val (.long v2), .second, .val (.long (0 : Int64)), .second, .val (.int (own_e (3 : Int32) v0 v1 v2 (0 : Int64))), .unset] [(.ref b39), (.ref b39)])) _
      refine XS.aload X39.here hx rfl (hb hby at_364) rfl (rfl) ?_
      show Steps p.tables e below (T39.setTop (mkF m 366 #[.val (.int p0), .val (.long q1), .second, .val (.long q2), .second, .val (.long q3), .second, .val (.long q4), .second, .val (.int (3 : Int32)), .val (.long ra), .second, .val (.long rb), .second, .val (.long rc), .second, .val (.long rd), .second, .val (.ref b30), .val (.long v0), .second, .val (.long v1), .second, .val (.long v2), .second, .val (.long (0 : Int64)), .second, .val (.int (own_e (3 : Int32) v0 v1 v2 (0 : Int64))), .unset] [(.ref b30), (.ref b39), (.ref b39)])) _
      refine st41.trans ?_
      show Steps p.tables e below (T41.setTop (mkF m 369 #[.val (.int p0), .val (.long q1), .second, .val (.long q2), .second, .val (.long q3), .second, .val (.long q4), .second, .val (.int (3 : Int32)), .val (.long ra), .second, .val (.long rb), .second, .val (.long rc), .second, .val (.long rd), .second, .val (.ref b30), .val (.long v0), .second, .val (.long v1), .second, .val (.long v2), .second, .val (.long (0 : Int64)), .second, .val (.int (own_e (3 : Int32) v0 v1 v2 (0 : Int64))), .unset] [(.ref b39)])) _
      refine st43.trans ?_
      show Steps p.tables e below (T43.setTop (mkF m 372 #[.val (.int p0), .val (.long q1), .second, .val (.long q2), .second, .val (.long q3), .second, .val (.long q4), .second, .val (.int (3 : Int32)), .val (.long ra), .second, .val (.long rb), .second, .val (.long rc), .second, .val (.long rd), .second, .val (.ref b30), .val (.long v0), .second, .val (.long v1), .second, .val (.long v2), .second, .val (.long (0 : Int64)), .second, .val (.int (own_e (3 : Int32) v0 v1 v2 (0 : Int64))), .unset] [(.int (own_l3 ra rb rc))])) _
      refine XS.istore X43.here hx rfl (hb hby at_372) rfl (l' := #[.val (.int p0), .val (.long q1), .second, .val (.long q2), .second, .val (.long q3), .second, .val (.long q4), .second, .val (.int (3 : Int32)), .val (.long ra), .second, .val (.long rb), .second, .val (.long rc), .second, .val (.long rd), .second, .val (.ref b30), .val (.long v0), .second, .val (.long v1), .second, .val (.long v2), .second, .val (.long (0 : Int64)), .second, .val (.int (own_e (3 : Int32) v0 v1 v2 (0 : Int64))), .val (.int (own_l3 ra rb rc))]) rfl ?_
      show Steps p.tables e below (T43.setTop (mkF m 374 #[.val (.int p0), .val (.long q1), .second, .val (.long q2), .second, .val (.long q3), .second, .val (.long q4), .second, .val (.int (3 : Int32)), .val (.long ra), .second, .val (.long rb), .second, .val (.long rc), .second, .val (.long rd), .second, .val (.ref b30), .val (.long v0), .second, .val (.long v1), .second, .val (.long v2), .second, .val (.long (0 : Int64)), .second, .val (.int (own_e (3 : Int32) v0 v1 v2 (0 : Int64))), .val (.int (own_l3 ra rb rc))] [])) _
      refine XS.iload X43.here hx rfl (hb hby at_374) rfl ?_
      show Steps p.tables e below (T43.setTop (mkF m 376 #[.val (.int p0), .val (.long q1), .second, .val (.long q2), .second, .val (.long q3), .second, .val (.long q4), .second, .val (.int (3 : Int32)), .val (.long ra), .second, .val (.long rb), .second, .val (.long rc), .second, .val (.long rd), .second, .val (.ref b30), .val (.long v0), .second, .val (.long v1), .second, .val (.long v2), .second, .val (.long (0 : Int64)), .second, .val (.int (own_e (3 : Int32) v0 v1 v2 (0 : Int64))), .val (.int (own_l3 ra rb rc))] [(.int (own_l3 ra rb rc))])) _
      refine XS.iload X43.here hx rfl (hb hby at_376) rfl ?_
      show Steps p.tables e below (T43.setTop (mkF m 378 #[.val (.int p0), .val (.long q1), .second, .val (.long q2), .second, .val (.long q3), .second, .val (.long q4), .second, .val (.int (3 : Int32)), .val (.long ra), .second, .val (.long rb), .second, .val (.long rc), .second, .val (.long rd), .second, .val (.ref b30), .val (.long v0), .second, .val (.long v1), .second, .val (.long v2), .second, .val (.long (0 : Int64)), .second, .val (.int (own_e (3 : Int32) v0 v1 v2 (0 : Int64))), .val (.int (own_l3 ra rb rc))] [(.int (own_e (3 : Int32) v0 v1 v2 (0 : Int64))), (.int (own_l3 ra rb rc))])) _
      refine XS.icmpNo X43.here hx rfl (hb hby at_378) rfl (teq (own_law3 bra brb brc hv0 hv1 hv2)).2 ?_
      show Steps p.tables e below (T43.setTop (mkF m 381 #[.val (.int p0), .val (.long q1), .second, .val (.long q2), .second, .val (.long q3), .second, .val (.long q4), .second, .val (.int (3 : Int32)), .val (.long ra), .second, .val (.long rb), .second, .val (.long rc), .second, .val (.long rd), .second, .val (.ref b30), .val (.long v0), .second, .val (.long v1), .second, .val (.long v2), .second, .val (.long (0 : Int64)), .second, .val (.int (own_e (3 : Int32) v0 v1 v2 (0 : Int64))), .val (.int (own_l3 ra rb rc))] [])) _
      refine XS.iconst X43.here hx rfl (hb hby at_381) ?_
      show Steps p.tables e below (T43.setTop (mkF m 382 #[.val (.int p0), .val (.long q1), .second, .val (.long q2), .second, .val (.long q3), .second, .val (.long q4), .second, .val (.int (3 : Int32)), .val (.long ra), .second, .val (.long rb), .second, .val (.long rc), .second, .val (.long rd), .second, .val (.ref b30), .val (.long v0), .second, .val (.long v1), .second, .val (.long v2), .second, .val (.long (0 : Int64)), .second, .val (.int (own_e (3 : Int32) v0 v1 v2 (0 : Int64))), .val (.int (own_l3 ra rb rc))] [(.int (1 : Int32))])) _
      refine XS.goto X43.here hx rfl (pc0 := 382) (pc' := 386) rfl (hb hby at_382) (by decide) (by decide) ?_
      show Steps p.tables e below (T43.setTop (mkF m 386 #[.val (.int p0), .val (.long q1), .second, .val (.long q2), .second, .val (.long q3), .second, .val (.long q4), .second, .val (.int (3 : Int32)), .val (.long ra), .second, .val (.long rb), .second, .val (.long rc), .second, .val (.long rd), .second, .val (.ref b30), .val (.long v0), .second, .val (.long v1), .second, .val (.long v2), .second, .val (.long (0 : Int64)), .second, .val (.int (own_e (3 : Int32) v0 v1 v2 (0 : Int64))), .val (.int (own_l3 ra rb rc))] [(.int (1 : Int32))])) _
      exact k
    obtain ⟨fs, hr, hrun, hended, hW, hsame⟩ := X43.leave (v := some (.int (1 : Int32))) (fun h => by rw [Bd.returns] at h; cases h)
    refine ⟨_, _, pre44 _ ?_, hrun, hended, _, _, rfl, ?_, ⟨_, rfl⟩, hW, hsame.mono (by decide) (by decide)⟩
    · exact retN X43 hx (t := .boolean) Bd.returns (by simp) (hb hby at_386) hr
    · show Q_rm0 Z p0 q1 q2 q3 q4 h0 n0 _ T43.heap _
      rw [hq43]
      exact ⟨rfl, N43⟩
  · skip
    obtain ⟨T45, h45, k45, X45, e45, E45, A45, st45⟩ := newP X0 hx hZ (hw _ (List.mem_of_getElem? (i := 1) rfl)) e0 (g := (mkF m 39 #[.val (.int p0), .val (.long q1), .second, .val (.long q2), .second, .val (.long q3), .second, .val (.long q4), .second, .val (.int (4 : Int32)), .val (.long ra), .second, .val (.long rb), .second, .val (.long rc), .second, .val (.long rd), .second, .unset, .unset, .unset, .unset, .unset, .unset, .unset, .unset, .unset, .unset, .unset] [(.int (4 : Int32))])) rfl (hb hby at_39) rfl (by decide) (cap := 4) (by decide) (by decide) (by decide) (by decide)
    obtain ⟨b45, g45⟩ : ∃ z, z = h0.size := ⟨_, rfl⟩
    rw [← g45] at A45 st45
    have V45 : Arv Z h45 b45 k45 .long (4 : Int32) [(.long (0 : Int64)), (.long (0 : Int64)), (.long (0 : Int64)), (.long (0 : Int64))] (.long (0 : Int64)) := (Arv.new A45 (by decide)).pad (pad_rep [] (.long (0 : Int64)) 4)
    have g_b45 : n0 ≤ b45 := Nat.le_trans Z0 (Nat.le_of_eq g45.symm)
    have sz_b45 : h0.size ≤ b45 := (Nat.le_trans (Keep.refl h0 []).1 (Nat.le_of_eq g45.symm))
    have K45 : Keep h0 h45 [] := (Keep.refl h0 []).ext E45
    obtain ⟨cl46, Ar46, q46, S46, M46, H46, G46⟩ := V45
    have hin46 : ¬ ((0 : Int32) < 0 ∨ cl46.slots.size ≤ ((0 : Int32)).toNatClampNeg) := inb_of S46 ⟨by decide, by decide⟩
    obtain ⟨T47, h47, X47, e47, W47, st47⟩ := stJ X45 hx hZ e45 Ar46 (j := (0 : Int32)) hin46 (g := (mkF m 48 #[.val (.int p0), .val (.long q1), .second, .val (.long q2), .second, .val (.long q3), .second, .val (.long q4), .second, .val (.int (4 : Int32)), .val (.long ra), .second, .val (.long rb), .second, .val (.long rc), .second, .val (.long rd), .second, .val (.ref b45), .unset, .unset, .unset, .unset, .unset, .unset, .unset, .unset, .unset, .unset] [(.long ra), (.int (0 : Int32)), (.ref b45)])) rfl rfl (hb hby at_48)
    have V47 : Arv Z h47 b45 k45 .long (4 : Int32) [(.long ra), (.long (0 : Int64)), (.long (0 : Int64)), (.long (0 : Int64))] (.long (0 : Int64)) := Arv.set Ar46 q46 S46 M46 H46 G46 rfl W47 0 rfl (Nat.le_of_ble_eq_true rfl)
    have K47 : Keep h0 h47 [] := K45.wr W47 (Or.inr sz_b45)
    have N47 := Fr.snoc X47 N0 g_b45
    obtain ⟨cl48, Ar48, q48, S48, M48, H48, G48⟩ := V47
    have hin48 : ¬ ((1 : Int32) < 0 ∨ cl48.slots.size ≤ ((1 : Int32)).toNatClampNeg) := inb_of S48 ⟨by decide, by decide⟩
    obtain ⟨T49, h49, X49, e49, W49, st49⟩ := stJ X47 hx hZ e47 Ar48 (j := (1 : Int32)) hin48 (g := (mkF m 60 #[.val (.int p0), .val (.long q1), .second, .val (.long q2), .second, .val (.long q3), .second, .val (.long q4), .second, .val (.int (4 : Int32)), .val (.long ra), .second, .val (.long rb), .second, .val (.long rc), .second, .val (.long rd), .second, .val (.ref b45), .unset, .unset, .unset, .unset, .unset, .unset, .unset, .unset, .unset, .unset] [(.long rb), (.int (1 : Int32)), (.ref b45)])) rfl rfl (hb hby at_60)
    have V49 : Arv Z h49 b45 k45 .long (4 : Int32) [(.long ra), (.long rb), (.long (0 : Int64)), (.long (0 : Int64))] (.long (0 : Int64)) := Arv.set Ar48 q48 S48 M48 H48 G48 rfl W49 1 rfl (Nat.le_of_ble_eq_true rfl)
    have K49 : Keep h0 h49 [] := K47.wr W49 (Or.inr sz_b45)
    have N49 := Fr.snoc X49 N47 g_b45
    obtain ⟨cl50, Ar50, q50, S50, M50, H50, G50⟩ := V49
    have hin50 : ¬ ((2 : Int32) < 0 ∨ cl50.slots.size ≤ ((2 : Int32)).toNatClampNeg) := inb_of S50 ⟨by decide, by decide⟩
    obtain ⟨T51, h51, X51, e51, W51, st51⟩ := stJ X49 hx hZ e49 Ar50 (j := (2 : Int32)) hin50 (g := (mkF m 72 #[.val (.int p0), .val (.long q1), .second, .val (.long q2), .second, .val (.long q3), .second, .val (.long q4), .second, .val (.int (4 : Int32)), .val (.long ra), .second, .val (.long rb), .second, .val (.long rc), .second, .val (.long rd), .second, .val (.ref b45), .unset, .unset, .unset, .unset, .unset, .unset, .unset, .unset, .unset, .unset] [(.long rc), (.int (2 : Int32)), (.ref b45)])) rfl rfl (hb hby at_72)
    have V51 : Arv Z h51 b45 k45 .long (4 : Int32) [(.long ra), (.long rb), (.long rc), (.long (0 : Int64))] (.long (0 : Int64)) := Arv.set Ar50 q50 S50 M50 H50 G50 rfl W51 2 rfl (Nat.le_of_ble_eq_true rfl)
    have K51 : Keep h0 h51 [] := K49.wr W51 (Or.inr sz_b45)
    have N51 := Fr.snoc X51 N49 g_b45
    obtain ⟨cl52, Ar52, q52, S52, M52, H52, G52⟩ := V51
    have hin52 : ¬ ((3 : Int32) < 0 ∨ cl52.slots.size ≤ ((3 : Int32)).toNatClampNeg) := inb_of S52 ⟨by decide, by decide⟩
    obtain ⟨T53, h53, X53, e53, W53, st53⟩ := stJ X51 hx hZ e51 Ar52 (j := (3 : Int32)) hin52 (g := (mkF m 84 #[.val (.int p0), .val (.long q1), .second, .val (.long q2), .second, .val (.long q3), .second, .val (.long q4), .second, .val (.int (4 : Int32)), .val (.long ra), .second, .val (.long rb), .second, .val (.long rc), .second, .val (.long rd), .second, .val (.ref b45), .unset, .unset, .unset, .unset, .unset, .unset, .unset, .unset, .unset, .unset] [(.long rd), (.int (3 : Int32)), (.ref b45)])) rfl rfl (hb hby at_84)
    have V53 : Arv Z h53 b45 k45 .long (4 : Int32) [(.long ra), (.long rb), (.long rc), (.long rd)] (.long (0 : Int64)) := Arv.set Ar52 q52 S52 M52 H52 G52 rfl W53 3 rfl (Nat.le_of_ble_eq_true rfl)
    have K53 : Keep h0 h53 [] := K51.wr W53 (Or.inr sz_b45)
    have N53 := Fr.snoc X53 N51 g_b45
    have pre54 : ∀ t, Steps p.tables e below (T53.setTop (mkF m 345 #[.val (.int p0), .val (.long q1), .second, .val (.long q2), .second, .val (.long q3), .second, .val (.long q4), .second, .val (.int (4 : Int32)), .val (.long ra), .second, .val (.long rb), .second, .val (.long rc), .second, .val (.long rd), .second, .val (.ref b45), .val (.long (((((5 : Int64) * ra) + ((7 : Int64) * rb)) + ((5 : Int64) * rc)) + ((3 : Int64) * rd))), .second, .val (.long (((((5 : Int64) * rb) + ((7 : Int64) * rc)) + ((5 : Int64) * rd)) + ((3 : Int64) * ra))), .second, .val (.long (((((5 : Int64) * rc) + ((7 : Int64) * rd)) + ((5 : Int64) * ra)) + ((3 : Int64) * rb))), .second, .val (.long (((((5 : Int64) * rd) + ((7 : Int64) * ra)) + ((5 : Int64) * rb)) + ((3 : Int64) * rc))), .second, .unset, .unset] [])) t → Steps p.tables e below (s₁.setTop (entryFrame m #[(.int p0), (.long q1), (.long q2), (.long q3), (.long q4)] maxLocals)) t := by
      intro t k
      refine pre6 t ?_
      show Steps p.tables e below (s₁.setTop (mkF m 37 #[.val (.int p0), .val (.long q1), .second, .val (.long q2), .second, .val (.long q3), .second, .val (.long q4), .second, .val (.int (4 : Int32)), .val (.long ra), .second, .val (.long rb), .second, .val (.long rc), .second, .val (.long rd), .second, .unset, .unset, .unset, .unset, .unset, .unset, .unset, .unset, .unset, .unset, .unset] [])) _
      refine XS.iload X0.here hx rfl (hb hby at_37) rfl ?_
      show Steps p.tables e below (s₁.setTop (mkF m 39 #[.val (.int p0), .val (.long q1), .second, .val (.long q2), .second, .val (.long q3), .second, .val (.long q4), .second, .val (.int (4 : Int32)), .val (.long ra), .second, .val (.long rb), .second, .val (.long rc), .second, .val (.long rd), .second, .unset, .unset, .unset, .unset, .unset, .unset, .unset, .unset, .unset, .unset, .unset] [(.int (4 : Int32))])) _
      refine st45 _ ?_
      show Steps p.tables e below (T45.setTop (mkF m 41 #[.val (.int p0), .val (.long q1), .second, .val (.long q2), .second, .val (.long q3), .second, .val (.long q4), .second, .val (.int (4 : Int32)), .val (.long ra), .second, .val (.long rb), .second, .val (.long rc), .second, .val (.long rd), .second, .unset, .unset, .unset, .unset, .unset, .unset, .unset, .unset, .unset, .unset, .unset] [(.ref b45)])) _
      refine XS.astore X45.here hx rfl (hb hby at_41) rfl (rfl) (l' := #[.val (.int p0), .val (.long q1), .second, .val (.long q2), .second, .val (.long q3), .second, .val (.long q4), .second, .val (.int (4 : Int32)), .val (.long ra), .second, .val (.long rb), .second, .val (.long rc), .second, .val (.long rd), .second, .val (.ref b45), .unset, .unset, .unset, .unset, .unset, .unset, .unset, .unset, .unset, .unset]) rfl ?_
      show Steps p.tables e below (T45.setTop (mkF m 43 #[.val (.int p0), .val (.long q1), .second, .val (.long q2), .second, .val (.long q3), .second, .val (.long q4), .second, .val (.int (4 : Int32)), .val (.long ra), .second, .val (.long rb), .second, .val (.long rc), .second, .val (.long rd), .second, .val (.ref b45), .unset, .unset, .unset, .unset, .unset, .unset, .unset, .unset, .unset, .unset] [])) _
      refine XS.aload X45.here hx rfl (hb hby at_43) rfl (rfl) ?_
      show Steps p.tables e below (T45.setTop (mkF m 45 #[.val (.int p0), .val (.long q1), .second, .val (.long q2), .second, .val (.long q3), .second, .val (.long q4), .second, .val (.int (4 : Int32)), .val (.long ra), .second, .val (.long rb), .second, .val (.long rc), .second, .val (.long rd), .second, .val (.ref b45), .unset, .unset, .unset, .unset, .unset, .unset, .unset, .unset, .unset, .unset] [(.ref b45)])) _
      refine XS.iconst X45.here hx rfl (hb hby at_45) ?_
      show Steps p.tables e below (T45.setTop (mkF m 46 #[.val (.int p0), .val (.long q1), .second, .val (.long q2), .second, .val (.long q3), .second, .val (.long q4), .second, .val (.int (4 : Int32)), .val (.long ra), .second, .val (.long rb), .second, .val (.long rc), .second, .val (.long rd), .second, .val (.ref b45), .unset, .unset, .unset, .unset, .unset, .unset, .unset, .unset, .unset, .unset] [(.int (0 : Int32)), (.ref b45)])) _
      refine XS.lload X45.here hx rfl (hb hby at_46) rfl ?_
      show Steps p.tables e below (T45.setTop (mkF m 48 #[.val (.int p0), .val (.long q1), .second, .val (.long q2), .second, .val (.long q3), .second, .val (.long q4), .second, .val (.int (4 : Int32)), .val (.long ra), .second, .val (.long rb), .second, .val (.long rc), .second, .val (.long rd), .second, .val (.ref b45), .unset, .unset, .unset, .unset, .unset, .unset, .unset, .unset, .unset, .unset] [(.long ra), (.int (0 : Int32)), (.ref b45)])) _
      refine st47 _ ?_
      show Steps p.tables e below (T47.setTop (mkF m 49 #[.val (.int p0), .val (.long q1), .second, .val (.long q2), .second, .val (.long q3), .second, .val (.long q4), .second, .val (.int (4 : Int32)), .val (.long ra), .second, .val (.long rb), .second, .val (.long rc), .second, .val (.long rd), .second, .val (.ref b45), .unset, .unset, .unset, .unset, .unset, .unset, .unset, .unset, .unset, .unset] [])) _
      refine XS.iload X47.here hx rfl (hb hby at_49) rfl ?_
      show Steps p.tables e below (T47.setTop (mkF m 51 #[.val (.int p0), .val (.long q1), .second, .val (.long q2), .second, .val (.long q3), .second, .val (.long q4), .second, .val (.int (4 : Int32)), .val (.long ra), .second, .val (.long rb), .second, .val (.long rc), .second, .val (.long rd), .second, .val (.ref b45), .unset, .unset, .unset, .unset, .unset, .unset, .unset, .unset, .unset, .unset] [(.int (4 : Int32))])) _
      refine XS.iconst X47.here hx rfl (hb hby at_51) ?_
      show Steps p.tables e below (T47.setTop (mkF m 52 #[.val (.int p0), .val (.long q1), .second, .val (.long q2), .second, .val (.long q3), .second, .val (.long q4), .second, .val (.int (4 : Int32)), .val (.long ra), .second, .val (.long rb), .second, .val (.long rc), .second, .val (.long rd), .second, .val (.ref b45), .unset, .unset, .unset, .unset, .unset, .unset, .unset, .unset, .unset, .unset] [(.int (1 : Int32)), (.int (4 : Int32))])) _
      refine XS.icmpNo X47.here hx rfl (hb hby at_52) rfl (tlt (by decide : (1 : Int32) < (4 : Int32))).2.2.2 ?_
      show Steps p.tables e below (T47.setTop (mkF m 55 #[.val (.int p0), .val (.long q1), .second, .val (.long q2), .second, .val (.long q3), .second, .val (.long q4), .second, .val (.int (4 : Int32)), .val (.long ra), .second, .val (.long rb), .second, .val (.long rc), .second, .val (.long rd), .second, .val (.ref b45), .unset, .unset, .unset, .unset, .unset, .unset, .unset, .unset, .unset, .unset] [])) _
      refine XS.aload X47.here hx rfl (hb hby at_55) rfl (rfl) ?_
      show Steps p.tables e below (T47.setTop (mkF m 57 #[.val (.int p0), .val (.long q1), .second, .val (.long q2), .second, .val (.long q3), .second, .val (.long q4), .second, .val (.int (4 : Int32)), .val (.long ra), .second, .val (.long rb), .second, .val (.long rc), .second, .val (.long rd), .second, .val (.ref b45), .unset, .unset, .unset, .unset, .unset, .unset, .unset, .unset, .unset, .unset] [(.ref b45)])) _
      refine XS.iconst X47.here hx rfl (hb hby at_57) ?_
      show Steps p.tables e below (T47.setTop (mkF m 58 #[.val (.int p0), .val (.long q1), .second, .val (.long q2), .second, .val (.long q3), .second, .val (.long q4), .second, .val (.int (4 : Int32)), .val (.long ra), .second, .val (.long rb), .second, .val (.long rc), .second, .val (.long rd), .second, .val (.ref b45), .unset, .unset, .unset, .unset, .unset, .unset, .unset, .unset, .unset, .unset] [(.int (1 : Int32)), (.ref b45)])) _
      refine XS.lload X47.here hx rfl (hb hby at_58) rfl ?_
      show Steps p.tables e below (T47.setTop (mkF m 60 #[.val (.int p0), .val (.long q1), .second, .val (.long q2), .second, .val (.long q3), .second, .val (.long q4), .second, .val (.int (4 : Int32)), .val (.long ra), .second, .val (.long rb), .second, .val (.long rc), .second, .val (.long rd), .second, .val (.ref b45), .unset, .unset, .unset, .unset, .unset, .unset, .unset, .unset, .unset, .unset] [(.long rb), (.int (1 : Int32)), (.ref b45)])) _
      refine st49 _ ?_
      show Steps p.tables e below (T49.setTop (mkF m 61 #[.val (.int p0), .val (.long q1), .second, .val (.long q2), .second, .val (.long q3), .second, .val (.long q4), .second, .val (.int (4 : Int32)), .val (.long ra), .second, .val (.long rb), .second, .val (.long rc), .second, .val (.long rd), .second, .val (.ref b45), .unset, .unset, .unset, .unset, .unset, .unset, .unset, .unset, .unset, .unset] [])) _
      refine XS.iload X49.here hx rfl (hb hby at_61) rfl ?_
      show Steps p.tables e below (T49.setTop (mkF m 63 #[.val (.int p0), .val (.long q1), .second, .val (.long q2), .second, .val (.long q3), .second, .val (.long q4), .second, .val (.int (4 : Int32)), .val (.long ra), .second, .val (.long rb), .second, .val (.long rc), .second, .val (.long rd), .second, .val (.ref b45), .unset, .unset, .unset, .unset, .unset, .unset, .unset, .unset, .unset, .unset] [(.int (4 : Int32))])) _
      refine XS.iconst X49.here hx rfl (hb hby at_63) ?_
      show Steps p.tables e below (T49.setTop (mkF m 64 #[.val (.int p0), .val (.long q1), .second, .val (.long q2), .second, .val (.long q3), .second, .val (.long q4), .second, .val (.int (4 : Int32)), .val (.long ra), .second, .val (.long rb), .second, .val (.long rc), .second, .val (.long rd), .second, .val (.ref b45), .unset, .unset, .unset, .unset, .unset, .unset, .unset, .unset, .unset, .unset] [(.int (2 : Int32)), (.int (4 : Int32))])) _
      refine XS.icmpNo X49.here hx rfl (hb hby at_64) rfl (tlt (by decide : (2 : Int32) < (4 : Int32))).2.2.2 ?_
      show Steps p.tables e below (T49.setTop (mkF m 67 #[.val (.int p0), .val (.long q1), .second, .val (.long q2), .second, .val (.long q3), .second, .val (.long q4), .second, .val (.int (4 : Int32)), .val (.long ra), .second, .val (.long rb), .second, .val (.long rc), .second, .val (.long rd), .second, .val (.ref b45), .unset, .unset, .unset, .unset, .unset, .unset, .unset, .unset, .unset, .unset] [])) _
      refine XS.aload X49.here hx rfl (hb hby at_67) rfl (rfl) ?_
      show Steps p.tables e below (T49.setTop (mkF m 69 #[.val (.int p0), .val (.long q1), .second, .val (.long q2), .second, .val (.long q3), .second, .val (.long q4), .second, .val (.int (4 : Int32)), .val (.long ra), .second, .val (.long rb), .second, .val (.long rc), .second, .val (.long rd), .second, .val (.ref b45), .unset, .unset, .unset, .unset, .unset, .unset, .unset, .unset, .unset, .unset] [(.ref b45)])) _
      refine XS.iconst X49.here hx rfl (hb hby at_69) ?_
      show Steps p.tables e below (T49.setTop (mkF m 70 #[.val (.int p0), .val (.long q1), .second, .val (.long q2), .second, .val (.long q3), .second, .val (.long q4), .second, .val (.int (4 : Int32)), .val (.long ra), .second, .val (.long rb), .second, .val (.long rc), .second, .val (.long rd), .second, .val (.ref b45), .unset, .unset, .unset, .unset, .unset, .unset, .unset, .unset, .unset, .unset] [(.int (2 : Int32)), (.ref b45)])) _
      refine XS.lload X49.here hx rfl (hb hby at_70) rfl ?_
      show Steps p.tables e below (T49.setTop (mkF m 72 #[.val (.int p0), .val (.long q1), .second, .val (.long q2), .second, .val (.long q3), .second, .val (.long q4), .second, .val (.int (4 : Int32)), .val (.long ra), .second, .val (.long rb), .second, .val (.long rc), .second, .val (.long rd), .second, .val (.ref b45), .unset, .unset, .unset, .unset, .unset, .unset, .unset, .unset, .unset, .unset] [(.long rc), (.int (2 : Int32)), (.ref b45)])) _
      refine st51 _ ?_
      show Steps p.tables e below (T51.setTop (mkF m 73 #[.val (.int p0), .val (.long q1), .second, .val (.long q2), .second, .val (.long q3), .second, .val (.long q4), .second, .val (.int (4 : Int32)), .val (.long ra), .second, .val (.long rb), .second, .val (.long rc), .second, .val (.long rd), .second, .val (.ref b45), .unset, .unset, .unset, .unset, .unset, .unset, .unset, .unset, .unset, .unset] [])) _
      refine XS.iload X51.here hx rfl (hb hby at_73) rfl ?_
      show Steps p.tables e below (T51.setTop (mkF m 75 #[.val (.int p0), .val (.long q1), .second, .val (.long q2), .second, .val (.long q3), .second, .val (.long q4), .second, .val (.int (4 : Int32)), .val (.long ra), .second, .val (.long rb), .second, .val (.long rc), .second, .val (.long rd), .second, .val (.ref b45), .unset, .unset, .unset, .unset, .unset, .unset, .unset, .unset, .unset, .unset] [(.int (4 : Int32))])) _
      refine XS.iconst X51.here hx rfl (hb hby at_75) ?_
      show Steps p.tables e below (T51.setTop (mkF m 76 #[.val (.int p0), .val (.long q1), .second, .val (.long q2), .second, .val (.long q3), .second, .val (.long q4), .second, .val (.int (4 : Int32)), .val (.long ra), .second, .val (.long rb), .second, .val (.long rc), .second, .val (.long rd), .second, .val (.ref b45), .unset, .unset, .unset, .unset, .unset, .unset, .unset, .unset, .unset, .unset] [(.int (3 : Int32)), (.int (4 : Int32))])) _
      refine XS.icmpNo X51.here hx rfl (hb hby at_76) rfl (tlt (by decide : (3 : Int32) < (4 : Int32))).2.2.2 ?_
      show Steps p.tables e below (T51.setTop (mkF m 79 #[.val (.int p0), .val (.long q1), .second, .val (.long q2), .second, .val (.long q3), .second, .val (.long q4), .second, .val (.int (4 : Int32)), .val (.long ra), .second, .val (.long rb), .second, .val (.long rc), .second, .val (.long rd), .second, .val (.ref b45), .unset, .unset, .unset, .unset, .unset, .unset, .unset, .unset, .unset, .unset] [])) _
      refine XS.aload X51.here hx rfl (hb hby at_79) rfl (rfl) ?_
      show Steps p.tables e below (T51.setTop (mkF m 81 #[.val (.int p0), .val (.long q1), .second, .val (.long q2), .second, .val (.long q3), .second, .val (.long q4), .second, .val (.int (4 : Int32)), .val (.long ra), .second, .val (.long rb), .second, .val (.long rc), .second, .val (.long rd), .second, .val (.ref b45), .unset, .unset, .unset, .unset, .unset, .unset, .unset, .unset, .unset, .unset] [(.ref b45)])) _
      refine XS.iconst X51.here hx rfl (hb hby at_81) ?_
      show Steps p.tables e below (T51.setTop (mkF m 82 #[.val (.int p0), .val (.long q1), .second, .val (.long q2), .second, .val (.long q3), .second, .val (.long q4), .second, .val (.int (4 : Int32)), .val (.long ra), .second, .val (.long rb), .second, .val (.long rc), .second, .val (.long rd), .second, .val (.ref b45), .unset, .unset, .unset, .unset, .unset, .unset, .unset, .unset, .unset, .unset] [(.int (3 : Int32)), (.ref b45)])) _
      refine XS.lload X51.here hx rfl (hb hby at_82) rfl ?_
      show Steps p.tables e below (T51.setTop (mkF m 84 #[.val (.int p0), .val (.long q1), .second, .val (.long q2), .second, .val (.long q3), .second, .val (.long q4), .second, .val (.int (4 : Int32)), .val (.long ra), .second, .val (.long rb), .second, .val (.long rc), .second, .val (.long rd), .second, .val (.ref b45), .unset, .unset, .unset, .unset, .unset, .unset, .unset, .unset, .unset, .unset] [(.long rd), (.int (3 : Int32)), (.ref b45)])) _
      refine st53 _ ?_
      show Steps p.tables e below (T53.setTop (mkF m 85 #[.val (.int p0), .val (.long q1), .second, .val (.long q2), .second, .val (.long q3), .second, .val (.long q4), .second, .val (.int (4 : Int32)), .val (.long ra), .second, .val (.long rb), .second, .val (.long rc), .second, .val (.long rd), .second, .val (.ref b45), .unset, .unset, .unset, .unset, .unset, .unset, .unset, .unset, .unset, .unset] [])) _
      refine XS.iload X53.here hx rfl (hb hby at_85) rfl ?_
      show Steps p.tables e below (T53.setTop (mkF m 87 #[.val (.int p0), .val (.long q1), .second, .val (.long q2), .second, .val (.long q3), .second, .val (.long q4), .second, .val (.int (4 : Int32)), .val (.long ra), .second, .val (.long rb), .second, .val (.long rc), .second, .val (.long rd), .second, .val (.ref b45), .unset, .unset, .unset, .unset, .unset, .unset, .unset, .unset, .unset, .unset] [(.int (4 : Int32))])) _
      refine XS.iconst X53.here hx rfl (hb hby at_87) ?_
      show Steps p.tables e below (T53.setTop (mkF m 88 #[.val (.int p0), .val (.long q1), .second, .val (.long q2), .second, .val (.long q3), .second, .val (.long q4), .second, .val (.int (4 : Int32)), .val (.long ra), .second, .val (.long rb), .second, .val (.long rc), .second, .val (.long rd), .second, .val (.ref b45), .unset, .unset, .unset, .unset, .unset, .unset, .unset, .unset, .unset, .unset] [(.int (4 : Int32)), (.int (4 : Int32))])) _
      refine XS.icmpNo X53.here hx rfl (hb hby at_88) rfl (teq (by decide : (4 : Int32) = (4 : Int32))).2 ?_
      show Steps p.tables e below (T53.setTop (mkF m 91 #[.val (.int p0), .val (.long q1), .second, .val (.long q2), .second, .val (.long q3), .second, .val (.long q4), .second, .val (.int (4 : Int32)), .val (.long ra), .second, .val (.long rb), .second, .val (.long rc), .second, .val (.long rd), .second, .val (.ref b45), .unset, .unset, .unset, .unset, .unset, .unset, .unset, .unset, .unset, .unset] [])) _
      refine X53.ldc2Long hx hown (mvT hZ (hw _ (List.mem_of_getElem? (i := 31) rfl))) (g := (mkF m 91 #[.val (.int p0), .val (.long q1), .second, .val (.long q2), .second, .val (.long q3), .second, .val (.long q4), .second, .val (.int (4 : Int32)), .val (.long ra), .second, .val (.long rb), .second, .val (.long rc), .second, .val (.long rd), .second, .val (.ref b45), .unset, .unset, .unset, .unset, .unset, .unset, .unset, .unset, .unset, .unset] [])) rfl (hb hby at_91) _ ?_
      show Steps p.tables e below (T53.setTop (mkF m 94 #[.val (.int p0), .val (.long q1), .second, .val (.long q2), .second, .val (.long q3), .second, .val (.long q4), .second, .val (.int (4 : Int32)), .val (.long ra), .second, .val (.long rb), .second, .val (.long rc), .second, .val (.long rd), .second, .val (.ref b45), .unset, .unset, .unset, .unset, .unset, .unset, .unset, .unset, .unset, .unset] [(.long (5 : Int64))])) _
      refine XS.lload X53.here hx rfl (hb hby at_94) rfl ?_
      show Steps p.tables e below (T53.setTop (mkF m 96 #[.val (.int p0), .val (.long q1), .second, .val (.long q2), .second, .val (.long q3), .second, .val (.long q4), .second, .val (.int (4 : Int32)), .val (.long ra), .second, .val (.long rb), .second, .val (.long rc), .second, .val (.long rd), .second, .val (.ref b45), .unset, .unset, .unset, .unset, .unset, .unset, .unset, .unset, .unset, .unset] [(.long ra), (.long (5 : Int64))])) _
      refine XS.lmul X53.here hx rfl (hb hby at_96) rfl ?_
      show Steps p.tables e below (T53.setTop (mkF m 97 #[.val (.int p0), .val (.long q1), .second, .val (.long q2), .second, .val (.long q3), .second, .val (.long q4), .second, .val (.int (4 : Int32)), .val (.long ra), .second, .val (.long rb), .second, .val (.long rc), .second, .val (.long rd), .second, .val (.ref b45), .unset, .unset, .unset, .unset, .unset, .unset, .unset, .unset, .unset, .unset] [(.long ((5 : Int64) * ra))])) _
      refine X53.ldc2Long hx hown (mvT hZ (hw _ (List.mem_of_getElem? (i := 32) rfl))) (g := (mkF m 97 #[.val (.int p0), .val (.long q1), .second, .val (.long q2), .second, .val (.long q3), .second, .val (.long q4), .second, .val (.int (4 : Int32)), .val (.long ra), .second, .val (.long rb), .second, .val (.long rc), .second, .val (.long rd), .second, .val (.ref b45), .unset, .unset, .unset, .unset, .unset, .unset, .unset, .unset, .unset, .unset] [(.long ((5 : Int64) * ra))])) rfl (hb hby at_97) _ ?_
      show Steps p.tables e below (T53.setTop (mkF m 100 #[.val (.int p0), .val (.long q1), .second, .val (.long q2), .second, .val (.long q3), .second, .val (.long q4), .second, .val (.int (4 : Int32)), .val (.long ra), .second, .val (.long rb), .second, .val (.long rc), .second, .val (.long rd), .second, .val (.ref b45), .unset, .unset, .unset, .unset, .unset, .unset, .unset, .unset, .unset, .unset] [(.long (7 : Int64)), (.long ((5 : Int64) * ra))])) _
      refine XS.lload X53.here hx rfl (hb hby at_100) rfl ?_
      show Steps p.tables e below (T53.setTop (mkF m 102 #[.val (.int p0), .val (.long q1), .second, .val (.long q2), .second, .val (.long q3), .second, .val (.long q4), .second, .val (.int (4 : Int32)), .val (.long ra), .second, .val (.long rb), .second, .val (.long rc), .second, .val (.long rd), .second, .val (.ref b45), .unset, .unset, .unset, .unset, .unset, .unset, .unset, .unset, .unset, .unset] [(.long rb), (.long (7 : Int64)), (.long ((5 : Int64) * ra))])) _
      refine XS.lmul X53.here hx rfl (hb hby at_102) rfl ?_
      show Steps p.tables e below (T53.setTop (mkF m 103 #[.val (.int p0), .val (.long q1), .second, .val (.long q2), .second, .val (.long q3), .second, .val (.long q4), .second, .val (.int (4 : Int32)), .val (.long ra), .second, .val (.long rb), .second, .val (.long rc), .second, .val (.long rd), .second, .val (.ref b45), .unset, .unset, .unset, .unset, .unset, .unset, .unset, .unset, .unset, .unset] [(.long ((7 : Int64) * rb)), (.long ((5 : Int64) * ra))])) _
      refine XS.ladd X53.here hx rfl (hb hby at_103) rfl ?_
      show Steps p.tables e below (T53.setTop (mkF m 104 #[.val (.int p0), .val (.long q1), .second, .val (.long q2), .second, .val (.long q3), .second, .val (.long q4), .second, .val (.int (4 : Int32)), .val (.long ra), .second, .val (.long rb), .second, .val (.long rc), .second, .val (.long rd), .second, .val (.ref b45), .unset, .unset, .unset, .unset, .unset, .unset, .unset, .unset, .unset, .unset] [(.long (((5 : Int64) * ra) + ((7 : Int64) * rb)))])) _
      refine X53.ldc2Long hx hown (mvT hZ (hw _ (List.mem_of_getElem? (i := 31) rfl))) (g := (mkF m 104 #[.val (.int p0), .val (.long q1), .second, .val (.long q2), .second, .val (.long q3), .second, .val (.long q4), .second, .val (.int (4 : Int32)), .val (.long ra), .second, .val (.long rb), .second, .val (.long rc), .second, .val (.long rd), .second, .val (.ref b45), .unset, .unset, .unset, .unset, .unset, .unset, .unset, .unset, .unset, .unset] [(.long (((5 : Int64) * ra) + ((7 : Int64) * rb)))])) rfl (hb hby at_104) _ ?_
      show Steps p.tables e below (T53.setTop (mkF m 107 #[.val (.int p0), .val (.long q1), .second, .val (.long q2), .second, .val (.long q3), .second, .val (.long q4), .second, .val (.int (4 : Int32)), .val (.long ra), .second, .val (.long rb), .second, .val (.long rc), .second, .val (.long rd), .second, .val (.ref b45), .unset, .unset, .unset, .unset, .unset, .unset, .unset, .unset, .unset, .unset] [(.long (5 : Int64)), (.long (((5 : Int64) * ra) + ((7 : Int64) * rb)))])) _
      refine XS.lload X53.here hx rfl (hb hby at_107) rfl ?_
      show Steps p.tables e below (T53.setTop (mkF m 109 #[.val (.int p0), .val (.long q1), .second, .val (.long q2), .second, .val (.long q3), .second, .val (.long q4), .second, .val (.int (4 : Int32)), .val (.long ra), .second, .val (.long rb), .second, .val (.long rc), .second, .val (.long rd), .second, .val (.ref b45), .unset, .unset, .unset, .unset, .unset, .unset, .unset, .unset, .unset, .unset] [(.long rc), (.long (5 : Int64)), (.long (((5 : Int64) * ra) + ((7 : Int64) * rb)))])) _
      refine XS.lmul X53.here hx rfl (hb hby at_109) rfl ?_
      show Steps p.tables e below (T53.setTop (mkF m 110 #[.val (.int p0), .val (.long q1), .second, .val (.long q2), .second, .val (.long q3), .second, .val (.long q4), .second, .val (.int (4 : Int32)), .val (.long ra), .second, .val (.long rb), .second, .val (.long rc), .second, .val (.long rd), .second, .val (.ref b45), .unset, .unset, .unset, .unset, .unset, .unset, .unset, .unset, .unset, .unset] [(.long ((5 : Int64) * rc)), (.long (((5 : Int64) * ra) + ((7 : Int64) * rb)))])) _
      refine XS.ladd X53.here hx rfl (hb hby at_110) rfl ?_
      show Steps p.tables e below (T53.setTop (mkF m 111 #[.val (.int p0), .val (.long q1), .second, .val (.long q2), .second, .val (.long q3), .second, .val (.long q4), .second, .val (.int (4 : Int32)), .val (.long ra), .second, .val (.long rb), .second, .val (.long rc), .second, .val (.long rd), .second, .val (.ref b45), .unset, .unset, .unset, .unset, .unset, .unset, .unset, .unset, .unset, .unset] [(.long ((((5 : Int64) * ra) + ((7 : Int64) * rb)) + ((5 : Int64) * rc)))])) _
      refine X53.ldc2Long hx hown (mvT hZ (hw _ (List.mem_of_getElem? (i := 29) rfl))) (g := (mkF m 111 #[.val (.int p0), .val (.long q1), .second, .val (.long q2), .second, .val (.long q3), .second, .val (.long q4), .second, .val (.int (4 : Int32)), .val (.long ra), .second, .val (.long rb), .second, .val (.long rc), .second, .val (.long rd), .second, .val (.ref b45), .unset, .unset, .unset, .unset, .unset, .unset, .unset, .unset, .unset, .unset] [(.long ((((5 : Int64) * ra) + ((7 : Int64) * rb)) + ((5 : Int64) * rc)))])) rfl (hb hby at_111) _ ?_
      show Steps p.tables e below (T53.setTop (mkF m 114 #[.val (.int p0), .val (.long q1), .second, .val (.long q2), .second, .val (.long q3), .second, .val (.long q4), .second, .val (.int (4 : Int32)), .val (.long ra), .second, .val (.long rb), .second, .val (.long rc), .second, .val (.long rd), .second, .val (.ref b45), .unset, .unset, .unset, .unset, .unset, .unset, .unset, .unset, .unset, .unset] [(.long (3 : Int64)), (.long ((((5 : Int64) * ra) + ((7 : Int64) * rb)) + ((5 : Int64) * rc)))])) _
      refine XS.lload X53.here hx rfl (hb hby at_114) rfl ?_
      show Steps p.tables e below (T53.setTop (mkF m 116 #[.val (.int p0), .val (.long q1), .second, .val (.long q2), .second, .val (.long q3), .second, .val (.long q4), .second, .val (.int (4 : Int32)), .val (.long ra), .second, .val (.long rb), .second, .val (.long rc), .second, .val (.long rd), .second, .val (.ref b45), .unset, .unset, .unset, .unset, .unset, .unset, .unset, .unset, .unset, .unset] [(.long rd), (.long (3 : Int64)), (.long ((((5 : Int64) * ra) + ((7 : Int64) * rb)) + ((5 : Int64) * rc)))])) _
      refine XS.lmul X53.here hx rfl (hb hby at_116) rfl ?_
      show Steps p.tables e below (T53.setTop (mkF m 117 #[.val (.int p0), .val (.long q1), .second, .val (.long q2), .second, .val (.long q3), .second, .val (.long q4), .second, .val (.int (4 : Int32)), .val (.long ra), .second, .val (.long rb), .second, .val (.long rc), .second, .val (.long rd), .second, .val (.ref b45), .unset, .unset, .unset, .unset, .unset, .unset, .unset, .unset, .unset, .unset] [(.long ((3 : Int64) * rd)), (.long ((((5 : Int64) * ra) + ((7 : Int64) * rb)) + ((5 : Int64) * rc)))])) _
      refine XS.ladd X53.here hx rfl (hb hby at_117) rfl ?_
      show Steps p.tables e below (T53.setTop (mkF m 118 #[.val (.int p0), .val (.long q1), .second, .val (.long q2), .second, .val (.long q3), .second, .val (.long q4), .second, .val (.int (4 : Int32)), .val (.long ra), .second, .val (.long rb), .second, .val (.long rc), .second, .val (.long rd), .second, .val (.ref b45), .unset, .unset, .unset, .unset, .unset, .unset, .unset, .unset, .unset, .unset] [(.long (((((5 : Int64) * ra) + ((7 : Int64) * rb)) + ((5 : Int64) * rc)) + ((3 : Int64) * rd)))])) _
      refine XS.lstore X53.here hx rfl (hb hby at_118) rfl (l' := #[.val (.int p0), .val (.long q1), .second, .val (.long q2), .second, .val (.long q3), .second, .val (.long q4), .second, .val (.int (4 : Int32)), .val (.long ra), .second, .val (.long rb), .second, .val (.long rc), .second, .val (.long rd), .second, .val (.ref b45), .val (.long (((((5 : Int64) * ra) + ((7 : Int64) * rb)) + ((5 : Int64) * rc)) + ((3 : Int64) * rd))), .second, .unset, .unset, .unset, .unset, .unset, .unset, .unset, .unset]) rfl ?_
      show Steps p.tables e below (T53.setTop (mkF m 120 #[.val (.int p0), .val (.long q1), .second, .val (.long q2), .second, .val (.long q3), .second, .val (.long q4), .second, .val (.int (4 : Int32)), .val (.long ra), .second, .val (.long rb), .second, .val (.long rc), .second, .val (.long rd), .second, .val (.ref b45), .val (.long (((((5 : Int64) * ra) + ((7 : Int64) * rb)) + ((5 : Int64) * rc)) + ((3 : Int64) * rd))), .second, .unset, .unset, .unset, .unset, .unset, .unset, .unset, .unset] [])) _
      refine X53.ldc2Long hx hown (mvT hZ (hw _ (List.mem_of_getElem? (i := 31) rfl))) (g := (mkF m 120 #[.val (.int p0), .val (.long q1), .second, .val (.long q2), .second, .val (.long q3), .second, .val (.long q4), .second, .val (.int (4 : Int32)), .val (.long ra), .second, .val (.long rb), .second, .val (.long rc), .second, .val (.long rd), .second, .val (.ref b45), .val (.long (((((5 : Int64) * ra) + ((7 : Int64) * rb)) + ((5 : Int64) * rc)) + ((3 : Int64) * rd))), .second, .unset, .unset, .unset, .unset, .unset, .unset, .unset, .unset] [])) rfl (hb hby at_120) _ ?_
      show Steps p.tables e below (T53.setTop (mkF m 123 #[.val (.int p0), .val (.long q1), .second, .val (.long q2), .second, .val (.long q3), .second, .val (.long q4), .second, .val (.int (4 : Int32)), .val (.long ra), .second, .val (.long rb), .second, .val (.long rc), .second, .val (.long rd), .second, .val (.ref b45), .val (.long (((((5 : Int64) * ra) + ((7 : Int64) * rb)) + ((5 : Int64) * rc)) + ((3 : Int64) * rd))), .second, .unset, .unset, .unset, .unset, .unset, .unset, .unset, .unset] [(.long (5 : Int64))])) _
      refine XS.lload X53.here hx rfl (hb hby at_123) rfl ?_
      show Steps p.tables e below (T53.setTop (mkF m 125 #[.val (.int p0), .val (.long q1), .second, .val (.long q2), .second, .val (.long q3), .second, .val (.long q4), .second, .val (.int (4 : Int32)), .val (.long ra), .second, .val (.long rb), .second, .val (.long rc), .second, .val (.long rd), .second, .val (.ref b45), .val (.long (((((5 : Int64) * ra) + ((7 : Int64) * rb)) + ((5 : Int64) * rc)) + ((3 : Int64) * rd))), .second, .unset, .unset, .unset, .unset, .unset, .unset, .unset, .unset] [(.long rb), (.long (5 : Int64))])) _
      refine XS.lmul X53.here hx rfl (hb hby at_125) rfl ?_
      show Steps p.tables e below (T53.setTop (mkF m 126 #[.val (.int p0), .val (.long q1), .second, .val (.long q2), .second, .val (.long q3), .second, .val (.long q4), .second, .val (.int (4 : Int32)), .val (.long ra), .second, .val (.long rb), .second, .val (.long rc), .second, .val (.long rd), .second, .val (.ref b45), .val (.long (((((5 : Int64) * ra) + ((7 : Int64) * rb)) + ((5 : Int64) * rc)) + ((3 : Int64) * rd))), .second, .unset, .unset, .unset, .unset, .unset, .unset, .unset, .unset] [(.long ((5 : Int64) * rb))])) _
      refine X53.ldc2Long hx hown (mvT hZ (hw _ (List.mem_of_getElem? (i := 32) rfl))) (g := (mkF m 126 #[.val (.int p0), .val (.long q1), .second, .val (.long q2), .second, .val (.long q3), .second, .val (.long q4), .second, .val (.int (4 : Int32)), .val (.long ra), .second, .val (.long rb), .second, .val (.long rc), .second, .val (.long rd), .second, .val (.ref b45), .val (.long (((((5 : Int64) * ra) + ((7 : Int64) * rb)) + ((5 : Int64) * rc)) + ((3 : Int64) * rd))), .second, .unset, .unset, .unset, .unset, .unset, .unset, .unset, .unset] [(.long ((5 : Int64) * rb))])) rfl (hb hby at_126) _ ?_
      show Steps p.tables e below (T53.setTop (mkF m 129 #[.val (.int p0), .val (.long q1), .second, .val (.long q2), .second, .val (.long q3), .second, .val (.long q4), .second, .val (.int (4 : Int32)), .val (.long ra), .second, .val (.long rb), .second, .val (.long rc), .second, .val (.long rd), .second, .val (.ref b45), .val (.long (((((5 : Int64) * ra) + ((7 : Int64) * rb)) + ((5 : Int64) * rc)) + ((3 : Int64) * rd))), .second, .unset, .unset, .unset, .unset, .unset, .unset, .unset, .unset] [(.long (7 : Int64)), (.long ((5 : Int64) * rb))])) _
      refine XS.lload X53.here hx rfl (hb hby at_129) rfl ?_
      show Steps p.tables e below (T53.setTop (mkF m 131 #[.val (.int p0), .val (.long q1), .second, .val (.long q2), .second, .val (.long q3), .second, .val (.long q4), .second, .val (.int (4 : Int32)), .val (.long ra), .second, .val (.long rb), .second, .val (.long rc), .second, .val (.long rd), .second, .val (.ref b45), .val (.long (((((5 : Int64) * ra) + ((7 : Int64) * rb)) + ((5 : Int64) * rc)) + ((3 : Int64) * rd))), .second, .unset, .unset, .unset, .unset, .unset, .unset, .unset, .unset] [(.long rc), (.long (7 : Int64)), (.long ((5 : Int64) * rb))])) _
      refine XS.lmul X53.here hx rfl (hb hby at_131) rfl ?_
      show Steps p.tables e below (T53.setTop (mkF m 132 #[.val (.int p0), .val (.long q1), .second, .val (.long q2), .second, .val (.long q3), .second, .val (.long q4), .second, .val (.int (4 : Int32)), .val (.long ra), .second, .val (.long rb), .second, .val (.long rc), .second, .val (.long rd), .second, .val (.ref b45), .val (.long (((((5 : Int64) * ra) + ((7 : Int64) * rb)) + ((5 : Int64) * rc)) + ((3 : Int64) * rd))), .second, .unset, .unset, .unset, .unset, .unset, .unset, .unset, .unset] [(.long ((7 : Int64) * rc)), (.long ((5 : Int64) * rb))])) _
      refine XS.ladd X53.here hx rfl (hb hby at_132) rfl ?_
      show Steps p.tables e below (T53.setTop (mkF m 133 #[.val (.int p0), .val (.long q1), .second, .val (.long q2), .second, .val (.long q3), .second, .val (.long q4), .second, .val (.int (4 : Int32)), .val (.long ra), .second, .val (.long rb), .second, .val (.long rc), .second, .val (.long rd), .second, .val (.ref b45), .val (.long (((((5 : Int64) * ra) + ((7 : Int64) * rb)) + ((5 : Int64) * rc)) + ((3 : Int64) * rd))), .second, .unset, .unset, .unset, .unset, .unset, .unset, .unset, .unset] [(.long (((5 : Int64) * rb) + ((7 : Int64) * rc)))])) _
      refine X53.ldc2Long hx hown (mvT hZ (hw _ (List.mem_of_getElem? (i := 31) rfl))) (g := (mkF m 133 #[.val (.int p0), .val (.long q1), .second, .val (.long q2), .second, .val (.long q3), .second, .val (.long q4), .second, .val (.int (4 : Int32)), .val (.long ra), .second, .val (.long rb), .second, .val (.long rc), .second, .val (.long rd), .second, .val (.ref b45), .val (.long (((((5 : Int64) * ra) + ((7 : Int64) * rb)) + ((5 : Int64) * rc)) + ((3 : Int64) * rd))), .second, .unset, .unset, .unset, .unset, .unset, .unset, .unset, .unset] [(.long (((5 : Int64) * rb) + ((7 : Int64) * rc)))])) rfl (hb hby at_133) _ ?_
      show Steps p.tables e below (T53.setTop (mkF m 136 #[.val (.int p0), .val (.long q1), .second, .val (.long q2), .second, .val (.long q3), .second, .val (.long q4), .second, .val (.int (4 : Int32)), .val (.long ra), .second, .val (.long rb), .second, .val (.long rc), .second, .val (.long rd), .second, .val (.ref b45), .val (.long (((((5 : Int64) * ra) + ((7 : Int64) * rb)) + ((5 : Int64) * rc)) + ((3 : Int64) * rd))), .second, .unset, .unset, .unset, .unset, .unset, .unset, .unset, .unset] [(.long (5 : Int64)), (.long (((5 : Int64) * rb) + ((7 : Int64) * rc)))])) _
      refine XS.lload X53.here hx rfl (hb hby at_136) rfl ?_
      show Steps p.tables e below (T53.setTop (mkF m 138 #[.val (.int p0), .val (.long q1), .second, .val (.long q2), .second, .val (.long q3), .second, .val (.long q4), .second, .val (.int (4 : Int32)), .val (.long ra), .second, .val (.long rb), .second, .val (.long rc), .second, .val (.long rd), .second, .val (.ref b45), .val (.long (((((5 : Int64) * ra) + ((7 : Int64) * rb)) + ((5 : Int64) * rc)) + ((3 : Int64) * rd))), .second, .unset, .unset, .unset, .unset, .unset, .unset, .unset, .unset] [(.long rd), (.long (5 : Int64)), (.long (((5 : Int64) * rb) + ((7 : Int64) * rc)))])) _
      refine XS.lmul X53.here hx rfl (hb hby at_138) rfl ?_
      show Steps p.tables e below (T53.setTop (mkF m 139 #[.val (.int p0), .val (.long q1), .second, .val (.long q2), .second, .val (.long q3), .second, .val (.long q4), .second, .val (.int (4 : Int32)), .val (.long ra), .second, .val (.long rb), .second, .val (.long rc), .second, .val (.long rd), .second, .val (.ref b45), .val (.long (((((5 : Int64) * ra) + ((7 : Int64) * rb)) + ((5 : Int64) * rc)) + ((3 : Int64) * rd))), .second, .unset, .unset, .unset, .unset, .unset, .unset, .unset, .unset] [(.long ((5 : Int64) * rd)), (.long (((5 : Int64) * rb) + ((7 : Int64) * rc)))])) _
      refine XS.ladd X53.here hx rfl (hb hby at_139) rfl ?_
      show Steps p.tables e below (T53.setTop (mkF m 140 #[.val (.int p0), .val (.long q1), .second, .val (.long q2), .second, .val (.long q3), .second, .val (.long q4), .second, .val (.int (4 : Int32)), .val (.long ra), .second, .val (.long rb), .second, .val (.long rc), .second, .val (.long rd), .second, .val (.ref b45), .val (.long (((((5 : Int64) * ra) + ((7 : Int64) * rb)) + ((5 : Int64) * rc)) + ((3 : Int64) * rd))), .second, .unset, .unset, .unset, .unset, .unset, .unset, .unset, .unset] [(.long ((((5 : Int64) * rb) + ((7 : Int64) * rc)) + ((5 : Int64) * rd)))])) _
      refine X53.ldc2Long hx hown (mvT hZ (hw _ (List.mem_of_getElem? (i := 29) rfl))) (g := (mkF m 140 #[.val (.int p0), .val (.long q1), .second, .val (.long q2), .second, .val (.long q3), .second, .val (.long q4), .second, .val (.int (4 : Int32)), .val (.long ra), .second, .val (.long rb), .second, .val (.long rc), .second, .val (.long rd), .second, .val (.ref b45), .val (.long (((((5 : Int64) * ra) + ((7 : Int64) * rb)) + ((5 : Int64) * rc)) + ((3 : Int64) * rd))), .second, .unset, .unset, .unset, .unset, .unset, .unset, .unset, .unset] [(.long ((((5 : Int64) * rb) + ((7 : Int64) * rc)) + ((5 : Int64) * rd)))])) rfl (hb hby at_140) _ ?_
      show Steps p.tables e below (T53.setTop (mkF m 143 #[.val (.int p0), .val (.long q1), .second, .val (.long q2), .second, .val (.long q3), .second, .val (.long q4), .second, .val (.int (4 : Int32)), .val (.long ra), .second, .val (.long rb), .second, .val (.long rc), .second, .val (.long rd), .second, .val (.ref b45), .val (.long (((((5 : Int64) * ra) + ((7 : Int64) * rb)) + ((5 : Int64) * rc)) + ((3 : Int64) * rd))), .second, .unset, .unset, .unset, .unset, .unset, .unset, .unset, .unset] [(.long (3 : Int64)), (.long ((((5 : Int64) * rb) + ((7 : Int64) * rc)) + ((5 : Int64) * rd)))])) _
      refine XS.lload X53.here hx rfl (hb hby at_143) rfl ?_
      show Steps p.tables e below (T53.setTop (mkF m 145 #[.val (.int p0), .val (.long q1), .second, .val (.long q2), .second, .val (.long q3), .second, .val (.long q4), .second, .val (.int (4 : Int32)), .val (.long ra), .second, .val (.long rb), .second, .val (.long rc), .second, .val (.long rd), .second, .val (.ref b45), .val (.long (((((5 : Int64) * ra) + ((7 : Int64) * rb)) + ((5 : Int64) * rc)) + ((3 : Int64) * rd))), .second, .unset, .unset, .unset, .unset, .unset, .unset, .unset, .unset] [(.long ra), (.long (3 : Int64)), (.long ((((5 : Int64) * rb) + ((7 : Int64) * rc)) + ((5 : Int64) * rd)))])) _
      refine XS.lmul X53.here hx rfl (hb hby at_145) rfl ?_
      show Steps p.tables e below (T53.setTop (mkF m 146 #[.val (.int p0), .val (.long q1), .second, .val (.long q2), .second, .val (.long q3), .second, .val (.long q4), .second, .val (.int (4 : Int32)), .val (.long ra), .second, .val (.long rb), .second, .val (.long rc), .second, .val (.long rd), .second, .val (.ref b45), .val (.long (((((5 : Int64) * ra) + ((7 : Int64) * rb)) + ((5 : Int64) * rc)) + ((3 : Int64) * rd))), .second, .unset, .unset, .unset, .unset, .unset, .unset, .unset, .unset] [(.long ((3 : Int64) * ra)), (.long ((((5 : Int64) * rb) + ((7 : Int64) * rc)) + ((5 : Int64) * rd)))])) _
      refine XS.ladd X53.here hx rfl (hb hby at_146) rfl ?_
      show Steps p.tables e below (T53.setTop (mkF m 147 #[.val (.int p0), .val (.long q1), .second, .val (.long q2), .second, .val (.long q3), .second, .val (.long q4), .second, .val (.int (4 : Int32)), .val (.long ra), .second, .val (.long rb), .second, .val (.long rc), .second, .val (.long rd), .second, .val (.ref b45), .val (.long (((((5 : Int64) * ra) + ((7 : Int64) * rb)) + ((5 : Int64) * rc)) + ((3 : Int64) * rd))), .second, .unset, .unset, .unset, .unset, .unset, .unset, .unset, .unset] [(.long (((((5 : Int64) * rb) + ((7 : Int64) * rc)) + ((5 : Int64) * rd)) + ((3 : Int64) * ra)))])) _
      refine XS.lstore X53.here hx rfl (hb hby at_147) rfl (l' := #[.val (.int p0), .val (.long q1), .second, .val (.long q2), .second, .val (.long q3), .second, .val (.long q4), .second, .val (.int (4 : Int32)), .val (.long ra), .second, .val (.long rb), .second, .val (.long rc), .second, .val (.long rd), .second, .val (.ref b45), .val (.long (((((5 : Int64) * ra) + ((7 : Int64) * rb)) + ((5 : Int64) * rc)) + ((3 : Int64) * rd))), .second, .val (.long (((((5 : Int64) * rb) + ((7 : Int64) * rc)) + ((5 : Int64) * rd)) + ((3 : Int64) * ra))), .second, .unset, .unset, .unset, .unset, .unset, .unset]) rfl ?_
      show Steps p.tables e below (T53.setTop (mkF m 149 #[.val (.int p0), .val (.long q1), .second, .val (.long q2), .second, .val (.long q3), .second, .val (.long q4), .second, .val (.int (4 : Int32)), .val (.long ra), .second, .val (.long rb), .second, .val (.long rc), .second, .val (.long rd), .second, .val (.ref b45), .val (.long (((((5 : Int64) * ra) + ((7 : Int64) * rb)) + ((5 : Int64) * rc)) + ((3 : Int64) * rd))), .second, .val (.long (((((5 : Int64) * rb) + ((7 : Int64) * rc)) + ((5 : Int64) * rd)) + ((3 : Int64) * ra))), .second, .unset, .unset, .unset, .unset, .unset, .unset] [])) _
      refine X53.ldc2Long hx hown (mvT hZ (hw _ (List.mem_of_getElem? (i := 31) rfl))) (g := (mkF m 149 #[.val (.int p0), .val (.long q1), .second, .val (.long q2), .second, .val (.long q3), .second, .val (.long q4), .second, .val (.int (4 : Int32)), .val (.long ra), .second, .val (.long rb), .second, .val (.long rc), .second, .val (.long rd), .second, .val (.ref b45), .val (.long (((((5 : Int64) * ra) + ((7 : Int64) * rb)) + ((5 : Int64) * rc)) + ((3 : Int64) * rd))), .second, .val (.long (((((5 : Int64) * rb) + ((7 : Int64) * rc)) + ((5 : Int64) * rd)) + ((3 : Int64) * ra))), .second, .unset, .unset, .unset, .unset, .unset, .unset] [])) rfl (hb hby at_149) _ ?_
      show Steps p.tables e below (T53.setTop (mkF m 152 #[.val (.int p0), .val (.long q1), .second, .val (.long q2), .second, .val (.long q3), .second, .val (.long q4), .second, .val (.int (4 : Int32)), .val (.long ra), .second, .val (.long rb), .second, .val (.long rc), .second, .val (.long rd), .second, .val (.ref b45), .val (.long (((((5 : Int64) * ra) + ((7 : Int64) * rb)) + ((5 : Int64) * rc)) + ((3 : Int64) * rd))), .second, .val (.long (((((5 : Int64) * rb) + ((7 : Int64) * rc)) + ((5 : Int64) * rd)) + ((3 : Int64) * ra))), .second, .unset, .unset, .unset, .unset, .unset, .unset] [(.long (5 : Int64))])) _
      refine XS.lload X53.here hx rfl (hb hby at_152) rfl ?_
      show Steps p.tables e below (T53.setTop (mkF m 154 #[.val (.int p0), .val (.long q1), .second, .val (.long q2), .second, .val (.long q3), .second, .val (.long q4), .second, .val (.int (4 : Int32)), .val (.long ra), .second, .val (.long rb), .second, .val (.long rc), .second, .val (.long rd), .second, .val (.ref b45), .val (.long (((((5 : Int64) * ra) + ((7 : Int64) * rb)) + ((5 : Int64) * rc)) + ((3 : Int64) * rd))), .second, .val (.long (((((5 : Int64) * rb) + ((7 : Int64) * rc)) + ((5 : Int64) * rd)) + ((3 : Int64) * ra))), .second, .unset, .unset, .unset, .unset, .unset, .unset] [(.long rc), (.long (5 : Int64))])) _
      refine XS.lmul X53.here hx rfl (hb hby at_154) rfl ?_
      show Steps p.tables e below (T53.setTop (mkF m 155 #[.val (.int p0), .val (.long q1), .second, .val (.long q2), .second, .val (.long q3), .second, .val (.long q4), .second, .val (.int (4 : Int32)), .val (.long ra), .second, .val (.long rb), .second, .val (.long rc), .second, .val (.long rd), .second, .val (.ref b45), .val (.long (((((5 : Int64) * ra) + ((7 : Int64) * rb)) + ((5 : Int64) * rc)) + ((3 : Int64) * rd))), .second, .val (.long (((((5 : Int64) * rb) + ((7 : Int64) * rc)) + ((5 : Int64) * rd)) + ((3 : Int64) * ra))), .second, .unset, .unset, .unset, .unset, .unset, .unset] [(.long ((5 : Int64) * rc))])) _
      refine X53.ldc2Long hx hown (mvT hZ (hw _ (List.mem_of_getElem? (i := 32) rfl))) (g := (mkF m 155 #[.val (.int p0), .val (.long q1), .second, .val (.long q2), .second, .val (.long q3), .second, .val (.long q4), .second, .val (.int (4 : Int32)), .val (.long ra), .second, .val (.long rb), .second, .val (.long rc), .second, .val (.long rd), .second, .val (.ref b45), .val (.long (((((5 : Int64) * ra) + ((7 : Int64) * rb)) + ((5 : Int64) * rc)) + ((3 : Int64) * rd))), .second, .val (.long (((((5 : Int64) * rb) + ((7 : Int64) * rc)) + ((5 : Int64) * rd)) + ((3 : Int64) * ra))), .second, .unset, .unset, .unset, .unset, .unset, .unset] [(.long ((5 : Int64) * rc))])) rfl (hb hby at_155) _ ?_
      show Steps p.tables e below (T53.setTop (mkF m 158 #[.val (.int p0), .val (.long q1), .second, .val (.long q2), .second, .val (.long q3), .second, .val (.long q4), .second, .val (.int (4 : Int32)), .val (.long ra), .second, .val (.long rb), .second, .val (.long rc), .second, .val (.long rd), .second, .val (.ref b45), .val (.long (((((5 : Int64) * ra) + ((7 : Int64) * rb)) + ((5 : Int64) * rc)) + ((3 : Int64) * rd))), .second, .val (.long (((((5 : Int64) * rb) + ((7 : Int64) * rc)) + ((5 : Int64) * rd)) + ((3 : Int64) * ra))), .second, .unset, .unset, .unset, .unset, .unset, .unset] [(.long (7 : Int64)), (.long ((5 : Int64) * rc))])) _
      refine XS.lload X53.here hx rfl (hb hby at_158) rfl ?_
      show Steps p.tables e below (T53.setTop (mkF m 160 #[.val (.int p0), .val (.long q1), .second, .val (.long q2), .second, .val (.long q3), .second, .val (.long q4), .second, .val (.int (4 : Int32)), .val (.long ra), .second, .val (.long rb), .second, .val (.long rc), .second, .val (.long rd), .second, .val (.ref b45), .val (.long (((((5 : Int64) * ra) + ((7 : Int64) * rb)) + ((5 : Int64) * rc)) + ((3 : Int64) * rd))), .second, .val (.long (((((5 : Int64) * rb) + ((7 : Int64) * rc)) + ((5 : Int64) * rd)) + ((3 : Int64) * ra))), .second, .unset, .unset, .unset, .unset, .unset, .unset] [(.long rd), (.long (7 : Int64)), (.long ((5 : Int64) * rc))])) _
      refine XS.lmul X53.here hx rfl (hb hby at_160) rfl ?_
      show Steps p.tables e below (T53.setTop (mkF m 161 #[.val (.int p0), .val (.long q1), .second, .val (.long q2), .second, .val (.long q3), .second, .val (.long q4), .second, .val (.int (4 : Int32)), .val (.long ra), .second, .val (.long rb), .second, .val (.long rc), .second, .val (.long rd), .second, .val (.ref b45), .val (.long (((((5 : Int64) * ra) + ((7 : Int64) * rb)) + ((5 : Int64) * rc)) + ((3 : Int64) * rd))), .second, .val (.long (((((5 : Int64) * rb) + ((7 : Int64) * rc)) + ((5 : Int64) * rd)) + ((3 : Int64) * ra))), .second, .unset, .unset, .unset, .unset, .unset, .unset] [(.long ((7 : Int64) * rd)), (.long ((5 : Int64) * rc))])) _
      refine XS.ladd X53.here hx rfl (hb hby at_161) rfl ?_
      show Steps p.tables e below (T53.setTop (mkF m 162 #[.val (.int p0), .val (.long q1), .second, .val (.long q2), .second, .val (.long q3), .second, .val (.long q4), .second, .val (.int (4 : Int32)), .val (.long ra), .second, .val (.long rb), .second, .val (.long rc), .second, .val (.long rd), .second, .val (.ref b45), .val (.long (((((5 : Int64) * ra) + ((7 : Int64) * rb)) + ((5 : Int64) * rc)) + ((3 : Int64) * rd))), .second, .val (.long (((((5 : Int64) * rb) + ((7 : Int64) * rc)) + ((5 : Int64) * rd)) + ((3 : Int64) * ra))), .second, .unset, .unset, .unset, .unset, .unset, .unset] [(.long (((5 : Int64) * rc) + ((7 : Int64) * rd)))])) _
      refine X53.ldc2Long hx hown (mvT hZ (hw _ (List.mem_of_getElem? (i := 31) rfl))) (g := (mkF m 162 #[.val (.int p0), .val (.long q1), .second, .val (.long q2), .second, .val (.long q3), .second, .val (.long q4), .second, .val (.int (4 : Int32)), .val (.long ra), .second, .val (.long rb), .second, .val (.long rc), .second, .val (.long rd), .second, .val (.ref b45), .val (.long (((((5 : Int64) * ra) + ((7 : Int64) * rb)) + ((5 : Int64) * rc)) + ((3 : Int64) * rd))), .second, .val (.long (((((5 : Int64) * rb) + ((7 : Int64) * rc)) + ((5 : Int64) * rd)) + ((3 : Int64) * ra))), .second, .unset, .unset, .unset, .unset, .unset, .unset] [(.long (((5 : Int64) * rc) + ((7 : Int64) * rd)))])) rfl (hb hby at_162) _ ?_
      show Steps p.tables e below (T53.setTop (mkF m 165 #[.val (.int p0), .val (.long q1), .second, .val (.long q2), .second, .val (.long q3), .second, .val (.long q4), .second, .val (.int (4 : Int32)), .val (.long ra), .second, .val (.long rb), .second, .val (.long rc), .second, .val (.long rd), .second, .val (.ref b45), .val (.long (((((5 : Int64) * ra) + ((7 : Int64) * rb)) + ((5 : Int64) * rc)) + ((3 : Int64) * rd))), .second, .val (.long (((((5 : Int64) * rb) + ((7 : Int64) * rc)) + ((5 : Int64) * rd)) + ((3 : Int64) * ra))), .second, .unset, .unset, .unset, .unset, .unset, .unset] [(.long (5 : Int64)), (.long (((5 : Int64) * rc) + ((7 : Int64) * rd)))])) _
      refine XS.lload X53.here hx rfl (hb hby at_165) rfl ?_
      show Steps p.tables e below (T53.setTop (mkF m 167 #[.val (.int p0), .val (.long q1), .second, .val (.long q2), .second, .val (.long q3), .second, .val (.long q4), .second, .val (.int (4 : Int32)), .val (.long ra), .second, .val (.long rb), .second, .val (.long rc), .second, .val (.long rd), .second, .val (.ref b45), .val (.long (((((5 : Int64) * ra) + ((7 : Int64) * rb)) + ((5 : Int64) * rc)) + ((3 : Int64) * rd))), .second, .val (.long (((((5 : Int64) * rb) + ((7 : Int64) * rc)) + ((5 : Int64) * rd)) + ((3 : Int64) * ra))), .second, .unset, .unset, .unset, .unset, .unset, .unset] [(.long ra), (.long (5 : Int64)), (.long (((5 : Int64) * rc) + ((7 : Int64) * rd)))])) _
      refine XS.lmul X53.here hx rfl (hb hby at_167) rfl ?_
      show Steps p.tables e below (T53.setTop (mkF m 168 #[.val (.int p0), .val (.long q1), .second, .val (.long q2), .second, .val (.long q3), .second, .val (.long q4), .second, .val (.int (4 : Int32)), .val (.long ra), .second, .val (.long rb), .second, .val (.long rc), .second, .val (.long rd), .second, .val (.ref b45), .val (.long (((((5 : Int64) * ra) + ((7 : Int64) * rb)) + ((5 : Int64) * rc)) + ((3 : Int64) * rd))), .second, .val (.long (((((5 : Int64) * rb) + ((7 : Int64) * rc)) + ((5 : Int64) * rd)) + ((3 : Int64) * ra))), .second, .unset, .unset, .unset, .unset, .unset, .unset] [(.long ((5 : Int64) * ra)), (.long (((5 : Int64) * rc) + ((7 : Int64) * rd)))])) _
      refine XS.ladd X53.here hx rfl (hb hby at_168) rfl ?_
      show Steps p.tables e below (T53.setTop (mkF m 169 #[.val (.int p0), .val (.long q1), .second, .val (.long q2), .second, .val (.long q3), .second, .val (.long q4), .second, .val (.int (4 : Int32)), .val (.long ra), .second, .val (.long rb), .second, .val (.long rc), .second, .val (.long rd), .second, .val (.ref b45), .val (.long (((((5 : Int64) * ra) + ((7 : Int64) * rb)) + ((5 : Int64) * rc)) + ((3 : Int64) * rd))), .second, .val (.long (((((5 : Int64) * rb) + ((7 : Int64) * rc)) + ((5 : Int64) * rd)) + ((3 : Int64) * ra))), .second, .unset, .unset, .unset, .unset, .unset, .unset] [(.long ((((5 : Int64) * rc) + ((7 : Int64) * rd)) + ((5 : Int64) * ra)))])) _
      refine X53.ldc2Long hx hown (mvT hZ (hw _ (List.mem_of_getElem? (i := 29) rfl))) (g := (mkF m 169 #[.val (.int p0), .val (.long q1), .second, .val (.long q2), .second, .val (.long q3), .second, .val (.long q4), .second, .val (.int (4 : Int32)), .val (.long ra), .second, .val (.long rb), .second, .val (.long rc), .second, .val (.long rd), .second, .val (.ref b45), .val (.long (((((5 : Int64) * ra) + ((7 : Int64) * rb)) + ((5 : Int64) * rc)) + ((3 : Int64) * rd))), .second, .val (.long (((((5 : Int64) * rb) + ((7 : Int64) * rc)) + ((5 : Int64) * rd)) + ((3 : Int64) * ra))), .second, .unset, .unset, .unset, .unset, .unset, .unset] [(.long ((((5 : Int64) * rc) + ((7 : Int64) * rd)) + ((5 : Int64) * ra)))])) rfl (hb hby at_169) _ ?_
      show Steps p.tables e below (T53.setTop (mkF m 172 #[.val (.int p0), .val (.long q1), .second, .val (.long q2), .second, .val (.long q3), .second, .val (.long q4), .second, .val (.int (4 : Int32)), .val (.long ra), .second, .val (.long rb), .second, .val (.long rc), .second, .val (.long rd), .second, .val (.ref b45), .val (.long (((((5 : Int64) * ra) + ((7 : Int64) * rb)) + ((5 : Int64) * rc)) + ((3 : Int64) * rd))), .second, .val (.long (((((5 : Int64) * rb) + ((7 : Int64) * rc)) + ((5 : Int64) * rd)) + ((3 : Int64) * ra))), .second, .unset, .unset, .unset, .unset, .unset, .unset] [(.long (3 : Int64)), (.long ((((5 : Int64) * rc) + ((7 : Int64) * rd)) + ((5 : Int64) * ra)))])) _
      refine XS.lload X53.here hx rfl (hb hby at_172) rfl ?_
      show Steps p.tables e below (T53.setTop (mkF m 174 #[.val (.int p0), .val (.long q1), .second, .val (.long q2), .second, .val (.long q3), .second, .val (.long q4), .second, .val (.int (4 : Int32)), .val (.long ra), .second, .val (.long rb), .second, .val (.long rc), .second, .val (.long rd), .second, .val (.ref b45), .val (.long (((((5 : Int64) * ra) + ((7 : Int64) * rb)) + ((5 : Int64) * rc)) + ((3 : Int64) * rd))), .second, .val (.long (((((5 : Int64) * rb) + ((7 : Int64) * rc)) + ((5 : Int64) * rd)) + ((3 : Int64) * ra))), .second, .unset, .unset, .unset, .unset, .unset, .unset] [(.long rb), (.long (3 : Int64)), (.long ((((5 : Int64) * rc) + ((7 : Int64) * rd)) + ((5 : Int64) * ra)))])) _
      refine XS.lmul X53.here hx rfl (hb hby at_174) rfl ?_
      show Steps p.tables e below (T53.setTop (mkF m 175 #[.val (.int p0), .val (.long q1), .second, .val (.long q2), .second, .val (.long q3), .second, .val (.long q4), .second, .val (.int (4 : Int32)), .val (.long ra), .second, .val (.long rb), .second, .val (.long rc), .second, .val (.long rd), .second, .val (.ref b45), .val (.long (((((5 : Int64) * ra) + ((7 : Int64) * rb)) + ((5 : Int64) * rc)) + ((3 : Int64) * rd))), .second, .val (.long (((((5 : Int64) * rb) + ((7 : Int64) * rc)) + ((5 : Int64) * rd)) + ((3 : Int64) * ra))), .second, .unset, .unset, .unset, .unset, .unset, .unset] [(.long ((3 : Int64) * rb)), (.long ((((5 : Int64) * rc) + ((7 : Int64) * rd)) + ((5 : Int64) * ra)))])) _
      refine XS.ladd X53.here hx rfl (hb hby at_175) rfl ?_
      show Steps p.tables e below (T53.setTop (mkF m 176 #[.val (.int p0), .val (.long q1), .second, .val (.long q2), .second, .val (.long q3), .second, .val (.long q4), .second, .val (.int (4 : Int32)), .val (.long ra), .second, .val (.long rb), .second, .val (.long rc), .second, .val (.long rd), .second, .val (.ref b45), .val (.long (((((5 : Int64) * ra) + ((7 : Int64) * rb)) + ((5 : Int64) * rc)) + ((3 : Int64) * rd))), .second, .val (.long (((((5 : Int64) * rb) + ((7 : Int64) * rc)) + ((5 : Int64) * rd)) + ((3 : Int64) * ra))), .second, .unset, .unset, .unset, .unset, .unset, .unset] [(.long (((((5 : Int64) * rc) + ((7 : Int64) * rd)) + ((5 : Int64) * ra)) + ((3 : Int64) * rb)))])) _
      refine XS.lstore X53.here hx rfl (hb hby at_176) rfl (l' := #[.val (.int p0), .val (.long q1), .second, .val (.long q2), .second, .val (.long q3), .second, .val (.long q4), .second, .val (.int (4 : Int32)), .val (.long ra), .second, .val (.long rb), .second, .val (.long rc), .second, .val (.long rd), .second, .val (.ref b45), .val (.long (((((5 : Int64) * ra) + ((7 : Int64) * rb)) + ((5 : Int64) * rc)) + ((3 : Int64) * rd))), .second, .val (.long (((((5 : Int64) * rb) + ((7 : Int64) * rc)) + ((5 : Int64) * rd)) + ((3 : Int64) * ra))), .second, .val (.long (((((5 : Int64) * rc) + ((7 : Int64) * rd)) + ((5 : Int64) * ra)) + ((3 : Int64) * rb))), .second, .unset, .unset, .unset, .unset]) rfl ?_
      show Steps p.tables e below (T53.setTop (mkF m 178 #[.val (.int p0), .val (.long q1), .second, .val (.long q2), .second, .val (.long q3), .second, .val (.long q4), .second, .val (.int (4 : Int32)), .val (.long ra), .second, .val (.long rb), .second, .val (.long rc), .second, .val (.long rd), .second, .val (.ref b45), .val (.long (((((5 : Int64) * ra) + ((7 : Int64) * rb)) + ((5 : Int64) * rc)) + ((3 : Int64) * rd))), .second, .val (.long (((((5 : Int64) * rb) + ((7 : Int64) * rc)) + ((5 : Int64) * rd)) + ((3 : Int64) * ra))), .second, .val (.long (((((5 : Int64) * rc) + ((7 : Int64) * rd)) + ((5 : Int64) * ra)) + ((3 : Int64) * rb))), .second, .unset, .unset, .unset, .unset] [])) _
      refine X53.ldc2Long hx hown (mvT hZ (hw _ (List.mem_of_getElem? (i := 31) rfl))) (g := (mkF m 178 #[.val (.int p0), .val (.long q1), .second, .val (.long q2), .second, .val (.long q3), .second, .val (.long q4), .second, .val (.int (4 : Int32)), .val (.long ra), .second, .val (.long rb), .second, .val (.long rc), .second, .val (.long rd), .second, .val (.ref b45), .val (.long (((((5 : Int64) * ra) + ((7 : Int64) * rb)) + ((5 : Int64) * rc)) + ((3 : Int64) * rd))), .second, .val (.long (((((5 : Int64) * rb) + ((7 : Int64) * rc)) + ((5 : Int64) * rd)) + ((3 : Int64) * ra))), .second, .val (.long (((((5 : Int64) * rc) + ((7 : Int64) * rd)) + ((5 : Int64) * ra)) + ((3 : Int64) * rb))), .second, .unset, .unset, .unset, .unset] [])) rfl (hb hby at_178) _ ?_
      show Steps p.tables e below (T53.setTop (mkF m 181 #[.val (.int p0), .val (.long q1), .second, .val (.long q2), .second, .val (.long q3), .second, .val (.long q4), .second, .val (.int (4 : Int32)), .val (.long ra), .second, .val (.long rb), .second, .val (.long rc), .second, .val (.long rd), .second, .val (.ref b45), .val (.long (((((5 : Int64) * ra) + ((7 : Int64) * rb)) + ((5 : Int64) * rc)) + ((3 : Int64) * rd))), .second, .val (.long (((((5 : Int64) * rb) + ((7 : Int64) * rc)) + ((5 : Int64) * rd)) + ((3 : Int64) * ra))), .second, .val (.long (((((5 : Int64) * rc) + ((7 : Int64) * rd)) + ((5 : Int64) * ra)) + ((3 : Int64) * rb))), .second, .unset, .unset, .unset, .unset] [(.long (5 : Int64))])) _
      refine XS.lload X53.here hx rfl (hb hby at_181) rfl ?_
      show Steps p.tables e below (T53.setTop (mkF m 183 #[.val (.int p0), .val (.long q1), .second, .val (.long q2), .second, .val (.long q3), .second, .val (.long q4), .second, .val (.int (4 : Int32)), .val (.long ra), .second, .val (.long rb), .second, .val (.long rc), .second, .val (.long rd), .second, .val (.ref b45), .val (.long (((((5 : Int64) * ra) + ((7 : Int64) * rb)) + ((5 : Int64) * rc)) + ((3 : Int64) * rd))), .second, .val (.long (((((5 : Int64) * rb) + ((7 : Int64) * rc)) + ((5 : Int64) * rd)) + ((3 : Int64) * ra))), .second, .val (.long (((((5 : Int64) * rc) + ((7 : Int64) * rd)) + ((5 : Int64) * ra)) + ((3 : Int64) * rb))), .second, .unset, .unset, .unset, .unset] [(.long rd), (.long (5 : Int64))])) _
      refine XS.lmul X53.here hx rfl (hb hby at_183) rfl ?_
      show Steps p.tables e below (T53.setTop (mkF m 184 #[.val (.int p0), .val (.long q1), .second, .val (.long q2), .second, .val (.long q3), .second, .val (.long q4), .second, .val (.int (4 : Int32)), .val (.long ra), .second, .val (.long rb), .second, .val (.long rc), .second, .val (.long rd), .second, .val (.ref b45), .val (.long (((((5 : Int64) * ra) + ((7 : Int64) * rb)) + ((5 : Int64) * rc)) + ((3 : Int64) * rd))), .second, .val (.long (((((5 : Int64) * rb) + ((7 : Int64) * rc)) + ((5 : Int64) * rd)) + ((3 : Int64) * ra))), .second, .val (.long (((((5 : Int64) * rc) + ((7 : Int64) * rd)) + ((5 : Int64) * ra)) + ((3 : Int64) * rb))), .second, .unset, .unset, .unset, .unset] [(.long ((5 : Int64) * rd))])) _
      refine X53.ldc2Long hx hown (mvT hZ (hw _ (List.mem_of_getElem? (i := 32) rfl))) (g := (mkF m 184 #[.val (.int p0), .val (.long q1), .second, .val (.long q2), .second, .val (.long q3), .second, .val (.long q4), .second, .val (.int (4 : Int32)), .val (.long ra), .second, .val (.long rb), .second, .val (.long rc), .second, .val (.long rd), .second, .val (.ref b45), .val (.long (((((5 : Int64) * ra) + ((7 : Int64) * rb)) + ((5 : Int64) * rc)) + ((3 : Int64) * rd))), .second, .val (.long (((((5 : Int64) * rb) + ((7 : Int64) * rc)) + ((5 : Int64) * rd)) + ((3 : Int64) * ra))), .second, .val (.long (((((5 : Int64) * rc) + ((7 : Int64) * rd)) + ((5 : Int64) * ra)) + ((3 : Int64) * rb))), .second, .unset, .unset, .unset, .unset] [(.long ((5 : Int64) * rd))])) rfl (hb hby at_184) _ ?_
      show Steps p.tables e below (T53.setTop (mkF m 187 #[.val (.int p0), .val (.long q1), .second, .val (.long q2), .second, .val (.long q3), .second, .val (.long q4), .second, .val (.int (4 : Int32)), .val (.long ra), .second, .val (.long rb), .second, .val (.long rc), .second, .val (.long rd), .second, .val (.ref b45), .val (.long (((((5 : Int64) * ra) + ((7 : Int64) * rb)) + ((5 : Int64) * rc)) + ((3 : Int64) * rd))), .second, .val (.long (((((5 : Int64) * rb) + ((7 : Int64) * rc)) + ((5 : Int64) * rd)) + ((3 : Int64) * ra))), .second, .val (.long (((((5 : Int64) * rc) + ((7 : Int64) * rd)) + ((5 : Int64) * ra)) + ((3 : Int64) * rb))), .second, .unset, .unset, .unset, .unset] [(.long (7 : Int64)), (.long ((5 : Int64) * rd))])) _
      refine XS.lload X53.here hx rfl (hb hby at_187) rfl ?_
      show Steps p.tables e below (T53.setTop (mkF m 189 #[.val (.int p0), .val (.long q1), .second, .val (.long q2), .second, .val (.long q3), .second, .val (.long q4), .second, .val (.int (4 : Int32)), .val (.long ra), .second, .val (.long rb), .second, .val (.long rc), .second, .val (.long rd), .second, .val (.ref b45), .val (.long (((((5 : Int64) * ra) + ((7 : Int64) * rb)) + ((5 : Int64) * rc)) + ((3 : Int64) * rd))), .second, .val (.long (((((5 : Int64) * rb) + ((7 : Int64) * rc)) + ((5 : Int64) * rd)) + ((3 : Int64) * ra))), .second, .val (.long (((((5 : Int64) * rc) + ((7 : Int64) * rd)) + ((5 : Int64) * ra)) + ((3 : Int64) * rb))), .second, .unset, .unset, .unset, .unset] [(.long ra), (.long (7 : Int64)), (.long ((5 : Int64) * rd))])) _
      refine XS.lmul X53.here hx rfl (hb hby at_189) rfl ?_
      show Steps p.tables e below (T53.setTop (mkF m 190 #[.val (.int p0), .val (.long q1), .second, .val (.long q2), .second, .val (.long q3), .second, .val (.long q4), .second, .val (.int (4 : Int32)), .val (.long ra), .second, .val (.long rb), .second, .val (.long rc), .second, .val (.long rd), .second, .val (.ref b45), .val (.long (((((5 : Int64) * ra) + ((7 : Int64) * rb)) + ((5 : Int64) * rc)) + ((3 : Int64) * rd))), .second, .val (.long (((((5 : Int64) * rb) + ((7 : Int64) * rc)) + ((5 : Int64) * rd)) + ((3 : Int64) * ra))), .second, .val (.long (((((5 : Int64) * rc) + ((7 : Int64) * rd)) + ((5 : Int64) * ra)) + ((3 : Int64) * rb))), .second, .unset, .unset, .unset, .unset] [(.long ((7 : Int64) * ra)), (.long ((5 : Int64) * rd))])) _
      refine XS.ladd X53.here hx rfl (hb hby at_190) rfl ?_
      show Steps p.tables e below (T53.setTop (mkF m 191 #[.val (.int p0), .val (.long q1), .second, .val (.long q2), .second, .val (.long q3), .second, .val (.long q4), .second, .val (.int (4 : Int32)), .val (.long ra), .second, .val (.long rb), .second, .val (.long rc), .second, .val (.long rd), .second, .val (.ref b45), .val (.long (((((5 : Int64) * ra) + ((7 : Int64) * rb)) + ((5 : Int64) * rc)) + ((3 : Int64) * rd))), .second, .val (.long (((((5 : Int64) * rb) + ((7 : Int64) * rc)) + ((5 : Int64) * rd)) + ((3 : Int64) * ra))), .second, .val (.long (((((5 : Int64) * rc) + ((7 : Int64) * rd)) + ((5 : Int64) * ra)) + ((3 : Int64) * rb))), .second, .unset, .unset, .unset, .unset] [(.long (((5 : Int64) * rd) + ((7 : Int64) * ra)))])) _
      refine X53.ldc2Long hx hown (mvT hZ (hw _ (List.mem_of_getElem? (i := 31) rfl))) (g := (mkF m 191 #[.val (.int p0), .val (.long q1), .second, .val (.long q2), .second, .val (.long q3), .second, .val (.long q4), .second, .val (.int (4 : Int32)), .val (.long ra), .second, .val (.long rb), .second, .val (.long rc), .second, .val (.long rd), .second, .val (.ref b45), .val (.long (((((5 : Int64) * ra) + ((7 : Int64) * rb)) + ((5 : Int64) * rc)) + ((3 : Int64) * rd))), .second, .val (.long (((((5 : Int64) * rb) + ((7 : Int64) * rc)) + ((5 : Int64) * rd)) + ((3 : Int64) * ra))), .second, .val (.long (((((5 : Int64) * rc) + ((7 : Int64) * rd)) + ((5 : Int64) * ra)) + ((3 : Int64) * rb))), .second, .unset, .unset, .unset, .unset] [(.long (((5 : Int64) * rd) + ((7 : Int64) * ra)))])) rfl (hb hby at_191) _ ?_
      show Steps p.tables e below (T53.setTop (mkF m 194 #[.val (.int p0), .val (.long q1), .second, .val (.long q2), .second, .val (.long q3), .second, .val (.long q4), .second, .val (.int (4 : Int32)), .val (.long ra), .second, .val (.long rb), .second, .val (.long rc), .second, .val (.long rd), .second, .val (.ref b45), .val (.long (((((5 : Int64) * ra) + ((7 : Int64) * rb)) + ((5 : Int64) * rc)) + ((3 : Int64) * rd))), .second, .val (.long (((((5 : Int64) * rb) + ((7 : Int64) * rc)) + ((5 : Int64) * rd)) + ((3 : Int64) * ra))), .second, .val (.long (((((5 : Int64) * rc) + ((7 : Int64) * rd)) + ((5 : Int64) * ra)) + ((3 : Int64) * rb))), .second, .unset, .unset, .unset, .unset] [(.long (5 : Int64)), (.long (((5 : Int64) * rd) + ((7 : Int64) * ra)))])) _
      refine XS.lload X53.here hx rfl (hb hby at_194) rfl ?_
      show Steps p.tables e below (T53.setTop (mkF m 196 #[.val (.int p0), .val (.long q1), .second, .val (.long q2), .second, .val (.long q3), .second, .val (.long q4), .second, .val (.int (4 : Int32)), .val (.long ra), .second, .val (.long rb), .second, .val (.long rc), .second, .val (.long rd), .second, .val (.ref b45), .val (.long (((((5 : Int64) * ra) + ((7 : Int64) * rb)) + ((5 : Int64) * rc)) + ((3 : Int64) * rd))), .second, .val (.long (((((5 : Int64) * rb) + ((7 : Int64) * rc)) + ((5 : Int64) * rd)) + ((3 : Int64) * ra))), .second, .val (.long (((((5 : Int64) * rc) + ((7 : Int64) * rd)) + ((5 : Int64) * ra)) + ((3 : Int64) * rb))), .second, .unset, .unset, .unset, .unset] [(.long rb), (.long (5 : Int64)), (.long (((5 : Int64) * rd) + ((7 : Int64) * ra)))])) _
      refine XS.lmul X53.here hx rfl (hb hby at_196) rfl ?_
      show Steps p.tables e below (T53.setTop (mkF m 197 #[.val (.int p0), .val (.long q1), .second, .val (.long q2), .second, .val (.long q3), .second, .val (.long q4), .second, .val (.int (4 : Int32)), .val (.long ra), .second, .val (.long rb), .second, .val (.long rc), .second, .val (.long rd), .second, .val (.ref b45), .val (.long (((((5 : Int64) * ra) + ((7 : Int64) * rb)) + ((5 : Int64) * rc)) + ((3 : Int64) * rd))), .second, .val (.long (((((5 : Int64) * rb) + ((7 : Int64) * rc)) + ((5 : Int64) * rd)) + ((3 : Int64) * ra))), .second, .val (.long (((((5 : Int64) * rc) + ((7 : Int64) * rd)) + ((5 : Int64) * ra)) + ((3 : Int64) * rb))), .second, .unset, .unset, .unset, .unset] [(.long ((5 : Int64) * rb)), (.long (((5 : Int64) * rd) + ((7 : Int64) * ra)))])) _
      refine XS.ladd X53.here hx rfl (hb hby at_197) rfl ?_
      show Steps p.tables e below (T53.setTop (mkF m 198 #[.val (.int p0), .val (.long q1), .second, .val (.long q2), .second, .val (.long q3), .second, .val (.long q4), .second, .val (.int (4 : Int32)), .val (.long ra), .second, .val (.long rb), .second, .val (.long rc), .second, .val (.long rd), .second, .val (.ref b45), .val (.long (((((5 : Int64) * ra) + ((7 : Int64) * rb)) + ((5 : Int64) * rc)) + ((3 : Int64) * rd))), .second, .val (.long (((((5 : Int64) * rb) + ((7 : Int64) * rc)) + ((5 : Int64) * rd)) + ((3 : Int64) * ra))), .second, .val (.long (((((5 : Int64) * rc) + ((7 : Int64) * rd)) + ((5 : Int64) * ra)) + ((3 : Int64) * rb))), .second, .unset, .unset, .unset, .unset] [(.long ((((5 : Int64) * rd) + ((7 : Int64) * ra)) + ((5 : Int64) * rb)))])) _
      refine X53.ldc2Long hx hown (mvT hZ (hw _ (List.mem_of_getElem? (i := 29) rfl))) (g := (mkF m 198 #[.val (.int p0), .val (.long q1), .second, .val (.long q2), .second, .val (.long q3), .second, .val (.long q4), .second, .val (.int (4 : Int32)), .val (.long ra), .second, .val (.long rb), .second, .val (.long rc), .second, .val (.long rd), .second, .val (.ref b45), .val (.long (((((5 : Int64) * ra) + ((7 : Int64) * rb)) + ((5 : Int64) * rc)) + ((3 : Int64) * rd))), .second, .val (.long (((((5 : Int64) * rb) + ((7 : Int64) * rc)) + ((5 : Int64) * rd)) + ((3 : Int64) * ra))), .second, .val (.long (((((5 : Int64) * rc) + ((7 : Int64) * rd)) + ((5 : Int64) * ra)) + ((3 : Int64) * rb))), .second, .unset, .unset, .unset, .unset] [(.long ((((5 : Int64) * rd) + ((7 : Int64) * ra)) + ((5 : Int64) * rb)))])) rfl (hb hby at_198) _ ?_
      show Steps p.tables e below (T53.setTop (mkF m 201 #[.val (.int p0), .val (.long q1), .second, .val (.long q2), .second, .val (.long q3), .second, .val (.long q4), .second, .val (.int (4 : Int32)), .val (.long ra), .second, .val (.long rb), .second, .val (.long rc), .second, .val (.long rd), .second, .val (.ref b45), .val (.long (((((5 : Int64) * ra) + ((7 : Int64) * rb)) + ((5 : Int64) * rc)) + ((3 : Int64) * rd))), .second, .val (.long (((((5 : Int64) * rb) + ((7 : Int64) * rc)) + ((5 : Int64) * rd)) + ((3 : Int64) * ra))), .second, .val (.long (((((5 : Int64) * rc) + ((7 : Int64) * rd)) + ((5 : Int64) * ra)) + ((3 : Int64) * rb))), .second, .unset, .unset, .unset, .unset] [(.long (3 : Int64)), (.long ((((5 : Int64) * rd) + ((7 : Int64) * ra)) + ((5 : Int64) * rb)))])) _
      refine XS.lload X53.here hx rfl (hb hby at_201) rfl ?_
      show Steps p.tables e below (T53.setTop (mkF m 203 #[.val (.int p0), .val (.long q1), .second, .val (.long q2), .second, .val (.long q3), .second, .val (.long q4), .second, .val (.int (4 : Int32)), .val (.long ra), .second, .val (.long rb), .second, .val (.long rc), .second, .val (.long rd), .second, .val (.ref b45), .val (.long (((((5 : Int64) * ra) + ((7 : Int64) * rb)) + ((5 : Int64) * rc)) + ((3 : Int64) * rd))), .second, .val (.long (((((5 : Int64) * rb) + ((7 : Int64) * rc)) + ((5 : Int64) * rd)) + ((3 : Int64) * ra))), .second, .val (.long (((((5 : Int64) * rc) + ((7 : Int64) * rd)) + ((5 : Int64) * ra)) + ((3 : Int64) * rb))), .second, .unset, .unset, .unset, .unset] [(.long rc), (.long (3 : Int64)), (.long ((((5 : Int64) * rd) + ((7 : Int64) * ra)) + ((5 : Int64) * rb)))])) _
      refine XS.lmul X53.here hx rfl (hb hby at_203) rfl ?_
      show Steps p.tables e below (T53.setTop (mkF m 204 #[.val (.int p0), .val (.long q1), .second, .val (.long q2), .second, .val (.long q3), .second, .val (.long q4), .second, .val (.int (4 : Int32)), .val (.long ra), .second, .val (.long rb), .second, .val (.long rc), .second, .val (.long rd), .second, .val (.ref b45), .val (.long (((((5 : Int64) * ra) + ((7 : Int64) * rb)) + ((5 : Int64) * rc)) + ((3 : Int64) * rd))), .second, .val (.long (((((5 : Int64) * rb) + ((7 : Int64) * rc)) + ((5 : Int64) * rd)) + ((3 : Int64) * ra))), .second, .val (.long (((((5 : Int64) * rc) + ((7 : Int64) * rd)) + ((5 : Int64) * ra)) + ((3 : Int64) * rb))), .second, .unset, .unset, .unset, .unset] [(.long ((3 : Int64) * rc)), (.long ((((5 : Int64) * rd) + ((7 : Int64) * ra)) + ((5 : Int64) * rb)))])) _
      refine XS.ladd X53.here hx rfl (hb hby at_204) rfl ?_
      show Steps p.tables e below (T53.setTop (mkF m 205 #[.val (.int p0), .val (.long q1), .second, .val (.long q2), .second, .val (.long q3), .second, .val (.long q4), .second, .val (.int (4 : Int32)), .val (.long ra), .second, .val (.long rb), .second, .val (.long rc), .second, .val (.long rd), .second, .val (.ref b45), .val (.long (((((5 : Int64) * ra) + ((7 : Int64) * rb)) + ((5 : Int64) * rc)) + ((3 : Int64) * rd))), .second, .val (.long (((((5 : Int64) * rb) + ((7 : Int64) * rc)) + ((5 : Int64) * rd)) + ((3 : Int64) * ra))), .second, .val (.long (((((5 : Int64) * rc) + ((7 : Int64) * rd)) + ((5 : Int64) * ra)) + ((3 : Int64) * rb))), .second, .unset, .unset, .unset, .unset] [(.long (((((5 : Int64) * rd) + ((7 : Int64) * ra)) + ((5 : Int64) * rb)) + ((3 : Int64) * rc)))])) _
      refine XS.lstore X53.here hx rfl (hb hby at_205) rfl (l' := #[.val (.int p0), .val (.long q1), .second, .val (.long q2), .second, .val (.long q3), .second, .val (.long q4), .second, .val (.int (4 : Int32)), .val (.long ra), .second, .val (.long rb), .second, .val (.long rc), .second, .val (.long rd), .second, .val (.ref b45), .val (.long (((((5 : Int64) * ra) + ((7 : Int64) * rb)) + ((5 : Int64) * rc)) + ((3 : Int64) * rd))), .second, .val (.long (((((5 : Int64) * rb) + ((7 : Int64) * rc)) + ((5 : Int64) * rd)) + ((3 : Int64) * ra))), .second, .val (.long (((((5 : Int64) * rc) + ((7 : Int64) * rd)) + ((5 : Int64) * ra)) + ((3 : Int64) * rb))), .second, .val (.long (((((5 : Int64) * rd) + ((7 : Int64) * ra)) + ((5 : Int64) * rb)) + ((3 : Int64) * rc))), .second, .unset, .unset]) rfl ?_
      show Steps p.tables e below (T53.setTop (mkF m 207 #[.val (.int p0), .val (.long q1), .second, .val (.long q2), .second, .val (.long q3), .second, .val (.long q4), .second, .val (.int (4 : Int32)), .val (.long ra), .second, .val (.long rb), .second, .val (.long rc), .second, .val (.long rd), .second, .val (.ref b45), .val (.long (((((5 : Int64) * ra) + ((7 : Int64) * rb)) + ((5 : Int64) * rc)) + ((3 : Int64) * rd))), .second, .val (.long (((((5 : Int64) * rb) + ((7 : Int64) * rc)) + ((5 : Int64) * rd)) + ((3 : Int64) * ra))), .second, .val (.long (((((5 : Int64) * rc) + ((7 : Int64) * rd)) + ((5 : Int64) * ra)) + ((3 : Int64) * rb))), .second, .val (.long (((((5 : Int64) * rd) + ((7 : Int64) * ra)) + ((5 : Int64) * rb)) + ((3 : Int64) * rc))), .second, .unset, .unset] [])) _
      refine XS.goto X53.here hx rfl (pc0 := 207) (pc' := 345) rfl (hb hby at_207) (by decide) (by decide) ?_
      show Steps p.tables e below (T53.setTop (mkF m 345 #[.val (.int p0), .val (.long q1), .second, .val (.long q2), .second, .val (.long q3), .second, .val (.long q4), .second, .val (.int (4 : Int32)), .val (.long ra), .second, .val (.long rb), .second, .val (.long rc), .second, .val (.long rd), .second, .val (.ref b45), .val (.long (((((5 : Int64) * ra) + ((7 : Int64) * rb)) + ((5 : Int64) * rc)) + ((3 : Int64) * rd))), .second, .val (.long (((((5 : Int64) * rb) + ((7 : Int64) * rc)) + ((5 : Int64) * rd)) + ((3 : Int64) * ra))), .second, .val (.long (((((5 : Int64) * rc) + ((7 : Int64) * rd)) + ((5 : Int64) * ra)) + ((3 : Int64) * rb))), .second, .val (.long (((((5 : Int64) * rd) + ((7 : Int64) * ra)) + ((5 : Int64) * rb)) + ((3 : Int64) * rc))), .second, .unset, .unset] [])) _
      exact k
    obtain ⟨v0, hv0⟩ : ∃ z : Int64, z = (((((5 : Int64) * ra) + ((7 : Int64) * rb)) + ((5 : Int64) * rc)) + ((3 : Int64) * rd)) := ⟨_, rfl⟩
    rw [← hv0] at pre54
    obtain ⟨v1, hv1⟩ : ∃ z : Int64, z = (((((5 : Int64) * rb) + ((7 : Int64) * rc)) + ((5 : Int64) * rd)) + ((3 : Int64) * ra)) := ⟨_, rfl⟩
    rw [← hv1] at pre54
    obtain ⟨v2, hv2⟩ : ∃ z : Int64, z = (((((5 : Int64) * rc) + ((7 : Int64) * rd)) + ((5 : Int64) * ra)) + ((3 : Int64) * rb)) := ⟨_, rfl⟩
    rw [← hv2] at pre54
    obtain ⟨v3, hv3⟩ : ∃ z : Int64, z = (((((5 : Int64) * rd) + ((7 : Int64) * ra)) + ((5 : Int64) * rb)) + ((3 : Int64) * rc)) := ⟨_, rfl⟩
    rw [← hv3] at pre54
    obtain ⟨_, _, ⟨T55, L55, k55, n55⟩, -, X55, ⟨Lc55, hQ55, l55, y55, z55⟩, st55⟩ := Jvm.LawKit.callS X53 hx (y := (⟨"com/example/hummingbird/hummingbird/engine/RhythmLeastWaitingPointPinLaw", "earliestLeast", "(IJJJJ)I"⟩ : MethodName)) hown (mvT hZ (hw _ (List.mem_of_getElem? (i := 2) rfl))) (mvT hZ (hw _ (List.mem_of_getElem? (i := 3) rfl))) (mvT hZ (hw _ (List.mem_of_getElem? (i := 4) rfl))) (mvT hZ (hw _ (List.mem_of_getElem? (i := 5) rfl))) (by decide) (backOf (W := 0) (rmE4 l Z a0 hw [] v0 v1 v2 v3  h53 n0 (Nat.le_trans (Nat.le_trans (Nat.le_trans (Nat.le_trans (Nat.le_trans Z0 E45.1) (Keep.of_wr W47).1) (Keep.of_wr W49).1) (Keep.of_wr W51).1) (Keep.of_wr W53).1) ) hZ (hw _ (List.mem_of_getElem? (i := 5) rfl)) (hw _ (List.mem_of_getElem? (i := 4) rfl)) (by decide) (by decide)) (g := (mkF m 355 #[.val (.int p0), .val (.long q1), .second, .val (.long q2), .second, .val (.long q3), .second, .val (.long q4), .second, .val (.int (4 : Int32)), .val (.long ra), .second, .val (.long rb), .second, .val (.long rc), .second, .val (.long rd), .second, .val (.ref b45), .val (.long v0), .second, .val (.long v1), .second, .val (.long v2), .second, .val (.long v3), .second, .unset, .unset] [(.long v3), (.long v2), (.long v1), (.long v0), (.int (4 : Int32))])) rfl (by rw [hml]; rfl) (argsL := [(.int (4 : Int32)), (.long v0), (.long v1), (.long v2), (.long v3)]) (rest := []) (lenOf pd_1 rfl) rfl (by show 2 * 0 + _ ≤ _; exact Nat.le_of_eq rfl) (hb hby at_355) (fun _ _ => ⟨rfl, e53, (by decide : 1 + 0 ≤ _), (by decide : 4 + 0 ≤ _)⟩)
    dsimp only [Pt.U, Pt.locs, Pt.cells, Pt.slots] at X55 l55 y55 z55 st55 hQ55
    subst l55 y55 z55
    obtain ⟨rfl, N55q, hq55⟩ := hQ55
    have N55 := Fr.app N53 N55q
    obtain ⟨T56, h56, X56, e56, E56, A56, D56, -, st56⟩ := newO X55 hx hZ hown (hw _ (List.mem_of_getElem? (i := 6) rfl)) (hw _ (List.mem_of_getElem? (i := 7) rfl)) (hw _ (List.mem_of_getElem? (i := 8) rfl)) hq55 (g := (mkF m 360 #[.val (.int p0), .val (.long q1), .second, .val (.long q2), .second, .val (.long q3), .second, .val (.long q4), .second, .val (.int (4 : Int32)), .val (.long ra), .second, .val (.long rb), .second, .val (.long rc), .second, .val (.long rd), .second, .val (.ref b45), .val (.long v0), .second, .val (.long v1), .second, .val (.long v2), .second, .val (.long v3), .second, .val (.int (own_e (4 : Int32) v0 v1 v2 v3)), .unset] [])) rfl (hb hby at_360) (by decide) (by decide)
    obtain ⟨b56, g56⟩ : ∃ z, z = h53.size := ⟨_, rfl⟩
    rw [← g56] at A56 D56 st56
    have F56_points : Fld Z h56 b56 "com/example/hummingbird/hummingbird/engine/Rhythm" "points" "I" (.int (0 : Int32)) := D56 (Or.inr (hw _ (List.mem_of_getElem? (i := 16) rfl))) (ty := .int) (by decide)
    have F56_rates : Fld Z h56 b56 "com/example/hummingbird/hummingbird/engine/Rhythm" "rates" "[J" .null := D56 (Or.inr (hw _ (List.mem_of_getElem? (i := 18) rfl))) (ty := (.array .long)) (by decide)
    have g_b56 : n0 ≤ b56 := Nat.le_trans (Nat.le_trans (Nat.le_trans (Nat.le_trans (Nat.le_trans (Nat.le_trans Z0 E45.1) (Keep.of_wr W47).1) (Keep.of_wr W49).1) (Keep.of_wr W51).1) (Keep.of_wr W53).1) (Nat.le_of_eq g56.symm)
    have sz_b56 : h0.size ≤ b56 := (Nat.le_trans K53.1 (Nat.le_of_eq g56.symm))
    have K56 : Keep h0 h56 [] := K53.ext E56
    obtain ⟨cl57, Ar57, q57, S57, M57, H57, G57⟩ := (V53.ext E56)
    obtain ⟨_, _, ⟨T58, L58, k58, n58⟩, -, X58, ⟨Lc58, hQ58, l58, y58, z58⟩, st58⟩ := X56.specialBack hx (y := (⟨"com/example/hummingbird/hummingbird/engine/Rhythm", "<init>", "([J)V"⟩ : MethodName)) rfl hown (mvT hZ (hw _ (List.mem_of_getElem? (i := 9) rfl))) (mvT hZ (hw _ (List.mem_of_getElem? (i := 10) rfl))) (mvT hZ (hw _ (List.mem_of_getElem? (i := 11) rfl))) (by decide) (backOf (W := 1) (rmI l Z a0 hw [] b56 b45 cl57 (4 : Int32) h56 n0 (Nat.le_trans (Nat.le_trans (Nat.le_trans (Nat.le_trans (Nat.le_trans (Nat.le_trans Z0 E45.1) (Keep.of_wr W47).1) (Keep.of_wr W49).1) (Keep.of_wr W51).1) (Keep.of_wr W53).1) E56.1) F56_points F56_rates A56 g_b56 Ar57 S57 M57) hZ (hw _ (List.mem_of_getElem? (i := 11) rfl)) (hw _ (List.mem_of_getElem? (i := 8) rfl)) (by decide) (by decide)) (g := (mkF m 366 #[.val (.int p0), .val (.long q1), .second, .val (.long q2), .second, .val (.long q3), .second, .val (.long q4), .second, .val (.int (4 : Int32)), .val (.long ra), .second, .val (.long rb), .second, .val (.long rc), .second, .val (.long rd), .second, .val (.ref b45), .val (.long v0), .second, .val (.long v1), .second, .val (.long v2), .second, .val (.long v3), .second, .val (.int (own_e (4 : Int32) v0 v1 v2 v3)), .unset] [(.ref b45), (.ref b56), (.ref b56)])) rfl (by rw [hml]; rfl) (Steps.refl _) (a := b56) (argsL := [(.ref b45)]) (rest := [(.ref b56)]) (lenOf pd_2 rfl) rfl (by show 2 * 0 + _ ≤ _; exact Nat.le_of_eq rfl) (hb hby at_366) (fun _ _ => ⟨rfl, e56, (by decide : 2 + 0 ≤ _), (by decide : 8 + 0 ≤ _)⟩)
    dsimp only [Pt.U, Pt.locs, Pt.cells, Pt.slots] at X58 l58 y58 z58 st58 hQ58
    subst l58 y58 z58
    obtain ⟨rfl, N58q, Kq58, Eq58, F1q58, F2q58⟩ := hQ58
    have N58 := Fr.app N55 N58q
    have K58 : Keep h0 T58.heap [] := K56.trans Kq58 (allS (Or.inr sz_b56) all0)
    obtain ⟨cl59, Ar59, q59, S59, M59, H59, G59⟩ := ((V53.ext E56).keep Kq58 (ninS (Nat.ne_of_lt (Nat.lt_of_lt_of_le V53.lt (Nat.le_of_eq g56.symm))) nin0))
    have t0 : cl59.slots[0]? = some (.long ra) := H59 0 (by rw [S59]; decide)
    have t1 : cl59.slots[1]? = some (.long rb) := H59 1 (by rw [S59]; decide)
    have t2 : cl59.slots[2]? = some (.long rc) := H59 2 (by rw [S59]; decide)
    have t3 : cl59.slots[3]? = some (.long rd) := H59 3 (by rw [S59]; decide)
    obtain ⟨cq60, kq60, q60a, q60b, q60c⟩ := isOf hZ rfl Eq58
    obtain ⟨_, _, ⟨T60, L60, k60, n60⟩, -, X60, ⟨Lc60, hQ60, l60, y60, z60⟩, st60⟩ := X58.virtualBack hx (y := (⟨"com/example/hummingbird/hummingbird/engine/Rhythm", "leastWaitingPoint", "()I"⟩ : MethodName)) (z := (⟨"com/example/hummingbird/hummingbird/engine/Rhythm", "leastWaitingPoint", "()I"⟩ : MethodName)) hown (mvT hZ (hw _ (List.mem_of_getElem? (i := 19) rfl))) (mvT hZ (hw _ (List.mem_of_getElem? (i := 20) rfl))) (notFace_of_selects (args := #[]) (mvT hZ (hw _ (List.mem_of_getElem? (i := 22) rfl)))) (mvT hZ (hw _ (List.mem_of_getElem? (i := 22) rfl))) (mvT hZ (hw _ (List.mem_of_getElem? (i := 21) rfl))) (by decide) (backOf (W := 0) (rmL4 l Z a0 hw [] b56 b45 cl59 ra rb rc rd T58.heap n0 (Nat.le_trans (Nat.le_trans (Nat.le_trans (Nat.le_trans (Nat.le_trans (Nat.le_trans (Nat.le_trans Z0 E45.1) (Keep.of_wr W47).1) (Keep.of_wr W49).1) (Keep.of_wr W51).1) (Keep.of_wr W53).1) E56.1) Kq58.1) Eq58 F1q58 F2q58 Ar59 S59 t0 t1 t2 t3) hZ (hw _ (List.mem_of_getElem? (i := 23) rfl)) (hw _ (List.mem_of_getElem? (i := 8) rfl)) (by decide) (by decide)) q60a q60c (g := (mkF m 369 #[.val (.int p0), .val (.long q1), .second, .val (.long q2), .second, .val (.long q3), .second, .val (.long q4), .second, .val (.int (4 : Int32)), .val (.long ra), .second, .val (.long rb), .second, .val (.long rc), .second, .val (.long rd), .second, .val (.ref b45), .val (.long v0), .second, .val (.long v1), .second, .val (.long v2), .second, .val (.long v3), .second, .val (.int (own_e (4 : Int32) v0 v1 v2 v3)), .unset] [(.ref b56)])) rfl (by rw [hml]; rfl) (Steps.refl _) (argsL := []) (rest := []) (lenOf pd_3 rfl) rfl (by show 2 * 0 + _ ≤ _; exact Nat.le_of_eq rfl) (hb hby at_369) (fun _ _ => ⟨rfl, rfl, (by decide : 2 + 0 ≤ _), (by decide : 8 + 0 ≤ _)⟩)
    dsimp only [Pt.U, Pt.locs, Pt.cells, Pt.slots] at X60 l60 y60 z60 st60 hQ60
    subst l60 y60 z60
    obtain ⟨rfl, N60q, hq60⟩ := hQ60
    have N60 := Fr.app N58 N60q
    have pre61 : ∀ t, Steps p.tables e below (T60.setTop (mkF m 386 #[.val (.int p0), .val (.long q1), .second, .val (.long q2), .second, .val (.long q3), .second, .val (.long q4), .second, .val (.int (4 : Int32)), .val (.long ra), .second, .val (.long rb), .second, .val (.long rc), .second, .val (.long rd), .second, .val (.ref b45), .val (.long v0), .second, .val (.long v1), .second, .val (.long v2), .second, .val (.long v3), .second, .val (.int (own_e (4 : Int32) v0 v1 v2 v3)), .val (.int (own_l4 ra rb rc rd))] [(.int (1 : Int32))])) t → Steps p.tables e below (s₁.setTop (entryFrame m #[(.int p0), (.long q1), (.long q2), (.long q3), (.long q4)] maxLocals)) t := by
      intro t k
      refine pre54 t ?_
      show Steps p.tables e below (T53.setTop (mkF m 345 #[.val (.int p0), .val (.long q1), .second, .val (.long q2), .second, .val (.long q3), .second, .val (.long q4), .second, .val (.int (4 : Int32)), .val (.long ra), .second, .val (.long rb), .second, .val (.long rc), .second, .val (.long rd), .second, .val (.ref b45), .val (.long v0), .second, .val (.long v1), .second, .val (.long v2), .second, .val (.long v3), .second, .unset, .unset] [])) _
      refine XS.iload X53.here hx rfl (hb hby at_345) rfl ?_
      show Steps p.tables e below (T53.setTop (mkF m 347 #[.val (.int p0), .val (.long q1), .second, .val (.long q2), .second, .val (.long q3), .second, .val (.long q4), .second, .val (.int (4 : Int32)), .val (.long ra), .second, .val (.long rb), .second, .val (.long rc), .second, .val (.long rd), .second, .val (.ref b45), .val (.long v0), .second, .val (.long v1), .second, .val (.long v2), .second, .val (.long v3), .second, .unset, .unset] [(.int (4 : Int32))])) _
      refine XS.lload X53.here hx rfl (hb hby at_347) rfl ?_
      show Steps p.tables e below (T53.setTop (mkF m 349 #[.val (.int p0), .val (.long q1), .second, .val (.long q2), .second, .val (.long q3), .second, .val (.long q4), .second, .val (.int (4 : Int32)), .val (.long ra), .second, .val (.long rb), .second, .val (.long rc), .second, .val (.long rd), .second, .val (.ref b45), .val (.long v0), .second, .val (.long v1), .second, .val (.long v2), .second, .val (.long v3), .second, .unset, .unset] [(.long v0), (.int (4 : Int32))])) _
      refine XS.lload X53.here hx rfl (hb hby at_349) rfl ?_
      show Steps p.tables e below (T53.setTop (mkF m 351 #[.val (.int p0), .val (.long q1), .second, .val (.long q2), .second, .val (.long q3), .second, .val (.long q4), .second, .val (.int (4 : Int32)), .val (.long ra), .second, .val (.long rb), .second, .val (.long rc), .second, .val (.long rd), .second, .val (.ref b45), .val (.long v0), .second, .val (.long v1), .second, .val (.long v2), .second, .val (.long v3), .second, .unset, .unset] [(.long v1), (.long v0), (.int (4 : Int32))])) _
      refine XS.lload X53.here hx rfl (hb hby at_351) rfl ?_
      show Steps p.tables e below (T53.setTop (mkF m 353 #[.val (.int p0), .val (.long q1), .second, .val (.long q2), .second, .val (.long q3), .second, .val (.long q4), .second, .val (.int (4 : Int32)), .val (.long ra), .second, .val (.long rb), .second, .val (.long rc), .second, .val (.long rd), .second, .val (.ref b45), .val (.long v0), .second, .val (.long v1), .second, .val (.long v2), .second, .val (.long v3), .second, .unset, .unset] [(.long v2), (.long v1), (.long v0), (.int (4 : Int32))])) _
      refine XS.lload X53.here hx rfl (hb hby at_353) rfl ?_
      show Steps p.tables e below (T53.setTop (mkF m 355 #[.val (.int p0), .val (.long q1), .second, .val (.long q2), .second, .val (.long q3), .second, .val (.long q4), .second, .val (.int (4 : Int32)), .val (.long ra), .second, .val (.long rb), .second, .val (.long rc), .second, .val (.long rd), .second, .val (.ref b45), .val (.long v0), .second, .val (.long v1), .second, .val (.long v2), .second, .val (.long v3), .second, .unset, .unset] [(.long v3), (.long v2), (.long v1), (.long v0), (.int (4 : Int32))])) _
      refine st55 _ ?_
      show Steps p.tables e below (T55.setTop (mkF m 358 #[.val (.int p0), .val (.long q1), .second, .val (.long q2), .second, .val (.long q3), .second, .val (.long q4), .second, .val (.int (4 : Int32)), .val (.long ra), .second, .val (.long rb), .second, .val (.long rc), .second, .val (.long rd), .second, .val (.ref b45), .val (.long v0), .second, .val (.long v1), .second, .val (.long v2), .second, .val (.long v3), .second, .unset, .unset] [(.int (own_e (4 : Int32) v0 v1 v2 v3))])) _
      refine XS.istore X55.here hx rfl (hb hby at_358) rfl (l' := #[.val (.int p0), .val (.long q1), .second, .val (.long q2), .second, .val (.long q3), .second, .val (.long q4), .second, .val (.int (4 : Int32)), .val (.long ra), .second, .val (.long rb), .second, .val (.long rc), .second, .val (.long rd), .second, .val (.ref b45), .val (.long v0), .second, .val (.long v1), .second, .val (.long v2), .second, .val (.long v3), .second, .val (.int (own_e (4 : Int32) v0 v1 v2 v3)), .unset]) rfl ?_
      show Steps p.tables e below (T55.setTop (mkF m 360 #[.val (.int p0), .val (.long q1), .second, .val (.long q2), .second, .val (.long q3), .second, .val (.long q4), .second, .val (.int (4 : Int32)), .val (.long ra), .second, .val (.long rb), .second, .val (.long rc), .second, .val (.long rd), .second, .val (.ref b45), .val (.long v0), .second, .val (.long v1), .second, .val (.long v2), .second, .val (.long v3), .second, .val (.int (own_e (4 : Int32) v0 v1 v2 v3)), .unset] [])) _
      refine st56 _ ?_
      show Steps p.tables e below (T56.setTop (mkF m 363 #[.val (.int p0), .val (.long q1), .second, .val (.long q2), .second, .val (.long q3), .second, .val (.long q4), .second, .val (.int (4 : Int32)), .val (.long ra), .second, .val (.long rb), .second, .val (.long rc), .second, .val (.long rd), .second, .val (.ref b45), .val (.long v0), .second, .val (.long v1), .second, .val (.long v2), .second, .val (.long v3), .second, .val (.int (own_e (4 : Int32) v0 v1 v2 v3)), .unset] [(.ref b56)])) _
      refine XS.dup X56.here hx rfl (hb hby at_363) rfl rfl ?_
      show Steps p.tables e below (T56.setTop (mkF m 364 #[.val (.int p0), .val (.long q1), .second, .val (.long q2), .second, .val (.long q3), .second, .val (.long q4), .second, .val (.int (4 : Int32)), .val (.long ra), .second, .val (.long rb), .second, .val (.long rc), .second, .val (.long rd), .second, .val (.ref b45), .val (.long v0), .second, .val (.long v1), .second, .val (.long v2), .second, .val (.long v3), .second, .val (.int (own_e (4 : Int32) v0 v1 v2 v3)), .unset] [(.ref b56), (.ref b56)])) _
      refine XS.aload X56.here hx rfl (hb hby at_364) rfl (rfl) ?_
      show Steps p.tables e below (T56.setTop (mkF m 366 #[.val (.int p0), .val (.long q1), .second, .val (.long q2), .second, .val (.long q3), .second, .val (.long q4), .second, .val (.int (4 : Int32)), .val (.long ra), .second, .val (.long rb), .second, .val (.long rc), .second, .val (.long rd), .second, .val (.ref b45), .val (.long v0), .second, .val (.long v1), .second, .val (.long v2), .second, .val (.long v3), .second, .val (.int (own_e (4 : Int32) v0 v1 v2 v3)), .unset] [(.ref b45), (.ref b56), (.ref b56)])) _
      refine st58.trans ?_
      show Steps p.tables e below (T58.setTop (mkF m 369 #[.val (.int p0), .val (.long q1), .second, .val (.long q2), .second, .val (.long q3), .second, .val (.long q4), .second, .val (.int (4 : Int32)), .val (.long ra), .second, .val (.long rb), .second, .val (.long rc), .second, .val (.long rd), .second, .val (.ref b45), .val (.long v0), .second, .val (.long v1), .second, .val (.long v2), .second, .val (.long v3), .second, .val (.int (own_e (4 : Int32) v0 v1 v2 v3)), .unset] [(.ref b56)])) _
      refine st60.trans ?_
      show Steps p.tables e below (T60.setTop (mkF m 372 #[.val (.int p0), .val (.long q1), .second, .val (.long q2), .second, .val (.long q3), .second, .val (.long q4), .second, .val (.int (4 : Int32)), .val (.long ra), .second, .val (.long rb), .second, .val (.long rc), .second, .val (.long rd), .second, .val (.ref b45), .val (.long v0), .second, .val (.long v1), .second, .val (.long v2), .second, .val (.long v3), .second, .val (.int (own_e (4 : Int32) v0 v1 v2 v3)), .unset] [(.int (own_l4 ra rb rc rd))])) _
      refine XS.istore X60.here hx rfl (hb hby at_372) rfl (l' := #[.val (.int p0), .val (.long q1), .second, .val (.long q2), .second, .val (.long q3), .second, .val (.long q4), .second, .val (.int (4 : Int32)), .val (.long ra), .second, .val (.long rb), .second, .val (.long rc), .second, .val (.long rd), .second, .val (.ref b45), .val (.long v0), .second, .val (.long v1), .second, .val (.long v2), .second, .val (.long v3), .second, .val (.int (own_e (4 : Int32) v0 v1 v2 v3)), .val (.int (own_l4 ra rb rc rd))]) rfl ?_
      show Steps p.tables e below (T60.setTop (mkF m 374 #[.val (.int p0), .val (.long q1), .second, .val (.long q2), .second, .val (.long q3), .second, .val (.long q4), .second, .val (.int (4 : Int32)), .val (.long ra), .second, .val (.long rb), .second, .val (.long rc), .second, .val (.long rd), .second, .val (.ref b45), .val (.long v0), .second, .val (.long v1), .second, .val (.long v2), .second, .val (.long v3), .second, .val (.int (own_e (4 : Int32) v0 v1 v2 v3)), .val (.int (own_l4 ra rb rc rd))] [])) _
      refine XS.iload X60.here hx rfl (hb hby at_374) rfl ?_
      show Steps p.tables e below (T60.setTop (mkF m 376 #[.val (.int p0), .val (.long q1), .second, .val (.long q2), .second, .val (.long q3), .second, .val (.long q4), .second, .val (.int (4 : Int32)), .val (.long ra), .second, .val (.long rb), .second, .val (.long rc), .second, .val (.long rd), .second, .val (.ref b45), .val (.long v0), .second, .val (.long v1), .second, .val (.long v2), .second, .val (.long v3), .second, .val (.int (own_e (4 : Int32) v0 v1 v2 v3)), .val (.int (own_l4 ra rb rc rd))] [(.int (own_l4 ra rb rc rd))])) _
      refine XS.iload X60.here hx rfl (hb hby at_376) rfl ?_
      show Steps p.tables e below (T60.setTop (mkF m 378 #[.val (.int p0), .val (.long q1), .second, .val (.long q2), .second, .val (.long q3), .second, .val (.long q4), .second, .val (.int (4 : Int32)), .val (.long ra), .second, .val (.long rb), .second, .val (.long rc), .second, .val (.long rd), .second, .val (.ref b45), .val (.long v0), .second, .val (.long v1), .second, .val (.long v2), .second, .val (.long v3), .second, .val (.int (own_e (4 : Int32) v0 v1 v2 v3)), .val (.int (own_l4 ra rb rc rd))] [(.int (own_e (4 : Int32) v0 v1 v2 v3)), (.int (own_l4 ra rb rc rd))])) _
      refine XS.icmpNo X60.here hx rfl (hb hby at_378) rfl (teq (own_law4 bra brb brc brd hv0 hv1 hv2 hv3)).2 ?_
      show Steps p.tables e below (T60.setTop (mkF m 381 #[.val (.int p0), .val (.long q1), .second, .val (.long q2), .second, .val (.long q3), .second, .val (.long q4), .second, .val (.int (4 : Int32)), .val (.long ra), .second, .val (.long rb), .second, .val (.long rc), .second, .val (.long rd), .second, .val (.ref b45), .val (.long v0), .second, .val (.long v1), .second, .val (.long v2), .second, .val (.long v3), .second, .val (.int (own_e (4 : Int32) v0 v1 v2 v3)), .val (.int (own_l4 ra rb rc rd))] [])) _
      refine XS.iconst X60.here hx rfl (hb hby at_381) ?_
      show Steps p.tables e below (T60.setTop (mkF m 382 #[.val (.int p0), .val (.long q1), .second, .val (.long q2), .second, .val (.long q3), .second, .val (.long q4), .second, .val (.int (4 : Int32)), .val (.long ra), .second, .val (.long rb), .second, .val (.long rc), .second, .val (.long rd), .second, .val (.ref b45), .val (.long v0), .second, .val (.long v1), .second, .val (.long v2), .second, .val (.long v3), .second, .val (.int (own_e (4 : Int32) v0 v1 v2 v3)), .val (.int (own_l4 ra rb rc rd))] [(.int (1 : Int32))])) _
      refine XS.goto X60.here hx rfl (pc0 := 382) (pc' := 386) rfl (hb hby at_382) (by decide) (by decide) ?_
      show Steps p.tables e below (T60.setTop (mkF m 386 #[.val (.int p0), .val (.long q1), .second, .val (.long q2), .second, .val (.long q3), .second, .val (.long q4), .second, .val (.int (4 : Int32)), .val (.long ra), .second, .val (.long rb), .second, .val (.long rc), .second, .val (.long rd), .second, .val (.ref b45), .val (.long v0), .second, .val (.long v1), .second, .val (.long v2), .second, .val (.long v3), .second, .val (.int (own_e (4 : Int32) v0 v1 v2 v3)), .val (.int (own_l4 ra rb rc rd))] [(.int (1 : Int32))])) _
      exact k
    obtain ⟨fs, hr, hrun, hended, hW, hsame⟩ := X60.leave (v := some (.int (1 : Int32))) (fun h => by rw [Bd.returns] at h; cases h)
    refine ⟨_, _, pre61 _ ?_, hrun, hended, _, _, rfl, ?_, ⟨_, rfl⟩, hW, hsame.mono (by decide) (by decide)⟩
    · exact retN X60 hx (t := .boolean) Bd.returns (by simp) (hb hby at_386) hr
    · show Q_rm0 Z p0 q1 q2 q3 q4 h0 n0 _ T60.heap _
      rw [hq60]
      exact ⟨rfl, N60⟩
set_option maxRecDepth 65536 in
set_option maxHeartbeats 40000000 in
theorem comes_1 {Post : Tables → Env → Array Value → State → Outcome → State → Prop} (hpost : ∀ tb e args s v u, (limb_1_1.after args s (.returned v) u = true ∧ limb_1_2.after args s (.returned v) u = true ∧ True) → FrameEnd s (.returned v) u (Jvm.fieldLocs frame_1_writes args s ++ Jvm.arrayLocs frame_1_arrays args s ++ Jvm.staticLocs frame_1_statics s) 16 128 → Post tb e args s (.returned v) u) :
    ArmFor flags0 classFile x code maxLocals ret World_1 tables_1 room_1 Calls_1 rest_1 Pre_1 Post := by
  intro l hfl _ _ p e ha hc hk s m args below hf hA hF happ hP
  obtain ⟨hcalls, hrest, hpre⟩ := hP
  obtain ⟨-, -, -, hnamed, -, -, -, hat⟩ := (Spec.applies_iff hf).mp happ
  obtain ⟨hg, hn⟩ := and_e (Cond.before_iff.mp (show (Jvm.Cond.and given_1 narrow_1).before args s = true from hpre))
  obtain ⟨g1, g2⟩ := and_e hg
  obtain ⟨g3, g4⟩ := and_e g2
  obtain ⟨g5, g6⟩ := and_e g4
  obtain ⟨g7, g8⟩ := and_e g6
  obtain ⟨g9, g10⟩ := and_e g8
  obtain ⟨w0, w1, w2, w3, w4, rfl⟩ : ∃ w0 w1 w2 w3 w4 : Value, args = #[w0, w1, w2, w3, w4] := by
    have hs : args.size = 5 := by simpa [Cond.value, given_1] using g1
    obtain ⟨L⟩ := args
    match L, hs with
    | [w0, w1, w2, w3, w4], _ => exact ⟨w0, w1, w2, w3, w4, rfl⟩
  have hw := fun d (hd : d ∈ tables_1) => atoms_spec (ws := Jvm.Cond.code x code maxLocals ret :: tables_1) hat d (List.mem_cons_of_mem _ hd)
  obtain ⟨i0, ei0⟩ := is_v g3
  obtain rfl : w0 = (.int i0) := Option.some.inj ei0
  obtain ⟨i1, ei1⟩ := isL_v g5
  obtain rfl : w1 = (.long i1) := Option.some.inj ei1
  obtain ⟨i2, ei2⟩ := isL_v g7
  obtain rfl : w2 = (.long i2) := Option.some.inj ei2
  obtain ⟨i3, ei3⟩ := isL_v g9
  obtain rfl : w3 = (.long i3) := Option.some.inj ei3
  obtain ⟨i4, ei4⟩ := isL_v g10
  obtain rfl : w4 = (.long i4) := Option.some.inj ei4
  obtain ⟨n, o, h1, h2, h3, _, L, rfl, ⟨rfl, N⟩, hq⟩ := rm0 l s _ hw tables_1 i0 i1 i2 i3 i4 s.heap s.heap.size (Nat.le_refl _)  p e ha hc hk s m _ below hf ((Spec.applies_iff_loose hf).mp happ).1 ⟨rfl, State.Warmed39.refl s, rfl⟩ trivial
  refine ⟨n, _, h1, h2, h3, hpost _ _ _ _ _ _ ⟨Cond.after_iff.mpr rfl, Cond.after_iff.mpr (eq_i res_at (Term.int_eval (1)) rfl), trivial⟩ ⟨hq.1, hq.2.1, (hq.2.2.sift fun y hy => Or.inr (N y hy)).mono (by decide) (by decide)⟩⟩
theorem main_1_1 : Claimed_1_1 := comes_1 fun _ _ _ _ _ _ h hF => ⟨h.1, hF⟩
theorem main_1_2 : Claimed_1_2 := comes_1 fun _ _ _ _ _ _ h hF => ⟨h.2.1, hF⟩
end Jvm.Pilot.@@N@@
namespace Jvm.Pilot.@@N@@
open Jvm Jvm.ClassFile Sem Op Lib Jvm.Free Jvm.Stand Jvm.Pilot.@@N@@.Jvm.D
/-! MADE BY PROGRAM (witnessworld.py) out of the Statement's table words and the real class files: 11 classes; the members and pool entries that the words name. The judged class is class 1, her method 1. -/
namespace start1
open Jvm.ClassFile
def u (s : String) : CpInfo := .utf8 (stringToUtf16 s)
/-- a pool by its gaps: so many unusable entries, then the entry; so many at the end -/
def gap : Nat → List CpInfo → List CpInfo
  | 0, r => r
  | n + 1, r => .unusable :: gap n r
def poolList (es : List (Nat × CpInfo)) (last : Nat) : List CpInfo := es.foldr (fun e r => gap e.1 (e.2 :: r)) (gap last [])
def pool (es : List (Nat × CpInfo)) (last : Nat) : Array CpInfo := ⟨poolList es last⟩
def fileOf (pool : Array CpInfo) (this : Nat) (attrs : Array Attribute := #[]) (ms : Array MethodInfo := #[]) (fl : Nat := 33) (sup : Nat := 0) (ifs : Array Nat := #[]) (fds : Array FieldInfo := #[]) : ClassFile where
  minorVersion := 0
  majorVersion := 65
  constantPool := pool
  accessFlags := fl
  thisClass := this
  superClass := sup
  interfaces := ifs
  fields := fds
  methods := ms
  attributes := attrs
def plain (name : String) (sup : Option ClassId) : Class where
  name := name
  kind := .ordinary
  loader := none
  accessFlags := 33
  super := sup
  interfaces := #[]
  cf := none
  fields := #[]
  methods := #[]
  instanceTypes := #[]
  staticTypes := #[]
  resolved := #[]
  callSites := []
  init := .initialized
  statics := none
  mirror := none

def pool0 : Array CpInfo := pool [(5, u "<init>"), (0, u "()V"), (1, .class_ 10), (1, u "java/lang/Object")] 113

def k0c0 : Code := { maxStack := 0, maxLocals := 1, code := object_method_1_code, exceptionTable := #[], attributes := #[] }
def k0m0 : Method := { name := "<init>", desc := "()V", sig := { parameters := [], returnType := none }, accessFlags := 1, code := some k0c0 }
/-- java/lang/Object -/
def k0 : Class := { plain "java/lang/Object" none with
  accessFlags := 33
  interfaces := #[]
  cf := some (fileOf pool0 8 #[] #[{ accessFlags := 1, nameIndex := 5, descriptorIndex := 6, attributes := #[] }] 33 0 #[] #[])
  fields := #[]
  methods := #[k0m0]
  instanceTypes := #[]
  staticTypes := #[]
  resolved := Array.replicate 124 none
  statics := none }

def pool1 : Array CpInfo := pool [(2, .class_ 4), (1, u "java/lang/Object"), (0, u "<init>"), (0, u "()V"), (0, .long 72057594037927935), (1, .long 5), (1, .long 7), (1, .long 3), (1, .long 4), (1, .methodref 18 19), (0, .class_ 20), (0, .nameAndType 21 22), (0, u "com/example/hummingbird/hummingbird/engine/RhythmLeastWaitingPointPinLaw"), (0, u "earliestLeast"), (0, u "(IJJJJ)I"), (0, .class_ 24), (0, u "com/example/hummingbird/hummingbird/engine/Rhythm"), (0, .methodref 23 26), (0, .nameAndType 5 27), (0, u "([J)V"), (0, .methodref 23 29), (0, .nameAndType 30 31), (0, u "leastWaitingPoint"), (0, u "()I"), (2, u "law"), (0, u "(IJJJJ)Z")] 5

def k1m0 : Method := { name := "<init>", desc := "()V", sig := { parameters := [], returnType := none }, accessFlags := 1, code := none }
def k1c1 : Code := { maxStack := 9, maxLocals := 29, code := code, exceptionTable := #[], attributes := #[] }
def k1m1 : Method := { name := "law", desc := "(IJJJJ)Z", sig := { parameters := [.int, .long, .long, .long, .long], returnType := some .boolean }, accessFlags := 9, code := some k1c1 }
def k1c2 : Code := { maxStack := 4, maxLocals := 12, code := method_3_code, exceptionTable := #[], attributes := #[] }
def k1m2 : Method := { name := "earliestLeast", desc := "(IJJJJ)I", sig := { parameters := [.int, .long, .long, .long, .long], returnType := some .int }, accessFlags := 10, code := some k1c2 }
/-- com/example/hummingbird/hummingbird/engine/RhythmLeastWaitingPointPinLaw -/
def k1 : Class := { plain "com/example/hummingbird/hummingbird/engine/RhythmLeastWaitingPointPinLaw" (some 0) with
  accessFlags := 49
  interfaces := #[]
  cf := some (fileOf pool1 18 #[] #[{ accessFlags := 1, nameIndex := 5, descriptorIndex := 6, attributes := #[] }, { accessFlags := 9, nameIndex := 34, descriptorIndex := 35, attributes := #[] }, { accessFlags := 10, nameIndex := 21, descriptorIndex := 22, attributes := #[] }] 49 2 #[] #[])
  fields := #[]
  methods := #[k1m0, k1m1, k1m2]
  instanceTypes := #[]
  staticTypes := #[]
  resolved := Array.replicate 41 none
  statics := none }

def pool2 : Array CpInfo := pool [(1, .class_ 2), (0, u "com/example/hummingbird/hummingbird/engine/Rhythm"), (0, .methodref 4 5), (0, .class_ 6), (0, .nameAndType 7 8), (0, u "java/lang/Object"), (0, u "<init>"), (0, u "()V"), (0, .fieldref 1 10), (0, .nameAndType 11 12), (0, u "points"), (0, u "I"), (0, .fieldref 1 14), (0, .nameAndType 15 16), (0, u "rates"), (0, u "[J"), (0, .long 2), (3, u "([J)V"), (0, .methodref 1 23), (0, .nameAndType 24 25), (0, u "dayMass"), (0, u "()J"), (2, u "mass"), (0, u "[D"), (7, u "moment"), (36, u "HOURS_PER_DAY"), (2, u "MINUTES_PER_HOUR"), (1, u "MINUTES_PER_DAY"), (1, u "HALF_HOUR"), (1, u "DELAY_DECIMALS"), (9, u "()I"), (0, u "leastWaitingPoint")] 5

def k2c0 : Code := { maxStack := 2, maxLocals := 2, code := prog_9_method_1_code, exceptionTable := #[], attributes := #[] }
def k2m0 : Method := { name := "<init>", desc := "([J)V", sig := { parameters := [(.array .long)], returnType := none }, accessFlags := 0, code := some k2c0 }
def k2c1 : Code := { maxStack := 10, maxLocals := 9, code := prog_9_method_4_code, exceptionTable := #[], attributes := #[] }
def k2m1 : Method := { name := "leastWaitingPoint", desc := "()I", sig := { parameters := [], returnType := some .int }, accessFlags := 0, code := some k2c1 }
def k2c2 : Code := { maxStack := 6, maxLocals := 8, code := prog_9_method_10_code, exceptionTable := #[], attributes := #[] }
def k2m2 : Method := { name := "dayMass", desc := "()J", sig := { parameters := [], returnType := some .long }, accessFlags := 2, code := some k2c2 }
/-- com/example/hummingbird/hummingbird/engine/Rhythm -/
def k2 : Class := { plain "com/example/hummingbird/hummingbird/engine/Rhythm" (some 0) with
  accessFlags := 32
  interfaces := #[]
  cf := some (fileOf pool2 1 #[] #[{ accessFlags := 0, nameIndex := 7, descriptorIndex := 21, attributes := #[] }, { accessFlags := 0, nameIndex := 94, descriptorIndex := 93, attributes := #[] }, { accessFlags := 2, nameIndex := 24, descriptorIndex := 25, attributes := #[] }] 32 4 #[] #[{ accessFlags := 26, nameIndex := 74, descriptorIndex := 12, attributes := #[] }, { accessFlags := 26, nameIndex := 77, descriptorIndex := 12, attributes := #[] }, { accessFlags := 26, nameIndex := 79, descriptorIndex := 12, attributes := #[] }, { accessFlags := 26, nameIndex := 81, descriptorIndex := 12, attributes := #[] }, { accessFlags := 26, nameIndex := 83, descriptorIndex := 12, attributes := #[] }, { accessFlags := 18, nameIndex := 11, descriptorIndex := 12, attributes := #[] }, { accessFlags := 18, nameIndex := 15, descriptorIndex := 16, attributes := #[] }, { accessFlags := 2, nameIndex := 28, descriptorIndex := 29, attributes := #[] }, { accessFlags := 2, nameIndex := 37, descriptorIndex := 29, attributes := #[] }])
  fields := #[{ name := "HOURS_PER_DAY", type := .int, accessFlags := 26, slot := 0, constantValue := 0 }, { name := "MINUTES_PER_HOUR", type := .int, accessFlags := 26, slot := 1, constantValue := 0 }, { name := "MINUTES_PER_DAY", type := .int, accessFlags := 26, slot := 2, constantValue := 0 }, { name := "HALF_HOUR", type := .int, accessFlags := 26, slot := 3, constantValue := 0 }, { name := "DELAY_DECIMALS", type := .int, accessFlags := 26, slot := 4, constantValue := 0 }, { name := "points", type := .int, accessFlags := 18, slot := 0, constantValue := 0 }, { name := "rates", type := (.array .long), accessFlags := 18, slot := 1, constantValue := 0 }, { name := "mass", type := (.array .double), accessFlags := 2, slot := 2, constantValue := 0 }, { name := "moment", type := (.array .double), accessFlags := 2, slot := 3, constantValue := 0 }]
  methods := #[k2m0, k2m1, k2m2]
  instanceTypes := #[.int, (.array .long), (.array .double), (.array .double)]
  staticTypes := #[.int, .int, .int, .int, .int]
  resolved := Array.replicate 100 none
  statics := none }

def pool3 : Array CpInfo := pool [(1, u "java/lang/Cloneable"), (0, .class_ 1), (0, u "java/lang/Object"), (0, .class_ 3)] 3

/-- java/lang/Cloneable -/
def k3 : Class := { plain "java/lang/Cloneable" (some 0) with
  accessFlags := 1537
  interfaces := #[]
  cf := some (fileOf pool3 2 #[] #[] 1537 4 #[] #[])
  fields := #[]
  methods := #[]
  instanceTypes := #[]
  staticTypes := #[]
  resolved := Array.replicate 8 none
  statics := none }

def pool4 : Array CpInfo := pool [(1, u "java/io/Serializable"), (0, .class_ 1), (0, u "java/lang/Object"), (0, .class_ 3)] 3

/-- java/io/Serializable -/
def k4 : Class := { plain "java/io/Serializable" (some 0) with
  accessFlags := 1537
  interfaces := #[]
  cf := some (fileOf pool4 2 #[] #[] 1537 4 #[] #[])
  fields := #[]
  methods := #[]
  instanceTypes := #[]
  staticTypes := #[]
  resolved := Array.replicate 8 none
  statics := none }

/-- the primitive byte -/
def k5 : Class := { plain "byte" none with kind := .primitive 'B', accessFlags := 0x411 }
/-- [B -/
def k6 : Class := { plain "[B" (some 0) with kind := .array 5 .byte, interfaces := #[3, 4], accessFlags := 1041 }

/-- the primitive int -/
def k7 : Class := { plain "int" none with kind := .primitive 'I', accessFlags := 0x411 }
/-- [I -/
def k8 : Class := { plain "[I" (some 0) with kind := .array 7 .int, interfaces := #[3, 4], accessFlags := 1041 }

/-- the primitive long -/
def k9 : Class := { plain "long" none with kind := .primitive 'J', accessFlags := 0x411 }
/-- [J -/
def k10 : Class := { plain "[J" (some 0) with kind := .array 9 .long, interfaces := #[3, 4], accessFlags := 1041 }

def heap : Heap := #[]
def classes : Array Class := #[k0, k1, k2, k3, k4, k5, k6, k7, k8, k9, k10]
def interned : List (Array UInt16 × Addr) := []
def slotsUsed : Nat := 0
def theMethod : MethodId := ⟨1, 1⟩
def args0 : Array Value := #[.int 3, .long 5, .long 6, .long 7, .long 8]
def aboutOver (below : List Frame) : State where
  vm := { classes := classes, interned := interned.toArray }
  heap := heap
  slotsUsed := slotsUsed
  threads := #[{ frames := .invoking theMethod args0 :: below }]
def below0 : List Frame := [.native { method := ⟨0, 0⟩, args := #[] }]
def about1 : State := aboutOver below0
def p0 : Program := .bare "" "" ""
def e0 : Env := launch0.env 0 0 0
theorem w_frames : about1.frames = Frame.invoking theMethod args0 :: below0 := rfl
set_option maxRecDepth 65536 in
theorem w_args : argsFit about1.vm theMethod args0 = true := by decide +kernel
set_option maxRecDepth 65536 in
theorem w_heap : heapFits about1 = true := by decide +kernel
set_option maxRecDepth 65536 in
theorem w_runnable : about1.curStatus? = some .runnable := by decide +kernel
set_option maxRecDepth 65536 in
theorem w_alone : about1.alone = true := by decide +kernel
set_option maxRecDepth 65536 in
theorem w_named : about1.methodNamed? x = some theMethod := by decide +kernel
set_option maxRecDepth 65536 in
theorem w_hears : about1.hears theMethod below0 = true := by decide +kernel
set_option maxRecDepth 65536 in
theorem w_ripe : about1.ripe theMethod args0 below0 = true := by decide +kernel
theorem w_running : about1.status = .running := rfl
set_option maxRecDepth 65536 in
theorem w_room : about1.hasRoom e0.platform room_1 = true :=
  launch0.hasRoom_least _ room_1 (by decide +kernel) (by decide +kernel) (by decide +kernel) (by decide +kernel) (by decide +kernel) (by decide +kernel)
theorem allAtoms_all (ts : List Jvm.Cond) (a : Array Jvm.Value) (st : Jvm.State) : (allAtoms ts).before a st = ts.all (fun c => c.before a st) := by
  induction ts with
  | nil => rfl
  | cons c t ih =>
    show (Jvm.Cond.and c (allAtoms t)).before a st = _
    rw [Jvm.Cond.before_and, ih, List.all_cons]
def words1 : List Jvm.Cond := Jvm.Cond.code x code maxLocals ret :: tables_1
/-- a 'code' word, met by the world's own term for the bytes: nothing is compared byte by byte -/
theorem code_word {y : MethodName} {bytes : ByteArray} {mx : Nat} {rt : Option FieldType} {a : Array Value} {s : State} {m : MethodId} {meth : Method} {c : Code} (h1 : s.methodNamed? y = some m) (h2 : s.vm.method? m = some meth) (h3 : meth.code = some c) (h4 : c.code = bytes)
    (h5 : (c.maxLocals == mx && c.exceptionTable.isEmpty && decide (c.maxStack ≤ mostOperands) && decide (meth.sig.returnType = rt) && !meth.locks && decide (parseMethodDescriptor y.desc = some meth.sig)) = true) : (Jvm.Cond.code y bytes mx rt).before a s = true := by
  simp only [Bool.and_eq_true, beq_iff_eq, Bool.not_eq_true', decide_eq_true_eq] at h5
  obtain ⟨⟨⟨⟨⟨g1, g2⟩, g3⟩, g4⟩, g5⟩, g6⟩ := h5
  simp [Cond.before, Cond.holds, Cond.value, h1, h2, h3, h4, g1, g2, g3, g4, g5, g6]
def isCode : Jvm.Cond → Bool
  | .code _ _ _ _ => true
  | _ => false
theorem all_split {L : List Jvm.Cond} {P : Jvm.Cond → Bool} (h1 : L.all (fun c => isCode c || P c) = true) (h2 : ∀ c ∈ L.filter isCode, P c = true) : L.all P = true := by
  refine List.all_eq_true.mpr fun c hc => ?_
  have h := List.all_eq_true.mp h1 c hc
  rcases Bool.eq_false_or_eq_true (isCode c) with hi | hi
  · exact h2 c (List.mem_filter.mpr ⟨hc, hi⟩)
  · simpa [hi] using h
set_option maxRecDepth 65536 in
theorem w_c0 : (Jvm.Cond.code x code maxLocals ret).before args0 about1 = true := code_word (m := ⟨1, 1⟩) (meth := k1m1) (c := k1c1) (by decide +kernel) rfl rfl rfl (by decide +kernel)
set_option maxRecDepth 65536 in
theorem w_c1 : (Jvm.Cond.code ({ cls := "com/example/hummingbird/hummingbird/engine/RhythmLeastWaitingPointPinLaw", name := "earliestLeast", desc := "(IJJJJ)I" } : Jvm.MethodName) method_3_code (12 : Nat) (Option.some Jvm.ClassFile.FieldType.int)).before args0 about1 = true := code_word (m := ⟨1, 2⟩) (meth := k1m2) (c := k1c2) (by decide +kernel) rfl rfl rfl (by decide +kernel)
set_option maxRecDepth 65536 in
theorem w_c2 : (Jvm.Cond.code ({ cls := "com/example/hummingbird/hummingbird/engine/Rhythm", name := "<init>", desc := "([J)V" } : Jvm.MethodName) prog_9_method_1_code (2 : Nat) (Option.none : Option Jvm.ClassFile.FieldType)).before args0 about1 = true := code_word (m := ⟨2, 0⟩) (meth := k2m0) (c := k2c0) (by decide +kernel) rfl rfl rfl (by decide +kernel)
set_option maxRecDepth 65536 in
theorem w_c3 : (Jvm.Cond.code ({ cls := "java/lang/Object", name := "<init>", desc := "()V" } : Jvm.MethodName) object_method_1_code (1 : Nat) (Option.none : Option Jvm.ClassFile.FieldType)).before args0 about1 = true := code_word (m := ⟨0, 0⟩) (meth := k0m0) (c := k0c0) (by decide +kernel) rfl rfl rfl (by decide +kernel)
set_option maxRecDepth 65536 in
theorem w_c4 : (Jvm.Cond.code ({ cls := "com/example/hummingbird/hummingbird/engine/Rhythm", name := "leastWaitingPoint", desc := "()I" } : Jvm.MethodName) prog_9_method_4_code (9 : Nat) (Option.some Jvm.ClassFile.FieldType.int)).before args0 about1 = true := code_word (m := ⟨2, 1⟩) (meth := k2m1) (c := k2c1) (by decide +kernel) rfl rfl rfl (by decide +kernel)
set_option maxRecDepth 65536 in
theorem w_c5 : (Jvm.Cond.code ({ cls := "com/example/hummingbird/hummingbird/engine/Rhythm", name := "dayMass", desc := "()J" } : Jvm.MethodName) prog_9_method_10_code (8 : Nat) (Option.some Jvm.ClassFile.FieldType.long)).before args0 about1 = true := code_word (m := ⟨2, 2⟩) (meth := k2m2) (c := k2c2) (by decide +kernel) rfl rfl rfl (by decide +kernel)
def codes1 : List Jvm.Cond := [Jvm.Cond.code x code maxLocals ret, Jvm.Cond.code ({ cls := "com/example/hummingbird/hummingbird/engine/RhythmLeastWaitingPointPinLaw", name := "earliestLeast", desc := "(IJJJJ)I" } : Jvm.MethodName) method_3_code (12 : Nat) (Option.some Jvm.ClassFile.FieldType.int), Jvm.Cond.code ({ cls := "com/example/hummingbird/hummingbird/engine/Rhythm", name := "<init>", desc := "([J)V" } : Jvm.MethodName) prog_9_method_1_code (2 : Nat) (Option.none : Option Jvm.ClassFile.FieldType), Jvm.Cond.code ({ cls := "java/lang/Object", name := "<init>", desc := "()V" } : Jvm.MethodName) object_method_1_code (1 : Nat) (Option.none : Option Jvm.ClassFile.FieldType), Jvm.Cond.code ({ cls := "com/example/hummingbird/hummingbird/engine/Rhythm", name := "leastWaitingPoint", desc := "()I" } : Jvm.MethodName) prog_9_method_4_code (9 : Nat) (Option.some Jvm.ClassFile.FieldType.int), Jvm.Cond.code ({ cls := "com/example/hummingbird/hummingbird/engine/Rhythm", name := "dayMass", desc := "()J" } : Jvm.MethodName) prog_9_method_10_code (8 : Nat) (Option.some Jvm.ClassFile.FieldType.long)]
set_option maxRecDepth 65536 in
theorem codes_eq : words1.filter isCode = codes1 := rfl
theorem w_codes : ∀ c ∈ words1.filter isCode, c.before args0 about1 = true := by
  rw [codes_eq]
  intro c hc
  simp only [codes1, List.mem_cons, List.not_mem_nil, or_false] at hc
  rcases hc with rfl | rfl | rfl | rfl | rfl | rfl
  · exact w_c0
  · exact w_c1
  · exact w_c2
  · exact w_c3
  · exact w_c4
  · exact w_c5
set_option maxRecDepth 65536 in
theorem w_t1 : (words1.take 24).all (fun c => isCode c || c.before args0 about1) = true := by decide +kernel
set_option maxRecDepth 65536 in
theorem w_t2 : (words1.drop 24).all (fun c => isCode c || c.before args0 about1) = true := by decide +kernel
theorem w_tables : (allAtoms (Jvm.Cond.code x code maxLocals ret :: tables_1)).before args0 about1 = true := by
  rw [allAtoms_all]
  show words1.all (fun c => c.before args0 about1) = true
  refine all_split ?_ w_codes
  rw [← List.take_append_drop 24 words1, List.all_append, w_t1, w_t2]
  rfl
set_option maxRecDepth 65536 in
theorem w_case : (Jvm.Cond.and given_1 narrow_1).before args0 about1 = true := by decide +kernel
theorem w_applies : (headSpec (Jvm.Cond.code x code maxLocals ret :: tables_1) room_1).applies x e0.platform about1 = true :=
  (Spec.applies_iff w_frames).mpr ⟨w_running, w_runnable, w_alone, w_named, w_hears, w_ripe, w_room, w_tables⟩
theorem atStart : AtStart classFile x code maxLocals ret World_1 tables_1 room_1 Calls_1 rest_1 Pre_1 launch0 p0 e0 about1 theMethod args0 below0 :=
  ⟨lists_1, trivial, launch0.admits_env _ _ _, launch0.least_env, fairChoices_fair.cas, fairChoices_fair.clock, w_frames, w_args, w_heap, w_applies, trivial, trivial, w_case⟩
end start1
theorem witness_1 : WitnessClaimed_1 := ⟨start1.p0, start1.e0, start1.about1, start1.theMethod, start1.args0, start1.below0, start1.atStart⟩
end Jvm.Pilot.@@N@@
