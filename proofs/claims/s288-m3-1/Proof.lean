import JvmDerived
import JvmDerived.Pilot.@@N@@Statement
import JvmDerived.Pilot.@@N@@Code
set_option linter.unusedVariables false
set_option linter.unusedSimpArgs false
@@BLOCK:NumsL.lean.txt@@
namespace Jvm.Pilot.@@N@@
open Jvm Jvm.ClassFile Sem Op Lib Jvm.Free Jvm.Stand Jvm.LawKit Jvm.RoadKit Bundle Jvm.Pilot.@@N@@.Jvm.D

abbrev own_W : String := match tables_1[45]? with | some (Jvm.Cond.methodLink _ _ y) => y.cls | _ => x.cls
theorem ef_rmJ (m : MethodId) (x0 : Addr) (x1 : Addr) (x2 : Int32) (x3 : Int32) : entryFrame m #[(.ref x0), (.ref x1), (.int x2), (.int x3)] 4 = mkF m 0 #[.val (.ref x0), .val (.ref x1), .val (.int x2), .val (.int x3)] [] := by first | (simp [entryFrame, mkF, argsToLocals, Value.category]; done) | rfl
theorem pn_0 : plainName site_130.cls = true := by first | (simp [plainName, overriddenIn]; done) | decide +kernel
theorem d2_0 : decode prog_13_method_2_code 0 = .ok (.aload_n 0, 1) := by decide +kernel
theorem d2_1 : decode prog_13_method_2_code 1 = .ok (.invokespecial 7, 3) := by decide +kernel
theorem d2_4 : decode prog_13_method_2_code 4 = .ok (.aload_n 0, 1) := by decide +kernel
theorem d2_5 : decode prog_13_method_2_code 5 = .ok (.aload_n 1, 1) := by decide +kernel
theorem d2_6 : decode prog_13_method_2_code 6 = .ok (.putfield 12, 3) := by decide +kernel
theorem d2_9 : decode prog_13_method_2_code 9 = .ok (.aload_n 0, 1) := by decide +kernel
theorem d2_10 : decode prog_13_method_2_code 10 = .ok (.iload_n 2, 1) := by decide +kernel
theorem d2_11 : decode prog_13_method_2_code 11 = .ok (.putfield 16, 3) := by decide +kernel
theorem d2_14 : decode prog_13_method_2_code 14 = .ok (.aload_n 0, 1) := by decide +kernel
theorem d2_15 : decode prog_13_method_2_code 15 = .ok (.iload_n 3, 1) := by decide +kernel
theorem d2_16 : decode prog_13_method_2_code 16 = .ok (.putfield 20, 3) := by decide +kernel
theorem d2_19 : decode prog_13_method_2_code 19 = .ok (.return_, 1) := by decide +kernel
def Q_rmJ (Z : State) (a1 : Addr) (a2 : Addr) (p1 : Int32) (p2 : Int32) (h0 : Heap) (n0 : Nat) (v : Option Value) (h : Heap) (L : List Loc) : Prop := v = none ∧ Fr n0 L ∧ Keep h0 h [a1] ∧ Exa Z h a1 site_130.cls ∧ Fld Z h a1 site_130.cls "bytes" "[B" (.ref a2) ∧ Fld Z h a1 site_130.cls "position" "I" (.int p1) ∧ Fld Z h a1 site_130.cls "end" "I" (.int p2) ∧ Fld Z h a1 site_130.cls "field" "I" (.int (0 : Int32)) ∧ Fld Z h a1 site_130.cls "wireType" "I" (.int (0 : Int32))
set_option maxRecDepth 65536 in
set_option maxHeartbeats 40000000 in
theorem rmJ (l : Launch) (Z : State) (a0 : Array Value) (hw : ∀ d ∈ tables_1, d.before a0 Z = true) (ws : List Jvm.Cond) (a1 : Addr) (a2 : Addr) (p1 : Int32) (p2 : Int32) (h0 : Heap) (n0 : Nat) (Z0 : n0 ≤ h0.size) (F0 : Fld Z h0 a1 site_130.cls "bytes" "[B" .null) (F1 : Fld Z h0 a1 site_130.cls "position" "I" (.int (0 : Int32))) (F2 : Fld Z h0 a1 site_130.cls "end" "I" (.int (0 : Int32))) (F3 : Fld Z h0 a1 site_130.cls "field" "I" (.int (0 : Int32))) (F4 : Fld Z h0 a1 site_130.cls "wireType" "I" (.int (0 : Int32))) (E1 : Exa Z h0 a1 site_130.cls) (g_a1 : n0 ≤ a1) :
    MetFree l (⟨site_130.cls, "<init>", "([BII)V"⟩ : MethodName) (head1 (Jvm.Cond.code (⟨site_130.cls, "<init>", "([BII)V"⟩ : MethodName) prog_13_method_2_code 4 none :: ws) ({ frames := 1, cells := 0, slots := 0, locals := 12 } : Room)) (fun a U => a = #[(.ref a1), (.ref a2), (.int p1), (.int p2)] ∧ Z.Warmed39 U.vm ∧ U.heap = h0) (fun _ _ _ _ _ => True) (fun _ U o U' => ∃ v L, o = .returned v ∧ Q_rmJ Z a1 a2 p1 p2 h0 n0 v U'.heap L ∧ FrameEnd U o U' L ({ frames := 1, cells := 0, slots := 0, locals := 12 } : Room).cells ({ frames := 1, cells := 0, slots := 0, locals := 12 } : Room).slots) := by
  refine MetFree.of_bodySF (plainFor_of_name pn_0) hisR ?_
  intro p e s m args below meth c s₁ Bd hml0 hP hK
  obtain ⟨rfl, hZ, hh⟩ := hP
  have hx := Bd.exec
  have hby := Bd.bytes
  have hml : c.maxLocals = 4 := hml0
  have hown : s.vm.findClass site_130.cls = some m.cls := (findClass_of_methodNamed Bd.named :)
  have hnm := (name_of_methodNamed Bd.named Bd.method).1
  have X0 : Stand p l e ({ frames := 1, cells := 0, slots := 0, locals := 12 } : Room) s m #[(.ref a1), (.ref a2), (.int p1), (.int p2)] below meth c s₁ [] 0 0 := Stand.of_body Bd
  have e0 : s₁.heap = h0 := by rw [← hh, Bd.state]; rfl
  have N0 := Fr.nil n0
  have pre0 : ∀ t, Steps p.tables e below (s₁.setTop (mkF m 0 #[.val (.ref a1), .val (.ref a2), .val (.int p1), .val (.int p2)] [])) t → Steps p.tables e below (s₁.setTop (entryFrame m #[(.ref a1), (.ref a2), (.int p1), (.int p2)] 4)) t := fun t k => castTop (ef_rmJ m a1 a2 p1 p2) k
  obtain ⟨T1, X1, e1, st1⟩ := initO X0 hx hZ hown (hw _ (List.mem_of_getElem? (i := 14) rfl)) (hw _ (List.mem_of_getElem? (i := 15) rfl)) (hw _ (List.mem_of_getElem? (i := 16) rfl)) e0 (g := (mkF m 1 #[.val (.ref a1), .val (.ref a2), .val (.int p1), .val (.int p2)] [(.ref a1)])) rfl (by rw [hml]; rfl) rfl (hb hby d2_1) (by decide) (W := 0) (by show 2 * 0 + _ ≤ _; exact Nat.le_of_eq rfl) (by decide)
  obtain ⟨T2, h2, X2, e2, W2, st2⟩ := putF X1 hx hZ hown (host := "") (Or.inl (hw _ (List.mem_of_getElem? (i := 17) rfl))) Via.refl e1 F0 E1 (Or.inr ⟨(hw _ (List.mem_of_getElem? (i := 18) rfl)), rfl, hnm⟩) (hw _ (List.mem_of_getElem? (i := 6) rfl)) (ty := (.array .byte)) (by decide) rfl rfl (g := (mkF m 6 #[.val (.ref a1), .val (.ref a2), .val (.int p1), .val (.int p2)] [(.ref a2), (.ref a1)])) rfl rfl (hb hby d2_6)
  have Fw2 := F0.same W2
  have K2 : Keep h0 h2 [a1] := (Keep.refl h0 [a1]).wr W2 (Or.inl (List.mem_of_getElem? (i := 0) rfl))
  have N2 := Fr.snoc X2 N0 g_a1
  obtain ⟨T3, h3, X3, e3, W3, st3⟩ := putF X2 hx hZ hown (host := "") (Or.inl (hw _ (List.mem_of_getElem? (i := 19) rfl))) Via.refl e2 (F1.other W2 (Or.inr (slot_ne (Or.inl (hw _ (List.mem_of_getElem? (i := 20) rfl))) (Or.inr (hw _ (List.mem_of_getElem? (i := 18) rfl))) (by decide) (t := .int) (t' := (.array .byte)) (by decide) (by decide)))) (E1.wr W2) (Or.inl (hw _ (List.mem_of_getElem? (i := 20) rfl))) (hw _ (List.mem_of_getElem? (i := 6) rfl)) (ty := .int) (by decide) rfl rfl (g := (mkF m 11 #[.val (.ref a1), .val (.ref a2), .val (.int p1), .val (.int p2)] [(.int p1), (.ref a1)])) rfl rfl (hb hby d2_11)
  have Fw3 := (F1.other W2 (Or.inr (slot_ne (Or.inl (hw _ (List.mem_of_getElem? (i := 20) rfl))) (Or.inr (hw _ (List.mem_of_getElem? (i := 18) rfl))) (by decide) (t := .int) (t' := (.array .byte)) (by decide) (by decide)))).same W3
  have K3 : Keep h0 h3 [a1] := K2.wr W3 (Or.inl (List.mem_of_getElem? (i := 0) rfl))
  have N3 := Fr.snoc X3 N2 g_a1
  obtain ⟨T4, h4, X4, e4, W4, st4⟩ := putF X3 hx hZ hown (host := "") (Or.inl (hw _ (List.mem_of_getElem? (i := 21) rfl))) Via.refl e3 ((F2.other W2 (Or.inr (slot_ne (Or.inr (hw _ (List.mem_of_getElem? (i := 22) rfl))) (Or.inr (hw _ (List.mem_of_getElem? (i := 18) rfl))) (by decide) (t := .int) (t' := (.array .byte)) (by decide) (by decide)))).other W3 (Or.inr (slot_ne (Or.inr (hw _ (List.mem_of_getElem? (i := 22) rfl))) (Or.inl (hw _ (List.mem_of_getElem? (i := 20) rfl))) (by decide) (t := .int) (t' := .int) (by decide) (by decide)))) ((E1.wr W2).wr W3) (Or.inr ⟨(hw _ (List.mem_of_getElem? (i := 22) rfl)), rfl, hnm⟩) (hw _ (List.mem_of_getElem? (i := 6) rfl)) (ty := .int) (by decide) rfl rfl (g := (mkF m 16 #[.val (.ref a1), .val (.ref a2), .val (.int p1), .val (.int p2)] [(.int p2), (.ref a1)])) rfl rfl (hb hby d2_16)
  have Fw4 := ((F2.other W2 (Or.inr (slot_ne (Or.inr (hw _ (List.mem_of_getElem? (i := 22) rfl))) (Or.inr (hw _ (List.mem_of_getElem? (i := 18) rfl))) (by decide) (t := .int) (t' := (.array .byte)) (by decide) (by decide)))).other W3 (Or.inr (slot_ne (Or.inr (hw _ (List.mem_of_getElem? (i := 22) rfl))) (Or.inl (hw _ (List.mem_of_getElem? (i := 20) rfl))) (by decide) (t := .int) (t' := .int) (by decide) (by decide)))).same W4
  have K4 : Keep h0 h4 [a1] := K3.wr W4 (Or.inl (List.mem_of_getElem? (i := 0) rfl))
  have N4 := Fr.snoc X4 N3 g_a1
  have pre5 : ∀ t, Steps p.tables e below (T4.setTop (mkF m 19 #[.val (.ref a1), .val (.ref a2), .val (.int p1), .val (.int p2)] [])) t → Steps p.tables e below (s₁.setTop (entryFrame m #[(.ref a1), (.ref a2), (.int p1), (.int p2)] 4)) t := by
    intro t k
    refine pre0 t ?_
    show Steps p.tables e below (s₁.setTop (mkF m 0 #[.val (.ref a1), .val (.ref a2), .val (.int p1), .val (.int p2)] [])) _
    refine XS.aloadN X0.here hx rfl (hb hby d2_0) rfl (rfl) ?_
    show Steps p.tables e below (s₁.setTop (mkF m 1 #[.val (.ref a1), .val (.ref a2), .val (.int p1), .val (.int p2)] [(.ref a1)])) _
    refine st1 _ ?_
    show Steps p.tables e below (T1.setTop (mkF m 4 #[.val (.ref a1), .val (.ref a2), .val (.int p1), .val (.int p2)] [])) _
    refine XS.aloadN X1.here hx rfl (hb hby d2_4) rfl (rfl) ?_
    show Steps p.tables e below (T1.setTop (mkF m 5 #[.val (.ref a1), .val (.ref a2), .val (.int p1), .val (.int p2)] [(.ref a1)])) _
    refine XS.aloadN X1.here hx rfl (hb hby d2_5) rfl (rfl) ?_
    show Steps p.tables e below (T1.setTop (mkF m 6 #[.val (.ref a1), .val (.ref a2), .val (.int p1), .val (.int p2)] [(.ref a2), (.ref a1)])) _
    refine st2 _ ?_
    show Steps p.tables e below (T2.setTop (mkF m 9 #[.val (.ref a1), .val (.ref a2), .val (.int p1), .val (.int p2)] [])) _
    refine XS.aloadN X2.here hx rfl (hb hby d2_9) rfl (rfl) ?_
    show Steps p.tables e below (T2.setTop (mkF m 10 #[.val (.ref a1), .val (.ref a2), .val (.int p1), .val (.int p2)] [(.ref a1)])) _
    refine XS.iloadN X2.here hx rfl (hb hby d2_10) rfl ?_
    show Steps p.tables e below (T2.setTop (mkF m 11 #[.val (.ref a1), .val (.ref a2), .val (.int p1), .val (.int p2)] [(.int p1), (.ref a1)])) _
    refine st3 _ ?_
    show Steps p.tables e below (T3.setTop (mkF m 14 #[.val (.ref a1), .val (.ref a2), .val (.int p1), .val (.int p2)] [])) _
    refine XS.aloadN X3.here hx rfl (hb hby d2_14) rfl (rfl) ?_
    show Steps p.tables e below (T3.setTop (mkF m 15 #[.val (.ref a1), .val (.ref a2), .val (.int p1), .val (.int p2)] [(.ref a1)])) _
    refine XS.iloadN X3.here hx rfl (hb hby d2_15) rfl ?_
    show Steps p.tables e below (T3.setTop (mkF m 16 #[.val (.ref a1), .val (.ref a2), .val (.int p1), .val (.int p2)] [(.int p2), (.ref a1)])) _
    refine st4 _ ?_
    show Steps p.tables e below (T4.setTop (mkF m 19 #[.val (.ref a1), .val (.ref a2), .val (.int p1), .val (.int p2)] [])) _
    exact k
  obtain ⟨fs, hr, hrun, hended, hW, hsame⟩ := X4.leave (v := none) (fun _ => rfl)
  refine ⟨_, _, pre5 _ ?_, hrun, hended, _, _, rfl, ?_, ⟨_, rfl⟩, hW, hsame.mono (by decide) (by decide)⟩
  · exact X4.returnOut hx Bd.returns (hb hby d2_19) hr
  · show Q_rmJ Z a1 a2 p1 p2 h0 n0 _ T4.heap _
    rw [e4]
    exact ⟨rfl, N4, K4, (((E1.wr W2).wr W3).wr W4), ((Fw2.other W3 (Or.inr (slot_ne (Or.inr (hw _ (List.mem_of_getElem? (i := 18) rfl))) (Or.inl (hw _ (List.mem_of_getElem? (i := 20) rfl))) (by decide) (t := (.array .byte)) (t' := .int) (by decide) (by decide)))).other W4 (Or.inr (slot_ne (Or.inr (hw _ (List.mem_of_getElem? (i := 18) rfl))) (Or.inr (hw _ (List.mem_of_getElem? (i := 22) rfl))) (by decide) (t := (.array .byte)) (t' := .int) (by decide) (by decide)))), (Fw3.other W4 (Or.inr (slot_ne (Or.inl (hw _ (List.mem_of_getElem? (i := 20) rfl))) (Or.inr (hw _ (List.mem_of_getElem? (i := 22) rfl))) (by decide) (t := .int) (t' := .int) (by decide) (by decide)))), Fw4, (((F3.other W2 (Or.inr (slot_ne (Or.inl (hw _ (List.mem_of_getElem? (i := 50) rfl))) (Or.inr (hw _ (List.mem_of_getElem? (i := 18) rfl))) (by decide) (t := .int) (t' := (.array .byte)) (by decide) (by decide)))).other W3 (Or.inr (slot_ne (Or.inl (hw _ (List.mem_of_getElem? (i := 50) rfl))) (Or.inl (hw _ (List.mem_of_getElem? (i := 20) rfl))) (by decide) (t := .int) (t' := .int) (by decide) (by decide)))).other W4 (Or.inr (slot_ne (Or.inl (hw _ (List.mem_of_getElem? (i := 50) rfl))) (Or.inr (hw _ (List.mem_of_getElem? (i := 22) rfl))) (by decide) (t := .int) (t' := .int) (by decide) (by decide)))), (((F4.other W2 (Or.inr (slot_ne (Or.inl (hw _ (List.mem_of_getElem? (i := 56) rfl))) (Or.inr (hw _ (List.mem_of_getElem? (i := 18) rfl))) (by decide) (t := .int) (t' := (.array .byte)) (by decide) (by decide)))).other W3 (Or.inr (slot_ne (Or.inl (hw _ (List.mem_of_getElem? (i := 56) rfl))) (Or.inl (hw _ (List.mem_of_getElem? (i := 20) rfl))) (by decide) (t := .int) (t' := .int) (by decide) (by decide)))).other W4 (Or.inr (slot_ne (Or.inl (hw _ (List.mem_of_getElem? (i := 56) rfl))) (Or.inr (hw _ (List.mem_of_getElem? (i := 22) rfl))) (by decide) (t := .int) (t' := .int) (by decide) (by decide))))⟩
theorem ef_rmI (m : MethodId) (x0 : Addr) (x1 : Addr) : entryFrame m #[(.ref x0), (.ref x1)] 2 = mkF m 0 #[.val (.ref x0), .val (.ref x1)] [] := by first | (simp [entryFrame, mkF, argsToLocals, Value.category]; done) | rfl
theorem d1_0 : decode prog_13_method_1_code 0 = .ok (.aload_n 0, 1) := by decide +kernel
theorem d1_1 : decode prog_13_method_1_code 1 = .ok (.aload_n 1, 1) := by decide +kernel
theorem d1_2 : decode prog_13_method_1_code 2 = .ok (.iconst 0, 1) := by decide +kernel
theorem d1_3 : decode prog_13_method_1_code 3 = .ok (.aload_n 1, 1) := by decide +kernel
theorem d1_4 : decode prog_13_method_1_code 4 = .ok (.arraylength, 1) := by decide +kernel
theorem d1_5 : decode prog_13_method_1_code 5 = .ok (.invokespecial 1, 3) := by decide +kernel
theorem pd_0 : parseMethodDescriptor "([BII)V" = some ⟨[(.array .byte), .int, .int], none⟩ := by decide +kernel
theorem d1_8 : decode prog_13_method_1_code 8 = .ok (.return_, 1) := by decide +kernel
def Q_rmI (Z : State) (a1 : Addr) (a2 : Addr) (cl : Cell) (zn : Int32) (h0 : Heap) (n0 : Nat) (v : Option Value) (h : Heap) (L : List Loc) : Prop := v = none ∧ Fr n0 L ∧ Keep h0 h [a1] ∧ Exa Z h a1 site_130.cls ∧ Fld Z h a1 site_130.cls "bytes" "[B" (.ref a2) ∧ Fld Z h a1 site_130.cls "position" "I" (.int (0 : Int32)) ∧ Fld Z h a1 site_130.cls "end" "I" (.int zn) ∧ Fld Z h a1 site_130.cls "field" "I" (.int (0 : Int32)) ∧ Fld Z h a1 site_130.cls "wireType" "I" (.int (0 : Int32))
set_option maxRecDepth 65536 in
set_option maxHeartbeats 40000000 in
theorem rmI (l : Launch) (Z : State) (a0 : Array Value) (hw : ∀ d ∈ tables_1, d.before a0 Z = true) (ws : List Jvm.Cond) (a1 : Addr) (a2 : Addr) (cl : Cell) (zn : Int32) (h0 : Heap) (n0 : Nat) (Z0 : n0 ≤ h0.size) (F0 : Fld Z h0 a1 site_130.cls "bytes" "[B" .null) (F1 : Fld Z h0 a1 site_130.cls "position" "I" (.int (0 : Int32))) (F2 : Fld Z h0 a1 site_130.cls "end" "I" (.int (0 : Int32))) (F3 : Fld Z h0 a1 site_130.cls "field" "I" (.int (0 : Int32))) (F4 : Fld Z h0 a1 site_130.cls "wireType" "I" (.int (0 : Int32))) (E1 : Exa Z h0 a1 site_130.cls) (g_a1 : n0 ≤ a1) (Ar : Arr Z h0 a2 cl .byte) (Sz : cl.slots.size = zn.toNatClampNeg) (Mz : ¬ zn < 0) :
    MetFree l (⟨site_130.cls, "<init>", "([B)V"⟩ : MethodName) (head1 (Jvm.Cond.code (⟨site_130.cls, "<init>", "([B)V"⟩ : MethodName) prog_13_method_1_code 2 none :: ws) ({ frames := 2, cells := 0, slots := 0, locals := 30 } : Room)) (fun a U => a = #[(.ref a1), (.ref a2)] ∧ Z.Warmed39 U.vm ∧ U.heap = h0) (fun _ _ _ _ _ => True) (fun _ U o U' => ∃ v L, o = .returned v ∧ Q_rmI Z a1 a2 cl zn h0 n0 v U'.heap L ∧ FrameEnd U o U' L ({ frames := 2, cells := 0, slots := 0, locals := 30 } : Room).cells ({ frames := 2, cells := 0, slots := 0, locals := 30 } : Room).slots) := by
  refine MetFree.of_bodySF (plainFor_of_name pn_0) hisR ?_
  intro p e s m args below meth c s₁ Bd hml0 hP hK
  obtain ⟨rfl, hZ, hh⟩ := hP
  have hx := Bd.exec
  have hby := Bd.bytes
  have hml : c.maxLocals = 2 := hml0
  have hown : s.vm.findClass site_130.cls = some m.cls := (findClass_of_methodNamed Bd.named :)
  have hnm := (name_of_methodNamed Bd.named Bd.method).1
  have X0 : Stand p l e ({ frames := 2, cells := 0, slots := 0, locals := 30 } : Room) s m #[(.ref a1), (.ref a2)] below meth c s₁ [] 0 0 := Stand.of_body Bd
  have e0 : s₁.heap = h0 := by rw [← hh, Bd.state]; rfl
  have N0 := Fr.nil n0
  have pre0 : ∀ t, Steps p.tables e below (s₁.setTop (mkF m 0 #[.val (.ref a1), .val (.ref a2)] [])) t → Steps p.tables e below (s₁.setTop (entryFrame m #[(.ref a1), (.ref a2)] 2)) t := fun t k => castTop (ef_rmI m a1 a2) k
  obtain ⟨_, _, ⟨T1, L1, k1, n1⟩, -, X1, ⟨Lc1, hQ1, l1, y1, z1⟩, st1⟩ := X0.specialBack hx (y := (⟨site_130.cls, "<init>", "([BII)V"⟩ : MethodName)) rfl hown (mvT hZ (hw _ (List.mem_of_getElem? (i := 11) rfl))) (mvT hZ (hw _ (List.mem_of_getElem? (i := 12) rfl))) (mvT hZ (hw _ (List.mem_of_getElem? (i := 13) rfl))) (by decide) (backOf (W := 0) (rmJ l Z a0 hw [] a1 a2 (0 : Int32) zn  h0 n0 Z0 F0 F1 F2 F3 F4 E1 g_a1) hZ (hw _ (List.mem_of_getElem? (i := 13) rfl)) (hw _ (List.mem_of_getElem? (i := 7) rfl)) (by decide) (by decide)) (g := (mkF m 5 #[.val (.ref a1), .val (.ref a2)] [(.int zn), (.int (0 : Int32)), (.ref a2), (.ref a1)])) rfl (by rw [hml]; rfl) (Steps.refl _) (a := a1) (argsL := [(.ref a2), (.int (0 : Int32)), (.int zn)]) (rest := []) (lenOf pd_0 rfl) rfl (by show 2 * 0 + _ ≤ _; exact Nat.le_of_eq rfl) (hb hby d1_5) (fun _ _ => ⟨rfl, e0, (by decide : 0 + 0 ≤ _), (by decide : 0 + 0 ≤ _)⟩)
  dsimp only [Pt.U, Pt.locs, Pt.cells, Pt.slots] at X1 l1 y1 z1 st1 hQ1
  subst l1 y1 z1
  obtain ⟨rfl, N1q, Kq1, Eq1, G0q1, G1q1, G2q1, G3q1, G4q1⟩ := hQ1
  have N1 := Fr.app N0 N1q
  have K1 : Keep h0 T1.heap [a1] := (Keep.refl h0 [a1]).trans Kq1 (allS (Or.inl (List.mem_of_getElem? (i := 0) rfl)) all0)
  have pre2 : ∀ t, Steps p.tables e below (T1.setTop (mkF m 8 #[.val (.ref a1), .val (.ref a2)] [])) t → Steps p.tables e below (s₁.setTop (entryFrame m #[(.ref a1), (.ref a2)] 2)) t := by
    intro t k
    refine pre0 t ?_
    show Steps p.tables e below (s₁.setTop (mkF m 0 #[.val (.ref a1), .val (.ref a2)] [])) _
    refine XS.aloadN X0.here hx rfl (hb hby d1_0) rfl (rfl) ?_
    show Steps p.tables e below (s₁.setTop (mkF m 1 #[.val (.ref a1), .val (.ref a2)] [(.ref a1)])) _
    refine XS.aloadN X0.here hx rfl (hb hby d1_1) rfl (rfl) ?_
    show Steps p.tables e below (s₁.setTop (mkF m 2 #[.val (.ref a1), .val (.ref a2)] [(.ref a2), (.ref a1)])) _
    refine XS.iconst X0.here hx rfl (hb hby d1_2) ?_
    show Steps p.tables e below (s₁.setTop (mkF m 3 #[.val (.ref a1), .val (.ref a2)] [(.int (0 : Int32)), (.ref a2), (.ref a1)])) _
    refine XS.aloadN X0.here hx rfl (hb hby d1_3) rfl (rfl) ?_
    show Steps p.tables e below (s₁.setTop (mkF m 4 #[.val (.ref a1), .val (.ref a2)] [(.ref a2), (.int (0 : Int32)), (.ref a2), (.ref a1)])) _
    refine X0.arraylength hx (by rw [e0]; exact Ar.1) (State.isArrayOf_alike hZ.alike Ar.2.1) (g := (mkF m 4 #[.val (.ref a1), .val (.ref a2)] [(.ref a2), (.int (0 : Int32)), (.ref a2), (.ref a1)])) rfl rfl (hb hby d1_4) _ ?_
    rw [len_of Sz Mz]
    show Steps p.tables e below (s₁.setTop (mkF m 5 #[.val (.ref a1), .val (.ref a2)] [(.int zn), (.int (0 : Int32)), (.ref a2), (.ref a1)])) _
    refine st1.trans ?_
    show Steps p.tables e below (T1.setTop (mkF m 8 #[.val (.ref a1), .val (.ref a2)] [])) _
    exact k
  obtain ⟨fs, hr, hrun, hended, hW, hsame⟩ := X1.leave (v := none) (fun _ => rfl)
  refine ⟨_, _, pre2 _ ?_, hrun, hended, _, _, rfl, ?_, ⟨_, rfl⟩, hW, hsame.mono (by decide) (by decide)⟩
  · exact X1.returnOut hx Bd.returns (hb hby d1_8) hr
  · show Q_rmI Z a1 a2 cl zn h0 n0 _ T1.heap _
    exact ⟨rfl, N1, K1, Eq1, G0q1, G1q1, G2q1, G3q1, G4q1⟩
theorem ef_rmR (m : MethodId) (x0 : Addr) (x1 : Int64) : entryFrame m #[(.ref x0), (.long x1)] 3 = mkF m 0 #[.val (.ref x0), .val (.long x1), .second] [] := by first | (simp [entryFrame, mkF, argsToLocals, Value.category]; done) | rfl
theorem d6_0 : decode prog_13_method_12_code 0 = .ok (.lload_n 1, 1) := by decide +kernel
theorem d6_1 : decode prog_13_method_12_code 1 = .ok (.lconst 0, 1) := by decide +kernel
theorem d6_2 : decode prog_13_method_12_code 2 = .ok (.lcmp, 1) := by decide +kernel
theorem d6_3 : decode prog_13_method_12_code 3 = .ok (.ifCond .lt 18, 3) := by decide +kernel
theorem d6_6 : decode prog_13_method_12_code 6 = .ok (.lload_n 1, 1) := by decide +kernel
theorem d6_7 : decode prog_13_method_12_code 7 = .ok (.aload_n 0, 1) := by decide +kernel
theorem d6_8 : decode prog_13_method_12_code 8 = .ok (.getfield 20, 3) := by decide +kernel
theorem d6_11 : decode prog_13_method_12_code 11 = .ok (.aload_n 0, 1) := by decide +kernel
theorem d6_12 : decode prog_13_method_12_code 12 = .ok (.getfield 16, 3) := by decide +kernel
theorem d6_15 : decode prog_13_method_12_code 15 = .ok (.isub, 1) := by decide +kernel
theorem d6_16 : decode prog_13_method_12_code 16 = .ok (.i2l, 1) := by decide +kernel
theorem d6_17 : decode prog_13_method_12_code 17 = .ok (.lcmp, 1) := by decide +kernel
theorem d6_18 : decode prog_13_method_12_code 18 = .ok (.ifCond .le 21, 3) := by decide +kernel
theorem d6_39 : decode prog_13_method_12_code 39 = .ok (.lload_n 1, 1) := by decide +kernel
theorem d6_40 : decode prog_13_method_12_code 40 = .ok (.l2i, 1) := by decide +kernel
theorem d6_41 : decode prog_13_method_12_code 41 = .ok (.ireturn, 1) := by decide +kernel
def Q_rmR (Z : State) (a1 : Addr) (p1 : Int32) (p2 : Int32) (h0 : Heap) (n0 : Nat) (v : Option Value) (h : Heap) (L : List Loc) : Prop := v = some (.int (1 : Int64).toInt32) ∧ Fr n0 L ∧ h = h0
set_option maxRecDepth 65536 in
set_option maxHeartbeats 40000000 in
theorem rmR (l : Launch) (Z : State) (a0 : Array Value) (hw : ∀ d ∈ tables_1, d.before a0 Z = true) (ws : List Jvm.Cond) (a1 : Addr) (p1 : Int32) (p2 : Int32) (h0 : Heap) (n0 : Nat) (Z0 : n0 ≤ h0.size) (F1 : Fld Z h0 a1 site_130.cls "position" "I" (.int p1)) (F2 : Fld Z h0 a1 site_130.cls "end" "I" (.int p2)) (hr : ¬ ((p2 - p1).toInt64 < (1 : Int64))) :
    MetFree l (⟨site_130.cls, "requireRoom", "(J)I"⟩ : MethodName) (head1 (Jvm.Cond.code (⟨site_130.cls, "requireRoom", "(J)I"⟩ : MethodName) prog_13_method_12_code 3 (some .int) :: ws) ({ frames := 0, cells := 0, slots := 0, locals := 0 } : Room)) (fun a U => a = #[(.ref a1), (.long (1 : Int64))] ∧ Z.Warmed39 U.vm ∧ U.heap = h0) (fun _ _ _ _ _ => True) (fun _ U o U' => ∃ v L, o = .returned v ∧ Q_rmR Z a1 p1 p2 h0 n0 v U'.heap L ∧ FrameEnd U o U' L ({ frames := 0, cells := 0, slots := 0, locals := 0 } : Room).cells ({ frames := 0, cells := 0, slots := 0, locals := 0 } : Room).slots) := by
  refine MetFree.of_bodySF (plainFor_of_name pn_0) hisR ?_
  intro p e s m args below meth c s₁ Bd hml0 hP hK
  obtain ⟨rfl, hZ, hh⟩ := hP
  have hx := Bd.exec
  have hby := Bd.bytes
  have hml : c.maxLocals = 3 := hml0
  have hown : s.vm.findClass site_130.cls = some m.cls := (findClass_of_methodNamed Bd.named :)
  have hnm := (name_of_methodNamed Bd.named Bd.method).1
  have X0 : Stand p l e ({ frames := 0, cells := 0, slots := 0, locals := 0 } : Room) s m #[(.ref a1), (.long (1 : Int64))] below meth c s₁ [] 0 0 := Stand.of_body Bd
  have e0 : s₁.heap = h0 := by rw [← hh, Bd.state]; rfl
  have N0 := Fr.nil n0
  have pre0 : ∀ t, Steps p.tables e below (s₁.setTop (mkF m 0 #[.val (.ref a1), .val (.long (1 : Int64)), .second] [])) t → Steps p.tables e below (s₁.setTop (entryFrame m #[(.ref a1), (.long (1 : Int64))] 3)) t := fun t k => castTop (ef_rmR m a1 (1 : Int64)) k
  obtain ⟨T1, X1, e1, st1⟩ := getF X0 hx hZ hown (host := "") (Or.inl (hw _ (List.mem_of_getElem? (i := 21) rfl))) Via.refl e0 F2 (g := (mkF m 8 #[.val (.ref a1), .val (.long (1 : Int64)), .second] [(.ref a1), (.long (1 : Int64))])) rfl rfl (hb hby d6_8)
  obtain ⟨T2, X2, e2, st2⟩ := getF X1 hx hZ hown (host := "") (Or.inl (hw _ (List.mem_of_getElem? (i := 19) rfl))) Via.refl e1 F1 (g := (mkF m 12 #[.val (.ref a1), .val (.long (1 : Int64)), .second] [(.ref a1), (.int p2), (.long (1 : Int64))])) rfl rfl (hb hby d6_12)
  have pre3 : ∀ t, Steps p.tables e below (T2.setTop (mkF m 41 #[.val (.ref a1), .val (.long (1 : Int64)), .second] [(.int ((1 : Int64).toInt32))])) t → Steps p.tables e below (s₁.setTop (entryFrame m #[(.ref a1), (.long (1 : Int64))] 3)) t := by
    intro t k
    refine pre0 t ?_
    show Steps p.tables e below (s₁.setTop (mkF m 0 #[.val (.ref a1), .val (.long (1 : Int64)), .second] [])) _
    refine XS.lloadN X0.here hx rfl (hb hby d6_0) rfl ?_
    show Steps p.tables e below (s₁.setTop (mkF m 1 #[.val (.ref a1), .val (.long (1 : Int64)), .second] [(.long (1 : Int64))])) _
    refine XS.lconst X0.here hx rfl (hb hby d6_1) ?_
    show Steps p.tables e below (s₁.setTop (mkF m 2 #[.val (.ref a1), .val (.long (1 : Int64)), .second] [(.long (0 : Int64)), (.long (1 : Int64))])) _
    refine XS.lcmp X0.here hx rfl (hb hby d6_2) rfl ?_
    show Steps p.tables e below (s₁.setTop (mkF m 3 #[.val (.ref a1), .val (.long (1 : Int64)), .second] [(.int (lcmpW (1 : Int64) (0 : Int64)))])) _
    refine XS.ifNo X0.here hx rfl (hb hby d6_3) rfl ((if0 _ _).trans (flt (mt (lw_lt (1 : Int64) (0 : Int64)).mp (by decide : ¬ ((1 : Int64) < (0 : Int64))))).1) ?_
    show Steps p.tables e below (s₁.setTop (mkF m 6 #[.val (.ref a1), .val (.long (1 : Int64)), .second] [])) _
    refine XS.lloadN X0.here hx rfl (hb hby d6_6) rfl ?_
    show Steps p.tables e below (s₁.setTop (mkF m 7 #[.val (.ref a1), .val (.long (1 : Int64)), .second] [(.long (1 : Int64))])) _
    refine XS.aloadN X0.here hx rfl (hb hby d6_7) rfl (rfl) ?_
    show Steps p.tables e below (s₁.setTop (mkF m 8 #[.val (.ref a1), .val (.long (1 : Int64)), .second] [(.ref a1), (.long (1 : Int64))])) _
    refine st1 _ ?_
    show Steps p.tables e below (T1.setTop (mkF m 11 #[.val (.ref a1), .val (.long (1 : Int64)), .second] [(.int p2), (.long (1 : Int64))])) _
    refine XS.aloadN X1.here hx rfl (hb hby d6_11) rfl (rfl) ?_
    show Steps p.tables e below (T1.setTop (mkF m 12 #[.val (.ref a1), .val (.long (1 : Int64)), .second] [(.ref a1), (.int p2), (.long (1 : Int64))])) _
    refine st2 _ ?_
    show Steps p.tables e below (T2.setTop (mkF m 15 #[.val (.ref a1), .val (.long (1 : Int64)), .second] [(.int p1), (.int p2), (.long (1 : Int64))])) _
    refine XS.isub X2.here hx rfl (hb hby d6_15) rfl ?_
    show Steps p.tables e below (T2.setTop (mkF m 16 #[.val (.ref a1), .val (.long (1 : Int64)), .second] [(.int (p2 - p1)), (.long (1 : Int64))])) _
    refine XS.i2l X2.here hx rfl (hb hby d6_16) rfl ?_
    show Steps p.tables e below (T2.setTop (mkF m 17 #[.val (.ref a1), .val (.long (1 : Int64)), .second] [(.long ((p2 - p1).toInt64)), (.long (1 : Int64))])) _
    refine XS.lcmp X2.here hx rfl (hb hby d6_17) rfl ?_
    show Steps p.tables e below (T2.setTop (mkF m 18 #[.val (.ref a1), .val (.long (1 : Int64)), .second] [(.int (lcmpW (1 : Int64) ((p2 - p1).toInt64)))])) _
    refine XS.ifYes X2.here hx rfl (pc0 := 18) (pc' := 39) rfl (hb hby d6_18) rfl ((if0 _ _).trans (flt (mt (lw_gt (1 : Int64) ((p2 - p1).toInt64)).mp hr)).2.2.2) (by decide) (by decide) ?_
    show Steps p.tables e below (T2.setTop (mkF m 39 #[.val (.ref a1), .val (.long (1 : Int64)), .second] [])) _
    refine XS.lloadN X2.here hx rfl (hb hby d6_39) rfl ?_
    show Steps p.tables e below (T2.setTop (mkF m 40 #[.val (.ref a1), .val (.long (1 : Int64)), .second] [(.long (1 : Int64))])) _
    refine XS.l2i X2.here hx rfl (hb hby d6_40) rfl ?_
    show Steps p.tables e below (T2.setTop (mkF m 41 #[.val (.ref a1), .val (.long (1 : Int64)), .second] [(.int ((1 : Int64).toInt32))])) _
    exact k
  obtain ⟨fs, hr, hrun, hended, hW, hsame⟩ := X2.leave (v := some (.int ((1 : Int64).toInt32))) (fun h => by rw [Bd.returns] at h; cases h)
  refine ⟨_, _, pre3 _ ?_, hrun, hended, _, _, rfl, ?_, ⟨_, rfl⟩, hW, hsame.mono (by decide) (by decide)⟩
  · exact retOut X2 hx Bd.returns rfl (Or.inl ⟨rfl, Or.inl rfl, _, rfl⟩) (hb hby d6_41) hr
  · show Q_rmR Z a1 p1 p2 h0 n0 _ T2.heap _
    rw [e2]
    exact ⟨rfl, N0, rfl⟩
def own_var (b0 b1 b2 b3 b4 : Int32) : Int64 := (((((0 : Int64) ||| ((b0 &&& (127 : Int32)).toInt64 <<< ((0 : Int32) &&& 0x3f).toInt64)) ||| ((b1 &&& (127 : Int32)).toInt64 <<< ((7 : Int32) &&& 0x3f).toInt64)) ||| ((b2 &&& (127 : Int32)).toInt64 <<< ((14 : Int32) &&& 0x3f).toInt64)) ||| ((b3 &&& (127 : Int32)).toInt64 <<< ((21 : Int32) &&& 0x3f).toInt64)) ||| ((b4 &&& (127 : Int32)).toInt64 <<< ((28 : Int32) &&& 0x3f).toInt64)
theorem ef_rmV (m : MethodId) (x0 : Addr) : entryFrame m #[(.ref x0)] 5 = mkF m 0 #[.val (.ref x0), .unset, .unset, .unset, .unset] [] := by first | (simp [entryFrame, mkF, argsToLocals, Value.category]; done) | rfl
theorem d5_0 : decode prog_13_method_9_code 0 = .ok (.lconst 0, 1) := by decide +kernel
theorem d5_1 : decode prog_13_method_9_code 1 = .ok (.lstore_n 1, 1) := by decide +kernel
theorem d5_2 : decode prog_13_method_9_code 2 = .ok (.iconst 0, 1) := by decide +kernel
theorem d5_3 : decode prog_13_method_9_code 3 = .ok (.istore_n 3, 1) := by decide +kernel
theorem d5_4 : decode prog_13_method_9_code 4 = .ok (.iload_n 3, 1) := by decide +kernel
theorem d5_5 : decode prog_13_method_9_code 5 = .ok (.bipush 10, 2) := by decide +kernel
theorem d5_7 : decode prog_13_method_9_code 7 = .ok (.if_icmp .ge 83, 3) := by decide +kernel
theorem d5_10 : decode prog_13_method_9_code 10 = .ok (.aload_n 0, 1) := by decide +kernel
theorem d5_11 : decode prog_13_method_9_code 11 = .ok (.lconst 1, 1) := by decide +kernel
theorem d5_12 : decode prog_13_method_9_code 12 = .ok (.invokevirtual 89, 3) := by decide +kernel
theorem pd_1 : parseMethodDescriptor "(J)I" = some ⟨[.long], some .int⟩ := by decide +kernel
theorem own_selP {Z s : State} {a0 args : Array Value} {y : MethodName} {kk : Nat} (hZ : Z.Warmed39 s.vm) (wi : (Jvm.Cond.instantiable y.cls kk).before a0 Z = true) (wm : (Jvm.Cond.instanceMethod y).before a0 Z = true) (wp : (Jvm.Cond.privateMethod y).before a0 Z = true) (hy : y.cls ≠ "java/lang/invoke/MethodHandle" ∧ y.cls ≠ "java/lang/invoke/VarHandle") : (Jvm.Cond.selects y.cls y y).before args s = true := by
  have wi' : (Jvm.Cond.instantiable y.cls kk).before args s = true := mvT hZ wi
  obtain ⟨c, k, h1, h2, -, h3, -⟩ := Cond.instantiable_spec wi'
  exact selects_self_of_private h1 h2 (Bool.or_eq_false_iff.mp h3).1 (Cond.privateMethod_at (mvP hZ wp (args := #[]))) (mvT hZ wm) hy
theorem d5_15 : decode prog_13_method_9_code 15 = .ok (.pop, 1) := by decide +kernel
theorem d5_16 : decode prog_13_method_9_code 16 = .ok (.aload_n 0, 1) := by decide +kernel
theorem d5_17 : decode prog_13_method_9_code 17 = .ok (.getfield 12, 3) := by decide +kernel
theorem d5_20 : decode prog_13_method_9_code 20 = .ok (.aload_n 0, 1) := by decide +kernel
theorem d5_21 : decode prog_13_method_9_code 21 = .ok (.dup, 1) := by decide +kernel
theorem d5_22 : decode prog_13_method_9_code 22 = .ok (.getfield 16, 3) := by decide +kernel
theorem d5_25 : decode prog_13_method_9_code 25 = .ok (.dup_x1, 1) := by decide +kernel
theorem d5_26 : decode prog_13_method_9_code 26 = .ok (.iconst 1, 1) := by decide +kernel
theorem d5_27 : decode prog_13_method_9_code 27 = .ok (.iadd, 1) := by decide +kernel
theorem d5_28 : decode prog_13_method_9_code 28 = .ok (.putfield 16, 3) := by decide +kernel
theorem d5_31 : decode prog_13_method_9_code 31 = .ok (.baload, 1) := by decide +kernel
theorem d5_32 : decode prog_13_method_9_code 32 = .ok (.istore 4, 2) := by decide +kernel
theorem d5_34 : decode prog_13_method_9_code 34 = .ok (.iload_n 3, 1) := by decide +kernel
theorem d5_35 : decode prog_13_method_9_code 35 = .ok (.bipush 9, 2) := by decide +kernel
theorem d5_37 : decode prog_13_method_9_code 37 = .ok (.if_icmp .ne 26, 3) := by decide +kernel
theorem d5_63 : decode prog_13_method_9_code 63 = .ok (.lload_n 1, 1) := by decide +kernel
theorem d5_64 : decode prog_13_method_9_code 64 = .ok (.iload 4, 2) := by decide +kernel
theorem d5_66 : decode prog_13_method_9_code 66 = .ok (.bipush 127, 2) := by decide +kernel
theorem d5_68 : decode prog_13_method_9_code 68 = .ok (.iand, 1) := by decide +kernel
theorem d5_69 : decode prog_13_method_9_code 69 = .ok (.i2l, 1) := by decide +kernel
theorem d5_70 : decode prog_13_method_9_code 70 = .ok (.bipush 7, 2) := by decide +kernel
theorem d5_72 : decode prog_13_method_9_code 72 = .ok (.iload_n 3, 1) := by decide +kernel
theorem d5_73 : decode prog_13_method_9_code 73 = .ok (.imul, 1) := by decide +kernel
theorem d5_74 : decode prog_13_method_9_code 74 = .ok (.lshl, 1) := by decide +kernel
theorem d5_75 : decode prog_13_method_9_code 75 = .ok (.lor, 1) := by decide +kernel
theorem d5_76 : decode prog_13_method_9_code 76 = .ok (.lstore_n 1, 1) := by decide +kernel
theorem d5_77 : decode prog_13_method_9_code 77 = .ok (.iload 4, 2) := by decide +kernel
theorem d5_79 : decode prog_13_method_9_code 79 = .ok (.ifCond .lt 5, 3) := by decide +kernel
theorem d5_84 : decode prog_13_method_9_code 84 = .ok (.iinc 3 1, 3) := by decide +kernel
theorem d5_87 : decode prog_13_method_9_code 87 = .ok (.goto (-83), 3) := by decide +kernel
theorem d5_82 : decode prog_13_method_9_code 82 = .ok (.lload_n 1, 1) := by decide +kernel
theorem d5_83 : decode prog_13_method_9_code 83 = .ok (.lreturn, 1) := by decide +kernel
def Q_rmV (Z : State) (a1 : Addr) (a2 : Addr) (cl : Cell) (b0 : Int32) (b1 : Int32) (b2 : Int32) (b3 : Int32) (b4 : Int32) (h0 : Heap) (n0 : Nat) (v : Option Value) (h : Heap) (L : List Loc) : Prop := v = some (.long (own_var b0 b1 b2 b3 b4)) ∧ Fr n0 L ∧ Keep h0 h [a1] ∧ Exa Z h a1 site_130.cls ∧ Fld Z h a1 site_130.cls "bytes" "[B" (.ref a2) ∧ Fld Z h a1 site_130.cls "position" "I" (.int (5 : Int32)) ∧ Fld Z h a1 site_130.cls "end" "I" (.int (5 : Int32)) ∧ Fld Z h a1 site_130.cls "field" "I" (.int (0 : Int32)) ∧ Fld Z h a1 site_130.cls "wireType" "I" (.int (0 : Int32))
set_option maxRecDepth 65536 in
set_option maxHeartbeats 40000000 in
theorem rmV (l : Launch) (Z : State) (a0 : Array Value) (hw : ∀ d ∈ tables_1, d.before a0 Z = true) (ws : List Jvm.Cond) (a1 : Addr) (a2 : Addr) (cl : Cell) (b0 : Int32) (b1 : Int32) (b2 : Int32) (b3 : Int32) (b4 : Int32) (h0 : Heap) (n0 : Nat) (Z0 : n0 ≤ h0.size) (F0 : Fld Z h0 a1 site_130.cls "bytes" "[B" (.ref a2)) (F1 : Fld Z h0 a1 site_130.cls "position" "I" (.int (0 : Int32))) (F2 : Fld Z h0 a1 site_130.cls "end" "I" (.int (5 : Int32))) (F3 : Fld Z h0 a1 site_130.cls "field" "I" (.int (0 : Int32))) (F4 : Fld Z h0 a1 site_130.cls "wireType" "I" (.int (0 : Int32))) (E1 : Exa Z h0 a1 site_130.cls) (g_a1 : n0 ≤ a1) (Ar : Arr Z h0 a2 cl .byte) (Sz : cl.slots.size = (5 : Int32).toNatClampNeg) (ne_a2_a1 : a2 ≠ a1) (t0 : cl.slots[0]? = some (.int b0)) (t1 : cl.slots[1]? = some (.int b1)) (t2 : cl.slots[2]? = some (.int b2)) (t3 : cl.slots[3]? = some (.int b3)) (t4 : cl.slots[4]? = some (.int b4)) (u0 : b0 < (0 : Int32)) (u1 : b1 < (0 : Int32)) (u2 : b2 < (0 : Int32)) (u3 : b3 < (0 : Int32)) (u4 : ¬ (b4 < (0 : Int32))) :
    MetFree l (⟨site_130.cls, "readRawVarint", "()J"⟩ : MethodName) (head1 (Jvm.Cond.code (⟨site_130.cls, "readRawVarint", "()J"⟩ : MethodName) prog_13_method_9_code 5 (some .long) :: ws) ({ frames := 1, cells := 0, slots := 0, locals := 20 } : Room)) (fun a U => a = #[(.ref a1)] ∧ Z.Warmed39 U.vm ∧ U.heap = h0) (fun _ _ _ _ _ => True) (fun _ U o U' => ∃ v L, o = .returned v ∧ Q_rmV Z a1 a2 cl b0 b1 b2 b3 b4 h0 n0 v U'.heap L ∧ FrameEnd U o U' L ({ frames := 1, cells := 0, slots := 0, locals := 20 } : Room).cells ({ frames := 1, cells := 0, slots := 0, locals := 20 } : Room).slots) := by
  refine MetFree.of_bodySF (plainFor_of_name pn_0) hisR ?_
  intro p e s m args below meth c s₁ Bd hml0 hP hK
  obtain ⟨rfl, hZ, hh⟩ := hP
  have hx := Bd.exec
  have hby := Bd.bytes
  have hml : c.maxLocals = 5 := hml0
  have hown : s.vm.findClass site_130.cls = some m.cls := (findClass_of_methodNamed Bd.named :)
  have hnm := (name_of_methodNamed Bd.named Bd.method).1
  have X0 : Stand p l e ({ frames := 1, cells := 0, slots := 0, locals := 20 } : Room) s m #[(.ref a1)] below meth c s₁ [] 0 0 := Stand.of_body Bd
  have e0 : s₁.heap = h0 := by rw [← hh, Bd.state]; rfl
  have N0 := Fr.nil n0
  have pre0 : ∀ t, Steps p.tables e below (s₁.setTop (mkF m 0 #[.val (.ref a1), .unset, .unset, .unset, .unset] [])) t → Steps p.tables e below (s₁.setTop (entryFrame m #[(.ref a1)] 5)) t := fun t k => castTop (ef_rmV m a1) k
  obtain ⟨cq1, q1, q1'⟩ := E1.cell
  obtain ⟨_, _, ⟨T1, L1, k1, n1⟩, -, X1, ⟨Lc1, hQ1, l1, y1, z1⟩, st1⟩ := X0.privateBack hx (y := (⟨site_130.cls, "requireRoom", "(J)I"⟩ : MethodName)) hown (mvT hZ (hw _ (List.mem_of_getElem? (i := 32) rfl))) (mvT hZ (hw _ (List.mem_of_getElem? (i := 33) rfl))) (own_selP (y := (⟨site_130.cls, "requireRoom", "(J)I"⟩ : MethodName)) hZ (hw _ (List.mem_of_getElem? (i := 6) rfl)) (hw _ (List.mem_of_getElem? (i := 33) rfl)) (hw _ (List.mem_of_getElem? (i := 34) rfl)) (by decide)) (Cond.privateMethod_at (mvP hZ (hw _ (List.mem_of_getElem? (i := 34) rfl)) (args := #[]))) (mvT hZ (hw _ (List.mem_of_getElem? (i := 35) rfl))) (by decide) (backOf (W := 0) (rmR l Z a0 hw [] a1 (0 : Int32) (5 : Int32) h0 n0 Z0 F1 F2 (by decide)) hZ (hw _ (List.mem_of_getElem? (i := 35) rfl)) (hw _ (List.mem_of_getElem? (i := 7) rfl)) (by decide) (by decide)) (g := (mkF m 12 #[.val (.ref a1), .val (.long (0 : Int64)), .second, .val (.int (0 : Int32)), .unset] [(.long (1 : Int64)), (.ref a1)])) rfl (by rw [hml]; rfl) (Steps.refl _) (a := a1) (by rw [e0]; exact q1) q1' (argsL := [(.long (1 : Int64))]) (rest := []) (lenOf pd_1 rfl) rfl (by show 2 * 0 + _ ≤ _; exact Nat.le_of_eq rfl) (hb hby d5_12) (fun _ _ => ⟨rfl, e0, (by decide : 0 + 0 ≤ _), (by decide : 0 + 0 ≤ _)⟩)
  dsimp only [Pt.U, Pt.locs, Pt.cells, Pt.slots] at X1 l1 y1 z1 st1 hQ1
  subst l1 y1 z1
  obtain ⟨rfl, N1q, hq1⟩ := hQ1
  have N1 := Fr.app N0 N1q
  obtain ⟨T2, X2, e2, st2⟩ := getF X1 hx hZ hown (host := "") (Or.inl (hw _ (List.mem_of_getElem? (i := 17) rfl))) Via.refl hq1 F0 (g := (mkF m 17 #[.val (.ref a1), .val (.long (0 : Int64)), .second, .val (.int (0 : Int32)), .unset] [(.ref a1)])) rfl rfl (hb hby d5_17)
  obtain ⟨T3, X3, e3, st3⟩ := getF X2 hx hZ hown (host := "") (Or.inl (hw _ (List.mem_of_getElem? (i := 19) rfl))) Via.refl e2 F1 (g := (mkF m 22 #[.val (.ref a1), .val (.long (0 : Int64)), .second, .val (.int (0 : Int32)), .unset] [(.ref a1), (.ref a1), (.ref a2)])) rfl rfl (hb hby d5_22)
  obtain ⟨T4, h4, X4, e4, W4, st4⟩ := putF X3 hx hZ hown (host := "") (Or.inl (hw _ (List.mem_of_getElem? (i := 19) rfl))) Via.refl e3 F1 E1 (Or.inl (hw _ (List.mem_of_getElem? (i := 20) rfl))) (hw _ (List.mem_of_getElem? (i := 6) rfl)) (ty := .int) (by decide) rfl rfl (g := (mkF m 28 #[.val (.ref a1), .val (.long (0 : Int64)), .second, .val (.int (0 : Int32)), .unset] [(.int (1 : Int32)), (.ref a1), (.int (0 : Int32)), (.ref a2)])) rfl rfl (hb hby d5_28)
  have Fw4 := F1.same W4
  have K4 : Keep h0 h4 [a1] := (Keep.refl h0 [a1]).wr W4 (Or.inl (List.mem_of_getElem? (i := 0) rfl))
  have N4 := Fr.snoc X4 N1 g_a1
  obtain ⟨cq5, q5, q5'⟩ := (E1.wr W4).cell
  obtain ⟨_, _, ⟨T5, L5, k5, n5⟩, -, X5, ⟨Lc5, hQ5, l5, y5, z5⟩, st5⟩ := X4.privateBack hx (y := (⟨site_130.cls, "requireRoom", "(J)I"⟩ : MethodName)) hown (mvT hZ (hw _ (List.mem_of_getElem? (i := 32) rfl))) (mvT hZ (hw _ (List.mem_of_getElem? (i := 33) rfl))) (own_selP (y := (⟨site_130.cls, "requireRoom", "(J)I"⟩ : MethodName)) hZ (hw _ (List.mem_of_getElem? (i := 6) rfl)) (hw _ (List.mem_of_getElem? (i := 33) rfl)) (hw _ (List.mem_of_getElem? (i := 34) rfl)) (by decide)) (Cond.privateMethod_at (mvP hZ (hw _ (List.mem_of_getElem? (i := 34) rfl)) (args := #[]))) (mvT hZ (hw _ (List.mem_of_getElem? (i := 35) rfl))) (by decide) (backOf (W := 0) (rmR l Z a0 hw [] a1 (1 : Int32) (5 : Int32) h4 n0 (Nat.le_trans Z0 (Keep.of_wr W4).1) Fw4 (F2.other W4 (Or.inr (slot_ne (Or.inr (hw _ (List.mem_of_getElem? (i := 22) rfl))) (Or.inl (hw _ (List.mem_of_getElem? (i := 20) rfl))) (by decide) (t := .int) (t' := .int) (by decide) (by decide)))) (by decide)) hZ (hw _ (List.mem_of_getElem? (i := 35) rfl)) (hw _ (List.mem_of_getElem? (i := 7) rfl)) (by decide) (by decide)) (g := (mkF m 12 #[.val (.ref a1), .val (.long ((0 : Int64) ||| (((b0 &&& (127 : Int32)).toInt64) <<< ((0 : Int32) &&& 0x3f).toInt64))), .second, .val (.int (1 : Int32)), .val (.int b0)] [(.long (1 : Int64)), (.ref a1)])) rfl (by rw [hml]; rfl) (Steps.refl _) (a := a1) (by rw [e4]; exact q5) q5' (argsL := [(.long (1 : Int64))]) (rest := []) (lenOf pd_1 rfl) rfl (by show 2 * 0 + _ ≤ _; exact Nat.le_of_eq rfl) (hb hby d5_12) (fun _ _ => ⟨rfl, e4, (by decide : 0 + 0 ≤ _), (by decide : 0 + 0 ≤ _)⟩)
  dsimp only [Pt.U, Pt.locs, Pt.cells, Pt.slots] at X5 l5 y5 z5 st5 hQ5
  subst l5 y5 z5
  obtain ⟨rfl, N5q, hq5⟩ := hQ5
  have N5 := Fr.app N4 N5q
  obtain ⟨T6, X6, e6, st6⟩ := getF X5 hx hZ hown (host := "") (Or.inl (hw _ (List.mem_of_getElem? (i := 17) rfl))) Via.refl hq5 (F0.other W4 (Or.inr (slot_ne (Or.inr (hw _ (List.mem_of_getElem? (i := 18) rfl))) (Or.inl (hw _ (List.mem_of_getElem? (i := 20) rfl))) (by decide) (t := (.array .byte)) (t' := .int) (by decide) (by decide)))) (g := (mkF m 17 #[.val (.ref a1), .val (.long ((0 : Int64) ||| (((b0 &&& (127 : Int32)).toInt64) <<< ((0 : Int32) &&& 0x3f).toInt64))), .second, .val (.int (1 : Int32)), .val (.int b0)] [(.ref a1)])) rfl rfl (hb hby d5_17)
  obtain ⟨T7, X7, e7, st7⟩ := getF X6 hx hZ hown (host := "") (Or.inl (hw _ (List.mem_of_getElem? (i := 19) rfl))) Via.refl e6 Fw4 (g := (mkF m 22 #[.val (.ref a1), .val (.long ((0 : Int64) ||| (((b0 &&& (127 : Int32)).toInt64) <<< ((0 : Int32) &&& 0x3f).toInt64))), .second, .val (.int (1 : Int32)), .val (.int b0)] [(.ref a1), (.ref a1), (.ref a2)])) rfl rfl (hb hby d5_22)
  obtain ⟨T8, h8, X8, e8, W8, st8⟩ := putF X7 hx hZ hown (host := "") (Or.inl (hw _ (List.mem_of_getElem? (i := 19) rfl))) Via.refl e7 Fw4 (E1.wr W4) (Or.inl (hw _ (List.mem_of_getElem? (i := 20) rfl))) (hw _ (List.mem_of_getElem? (i := 6) rfl)) (ty := .int) (by decide) rfl rfl (g := (mkF m 28 #[.val (.ref a1), .val (.long ((0 : Int64) ||| (((b0 &&& (127 : Int32)).toInt64) <<< ((0 : Int32) &&& 0x3f).toInt64))), .second, .val (.int (1 : Int32)), .val (.int b0)] [(.int (2 : Int32)), (.ref a1), (.int (1 : Int32)), (.ref a2)])) rfl rfl (hb hby d5_28)
  have Fw8 := Fw4.same W8
  have K8 : Keep h0 h8 [a1] := K4.wr W8 (Or.inl (List.mem_of_getElem? (i := 0) rfl))
  have N8 := Fr.snoc X8 N5 g_a1
  obtain ⟨cq9, q9, q9'⟩ := ((E1.wr W4).wr W8).cell
  obtain ⟨_, _, ⟨T9, L9, k9, n9⟩, -, X9, ⟨Lc9, hQ9, l9, y9, z9⟩, st9⟩ := X8.privateBack hx (y := (⟨site_130.cls, "requireRoom", "(J)I"⟩ : MethodName)) hown (mvT hZ (hw _ (List.mem_of_getElem? (i := 32) rfl))) (mvT hZ (hw _ (List.mem_of_getElem? (i := 33) rfl))) (own_selP (y := (⟨site_130.cls, "requireRoom", "(J)I"⟩ : MethodName)) hZ (hw _ (List.mem_of_getElem? (i := 6) rfl)) (hw _ (List.mem_of_getElem? (i := 33) rfl)) (hw _ (List.mem_of_getElem? (i := 34) rfl)) (by decide)) (Cond.privateMethod_at (mvP hZ (hw _ (List.mem_of_getElem? (i := 34) rfl)) (args := #[]))) (mvT hZ (hw _ (List.mem_of_getElem? (i := 35) rfl))) (by decide) (backOf (W := 0) (rmR l Z a0 hw [] a1 (2 : Int32) (5 : Int32) h8 n0 (Nat.le_trans (Nat.le_trans Z0 (Keep.of_wr W4).1) (Keep.of_wr W8).1) Fw8 ((F2.other W4 (Or.inr (slot_ne (Or.inr (hw _ (List.mem_of_getElem? (i := 22) rfl))) (Or.inl (hw _ (List.mem_of_getElem? (i := 20) rfl))) (by decide) (t := .int) (t' := .int) (by decide) (by decide)))).other W8 (Or.inr (slot_ne (Or.inr (hw _ (List.mem_of_getElem? (i := 22) rfl))) (Or.inl (hw _ (List.mem_of_getElem? (i := 20) rfl))) (by decide) (t := .int) (t' := .int) (by decide) (by decide)))) (by decide)) hZ (hw _ (List.mem_of_getElem? (i := 35) rfl)) (hw _ (List.mem_of_getElem? (i := 7) rfl)) (by decide) (by decide)) (g := (mkF m 12 #[.val (.ref a1), .val (.long (((0 : Int64) ||| (((b0 &&& (127 : Int32)).toInt64) <<< ((0 : Int32) &&& 0x3f).toInt64)) ||| (((b1 &&& (127 : Int32)).toInt64) <<< ((7 : Int32) &&& 0x3f).toInt64))), .second, .val (.int (2 : Int32)), .val (.int b1)] [(.long (1 : Int64)), (.ref a1)])) rfl (by rw [hml]; rfl) (Steps.refl _) (a := a1) (by rw [e8]; exact q9) q9' (argsL := [(.long (1 : Int64))]) (rest := []) (lenOf pd_1 rfl) rfl (by show 2 * 0 + _ ≤ _; exact Nat.le_of_eq rfl) (hb hby d5_12) (fun _ _ => ⟨rfl, e8, (by decide : 0 + 0 ≤ _), (by decide : 0 + 0 ≤ _)⟩)
  dsimp only [Pt.U, Pt.locs, Pt.cells, Pt.slots] at X9 l9 y9 z9 st9 hQ9
  subst l9 y9 z9
  obtain ⟨rfl, N9q, hq9⟩ := hQ9
  have N9 := Fr.app N8 N9q
  obtain ⟨T10, X10, e10, st10⟩ := getF X9 hx hZ hown (host := "") (Or.inl (hw _ (List.mem_of_getElem? (i := 17) rfl))) Via.refl hq9 ((F0.other W4 (Or.inr (slot_ne (Or.inr (hw _ (List.mem_of_getElem? (i := 18) rfl))) (Or.inl (hw _ (List.mem_of_getElem? (i := 20) rfl))) (by decide) (t := (.array .byte)) (t' := .int) (by decide) (by decide)))).other W8 (Or.inr (slot_ne (Or.inr (hw _ (List.mem_of_getElem? (i := 18) rfl))) (Or.inl (hw _ (List.mem_of_getElem? (i := 20) rfl))) (by decide) (t := (.array .byte)) (t' := .int) (by decide) (by decide)))) (g := (mkF m 17 #[.val (.ref a1), .val (.long (((0 : Int64) ||| (((b0 &&& (127 : Int32)).toInt64) <<< ((0 : Int32) &&& 0x3f).toInt64)) ||| (((b1 &&& (127 : Int32)).toInt64) <<< ((7 : Int32) &&& 0x3f).toInt64))), .second, .val (.int (2 : Int32)), .val (.int b1)] [(.ref a1)])) rfl rfl (hb hby d5_17)
  obtain ⟨T11, X11, e11, st11⟩ := getF X10 hx hZ hown (host := "") (Or.inl (hw _ (List.mem_of_getElem? (i := 19) rfl))) Via.refl e10 Fw8 (g := (mkF m 22 #[.val (.ref a1), .val (.long (((0 : Int64) ||| (((b0 &&& (127 : Int32)).toInt64) <<< ((0 : Int32) &&& 0x3f).toInt64)) ||| (((b1 &&& (127 : Int32)).toInt64) <<< ((7 : Int32) &&& 0x3f).toInt64))), .second, .val (.int (2 : Int32)), .val (.int b1)] [(.ref a1), (.ref a1), (.ref a2)])) rfl rfl (hb hby d5_22)
  obtain ⟨T12, h12, X12, e12, W12, st12⟩ := putF X11 hx hZ hown (host := "") (Or.inl (hw _ (List.mem_of_getElem? (i := 19) rfl))) Via.refl e11 Fw8 ((E1.wr W4).wr W8) (Or.inl (hw _ (List.mem_of_getElem? (i := 20) rfl))) (hw _ (List.mem_of_getElem? (i := 6) rfl)) (ty := .int) (by decide) rfl rfl (g := (mkF m 28 #[.val (.ref a1), .val (.long (((0 : Int64) ||| (((b0 &&& (127 : Int32)).toInt64) <<< ((0 : Int32) &&& 0x3f).toInt64)) ||| (((b1 &&& (127 : Int32)).toInt64) <<< ((7 : Int32) &&& 0x3f).toInt64))), .second, .val (.int (2 : Int32)), .val (.int b1)] [(.int (3 : Int32)), (.ref a1), (.int (2 : Int32)), (.ref a2)])) rfl rfl (hb hby d5_28)
  have Fw12 := Fw8.same W12
  have K12 : Keep h0 h12 [a1] := K8.wr W12 (Or.inl (List.mem_of_getElem? (i := 0) rfl))
  have N12 := Fr.snoc X12 N9 g_a1
  obtain ⟨cq13, q13, q13'⟩ := (((E1.wr W4).wr W8).wr W12).cell
  obtain ⟨_, _, ⟨T13, L13, k13, n13⟩, -, X13, ⟨Lc13, hQ13, l13, y13, z13⟩, st13⟩ := X12.privateBack hx (y := (⟨site_130.cls, "requireRoom", "(J)I"⟩ : MethodName)) hown (mvT hZ (hw _ (List.mem_of_getElem? (i := 32) rfl))) (mvT hZ (hw _ (List.mem_of_getElem? (i := 33) rfl))) (own_selP (y := (⟨site_130.cls, "requireRoom", "(J)I"⟩ : MethodName)) hZ (hw _ (List.mem_of_getElem? (i := 6) rfl)) (hw _ (List.mem_of_getElem? (i := 33) rfl)) (hw _ (List.mem_of_getElem? (i := 34) rfl)) (by decide)) (Cond.privateMethod_at (mvP hZ (hw _ (List.mem_of_getElem? (i := 34) rfl)) (args := #[]))) (mvT hZ (hw _ (List.mem_of_getElem? (i := 35) rfl))) (by decide) (backOf (W := 0) (rmR l Z a0 hw [] a1 (3 : Int32) (5 : Int32) h12 n0 (Nat.le_trans (Nat.le_trans (Nat.le_trans Z0 (Keep.of_wr W4).1) (Keep.of_wr W8).1) (Keep.of_wr W12).1) Fw12 (((F2.other W4 (Or.inr (slot_ne (Or.inr (hw _ (List.mem_of_getElem? (i := 22) rfl))) (Or.inl (hw _ (List.mem_of_getElem? (i := 20) rfl))) (by decide) (t := .int) (t' := .int) (by decide) (by decide)))).other W8 (Or.inr (slot_ne (Or.inr (hw _ (List.mem_of_getElem? (i := 22) rfl))) (Or.inl (hw _ (List.mem_of_getElem? (i := 20) rfl))) (by decide) (t := .int) (t' := .int) (by decide) (by decide)))).other W12 (Or.inr (slot_ne (Or.inr (hw _ (List.mem_of_getElem? (i := 22) rfl))) (Or.inl (hw _ (List.mem_of_getElem? (i := 20) rfl))) (by decide) (t := .int) (t' := .int) (by decide) (by decide)))) (by decide)) hZ (hw _ (List.mem_of_getElem? (i := 35) rfl)) (hw _ (List.mem_of_getElem? (i := 7) rfl)) (by decide) (by decide)) (g := (mkF m 12 #[.val (.ref a1), .val (.long ((((0 : Int64) ||| (((b0 &&& (127 : Int32)).toInt64) <<< ((0 : Int32) &&& 0x3f).toInt64)) ||| (((b1 &&& (127 : Int32)).toInt64) <<< ((7 : Int32) &&& 0x3f).toInt64)) ||| (((b2 &&& (127 : Int32)).toInt64) <<< ((14 : Int32) &&& 0x3f).toInt64))), .second, .val (.int (3 : Int32)), .val (.int b2)] [(.long (1 : Int64)), (.ref a1)])) rfl (by rw [hml]; rfl) (Steps.refl _) (a := a1) (by rw [e12]; exact q13) q13' (argsL := [(.long (1 : Int64))]) (rest := []) (lenOf pd_1 rfl) rfl (by show 2 * 0 + _ ≤ _; exact Nat.le_of_eq rfl) (hb hby d5_12) (fun _ _ => ⟨rfl, e12, (by decide : 0 + 0 ≤ _), (by decide : 0 + 0 ≤ _)⟩)
  dsimp only [Pt.U, Pt.locs, Pt.cells, Pt.slots] at X13 l13 y13 z13 st13 hQ13
  subst l13 y13 z13
  obtain ⟨rfl, N13q, hq13⟩ := hQ13
  have N13 := Fr.app N12 N13q
  obtain ⟨T14, X14, e14, st14⟩ := getF X13 hx hZ hown (host := "") (Or.inl (hw _ (List.mem_of_getElem? (i := 17) rfl))) Via.refl hq13 (((F0.other W4 (Or.inr (slot_ne (Or.inr (hw _ (List.mem_of_getElem? (i := 18) rfl))) (Or.inl (hw _ (List.mem_of_getElem? (i := 20) rfl))) (by decide) (t := (.array .byte)) (t' := .int) (by decide) (by decide)))).other W8 (Or.inr (slot_ne (Or.inr (hw _ (List.mem_of_getElem? (i := 18) rfl))) (Or.inl (hw _ (List.mem_of_getElem? (i := 20) rfl))) (by decide) (t := (.array .byte)) (t' := .int) (by decide) (by decide)))).other W12 (Or.inr (slot_ne (Or.inr (hw _ (List.mem_of_getElem? (i := 18) rfl))) (Or.inl (hw _ (List.mem_of_getElem? (i := 20) rfl))) (by decide) (t := (.array .byte)) (t' := .int) (by decide) (by decide)))) (g := (mkF m 17 #[.val (.ref a1), .val (.long ((((0 : Int64) ||| (((b0 &&& (127 : Int32)).toInt64) <<< ((0 : Int32) &&& 0x3f).toInt64)) ||| (((b1 &&& (127 : Int32)).toInt64) <<< ((7 : Int32) &&& 0x3f).toInt64)) ||| (((b2 &&& (127 : Int32)).toInt64) <<< ((14 : Int32) &&& 0x3f).toInt64))), .second, .val (.int (3 : Int32)), .val (.int b2)] [(.ref a1)])) rfl rfl (hb hby d5_17)
  obtain ⟨T15, X15, e15, st15⟩ := getF X14 hx hZ hown (host := "") (Or.inl (hw _ (List.mem_of_getElem? (i := 19) rfl))) Via.refl e14 Fw12 (g := (mkF m 22 #[.val (.ref a1), .val (.long ((((0 : Int64) ||| (((b0 &&& (127 : Int32)).toInt64) <<< ((0 : Int32) &&& 0x3f).toInt64)) ||| (((b1 &&& (127 : Int32)).toInt64) <<< ((7 : Int32) &&& 0x3f).toInt64)) ||| (((b2 &&& (127 : Int32)).toInt64) <<< ((14 : Int32) &&& 0x3f).toInt64))), .second, .val (.int (3 : Int32)), .val (.int b2)] [(.ref a1), (.ref a1), (.ref a2)])) rfl rfl (hb hby d5_22)
  obtain ⟨T16, h16, X16, e16, W16, st16⟩ := putF X15 hx hZ hown (host := "") (Or.inl (hw _ (List.mem_of_getElem? (i := 19) rfl))) Via.refl e15 Fw12 (((E1.wr W4).wr W8).wr W12) (Or.inl (hw _ (List.mem_of_getElem? (i := 20) rfl))) (hw _ (List.mem_of_getElem? (i := 6) rfl)) (ty := .int) (by decide) rfl rfl (g := (mkF m 28 #[.val (.ref a1), .val (.long ((((0 : Int64) ||| (((b0 &&& (127 : Int32)).toInt64) <<< ((0 : Int32) &&& 0x3f).toInt64)) ||| (((b1 &&& (127 : Int32)).toInt64) <<< ((7 : Int32) &&& 0x3f).toInt64)) ||| (((b2 &&& (127 : Int32)).toInt64) <<< ((14 : Int32) &&& 0x3f).toInt64))), .second, .val (.int (3 : Int32)), .val (.int b2)] [(.int (4 : Int32)), (.ref a1), (.int (3 : Int32)), (.ref a2)])) rfl rfl (hb hby d5_28)
  have Fw16 := Fw12.same W16
  have K16 : Keep h0 h16 [a1] := K12.wr W16 (Or.inl (List.mem_of_getElem? (i := 0) rfl))
  have N16 := Fr.snoc X16 N13 g_a1
  obtain ⟨cq17, q17, q17'⟩ := ((((E1.wr W4).wr W8).wr W12).wr W16).cell
  obtain ⟨_, _, ⟨T17, L17, k17, n17⟩, -, X17, ⟨Lc17, hQ17, l17, y17, z17⟩, st17⟩ := X16.privateBack hx (y := (⟨site_130.cls, "requireRoom", "(J)I"⟩ : MethodName)) hown (mvT hZ (hw _ (List.mem_of_getElem? (i := 32) rfl))) (mvT hZ (hw _ (List.mem_of_getElem? (i := 33) rfl))) (own_selP (y := (⟨site_130.cls, "requireRoom", "(J)I"⟩ : MethodName)) hZ (hw _ (List.mem_of_getElem? (i := 6) rfl)) (hw _ (List.mem_of_getElem? (i := 33) rfl)) (hw _ (List.mem_of_getElem? (i := 34) rfl)) (by decide)) (Cond.privateMethod_at (mvP hZ (hw _ (List.mem_of_getElem? (i := 34) rfl)) (args := #[]))) (mvT hZ (hw _ (List.mem_of_getElem? (i := 35) rfl))) (by decide) (backOf (W := 0) (rmR l Z a0 hw [] a1 (4 : Int32) (5 : Int32) h16 n0 (Nat.le_trans (Nat.le_trans (Nat.le_trans (Nat.le_trans Z0 (Keep.of_wr W4).1) (Keep.of_wr W8).1) (Keep.of_wr W12).1) (Keep.of_wr W16).1) Fw16 ((((F2.other W4 (Or.inr (slot_ne (Or.inr (hw _ (List.mem_of_getElem? (i := 22) rfl))) (Or.inl (hw _ (List.mem_of_getElem? (i := 20) rfl))) (by decide) (t := .int) (t' := .int) (by decide) (by decide)))).other W8 (Or.inr (slot_ne (Or.inr (hw _ (List.mem_of_getElem? (i := 22) rfl))) (Or.inl (hw _ (List.mem_of_getElem? (i := 20) rfl))) (by decide) (t := .int) (t' := .int) (by decide) (by decide)))).other W12 (Or.inr (slot_ne (Or.inr (hw _ (List.mem_of_getElem? (i := 22) rfl))) (Or.inl (hw _ (List.mem_of_getElem? (i := 20) rfl))) (by decide) (t := .int) (t' := .int) (by decide) (by decide)))).other W16 (Or.inr (slot_ne (Or.inr (hw _ (List.mem_of_getElem? (i := 22) rfl))) (Or.inl (hw _ (List.mem_of_getElem? (i := 20) rfl))) (by decide) (t := .int) (t' := .int) (by decide) (by decide)))) (by decide)) hZ (hw _ (List.mem_of_getElem? (i := 35) rfl)) (hw _ (List.mem_of_getElem? (i := 7) rfl)) (by decide) (by decide)) (g := (mkF m 12 #[.val (.ref a1), .val (.long (((((0 : Int64) ||| (((b0 &&& (127 : Int32)).toInt64) <<< ((0 : Int32) &&& 0x3f).toInt64)) ||| (((b1 &&& (127 : Int32)).toInt64) <<< ((7 : Int32) &&& 0x3f).toInt64)) ||| (((b2 &&& (127 : Int32)).toInt64) <<< ((14 : Int32) &&& 0x3f).toInt64)) ||| (((b3 &&& (127 : Int32)).toInt64) <<< ((21 : Int32) &&& 0x3f).toInt64))), .second, .val (.int (4 : Int32)), .val (.int b3)] [(.long (1 : Int64)), (.ref a1)])) rfl (by rw [hml]; rfl) (Steps.refl _) (a := a1) (by rw [e16]; exact q17) q17' (argsL := [(.long (1 : Int64))]) (rest := []) (lenOf pd_1 rfl) rfl (by show 2 * 0 + _ ≤ _; exact Nat.le_of_eq rfl) (hb hby d5_12) (fun _ _ => ⟨rfl, e16, (by decide : 0 + 0 ≤ _), (by decide : 0 + 0 ≤ _)⟩)
  dsimp only [Pt.U, Pt.locs, Pt.cells, Pt.slots] at X17 l17 y17 z17 st17 hQ17
  subst l17 y17 z17
  obtain ⟨rfl, N17q, hq17⟩ := hQ17
  have N17 := Fr.app N16 N17q
  obtain ⟨T18, X18, e18, st18⟩ := getF X17 hx hZ hown (host := "") (Or.inl (hw _ (List.mem_of_getElem? (i := 17) rfl))) Via.refl hq17 ((((F0.other W4 (Or.inr (slot_ne (Or.inr (hw _ (List.mem_of_getElem? (i := 18) rfl))) (Or.inl (hw _ (List.mem_of_getElem? (i := 20) rfl))) (by decide) (t := (.array .byte)) (t' := .int) (by decide) (by decide)))).other W8 (Or.inr (slot_ne (Or.inr (hw _ (List.mem_of_getElem? (i := 18) rfl))) (Or.inl (hw _ (List.mem_of_getElem? (i := 20) rfl))) (by decide) (t := (.array .byte)) (t' := .int) (by decide) (by decide)))).other W12 (Or.inr (slot_ne (Or.inr (hw _ (List.mem_of_getElem? (i := 18) rfl))) (Or.inl (hw _ (List.mem_of_getElem? (i := 20) rfl))) (by decide) (t := (.array .byte)) (t' := .int) (by decide) (by decide)))).other W16 (Or.inr (slot_ne (Or.inr (hw _ (List.mem_of_getElem? (i := 18) rfl))) (Or.inl (hw _ (List.mem_of_getElem? (i := 20) rfl))) (by decide) (t := (.array .byte)) (t' := .int) (by decide) (by decide)))) (g := (mkF m 17 #[.val (.ref a1), .val (.long (((((0 : Int64) ||| (((b0 &&& (127 : Int32)).toInt64) <<< ((0 : Int32) &&& 0x3f).toInt64)) ||| (((b1 &&& (127 : Int32)).toInt64) <<< ((7 : Int32) &&& 0x3f).toInt64)) ||| (((b2 &&& (127 : Int32)).toInt64) <<< ((14 : Int32) &&& 0x3f).toInt64)) ||| (((b3 &&& (127 : Int32)).toInt64) <<< ((21 : Int32) &&& 0x3f).toInt64))), .second, .val (.int (4 : Int32)), .val (.int b3)] [(.ref a1)])) rfl rfl (hb hby d5_17)
  obtain ⟨T19, X19, e19, st19⟩ := getF X18 hx hZ hown (host := "") (Or.inl (hw _ (List.mem_of_getElem? (i := 19) rfl))) Via.refl e18 Fw16 (g := (mkF m 22 #[.val (.ref a1), .val (.long (((((0 : Int64) ||| (((b0 &&& (127 : Int32)).toInt64) <<< ((0 : Int32) &&& 0x3f).toInt64)) ||| (((b1 &&& (127 : Int32)).toInt64) <<< ((7 : Int32) &&& 0x3f).toInt64)) ||| (((b2 &&& (127 : Int32)).toInt64) <<< ((14 : Int32) &&& 0x3f).toInt64)) ||| (((b3 &&& (127 : Int32)).toInt64) <<< ((21 : Int32) &&& 0x3f).toInt64))), .second, .val (.int (4 : Int32)), .val (.int b3)] [(.ref a1), (.ref a1), (.ref a2)])) rfl rfl (hb hby d5_22)
  obtain ⟨T20, h20, X20, e20, W20, st20⟩ := putF X19 hx hZ hown (host := "") (Or.inl (hw _ (List.mem_of_getElem? (i := 19) rfl))) Via.refl e19 Fw16 ((((E1.wr W4).wr W8).wr W12).wr W16) (Or.inl (hw _ (List.mem_of_getElem? (i := 20) rfl))) (hw _ (List.mem_of_getElem? (i := 6) rfl)) (ty := .int) (by decide) rfl rfl (g := (mkF m 28 #[.val (.ref a1), .val (.long (((((0 : Int64) ||| (((b0 &&& (127 : Int32)).toInt64) <<< ((0 : Int32) &&& 0x3f).toInt64)) ||| (((b1 &&& (127 : Int32)).toInt64) <<< ((7 : Int32) &&& 0x3f).toInt64)) ||| (((b2 &&& (127 : Int32)).toInt64) <<< ((14 : Int32) &&& 0x3f).toInt64)) ||| (((b3 &&& (127 : Int32)).toInt64) <<< ((21 : Int32) &&& 0x3f).toInt64))), .second, .val (.int (4 : Int32)), .val (.int b3)] [(.int (5 : Int32)), (.ref a1), (.int (4 : Int32)), (.ref a2)])) rfl rfl (hb hby d5_28)
  have Fw20 := Fw16.same W20
  have K20 : Keep h0 h20 [a1] := K16.wr W20 (Or.inl (List.mem_of_getElem? (i := 0) rfl))
  have N20 := Fr.snoc X20 N17 g_a1
  have pre21 : ∀ t, Steps p.tables e below (T20.setTop (mkF m 83 #[.val (.ref a1), .val (.long ((((((0 : Int64) ||| (((b0 &&& (127 : Int32)).toInt64) <<< ((0 : Int32) &&& 0x3f).toInt64)) ||| (((b1 &&& (127 : Int32)).toInt64) <<< ((7 : Int32) &&& 0x3f).toInt64)) ||| (((b2 &&& (127 : Int32)).toInt64) <<< ((14 : Int32) &&& 0x3f).toInt64)) ||| (((b3 &&& (127 : Int32)).toInt64) <<< ((21 : Int32) &&& 0x3f).toInt64)) ||| (((b4 &&& (127 : Int32)).toInt64) <<< ((28 : Int32) &&& 0x3f).toInt64))), .second, .val (.int (4 : Int32)), .val (.int b4)] [(.long ((((((0 : Int64) ||| (((b0 &&& (127 : Int32)).toInt64) <<< ((0 : Int32) &&& 0x3f).toInt64)) ||| (((b1 &&& (127 : Int32)).toInt64) <<< ((7 : Int32) &&& 0x3f).toInt64)) ||| (((b2 &&& (127 : Int32)).toInt64) <<< ((14 : Int32) &&& 0x3f).toInt64)) ||| (((b3 &&& (127 : Int32)).toInt64) <<< ((21 : Int32) &&& 0x3f).toInt64)) ||| (((b4 &&& (127 : Int32)).toInt64) <<< ((28 : Int32) &&& 0x3f).toInt64)))])) t → Steps p.tables e below (s₁.setTop (entryFrame m #[(.ref a1)] 5)) t := by
    intro t k
    refine pre0 t ?_
    show Steps p.tables e below (s₁.setTop (mkF m 0 #[.val (.ref a1), .unset, .unset, .unset, .unset] [])) _
    refine XS.lconst X0.here hx rfl (hb hby d5_0) ?_
    show Steps p.tables e below (s₁.setTop (mkF m 1 #[.val (.ref a1), .unset, .unset, .unset, .unset] [(.long (0 : Int64))])) _
    refine XS.lstoreN X0.here hx rfl (hb hby d5_1) rfl (l' := #[.val (.ref a1), .val (.long (0 : Int64)), .second, .unset, .unset]) rfl ?_
    show Steps p.tables e below (s₁.setTop (mkF m 2 #[.val (.ref a1), .val (.long (0 : Int64)), .second, .unset, .unset] [])) _
    refine XS.iconst X0.here hx rfl (hb hby d5_2) ?_
    show Steps p.tables e below (s₁.setTop (mkF m 3 #[.val (.ref a1), .val (.long (0 : Int64)), .second, .unset, .unset] [(.int (0 : Int32))])) _
    refine XS.istoreN X0.here hx rfl (hb hby d5_3) rfl (l' := #[.val (.ref a1), .val (.long (0 : Int64)), .second, .val (.int (0 : Int32)), .unset]) rfl ?_
    show Steps p.tables e below (s₁.setTop (mkF m 4 #[.val (.ref a1), .val (.long (0 : Int64)), .second, .val (.int (0 : Int32)), .unset] [])) _
    refine XS.iloadN X0.here hx rfl (hb hby d5_4) rfl ?_
    show Steps p.tables e below (s₁.setTop (mkF m 5 #[.val (.ref a1), .val (.long (0 : Int64)), .second, .val (.int (0 : Int32)), .unset] [(.int (0 : Int32))])) _
    refine XS.bipush X0.here hx rfl (hb hby d5_5) ?_
    show Steps p.tables e below (s₁.setTop (mkF m 7 #[.val (.ref a1), .val (.long (0 : Int64)), .second, .val (.int (0 : Int32)), .unset] [(.int (10 : Int32)), (.int (0 : Int32))])) _
    refine XS.icmpNo X0.here hx rfl (hb hby d5_7) rfl (tlt (by decide : (0 : Int32) < (10 : Int32))).2.1 ?_
    show Steps p.tables e below (s₁.setTop (mkF m 10 #[.val (.ref a1), .val (.long (0 : Int64)), .second, .val (.int (0 : Int32)), .unset] [])) _
    refine XS.aloadN X0.here hx rfl (hb hby d5_10) rfl (rfl) ?_
    show Steps p.tables e below (s₁.setTop (mkF m 11 #[.val (.ref a1), .val (.long (0 : Int64)), .second, .val (.int (0 : Int32)), .unset] [(.ref a1)])) _
    refine XS.lconst X0.here hx rfl (hb hby d5_11) ?_
    show Steps p.tables e below (s₁.setTop (mkF m 12 #[.val (.ref a1), .val (.long (0 : Int64)), .second, .val (.int (0 : Int32)), .unset] [(.long (1 : Int64)), (.ref a1)])) _
    refine st1.trans ?_
    show Steps p.tables e below (T1.setTop (mkF m 15 #[.val (.ref a1), .val (.long (0 : Int64)), .second, .val (.int (0 : Int32)), .unset] [(.int (1 : Int64).toInt32)])) _
    refine XS.pop X1.here hx rfl (hb hby d5_15) rfl rfl ?_
    show Steps p.tables e below (T1.setTop (mkF m 16 #[.val (.ref a1), .val (.long (0 : Int64)), .second, .val (.int (0 : Int32)), .unset] [])) _
    refine XS.aloadN X1.here hx rfl (hb hby d5_16) rfl (rfl) ?_
    show Steps p.tables e below (T1.setTop (mkF m 17 #[.val (.ref a1), .val (.long (0 : Int64)), .second, .val (.int (0 : Int32)), .unset] [(.ref a1)])) _
    refine st2 _ ?_
    show Steps p.tables e below (T2.setTop (mkF m 20 #[.val (.ref a1), .val (.long (0 : Int64)), .second, .val (.int (0 : Int32)), .unset] [(.ref a2)])) _
    refine XS.aloadN X2.here hx rfl (hb hby d5_20) rfl (rfl) ?_
    show Steps p.tables e below (T2.setTop (mkF m 21 #[.val (.ref a1), .val (.long (0 : Int64)), .second, .val (.int (0 : Int32)), .unset] [(.ref a1), (.ref a2)])) _
    refine XS.dup X2.here hx rfl (hb hby d5_21) rfl rfl ?_
    show Steps p.tables e below (T2.setTop (mkF m 22 #[.val (.ref a1), .val (.long (0 : Int64)), .second, .val (.int (0 : Int32)), .unset] [(.ref a1), (.ref a1), (.ref a2)])) _
    refine st3 _ ?_
    show Steps p.tables e below (T3.setTop (mkF m 25 #[.val (.ref a1), .val (.long (0 : Int64)), .second, .val (.int (0 : Int32)), .unset] [(.int (0 : Int32)), (.ref a1), (.ref a2)])) _
    refine XS.dupX1 X3.here hx rfl (hb hby d5_25) rfl rfl rfl ?_
    show Steps p.tables e below (T3.setTop (mkF m 26 #[.val (.ref a1), .val (.long (0 : Int64)), .second, .val (.int (0 : Int32)), .unset] [(.int (0 : Int32)), (.ref a1), (.int (0 : Int32)), (.ref a2)])) _
    refine XS.iconst X3.here hx rfl (hb hby d5_26) ?_
    show Steps p.tables e below (T3.setTop (mkF m 27 #[.val (.ref a1), .val (.long (0 : Int64)), .second, .val (.int (0 : Int32)), .unset] [(.int (1 : Int32)), (.int (0 : Int32)), (.ref a1), (.int (0 : Int32)), (.ref a2)])) _
    refine XS.iadd X3.here hx rfl (hb hby d5_27) rfl ?_
    show Steps p.tables e below (T3.setTop (mkF m 28 #[.val (.ref a1), .val (.long (0 : Int64)), .second, .val (.int (0 : Int32)), .unset] [(.int (1 : Int32)), (.ref a1), (.int (0 : Int32)), (.ref a2)])) _
    refine st4 _ ?_
    show Steps p.tables e below (T4.setTop (mkF m 31 #[.val (.ref a1), .val (.long (0 : Int64)), .second, .val (.int (0 : Int32)), .unset] [(.int (0 : Int32)), (.ref a2)])) _
    refine X4.baloadBytes hx (j := (0 : Int32)) (v := (.int b0)) (by rw [e4]; exact (Ar.other W4 (ne_a2_a1)).1) (State.isArrayOf_alike hZ.alike (Ar.other W4 (ne_a2_a1)).2.1) (Ar.other W4 (ne_a2_a1)).2.2 (inb_of Sz ⟨by decide, by decide⟩) t0 (g := (mkF m 31 #[.val (.ref a1), .val (.long (0 : Int64)), .second, .val (.int (0 : Int32)), .unset] [(.int (0 : Int32)), (.ref a2)])) rfl rfl (hb hby d5_31) _ ?_
    show Steps p.tables e below (T4.setTop (mkF m 32 #[.val (.ref a1), .val (.long (0 : Int64)), .second, .val (.int (0 : Int32)), .unset] [(.int b0)])) _
    refine XS.istore X4.here hx rfl (hb hby d5_32) rfl (l' := #[.val (.ref a1), .val (.long (0 : Int64)), .second, .val (.int (0 : Int32)), .val (.int b0)]) rfl ?_
    show Steps p.tables e below (T4.setTop (mkF m 34 #[.val (.ref a1), .val (.long (0 : Int64)), .second, .val (.int (0 : Int32)), .val (.int b0)] [])) _
    refine XS.iloadN X4.here hx rfl (hb hby d5_34) rfl ?_
    show Steps p.tables e below (T4.setTop (mkF m 35 #[.val (.ref a1), .val (.long (0 : Int64)), .second, .val (.int (0 : Int32)), .val (.int b0)] [(.int (0 : Int32))])) _
    refine XS.bipush X4.here hx rfl (hb hby d5_35) ?_
    show Steps p.tables e below (T4.setTop (mkF m 37 #[.val (.ref a1), .val (.long (0 : Int64)), .second, .val (.int (0 : Int32)), .val (.int b0)] [(.int (9 : Int32)), (.int (0 : Int32))])) _
    refine XS.icmpYes X4.here hx rfl (pc0 := 37) (pc' := 63) rfl (hb hby d5_37) rfl (feq (by decide : ¬ ((0 : Int32) = (9 : Int32)))).2 (by decide) (by decide) ?_
    show Steps p.tables e below (T4.setTop (mkF m 63 #[.val (.ref a1), .val (.long (0 : Int64)), .second, .val (.int (0 : Int32)), .val (.int b0)] [])) _
    refine XS.lloadN X4.here hx rfl (hb hby d5_63) rfl ?_
    show Steps p.tables e below (T4.setTop (mkF m 64 #[.val (.ref a1), .val (.long (0 : Int64)), .second, .val (.int (0 : Int32)), .val (.int b0)] [(.long (0 : Int64))])) _
    refine XS.iload X4.here hx rfl (hb hby d5_64) rfl ?_
    show Steps p.tables e below (T4.setTop (mkF m 66 #[.val (.ref a1), .val (.long (0 : Int64)), .second, .val (.int (0 : Int32)), .val (.int b0)] [(.int b0), (.long (0 : Int64))])) _
    refine XS.bipush X4.here hx rfl (hb hby d5_66) ?_
    show Steps p.tables e below (T4.setTop (mkF m 68 #[.val (.ref a1), .val (.long (0 : Int64)), .second, .val (.int (0 : Int32)), .val (.int b0)] [(.int (127 : Int32)), (.int b0), (.long (0 : Int64))])) _
    refine XS.iand X4.here hx rfl (hb hby d5_68) rfl ?_
    show Steps p.tables e below (T4.setTop (mkF m 69 #[.val (.ref a1), .val (.long (0 : Int64)), .second, .val (.int (0 : Int32)), .val (.int b0)] [(.int (b0 &&& (127 : Int32))), (.long (0 : Int64))])) _
    refine XS.i2l X4.here hx rfl (hb hby d5_69) rfl ?_
    show Steps p.tables e below (T4.setTop (mkF m 70 #[.val (.ref a1), .val (.long (0 : Int64)), .second, .val (.int (0 : Int32)), .val (.int b0)] [(.long ((b0 &&& (127 : Int32)).toInt64)), (.long (0 : Int64))])) _
    refine XS.bipush X4.here hx rfl (hb hby d5_70) ?_
    show Steps p.tables e below (T4.setTop (mkF m 72 #[.val (.ref a1), .val (.long (0 : Int64)), .second, .val (.int (0 : Int32)), .val (.int b0)] [(.int (7 : Int32)), (.long ((b0 &&& (127 : Int32)).toInt64)), (.long (0 : Int64))])) _
    refine XS.iloadN X4.here hx rfl (hb hby d5_72) rfl ?_
    show Steps p.tables e below (T4.setTop (mkF m 73 #[.val (.ref a1), .val (.long (0 : Int64)), .second, .val (.int (0 : Int32)), .val (.int b0)] [(.int (0 : Int32)), (.int (7 : Int32)), (.long ((b0 &&& (127 : Int32)).toInt64)), (.long (0 : Int64))])) _
    refine XS.imul X4.here hx rfl (hb hby d5_73) rfl ?_
    show Steps p.tables e below (T4.setTop (mkF m 74 #[.val (.ref a1), .val (.long (0 : Int64)), .second, .val (.int (0 : Int32)), .val (.int b0)] [(.int (0 : Int32)), (.long ((b0 &&& (127 : Int32)).toInt64)), (.long (0 : Int64))])) _
    refine XS.lshl X4.here hx rfl (hb hby d5_74) rfl ?_
    show Steps p.tables e below (T4.setTop (mkF m 75 #[.val (.ref a1), .val (.long (0 : Int64)), .second, .val (.int (0 : Int32)), .val (.int b0)] [(.long (((b0 &&& (127 : Int32)).toInt64) <<< ((0 : Int32) &&& 0x3f).toInt64)), (.long (0 : Int64))])) _
    refine XS.lor X4.here hx rfl (hb hby d5_75) rfl ?_
    show Steps p.tables e below (T4.setTop (mkF m 76 #[.val (.ref a1), .val (.long (0 : Int64)), .second, .val (.int (0 : Int32)), .val (.int b0)] [(.long ((0 : Int64) ||| (((b0 &&& (127 : Int32)).toInt64) <<< ((0 : Int32) &&& 0x3f).toInt64)))])) _
    refine XS.lstoreN X4.here hx rfl (hb hby d5_76) rfl (l' := #[.val (.ref a1), .val (.long ((0 : Int64) ||| (((b0 &&& (127 : Int32)).toInt64) <<< ((0 : Int32) &&& 0x3f).toInt64))), .second, .val (.int (0 : Int32)), .val (.int b0)]) rfl ?_
    show Steps p.tables e below (T4.setTop (mkF m 77 #[.val (.ref a1), .val (.long ((0 : Int64) ||| (((b0 &&& (127 : Int32)).toInt64) <<< ((0 : Int32) &&& 0x3f).toInt64))), .second, .val (.int (0 : Int32)), .val (.int b0)] [])) _
    refine XS.iload X4.here hx rfl (hb hby d5_77) rfl ?_
    show Steps p.tables e below (T4.setTop (mkF m 79 #[.val (.ref a1), .val (.long ((0 : Int64) ||| (((b0 &&& (127 : Int32)).toInt64) <<< ((0 : Int32) &&& 0x3f).toInt64))), .second, .val (.int (0 : Int32)), .val (.int b0)] [(.int b0)])) _
    refine XS.ifYes X4.here hx rfl (pc0 := 79) (pc' := 84) rfl (hb hby d5_79) rfl ((if0 _ _).trans (tlt u0).1) (by decide) (by decide) ?_
    show Steps p.tables e below (T4.setTop (mkF m 84 #[.val (.ref a1), .val (.long ((0 : Int64) ||| (((b0 &&& (127 : Int32)).toInt64) <<< ((0 : Int32) &&& 0x3f).toInt64))), .second, .val (.int (0 : Int32)), .val (.int b0)] [])) _
    refine XS.iinc X4.here hx rfl (hb hby d5_84) rfl (l' := #[.val (.ref a1), .val (.long ((0 : Int64) ||| (((b0 &&& (127 : Int32)).toInt64) <<< ((0 : Int32) &&& 0x3f).toInt64))), .second, .val (.int (1 : Int32)), .val (.int b0)]) rfl ?_
    show Steps p.tables e below (T4.setTop (mkF m 87 #[.val (.ref a1), .val (.long ((0 : Int64) ||| (((b0 &&& (127 : Int32)).toInt64) <<< ((0 : Int32) &&& 0x3f).toInt64))), .second, .val (.int (1 : Int32)), .val (.int b0)] [])) _
    refine XS.goto X4.here hx rfl (pc0 := 87) (pc' := 4) rfl (hb hby d5_87) (by decide) (by decide) ?_
    show Steps p.tables e below (T4.setTop (mkF m 4 #[.val (.ref a1), .val (.long ((0 : Int64) ||| (((b0 &&& (127 : Int32)).toInt64) <<< ((0 : Int32) &&& 0x3f).toInt64))), .second, .val (.int (1 : Int32)), .val (.int b0)] [])) _
    refine XS.iloadN X4.here hx rfl (hb hby d5_4) rfl ?_
    show Steps p.tables e below (T4.setTop (mkF m 5 #[.val (.ref a1), .val (.long ((0 : Int64) ||| (((b0 &&& (127 : Int32)).toInt64) <<< ((0 : Int32) &&& 0x3f).toInt64))), .second, .val (.int (1 : Int32)), .val (.int b0)] [(.int (1 : Int32))])) _
    refine XS.bipush X4.here hx rfl (hb hby d5_5) ?_
    show Steps p.tables e below (T4.setTop (mkF m 7 #[.val (.ref a1), .val (.long ((0 : Int64) ||| (((b0 &&& (127 : Int32)).toInt64) <<< ((0 : Int32) &&& 0x3f).toInt64))), .second, .val (.int (1 : Int32)), .val (.int b0)] [(.int (10 : Int32)), (.int (1 : Int32))])) _
    refine XS.icmpNo X4.here hx rfl (hb hby d5_7) rfl (tlt (by decide : (1 : Int32) < (10 : Int32))).2.1 ?_
    show Steps p.tables e below (T4.setTop (mkF m 10 #[.val (.ref a1), .val (.long ((0 : Int64) ||| (((b0 &&& (127 : Int32)).toInt64) <<< ((0 : Int32) &&& 0x3f).toInt64))), .second, .val (.int (1 : Int32)), .val (.int b0)] [])) _
    refine XS.aloadN X4.here hx rfl (hb hby d5_10) rfl (rfl) ?_
    show Steps p.tables e below (T4.setTop (mkF m 11 #[.val (.ref a1), .val (.long ((0 : Int64) ||| (((b0 &&& (127 : Int32)).toInt64) <<< ((0 : Int32) &&& 0x3f).toInt64))), .second, .val (.int (1 : Int32)), .val (.int b0)] [(.ref a1)])) _
    refine XS.lconst X4.here hx rfl (hb hby d5_11) ?_
    show Steps p.tables e below (T4.setTop (mkF m 12 #[.val (.ref a1), .val (.long ((0 : Int64) ||| (((b0 &&& (127 : Int32)).toInt64) <<< ((0 : Int32) &&& 0x3f).toInt64))), .second, .val (.int (1 : Int32)), .val (.int b0)] [(.long (1 : Int64)), (.ref a1)])) _
    refine st5.trans ?_
    show Steps p.tables e below (T5.setTop (mkF m 15 #[.val (.ref a1), .val (.long ((0 : Int64) ||| (((b0 &&& (127 : Int32)).toInt64) <<< ((0 : Int32) &&& 0x3f).toInt64))), .second, .val (.int (1 : Int32)), .val (.int b0)] [(.int (1 : Int64).toInt32)])) _
    refine XS.pop X5.here hx rfl (hb hby d5_15) rfl rfl ?_
    show Steps p.tables e below (T5.setTop (mkF m 16 #[.val (.ref a1), .val (.long ((0 : Int64) ||| (((b0 &&& (127 : Int32)).toInt64) <<< ((0 : Int32) &&& 0x3f).toInt64))), .second, .val (.int (1 : Int32)), .val (.int b0)] [])) _
    refine XS.aloadN X5.here hx rfl (hb hby d5_16) rfl (rfl) ?_
    show Steps p.tables e below (T5.setTop (mkF m 17 #[.val (.ref a1), .val (.long ((0 : Int64) ||| (((b0 &&& (127 : Int32)).toInt64) <<< ((0 : Int32) &&& 0x3f).toInt64))), .second, .val (.int (1 : Int32)), .val (.int b0)] [(.ref a1)])) _
    refine st6 _ ?_
    show Steps p.tables e below (T6.setTop (mkF m 20 #[.val (.ref a1), .val (.long ((0 : Int64) ||| (((b0 &&& (127 : Int32)).toInt64) <<< ((0 : Int32) &&& 0x3f).toInt64))), .second, .val (.int (1 : Int32)), .val (.int b0)] [(.ref a2)])) _
    refine XS.aloadN X6.here hx rfl (hb hby d5_20) rfl (rfl) ?_
    show Steps p.tables e below (T6.setTop (mkF m 21 #[.val (.ref a1), .val (.long ((0 : Int64) ||| (((b0 &&& (127 : Int32)).toInt64) <<< ((0 : Int32) &&& 0x3f).toInt64))), .second, .val (.int (1 : Int32)), .val (.int b0)] [(.ref a1), (.ref a2)])) _
    refine XS.dup X6.here hx rfl (hb hby d5_21) rfl rfl ?_
    show Steps p.tables e below (T6.setTop (mkF m 22 #[.val (.ref a1), .val (.long ((0 : Int64) ||| (((b0 &&& (127 : Int32)).toInt64) <<< ((0 : Int32) &&& 0x3f).toInt64))), .second, .val (.int (1 : Int32)), .val (.int b0)] [(.ref a1), (.ref a1), (.ref a2)])) _
    refine st7 _ ?_
    show Steps p.tables e below (T7.setTop (mkF m 25 #[.val (.ref a1), .val (.long ((0 : Int64) ||| (((b0 &&& (127 : Int32)).toInt64) <<< ((0 : Int32) &&& 0x3f).toInt64))), .second, .val (.int (1 : Int32)), .val (.int b0)] [(.int (1 : Int32)), (.ref a1), (.ref a2)])) _
    refine XS.dupX1 X7.here hx rfl (hb hby d5_25) rfl rfl rfl ?_
    show Steps p.tables e below (T7.setTop (mkF m 26 #[.val (.ref a1), .val (.long ((0 : Int64) ||| (((b0 &&& (127 : Int32)).toInt64) <<< ((0 : Int32) &&& 0x3f).toInt64))), .second, .val (.int (1 : Int32)), .val (.int b0)] [(.int (1 : Int32)), (.ref a1), (.int (1 : Int32)), (.ref a2)])) _
    refine XS.iconst X7.here hx rfl (hb hby d5_26) ?_
    show Steps p.tables e below (T7.setTop (mkF m 27 #[.val (.ref a1), .val (.long ((0 : Int64) ||| (((b0 &&& (127 : Int32)).toInt64) <<< ((0 : Int32) &&& 0x3f).toInt64))), .second, .val (.int (1 : Int32)), .val (.int b0)] [(.int (1 : Int32)), (.int (1 : Int32)), (.ref a1), (.int (1 : Int32)), (.ref a2)])) _
    refine XS.iadd X7.here hx rfl (hb hby d5_27) rfl ?_
    show Steps p.tables e below (T7.setTop (mkF m 28 #[.val (.ref a1), .val (.long ((0 : Int64) ||| (((b0 &&& (127 : Int32)).toInt64) <<< ((0 : Int32) &&& 0x3f).toInt64))), .second, .val (.int (1 : Int32)), .val (.int b0)] [(.int (2 : Int32)), (.ref a1), (.int (1 : Int32)), (.ref a2)])) _
    refine st8 _ ?_
    show Steps p.tables e below (T8.setTop (mkF m 31 #[.val (.ref a1), .val (.long ((0 : Int64) ||| (((b0 &&& (127 : Int32)).toInt64) <<< ((0 : Int32) &&& 0x3f).toInt64))), .second, .val (.int (1 : Int32)), .val (.int b0)] [(.int (1 : Int32)), (.ref a2)])) _
    refine X8.baloadBytes hx (j := (1 : Int32)) (v := (.int b1)) (by rw [e8]; exact ((Ar.other W4 (ne_a2_a1)).other W8 (ne_a2_a1)).1) (State.isArrayOf_alike hZ.alike ((Ar.other W4 (ne_a2_a1)).other W8 (ne_a2_a1)).2.1) ((Ar.other W4 (ne_a2_a1)).other W8 (ne_a2_a1)).2.2 (inb_of Sz ⟨by decide, by decide⟩) t1 (g := (mkF m 31 #[.val (.ref a1), .val (.long ((0 : Int64) ||| (((b0 &&& (127 : Int32)).toInt64) <<< ((0 : Int32) &&& 0x3f).toInt64))), .second, .val (.int (1 : Int32)), .val (.int b0)] [(.int (1 : Int32)), (.ref a2)])) rfl rfl (hb hby d5_31) _ ?_
    show Steps p.tables e below (T8.setTop (mkF m 32 #[.val (.ref a1), .val (.long ((0 : Int64) ||| (((b0 &&& (127 : Int32)).toInt64) <<< ((0 : Int32) &&& 0x3f).toInt64))), .second, .val (.int (1 : Int32)), .val (.int b0)] [(.int b1)])) _
    refine XS.istore X8.here hx rfl (hb hby d5_32) rfl (l' := #[.val (.ref a1), .val (.long ((0 : Int64) ||| (((b0 &&& (127 : Int32)).toInt64) <<< ((0 : Int32) &&& 0x3f).toInt64))), .second, .val (.int (1 : Int32)), .val (.int b1)]) rfl ?_
    show Steps p.tables e below (T8.setTop (mkF m 34 #[.val (.ref a1), .val (.long ((0 : Int64) ||| (((b0 &&& (127 : Int32)).toInt64) <<< ((0 : Int32) &&& 0x3f).toInt64))), .second, .val (.int (1 : Int32)), .val (.int b1)] [])) _
    refine XS.iloadN X8.here hx rfl (hb hby d5_34) rfl ?_
    show Steps p.tables e below (T8.setTop (mkF m 35 #[.val (.ref a1), .val (.long ((0 : Int64) ||| (((b0 &&& (127 : Int32)).toInt64) <<< ((0 : Int32) &&& 0x3f).toInt64))), .second, .val (.int (1 : Int32)), .val (.int b1)] [(.int (1 : Int32))])) _
    refine XS.bipush X8.here hx rfl (hb hby d5_35) ?_
    show Steps p.tables e below (T8.setTop (mkF m 37 #[.val (.ref a1), .val (.long ((0 : Int64) ||| (((b0 &&& (127 : Int32)).toInt64) <<< ((0 : Int32) &&& 0x3f).toInt64))), .second, .val (.int (1 : Int32)), .val (.int b1)] [(.int (9 : Int32)), (.int (1 : Int32))])) _
    refine XS.icmpYes X8.here hx rfl (pc0 := 37) (pc' := 63) rfl (hb hby d5_37) rfl (feq (by decide : ¬ ((1 : Int32) = (9 : Int32)))).2 (by decide) (by decide) ?_
    show Steps p.tables e below (T8.setTop (mkF m 63 #[.val (.ref a1), .val (.long ((0 : Int64) ||| (((b0 &&& (127 : Int32)).toInt64) <<< ((0 : Int32) &&& 0x3f).toInt64))), .second, .val (.int (1 : Int32)), .val (.int b1)] [])) _
    refine XS.lloadN X8.here hx rfl (hb hby d5_63) rfl ?_
    show Steps p.tables e below (T8.setTop (mkF m 64 #[.val (.ref a1), .val (.long ((0 : Int64) ||| (((b0 &&& (127 : Int32)).toInt64) <<< ((0 : Int32) &&& 0x3f).toInt64))), .second, .val (.int (1 : Int32)), .val (.int b1)] [(.long ((0 : Int64) ||| (((b0 &&& (127 : Int32)).toInt64) <<< ((0 : Int32) &&& 0x3f).toInt64)))])) _
    refine XS.iload X8.here hx rfl (hb hby d5_64) rfl ?_
    show Steps p.tables e below (T8.setTop (mkF m 66 #[.val (.ref a1), .val (.long ((0 : Int64) ||| (((b0 &&& (127 : Int32)).toInt64) <<< ((0 : Int32) &&& 0x3f).toInt64))), .second, .val (.int (1 : Int32)), .val (.int b1)] [(.int b1), (.long ((0 : Int64) ||| (((b0 &&& (127 : Int32)).toInt64) <<< ((0 : Int32) &&& 0x3f).toInt64)))])) _
    refine XS.bipush X8.here hx rfl (hb hby d5_66) ?_
    show Steps p.tables e below (T8.setTop (mkF m 68 #[.val (.ref a1), .val (.long ((0 : Int64) ||| (((b0 &&& (127 : Int32)).toInt64) <<< ((0 : Int32) &&& 0x3f).toInt64))), .second, .val (.int (1 : Int32)), .val (.int b1)] [(.int (127 : Int32)), (.int b1), (.long ((0 : Int64) ||| (((b0 &&& (127 : Int32)).toInt64) <<< ((0 : Int32) &&& 0x3f).toInt64)))])) _
    refine XS.iand X8.here hx rfl (hb hby d5_68) rfl ?_
    show Steps p.tables e below (T8.setTop (mkF m 69 #[.val (.ref a1), .val (.long ((0 : Int64) ||| (((b0 &&& (127 : Int32)).toInt64) <<< ((0 : Int32) &&& 0x3f).toInt64))), .second, .val (.int (1 : Int32)), .val (.int b1)] [(.int (b1 &&& (127 : Int32))), (.long ((0 : Int64) ||| (((b0 &&& (127 : Int32)).toInt64) <<< ((0 : Int32) &&& 0x3f).toInt64)))])) _
    refine XS.i2l X8.here hx rfl (hb hby d5_69) rfl ?_
    show Steps p.tables e below (T8.setTop (mkF m 70 #[.val (.ref a1), .val (.long ((0 : Int64) ||| (((b0 &&& (127 : Int32)).toInt64) <<< ((0 : Int32) &&& 0x3f).toInt64))), .second, .val (.int (1 : Int32)), .val (.int b1)] [(.long ((b1 &&& (127 : Int32)).toInt64)), (.long ((0 : Int64) ||| (((b0 &&& (127 : Int32)).toInt64) <<< ((0 : Int32) &&& 0x3f).toInt64)))])) _
    refine XS.bipush X8.here hx rfl (hb hby d5_70) ?_
    show Steps p.tables e below (T8.setTop (mkF m 72 #[.val (.ref a1), .val (.long ((0 : Int64) ||| (((b0 &&& (127 : Int32)).toInt64) <<< ((0 : Int32) &&& 0x3f).toInt64))), .second, .val (.int (1 : Int32)), .val (.int b1)] [(.int (7 : Int32)), (.long ((b1 &&& (127 : Int32)).toInt64)), (.long ((0 : Int64) ||| (((b0 &&& (127 : Int32)).toInt64) <<< ((0 : Int32) &&& 0x3f).toInt64)))])) _
    refine XS.iloadN X8.here hx rfl (hb hby d5_72) rfl ?_
    show Steps p.tables e below (T8.setTop (mkF m 73 #[.val (.ref a1), .val (.long ((0 : Int64) ||| (((b0 &&& (127 : Int32)).toInt64) <<< ((0 : Int32) &&& 0x3f).toInt64))), .second, .val (.int (1 : Int32)), .val (.int b1)] [(.int (1 : Int32)), (.int (7 : Int32)), (.long ((b1 &&& (127 : Int32)).toInt64)), (.long ((0 : Int64) ||| (((b0 &&& (127 : Int32)).toInt64) <<< ((0 : Int32) &&& 0x3f).toInt64)))])) _
    refine XS.imul X8.here hx rfl (hb hby d5_73) rfl ?_
    show Steps p.tables e below (T8.setTop (mkF m 74 #[.val (.ref a1), .val (.long ((0 : Int64) ||| (((b0 &&& (127 : Int32)).toInt64) <<< ((0 : Int32) &&& 0x3f).toInt64))), .second, .val (.int (1 : Int32)), .val (.int b1)] [(.int (7 : Int32)), (.long ((b1 &&& (127 : Int32)).toInt64)), (.long ((0 : Int64) ||| (((b0 &&& (127 : Int32)).toInt64) <<< ((0 : Int32) &&& 0x3f).toInt64)))])) _
    refine XS.lshl X8.here hx rfl (hb hby d5_74) rfl ?_
    show Steps p.tables e below (T8.setTop (mkF m 75 #[.val (.ref a1), .val (.long ((0 : Int64) ||| (((b0 &&& (127 : Int32)).toInt64) <<< ((0 : Int32) &&& 0x3f).toInt64))), .second, .val (.int (1 : Int32)), .val (.int b1)] [(.long (((b1 &&& (127 : Int32)).toInt64) <<< ((7 : Int32) &&& 0x3f).toInt64)), (.long ((0 : Int64) ||| (((b0 &&& (127 : Int32)).toInt64) <<< ((0 : Int32) &&& 0x3f).toInt64)))])) _
    refine XS.lor X8.here hx rfl (hb hby d5_75) rfl ?_
    show Steps p.tables e below (T8.setTop (mkF m 76 #[.val (.ref a1), .val (.long ((0 : Int64) ||| (((b0 &&& (127 : Int32)).toInt64) <<< ((0 : Int32) &&& 0x3f).toInt64))), .second, .val (.int (1 : Int32)), .val (.int b1)] [(.long (((0 : Int64) ||| (((b0 &&& (127 : Int32)).toInt64) <<< ((0 : Int32) &&& 0x3f).toInt64)) ||| (((b1 &&& (127 : Int32)).toInt64) <<< ((7 : Int32) &&& 0x3f).toInt64)))])) _
    refine XS.lstoreN X8.here hx rfl (hb hby d5_76) rfl (l' := #[.val (.ref a1), .val (.long (((0 : Int64) ||| (((b0 &&& (127 : Int32)).toInt64) <<< ((0 : Int32) &&& 0x3f).toInt64)) ||| (((b1 &&& (127 : Int32)).toInt64) <<< ((7 : Int32) &&& 0x3f).toInt64))), .second, .val (.int (1 : Int32)), .val (.int b1)]) rfl ?_
    show Steps p.tables e below (T8.setTop (mkF m 77 #[.val (.ref a1), .val (.long (((0 : Int64) ||| (((b0 &&& (127 : Int32)).toInt64) <<< ((0 : Int32) &&& 0x3f).toInt64)) ||| (((b1 &&& (127 : Int32)).toInt64) <<< ((7 : Int32) &&& 0x3f).toInt64))), .second, .val (.int (1 : Int32)), .val (.int b1)] [])) _
    refine XS.iload X8.here hx rfl (hb hby d5_77) rfl ?_
    show Steps p.tables e below (T8.setTop (mkF m 79 #[.val (.ref a1), .val (.long (((0 : Int64) ||| (((b0 &&& (127 : Int32)).toInt64) <<< ((0 : Int32) &&& 0x3f).toInt64)) ||| (((b1 &&& (127 : Int32)).toInt64) <<< ((7 : Int32) &&& 0x3f).toInt64))), .second, .val (.int (1 : Int32)), .val (.int b1)] [(.int b1)])) _
    refine XS.ifYes X8.here hx rfl (pc0 := 79) (pc' := 84) rfl (hb hby d5_79) rfl ((if0 _ _).trans (tlt u1).1) (by decide) (by decide) ?_
    show Steps p.tables e below (T8.setTop (mkF m 84 #[.val (.ref a1), .val (.long (((0 : Int64) ||| (((b0 &&& (127 : Int32)).toInt64) <<< ((0 : Int32) &&& 0x3f).toInt64)) ||| (((b1 &&& (127 : Int32)).toInt64) <<< ((7 : Int32) &&& 0x3f).toInt64))), .second, .val (.int (1 : Int32)), .val (.int b1)] [])) _
    refine XS.iinc X8.here hx rfl (hb hby d5_84) rfl (l' := #[.val (.ref a1), .val (.long (((0 : Int64) ||| (((b0 &&& (127 : Int32)).toInt64) <<< ((0 : Int32) &&& 0x3f).toInt64)) ||| (((b1 &&& (127 : Int32)).toInt64) <<< ((7 : Int32) &&& 0x3f).toInt64))), .second, .val (.int (2 : Int32)), .val (.int b1)]) rfl ?_
    show Steps p.tables e below (T8.setTop (mkF m 87 #[.val (.ref a1), .val (.long (((0 : Int64) ||| (((b0 &&& (127 : Int32)).toInt64) <<< ((0 : Int32) &&& 0x3f).toInt64)) ||| (((b1 &&& (127 : Int32)).toInt64) <<< ((7 : Int32) &&& 0x3f).toInt64))), .second, .val (.int (2 : Int32)), .val (.int b1)] [])) _
    refine XS.goto X8.here hx rfl (pc0 := 87) (pc' := 4) rfl (hb hby d5_87) (by decide) (by decide) ?_
    show Steps p.tables e below (T8.setTop (mkF m 4 #[.val (.ref a1), .val (.long (((0 : Int64) ||| (((b0 &&& (127 : Int32)).toInt64) <<< ((0 : Int32) &&& 0x3f).toInt64)) ||| (((b1 &&& (127 : Int32)).toInt64) <<< ((7 : Int32) &&& 0x3f).toInt64))), .second, .val (.int (2 : Int32)), .val (.int b1)] [])) _
    refine XS.iloadN X8.here hx rfl (hb hby d5_4) rfl ?_
    show Steps p.tables e below (T8.setTop (mkF m 5 #[.val (.ref a1), .val (.long (((0 : Int64) ||| (((b0 &&& (127 : Int32)).toInt64) <<< ((0 : Int32) &&& 0x3f).toInt64)) ||| (((b1 &&& (127 : Int32)).toInt64) <<< ((7 : Int32) &&& 0x3f).toInt64))), .second, .val (.int (2 : Int32)), .val (.int b1)] [(.int (2 : Int32))])) _
    refine XS.bipush X8.here hx rfl (hb hby d5_5) ?_
    show Steps p.tables e below (T8.setTop (mkF m 7 #[.val (.ref a1), .val (.long (((0 : Int64) ||| (((b0 &&& (127 : Int32)).toInt64) <<< ((0 : Int32) &&& 0x3f).toInt64)) ||| (((b1 &&& (127 : Int32)).toInt64) <<< ((7 : Int32) &&& 0x3f).toInt64))), .second, .val (.int (2 : Int32)), .val (.int b1)] [(.int (10 : Int32)), (.int (2 : Int32))])) _
    refine XS.icmpNo X8.here hx rfl (hb hby d5_7) rfl (tlt (by decide : (2 : Int32) < (10 : Int32))).2.1 ?_
    show Steps p.tables e below (T8.setTop (mkF m 10 #[.val (.ref a1), .val (.long (((0 : Int64) ||| (((b0 &&& (127 : Int32)).toInt64) <<< ((0 : Int32) &&& 0x3f).toInt64)) ||| (((b1 &&& (127 : Int32)).toInt64) <<< ((7 : Int32) &&& 0x3f).toInt64))), .second, .val (.int (2 : Int32)), .val (.int b1)] [])) _
    refine XS.aloadN X8.here hx rfl (hb hby d5_10) rfl (rfl) ?_
    show Steps p.tables e below (T8.setTop (mkF m 11 #[.val (.ref a1), .val (.long (((0 : Int64) ||| (((b0 &&& (127 : Int32)).toInt64) <<< ((0 : Int32) &&& 0x3f).toInt64)) ||| (((b1 &&& (127 : Int32)).toInt64) <<< ((7 : Int32) &&& 0x3f).toInt64))), .second, .val (.int (2 : Int32)), .val (.int b1)] [(.ref a1)])) _
    refine XS.lconst X8.here hx rfl (hb hby d5_11) ?_
    show Steps p.tables e below (T8.setTop (mkF m 12 #[.val (.ref a1), .val (.long (((0 : Int64) ||| (((b0 &&& (127 : Int32)).toInt64) <<< ((0 : Int32) &&& 0x3f).toInt64)) ||| (((b1 &&& (127 : Int32)).toInt64) <<< ((7 : Int32) &&& 0x3f).toInt64))), .second, .val (.int (2 : Int32)), .val (.int b1)] [(.long (1 : Int64)), (.ref a1)])) _
    refine st9.trans ?_
    show Steps p.tables e below (T9.setTop (mkF m 15 #[.val (.ref a1), .val (.long (((0 : Int64) ||| (((b0 &&& (127 : Int32)).toInt64) <<< ((0 : Int32) &&& 0x3f).toInt64)) ||| (((b1 &&& (127 : Int32)).toInt64) <<< ((7 : Int32) &&& 0x3f).toInt64))), .second, .val (.int (2 : Int32)), .val (.int b1)] [(.int (1 : Int64).toInt32)])) _
    refine XS.pop X9.here hx rfl (hb hby d5_15) rfl rfl ?_
    show Steps p.tables e below (T9.setTop (mkF m 16 #[.val (.ref a1), .val (.long (((0 : Int64) ||| (((b0 &&& (127 : Int32)).toInt64) <<< ((0 : Int32) &&& 0x3f).toInt64)) ||| (((b1 &&& (127 : Int32)).toInt64) <<< ((7 : Int32) &&& 0x3f).toInt64))), .second, .val (.int (2 : Int32)), .val (.int b1)] [])) _
    refine XS.aloadN X9.here hx rfl (hb hby d5_16) rfl (rfl) ?_
    show Steps p.tables e below (T9.setTop (mkF m 17 #[.val (.ref a1), .val (.long (((0 : Int64) ||| (((b0 &&& (127 : Int32)).toInt64) <<< ((0 : Int32) &&& 0x3f).toInt64)) ||| (((b1 &&& (127 : Int32)).toInt64) <<< ((7 : Int32) &&& 0x3f).toInt64))), .second, .val (.int (2 : Int32)), .val (.int b1)] [(.ref a1)])) _
    refine st10 _ ?_
    show Steps p.tables e below (T10.setTop (mkF m 20 #[.val (.ref a1), .val (.long (((0 : Int64) ||| (((b0 &&& (127 : Int32)).toInt64) <<< ((0 : Int32) &&& 0x3f).toInt64)) ||| (((b1 &&& (127 : Int32)).toInt64) <<< ((7 : Int32) &&& 0x3f).toInt64))), .second, .val (.int (2 : Int32)), .val (.int b1)] [(.ref a2)])) _
    refine XS.aloadN X10.here hx rfl (hb hby d5_20) rfl (rfl) ?_
    show Steps p.tables e below (T10.setTop (mkF m 21 #[.val (.ref a1), .val (.long (((0 : Int64) ||| (((b0 &&& (127 : Int32)).toInt64) <<< ((0 : Int32) &&& 0x3f).toInt64)) ||| (((b1 &&& (127 : Int32)).toInt64) <<< ((7 : Int32) &&& 0x3f).toInt64))), .second, .val (.int (2 : Int32)), .val (.int b1)] [(.ref a1), (.ref a2)])) _
    refine XS.dup X10.here hx rfl (hb hby d5_21) rfl rfl ?_
    show Steps p.tables e below (T10.setTop (mkF m 22 #[.val (.ref a1), .val (.long (((0 : Int64) ||| (((b0 &&& (127 : Int32)).toInt64) <<< ((0 : Int32) &&& 0x3f).toInt64)) ||| (((b1 &&& (127 : Int32)).toInt64) <<< ((7 : Int32) &&& 0x3f).toInt64))), .second, .val (.int (2 : Int32)), .val (.int b1)] [(.ref a1), (.ref a1), (.ref a2)])) _
    refine st11 _ ?_
    show Steps p.tables e below (T11.setTop (mkF m 25 #[.val (.ref a1), .val (.long (((0 : Int64) ||| (((b0 &&& (127 : Int32)).toInt64) <<< ((0 : Int32) &&& 0x3f).toInt64)) ||| (((b1 &&& (127 : Int32)).toInt64) <<< ((7 : Int32) &&& 0x3f).toInt64))), .second, .val (.int (2 : Int32)), .val (.int b1)] [(.int (2 : Int32)), (.ref a1), (.ref a2)])) _
    refine XS.dupX1 X11.here hx rfl (hb hby d5_25) rfl rfl rfl ?_
    show Steps p.tables e below (T11.setTop (mkF m 26 #[.val (.ref a1), .val (.long (((0 : Int64) ||| (((b0 &&& (127 : Int32)).toInt64) <<< ((0 : Int32) &&& 0x3f).toInt64)) ||| (((b1 &&& (127 : Int32)).toInt64) <<< ((7 : Int32) &&& 0x3f).toInt64))), .second, .val (.int (2 : Int32)), .val (.int b1)] [(.int (2 : Int32)), (.ref a1), (.int (2 : Int32)), (.ref a2)])) _
    refine XS.iconst X11.here hx rfl (hb hby d5_26) ?_
    show Steps p.tables e below (T11.setTop (mkF m 27 #[.val (.ref a1), .val (.long (((0 : Int64) ||| (((b0 &&& (127 : Int32)).toInt64) <<< ((0 : Int32) &&& 0x3f).toInt64)) ||| (((b1 &&& (127 : Int32)).toInt64) <<< ((7 : Int32) &&& 0x3f).toInt64))), .second, .val (.int (2 : Int32)), .val (.int b1)] [(.int (1 : Int32)), (.int (2 : Int32)), (.ref a1), (.int (2 : Int32)), (.ref a2)])) _
    refine XS.iadd X11.here hx rfl (hb hby d5_27) rfl ?_
    show Steps p.tables e below (T11.setTop (mkF m 28 #[.val (.ref a1), .val (.long (((0 : Int64) ||| (((b0 &&& (127 : Int32)).toInt64) <<< ((0 : Int32) &&& 0x3f).toInt64)) ||| (((b1 &&& (127 : Int32)).toInt64) <<< ((7 : Int32) &&& 0x3f).toInt64))), .second, .val (.int (2 : Int32)), .val (.int b1)] [(.int (3 : Int32)), (.ref a1), (.int (2 : Int32)), (.ref a2)])) _
    refine st12 _ ?_
    show Steps p.tables e below (T12.setTop (mkF m 31 #[.val (.ref a1), .val (.long (((0 : Int64) ||| (((b0 &&& (127 : Int32)).toInt64) <<< ((0 : Int32) &&& 0x3f).toInt64)) ||| (((b1 &&& (127 : Int32)).toInt64) <<< ((7 : Int32) &&& 0x3f).toInt64))), .second, .val (.int (2 : Int32)), .val (.int b1)] [(.int (2 : Int32)), (.ref a2)])) _
    refine X12.baloadBytes hx (j := (2 : Int32)) (v := (.int b2)) (by rw [e12]; exact (((Ar.other W4 (ne_a2_a1)).other W8 (ne_a2_a1)).other W12 (ne_a2_a1)).1) (State.isArrayOf_alike hZ.alike (((Ar.other W4 (ne_a2_a1)).other W8 (ne_a2_a1)).other W12 (ne_a2_a1)).2.1) (((Ar.other W4 (ne_a2_a1)).other W8 (ne_a2_a1)).other W12 (ne_a2_a1)).2.2 (inb_of Sz ⟨by decide, by decide⟩) t2 (g := (mkF m 31 #[.val (.ref a1), .val (.long (((0 : Int64) ||| (((b0 &&& (127 : Int32)).toInt64) <<< ((0 : Int32) &&& 0x3f).toInt64)) ||| (((b1 &&& (127 : Int32)).toInt64) <<< ((7 : Int32) &&& 0x3f).toInt64))), .second, .val (.int (2 : Int32)), .val (.int b1)] [(.int (2 : Int32)), (.ref a2)])) rfl rfl (hb hby d5_31) _ ?_
    show Steps p.tables e below (T12.setTop (mkF m 32 #[.val (.ref a1), .val (.long (((0 : Int64) ||| (((b0 &&& (127 : Int32)).toInt64) <<< ((0 : Int32) &&& 0x3f).toInt64)) ||| (((b1 &&& (127 : Int32)).toInt64) <<< ((7 : Int32) &&& 0x3f).toInt64))), .second, .val (.int (2 : Int32)), .val (.int b1)] [(.int b2)])) _
    refine XS.istore X12.here hx rfl (hb hby d5_32) rfl (l' := #[.val (.ref a1), .val (.long (((0 : Int64) ||| (((b0 &&& (127 : Int32)).toInt64) <<< ((0 : Int32) &&& 0x3f).toInt64)) ||| (((b1 &&& (127 : Int32)).toInt64) <<< ((7 : Int32) &&& 0x3f).toInt64))), .second, .val (.int (2 : Int32)), .val (.int b2)]) rfl ?_
    show Steps p.tables e below (T12.setTop (mkF m 34 #[.val (.ref a1), .val (.long (((0 : Int64) ||| (((b0 &&& (127 : Int32)).toInt64) <<< ((0 : Int32) &&& 0x3f).toInt64)) ||| (((b1 &&& (127 : Int32)).toInt64) <<< ((7 : Int32) &&& 0x3f).toInt64))), .second, .val (.int (2 : Int32)), .val (.int b2)] [])) _
    refine XS.iloadN X12.here hx rfl (hb hby d5_34) rfl ?_
    show Steps p.tables e below (T12.setTop (mkF m 35 #[.val (.ref a1), .val (.long (((0 : Int64) ||| (((b0 &&& (127 : Int32)).toInt64) <<< ((0 : Int32) &&& 0x3f).toInt64)) ||| (((b1 &&& (127 : Int32)).toInt64) <<< ((7 : Int32) &&& 0x3f).toInt64))), .second, .val (.int (2 : Int32)), .val (.int b2)] [(.int (2 : Int32))])) _
    refine XS.bipush X12.here hx rfl (hb hby d5_35) ?_
    show Steps p.tables e below (T12.setTop (mkF m 37 #[.val (.ref a1), .val (.long (((0 : Int64) ||| (((b0 &&& (127 : Int32)).toInt64) <<< ((0 : Int32) &&& 0x3f).toInt64)) ||| (((b1 &&& (127 : Int32)).toInt64) <<< ((7 : Int32) &&& 0x3f).toInt64))), .second, .val (.int (2 : Int32)), .val (.int b2)] [(.int (9 : Int32)), (.int (2 : Int32))])) _
    refine XS.icmpYes X12.here hx rfl (pc0 := 37) (pc' := 63) rfl (hb hby d5_37) rfl (feq (by decide : ¬ ((2 : Int32) = (9 : Int32)))).2 (by decide) (by decide) ?_
    show Steps p.tables e below (T12.setTop (mkF m 63 #[.val (.ref a1), .val (.long (((0 : Int64) ||| (((b0 &&& (127 : Int32)).toInt64) <<< ((0 : Int32) &&& 0x3f).toInt64)) ||| (((b1 &&& (127 : Int32)).toInt64) <<< ((7 : Int32) &&& 0x3f).toInt64))), .second, .val (.int (2 : Int32)), .val (.int b2)] [])) _
    refine XS.lloadN X12.here hx rfl (hb hby d5_63) rfl ?_
    show Steps p.tables e below (T12.setTop (mkF m 64 #[.val (.ref a1), .val (.long (((0 : Int64) ||| (((b0 &&& (127 : Int32)).toInt64) <<< ((0 : Int32) &&& 0x3f).toInt64)) ||| (((b1 &&& (127 : Int32)).toInt64) <<< ((7 : Int32) &&& 0x3f).toInt64))), .second, .val (.int (2 : Int32)), .val (.int b2)] [(.long (((0 : Int64) ||| (((b0 &&& (127 : Int32)).toInt64) <<< ((0 : Int32) &&& 0x3f).toInt64)) ||| (((b1 &&& (127 : Int32)).toInt64) <<< ((7 : Int32) &&& 0x3f).toInt64)))])) _
    refine XS.iload X12.here hx rfl (hb hby d5_64) rfl ?_
    show Steps p.tables e below (T12.setTop (mkF m 66 #[.val (.ref a1), .val (.long (((0 : Int64) ||| (((b0 &&& (127 : Int32)).toInt64) <<< ((0 : Int32) &&& 0x3f).toInt64)) ||| (((b1 &&& (127 : Int32)).toInt64) <<< ((7 : Int32) &&& 0x3f).toInt64))), .second, .val (.int (2 : Int32)), .val (.int b2)] [(.int b2), (.long (((0 : Int64) ||| (((b0 &&& (127 : Int32)).toInt64) <<< ((0 : Int32) &&& 0x3f).toInt64)) ||| (((b1 &&& (127 : Int32)).toInt64) <<< ((7 : Int32) &&& 0x3f).toInt64)))])) _
    refine XS.bipush X12.here hx rfl (hb hby d5_66) ?_
    show Steps p.tables e below (T12.setTop (mkF m 68 #[.val (.ref a1), .val (.long (((0 : Int64) ||| (((b0 &&& (127 : Int32)).toInt64) <<< ((0 : Int32) &&& 0x3f).toInt64)) ||| (((b1 &&& (127 : Int32)).toInt64) <<< ((7 : Int32) &&& 0x3f).toInt64))), .second, .val (.int (2 : Int32)), .val (.int b2)] [(.int (127 : Int32)), (.int b2), (.long (((0 : Int64) ||| (((b0 &&& (127 : Int32)).toInt64) <<< ((0 : Int32) &&& 0x3f).toInt64)) ||| (((b1 &&& (127 : Int32)).toInt64) <<< ((7 : Int32) &&& 0x3f).toInt64)))])) _
    refine XS.iand X12.here hx rfl (hb hby d5_68) rfl ?_
    show Steps p.tables e below (T12.setTop (mkF m 69 #[.val (.ref a1), .val (.long (((0 : Int64) ||| (((b0 &&& (127 : Int32)).toInt64) <<< ((0 : Int32) &&& 0x3f).toInt64)) ||| (((b1 &&& (127 : Int32)).toInt64) <<< ((7 : Int32) &&& 0x3f).toInt64))), .second, .val (.int (2 : Int32)), .val (.int b2)] [(.int (b2 &&& (127 : Int32))), (.long (((0 : Int64) ||| (((b0 &&& (127 : Int32)).toInt64) <<< ((0 : Int32) &&& 0x3f).toInt64)) ||| (((b1 &&& (127 : Int32)).toInt64) <<< ((7 : Int32) &&& 0x3f).toInt64)))])) _
    refine XS.i2l X12.here hx rfl (hb hby d5_69) rfl ?_
    show Steps p.tables e below (T12.setTop (mkF m 70 #[.val (.ref a1), .val (.long (((0 : Int64) ||| (((b0 &&& (127 : Int32)).toInt64) <<< ((0 : Int32) &&& 0x3f).toInt64)) ||| (((b1 &&& (127 : Int32)).toInt64) <<< ((7 : Int32) &&& 0x3f).toInt64))), .second, .val (.int (2 : Int32)), .val (.int b2)] [(.long ((b2 &&& (127 : Int32)).toInt64)), (.long (((0 : Int64) ||| (((b0 &&& (127 : Int32)).toInt64) <<< ((0 : Int32) &&& 0x3f).toInt64)) ||| (((b1 &&& (127 : Int32)).toInt64) <<< ((7 : Int32) &&& 0x3f).toInt64)))])) _
    refine XS.bipush X12.here hx rfl (hb hby d5_70) ?_
    show Steps p.tables e below (T12.setTop (mkF m 72 #[.val (.ref a1), .val (.long (((0 : Int64) ||| (((b0 &&& (127 : Int32)).toInt64) <<< ((0 : Int32) &&& 0x3f).toInt64)) ||| (((b1 &&& (127 : Int32)).toInt64) <<< ((7 : Int32) &&& 0x3f).toInt64))), .second, .val (.int (2 : Int32)), .val (.int b2)] [(.int (7 : Int32)), (.long ((b2 &&& (127 : Int32)).toInt64)), (.long (((0 : Int64) ||| (((b0 &&& (127 : Int32)).toInt64) <<< ((0 : Int32) &&& 0x3f).toInt64)) ||| (((b1 &&& (127 : Int32)).toInt64) <<< ((7 : Int32) &&& 0x3f).toInt64)))])) _
    refine XS.iloadN X12.here hx rfl (hb hby d5_72) rfl ?_
    show Steps p.tables e below (T12.setTop (mkF m 73 #[.val (.ref a1), .val (.long (((0 : Int64) ||| (((b0 &&& (127 : Int32)).toInt64) <<< ((0 : Int32) &&& 0x3f).toInt64)) ||| (((b1 &&& (127 : Int32)).toInt64) <<< ((7 : Int32) &&& 0x3f).toInt64))), .second, .val (.int (2 : Int32)), .val (.int b2)] [(.int (2 : Int32)), (.int (7 : Int32)), (.long ((b2 &&& (127 : Int32)).toInt64)), (.long (((0 : Int64) ||| (((b0 &&& (127 : Int32)).toInt64) <<< ((0 : Int32) &&& 0x3f).toInt64)) ||| (((b1 &&& (127 : Int32)).toInt64) <<< ((7 : Int32) &&& 0x3f).toInt64)))])) _
    refine XS.imul X12.here hx rfl (hb hby d5_73) rfl ?_
    show Steps p.tables e below (T12.setTop (mkF m 74 #[.val (.ref a1), .val (.long (((0 : Int64) ||| (((b0 &&& (127 : Int32)).toInt64) <<< ((0 : Int32) &&& 0x3f).toInt64)) ||| (((b1 &&& (127 : Int32)).toInt64) <<< ((7 : Int32) &&& 0x3f).toInt64))), .second, .val (.int (2 : Int32)), .val (.int b2)] [(.int (14 : Int32)), (.long ((b2 &&& (127 : Int32)).toInt64)), (.long (((0 : Int64) ||| (((b0 &&& (127 : Int32)).toInt64) <<< ((0 : Int32) &&& 0x3f).toInt64)) ||| (((b1 &&& (127 : Int32)).toInt64) <<< ((7 : Int32) &&& 0x3f).toInt64)))])) _
    refine XS.lshl X12.here hx rfl (hb hby d5_74) rfl ?_
    show Steps p.tables e below (T12.setTop (mkF m 75 #[.val (.ref a1), .val (.long (((0 : Int64) ||| (((b0 &&& (127 : Int32)).toInt64) <<< ((0 : Int32) &&& 0x3f).toInt64)) ||| (((b1 &&& (127 : Int32)).toInt64) <<< ((7 : Int32) &&& 0x3f).toInt64))), .second, .val (.int (2 : Int32)), .val (.int b2)] [(.long (((b2 &&& (127 : Int32)).toInt64) <<< ((14 : Int32) &&& 0x3f).toInt64)), (.long (((0 : Int64) ||| (((b0 &&& (127 : Int32)).toInt64) <<< ((0 : Int32) &&& 0x3f).toInt64)) ||| (((b1 &&& (127 : Int32)).toInt64) <<< ((7 : Int32) &&& 0x3f).toInt64)))])) _
    refine XS.lor X12.here hx rfl (hb hby d5_75) rfl ?_
    show Steps p.tables e below (T12.setTop (mkF m 76 #[.val (.ref a1), .val (.long (((0 : Int64) ||| (((b0 &&& (127 : Int32)).toInt64) <<< ((0 : Int32) &&& 0x3f).toInt64)) ||| (((b1 &&& (127 : Int32)).toInt64) <<< ((7 : Int32) &&& 0x3f).toInt64))), .second, .val (.int (2 : Int32)), .val (.int b2)] [(.long ((((0 : Int64) ||| (((b0 &&& (127 : Int32)).toInt64) <<< ((0 : Int32) &&& 0x3f).toInt64)) ||| (((b1 &&& (127 : Int32)).toInt64) <<< ((7 : Int32) &&& 0x3f).toInt64)) ||| (((b2 &&& (127 : Int32)).toInt64) <<< ((14 : Int32) &&& 0x3f).toInt64)))])) _
    refine XS.lstoreN X12.here hx rfl (hb hby d5_76) rfl (l' := #[.val (.ref a1), .val (.long ((((0 : Int64) ||| (((b0 &&& (127 : Int32)).toInt64) <<< ((0 : Int32) &&& 0x3f).toInt64)) ||| (((b1 &&& (127 : Int32)).toInt64) <<< ((7 : Int32) &&& 0x3f).toInt64)) ||| (((b2 &&& (127 : Int32)).toInt64) <<< ((14 : Int32) &&& 0x3f).toInt64))), .second, .val (.int (2 : Int32)), .val (.int b2)]) rfl ?_
    show Steps p.tables e below (T12.setTop (mkF m 77 #[.val (.ref a1), .val (.long ((((0 : Int64) ||| (((b0 &&& (127 : Int32)).toInt64) <<< ((0 : Int32) &&& 0x3f).toInt64)) ||| (((b1 &&& (127 : Int32)).toInt64) <<< ((7 : Int32) &&& 0x3f).toInt64)) ||| (((b2 &&& (127 : Int32)).toInt64) <<< ((14 : Int32) &&& 0x3f).toInt64))), .second, .val (.int (2 : Int32)), .val (.int b2)] [])) _
    refine XS.iload X12.here hx rfl (hb hby d5_77) rfl ?_
    show Steps p.tables e below (T12.setTop (mkF m 79 #[.val (.ref a1), .val (.long ((((0 : Int64) ||| (((b0 &&& (127 : Int32)).toInt64) <<< ((0 : Int32) &&& 0x3f).toInt64)) ||| (((b1 &&& (127 : Int32)).toInt64) <<< ((7 : Int32) &&& 0x3f).toInt64)) ||| (((b2 &&& (127 : Int32)).toInt64) <<< ((14 : Int32) &&& 0x3f).toInt64))), .second, .val (.int (2 : Int32)), .val (.int b2)] [(.int b2)])) _
    refine XS.ifYes X12.here hx rfl (pc0 := 79) (pc' := 84) rfl (hb hby d5_79) rfl ((if0 _ _).trans (tlt u2).1) (by decide) (by decide) ?_
    show Steps p.tables e below (T12.setTop (mkF m 84 #[.val (.ref a1), .val (.long ((((0 : Int64) ||| (((b0 &&& (127 : Int32)).toInt64) <<< ((0 : Int32) &&& 0x3f).toInt64)) ||| (((b1 &&& (127 : Int32)).toInt64) <<< ((7 : Int32) &&& 0x3f).toInt64)) ||| (((b2 &&& (127 : Int32)).toInt64) <<< ((14 : Int32) &&& 0x3f).toInt64))), .second, .val (.int (2 : Int32)), .val (.int b2)] [])) _
    refine XS.iinc X12.here hx rfl (hb hby d5_84) rfl (l' := #[.val (.ref a1), .val (.long ((((0 : Int64) ||| (((b0 &&& (127 : Int32)).toInt64) <<< ((0 : Int32) &&& 0x3f).toInt64)) ||| (((b1 &&& (127 : Int32)).toInt64) <<< ((7 : Int32) &&& 0x3f).toInt64)) ||| (((b2 &&& (127 : Int32)).toInt64) <<< ((14 : Int32) &&& 0x3f).toInt64))), .second, .val (.int (3 : Int32)), .val (.int b2)]) rfl ?_
    show Steps p.tables e below (T12.setTop (mkF m 87 #[.val (.ref a1), .val (.long ((((0 : Int64) ||| (((b0 &&& (127 : Int32)).toInt64) <<< ((0 : Int32) &&& 0x3f).toInt64)) ||| (((b1 &&& (127 : Int32)).toInt64) <<< ((7 : Int32) &&& 0x3f).toInt64)) ||| (((b2 &&& (127 : Int32)).toInt64) <<< ((14 : Int32) &&& 0x3f).toInt64))), .second, .val (.int (3 : Int32)), .val (.int b2)] [])) _
    refine XS.goto X12.here hx rfl (pc0 := 87) (pc' := 4) rfl (hb hby d5_87) (by decide) (by decide) ?_
    show Steps p.tables e below (T12.setTop (mkF m 4 #[.val (.ref a1), .val (.long ((((0 : Int64) ||| (((b0 &&& (127 : Int32)).toInt64) <<< ((0 : Int32) &&& 0x3f).toInt64)) ||| (((b1 &&& (127 : Int32)).toInt64) <<< ((7 : Int32) &&& 0x3f).toInt64)) ||| (((b2 &&& (127 : Int32)).toInt64) <<< ((14 : Int32) &&& 0x3f).toInt64))), .second, .val (.int (3 : Int32)), .val (.int b2)] [])) _
    refine XS.iloadN X12.here hx rfl (hb hby d5_4) rfl ?_
    show Steps p.tables e below (T12.setTop (mkF m 5 #[.val (.ref a1), .val (.long ((((0 : Int64) ||| (((b0 &&& (127 : Int32)).toInt64) <<< ((0 : Int32) &&& 0x3f).toInt64)) ||| (((b1 &&& (127 : Int32)).toInt64) <<< ((7 : Int32) &&& 0x3f).toInt64)) ||| (((b2 &&& (127 : Int32)).toInt64) <<< ((14 : Int32) &&& 0x3f).toInt64))), .second, .val (.int (3 : Int32)), .val (.int b2)] [(.int (3 : Int32))])) _
    refine XS.bipush X12.here hx rfl (hb hby d5_5) ?_
    show Steps p.tables e below (T12.setTop (mkF m 7 #[.val (.ref a1), .val (.long ((((0 : Int64) ||| (((b0 &&& (127 : Int32)).toInt64) <<< ((0 : Int32) &&& 0x3f).toInt64)) ||| (((b1 &&& (127 : Int32)).toInt64) <<< ((7 : Int32) &&& 0x3f).toInt64)) ||| (((b2 &&& (127 : Int32)).toInt64) <<< ((14 : Int32) &&& 0x3f).toInt64))), .second, .val (.int (3 : Int32)), .val (.int b2)] [(.int (10 : Int32)), (.int (3 : Int32))])) _
    refine XS.icmpNo X12.here hx rfl (hb hby d5_7) rfl (tlt (by decide : (3 : Int32) < (10 : Int32))).2.1 ?_
    show Steps p.tables e below (T12.setTop (mkF m 10 #[.val (.ref a1), .val (.long ((((0 : Int64) ||| (((b0 &&& (127 : Int32)).toInt64) <<< ((0 : Int32) &&& 0x3f).toInt64)) ||| (((b1 &&& (127 : Int32)).toInt64) <<< ((7 : Int32) &&& 0x3f).toInt64)) ||| (((b2 &&& (127 : Int32)).toInt64) <<< ((14 : Int32) &&& 0x3f).toInt64))), .second, .val (.int (3 : Int32)), .val (.int b2)] [])) _
    refine XS.aloadN X12.here hx rfl (hb hby d5_10) rfl (rfl) ?_
    show Steps p.tables e below (T12.setTop (mkF m 11 #[.val (.ref a1), .val (.long ((((0 : Int64) ||| (((b0 &&& (127 : Int32)).toInt64) <<< ((0 : Int32) &&& 0x3f).toInt64)) ||| (((b1 &&& (127 : Int32)).toInt64) <<< ((7 : Int32) &&& 0x3f).toInt64)) ||| (((b2 &&& (127 : Int32)).toInt64) <<< ((14 : Int32) &&& 0x3f).toInt64))), .second, .val (.int (3 : Int32)), .val (.int b2)] [(.ref a1)])) _
    refine XS.lconst X12.here hx rfl (hb hby d5_11) ?_
    show Steps p.tables e below (T12.setTop (mkF m 12 #[.val (.ref a1), .val (.long ((((0 : Int64) ||| (((b0 &&& (127 : Int32)).toInt64) <<< ((0 : Int32) &&& 0x3f).toInt64)) ||| (((b1 &&& (127 : Int32)).toInt64) <<< ((7 : Int32) &&& 0x3f).toInt64)) ||| (((b2 &&& (127 : Int32)).toInt64) <<< ((14 : Int32) &&& 0x3f).toInt64))), .second, .val (.int (3 : Int32)), .val (.int b2)] [(.long (1 : Int64)), (.ref a1)])) _
    refine st13.trans ?_
    show Steps p.tables e below (T13.setTop (mkF m 15 #[.val (.ref a1), .val (.long ((((0 : Int64) ||| (((b0 &&& (127 : Int32)).toInt64) <<< ((0 : Int32) &&& 0x3f).toInt64)) ||| (((b1 &&& (127 : Int32)).toInt64) <<< ((7 : Int32) &&& 0x3f).toInt64)) ||| (((b2 &&& (127 : Int32)).toInt64) <<< ((14 : Int32) &&& 0x3f).toInt64))), .second, .val (.int (3 : Int32)), .val (.int b2)] [(.int (1 : Int64).toInt32)])) _
    refine XS.pop X13.here hx rfl (hb hby d5_15) rfl rfl ?_
    show Steps p.tables e below (T13.setTop (mkF m 16 #[.val (.ref a1), .val (.long ((((0 : Int64) ||| (((b0 &&& (127 : Int32)).toInt64) <<< ((0 : Int32) &&& 0x3f).toInt64)) ||| (((b1 &&& (127 : Int32)).toInt64) <<< ((7 : Int32) &&& 0x3f).toInt64)) ||| (((b2 &&& (127 : Int32)).toInt64) <<< ((14 : Int32) &&& 0x3f).toInt64))), .second, .val (.int (3 : Int32)), .val (.int b2)] [])) _
    refine XS.aloadN X13.here hx rfl (hb hby d5_16) rfl (rfl) ?_
    show Steps p.tables e below (T13.setTop (mkF m 17 #[.val (.ref a1), .val (.long ((((0 : Int64) ||| (((b0 &&& (127 : Int32)).toInt64) <<< ((0 : Int32) &&& 0x3f).toInt64)) ||| (((b1 &&& (127 : Int32)).toInt64) <<< ((7 : Int32) &&& 0x3f).toInt64)) ||| (((b2 &&& (127 : Int32)).toInt64) <<< ((14 : Int32) &&& 0x3f).toInt64))), .second, .val (.int (3 : Int32)), .val (.int b2)] [(.ref a1)])) _
    refine st14 _ ?_
    show Steps p.tables e below (T14.setTop (mkF m 20 #[.val (.ref a1), .val (.long ((((0 : Int64) ||| (((b0 &&& (127 : Int32)).toInt64) <<< ((0 : Int32) &&& 0x3f).toInt64)) ||| (((b1 &&& (127 : Int32)).toInt64) <<< ((7 : Int32) &&& 0x3f).toInt64)) ||| (((b2 &&& (127 : Int32)).toInt64) <<< ((14 : Int32) &&& 0x3f).toInt64))), .second, .val (.int (3 : Int32)), .val (.int b2)] [(.ref a2)])) _
    refine XS.aloadN X14.here hx rfl (hb hby d5_20) rfl (rfl) ?_
    show Steps p.tables e below (T14.setTop (mkF m 21 #[.val (.ref a1), .val (.long ((((0 : Int64) ||| (((b0 &&& (127 : Int32)).toInt64) <<< ((0 : Int32) &&& 0x3f).toInt64)) ||| (((b1 &&& (127 : Int32)).toInt64) <<< ((7 : Int32) &&& 0x3f).toInt64)) ||| (((b2 &&& (127 : Int32)).toInt64) <<< ((14 : Int32) &&& 0x3f).toInt64))), .second, .val (.int (3 : Int32)), .val (.int b2)] [(.ref a1), (.ref a2)])) _
    refine XS.dup X14.here hx rfl (hb hby d5_21) rfl rfl ?_
    show Steps p.tables e below (T14.setTop (mkF m 22 #[.val (.ref a1), .val (.long ((((0 : Int64) ||| (((b0 &&& (127 : Int32)).toInt64) <<< ((0 : Int32) &&& 0x3f).toInt64)) ||| (((b1 &&& (127 : Int32)).toInt64) <<< ((7 : Int32) &&& 0x3f).toInt64)) ||| (((b2 &&& (127 : Int32)).toInt64) <<< ((14 : Int32) &&& 0x3f).toInt64))), .second, .val (.int (3 : Int32)), .val (.int b2)] [(.ref a1), (.ref a1), (.ref a2)])) _
    refine st15 _ ?_
    show Steps p.tables e below (T15.setTop (mkF m 25 #[.val (.ref a1), .val (.long ((((0 : Int64) ||| (((b0 &&& (127 : Int32)).toInt64) <<< ((0 : Int32) &&& 0x3f).toInt64)) ||| (((b1 &&& (127 : Int32)).toInt64) <<< ((7 : Int32) &&& 0x3f).toInt64)) ||| (((b2 &&& (127 : Int32)).toInt64) <<< ((14 : Int32) &&& 0x3f).toInt64))), .second, .val (.int (3 : Int32)), .val (.int b2)] [(.int (3 : Int32)), (.ref a1), (.ref a2)])) _
    refine XS.dupX1 X15.here hx rfl (hb hby d5_25) rfl rfl rfl ?_
    show Steps p.tables e below (T15.setTop (mkF m 26 #[.val (.ref a1), .val (.long ((((0 : Int64) ||| (((b0 &&& (127 : Int32)).toInt64) <<< ((0 : Int32) &&& 0x3f).toInt64)) ||| (((b1 &&& (127 : Int32)).toInt64) <<< ((7 : Int32) &&& 0x3f).toInt64)) ||| (((b2 &&& (127 : Int32)).toInt64) <<< ((14 : Int32) &&& 0x3f).toInt64))), .second, .val (.int (3 : Int32)), .val (.int b2)] [(.int (3 : Int32)), (.ref a1), (.int (3 : Int32)), (.ref a2)])) _
    refine XS.iconst X15.here hx rfl (hb hby d5_26) ?_
    show Steps p.tables e below (T15.setTop (mkF m 27 #[.val (.ref a1), .val (.long ((((0 : Int64) ||| (((b0 &&& (127 : Int32)).toInt64) <<< ((0 : Int32) &&& 0x3f).toInt64)) ||| (((b1 &&& (127 : Int32)).toInt64) <<< ((7 : Int32) &&& 0x3f).toInt64)) ||| (((b2 &&& (127 : Int32)).toInt64) <<< ((14 : Int32) &&& 0x3f).toInt64))), .second, .val (.int (3 : Int32)), .val (.int b2)] [(.int (1 : Int32)), (.int (3 : Int32)), (.ref a1), (.int (3 : Int32)), (.ref a2)])) _
    refine XS.iadd X15.here hx rfl (hb hby d5_27) rfl ?_
    show Steps p.tables e below (T15.setTop (mkF m 28 #[.val (.ref a1), .val (.long ((((0 : Int64) ||| (((b0 &&& (127 : Int32)).toInt64) <<< ((0 : Int32) &&& 0x3f).toInt64)) ||| (((b1 &&& (127 : Int32)).toInt64) <<< ((7 : Int32) &&& 0x3f).toInt64)) ||| (((b2 &&& (127 : Int32)).toInt64) <<< ((14 : Int32) &&& 0x3f).toInt64))), .second, .val (.int (3 : Int32)), .val (.int b2)] [(.int (4 : Int32)), (.ref a1), (.int (3 : Int32)), (.ref a2)])) _
    refine st16 _ ?_
    show Steps p.tables e below (T16.setTop (mkF m 31 #[.val (.ref a1), .val (.long ((((0 : Int64) ||| (((b0 &&& (127 : Int32)).toInt64) <<< ((0 : Int32) &&& 0x3f).toInt64)) ||| (((b1 &&& (127 : Int32)).toInt64) <<< ((7 : Int32) &&& 0x3f).toInt64)) ||| (((b2 &&& (127 : Int32)).toInt64) <<< ((14 : Int32) &&& 0x3f).toInt64))), .second, .val (.int (3 : Int32)), .val (.int b2)] [(.int (3 : Int32)), (.ref a2)])) _
    refine X16.baloadBytes hx (j := (3 : Int32)) (v := (.int b3)) (by rw [e16]; exact ((((Ar.other W4 (ne_a2_a1)).other W8 (ne_a2_a1)).other W12 (ne_a2_a1)).other W16 (ne_a2_a1)).1) (State.isArrayOf_alike hZ.alike ((((Ar.other W4 (ne_a2_a1)).other W8 (ne_a2_a1)).other W12 (ne_a2_a1)).other W16 (ne_a2_a1)).2.1) ((((Ar.other W4 (ne_a2_a1)).other W8 (ne_a2_a1)).other W12 (ne_a2_a1)).other W16 (ne_a2_a1)).2.2 (inb_of Sz ⟨by decide, by decide⟩) t3 (g := (mkF m 31 #[.val (.ref a1), .val (.long ((((0 : Int64) ||| (((b0 &&& (127 : Int32)).toInt64) <<< ((0 : Int32) &&& 0x3f).toInt64)) ||| (((b1 &&& (127 : Int32)).toInt64) <<< ((7 : Int32) &&& 0x3f).toInt64)) ||| (((b2 &&& (127 : Int32)).toInt64) <<< ((14 : Int32) &&& 0x3f).toInt64))), .second, .val (.int (3 : Int32)), .val (.int b2)] [(.int (3 : Int32)), (.ref a2)])) rfl rfl (hb hby d5_31) _ ?_
    show Steps p.tables e below (T16.setTop (mkF m 32 #[.val (.ref a1), .val (.long ((((0 : Int64) ||| (((b0 &&& (127 : Int32)).toInt64) <<< ((0 : Int32) &&& 0x3f).toInt64)) ||| (((b1 &&& (127 : Int32)).toInt64) <<< ((7 : Int32) &&& 0x3f).toInt64)) ||| (((b2 &&& (127 : Int32)).toInt64) <<< ((14 : Int32) &&& 0x3f).toInt64))), .second, .val (.int (3 : Int32)), .val (.int b2)] [(.int b3)])) _
    refine XS.istore X16.here hx rfl (hb hby d5_32) rfl (l' := #[.val (.ref a1), .val (.long ((((0 : Int64) ||| (((b0 &&& (127 : Int32)).toInt64) <<< ((0 : Int32) &&& 0x3f).toInt64)) ||| (((b1 &&& (127 : Int32)).toInt64) <<< ((7 : Int32) &&& 0x3f).toInt64)) ||| (((b2 &&& (127 : Int32)).toInt64) <<< ((14 : Int32) &&& 0x3f).toInt64))), .second, .val (.int (3 : Int32)), .val (.int b3)]) rfl ?_
    show Steps p.tables e below (T16.setTop (mkF m 34 #[.val (.ref a1), .val (.long ((((0 : Int64) ||| (((b0 &&& (127 : Int32)).toInt64) <<< ((0 : Int32) &&& 0x3f).toInt64)) ||| (((b1 &&& (127 : Int32)).toInt64) <<< ((7 : Int32) &&& 0x3f).toInt64)) ||| (((b2 &&& (127 : Int32)).toInt64) <<< ((14 : Int32) &&& 0x3f).toInt64))), .second, .val (.int (3 : Int32)), .val (.int b3)] [])) _
    refine XS.iloadN X16.here hx rfl (hb hby d5_34) rfl ?_
    show Steps p.tables e below (T16.setTop (mkF m 35 #[.val (.ref a1), .val (.long ((((0 : Int64) ||| (((b0 &&& (127 : Int32)).toInt64) <<< ((0 : Int32) &&& 0x3f).toInt64)) ||| (((b1 &&& (127 : Int32)).toInt64) <<< ((7 : Int32) &&& 0x3f).toInt64)) ||| (((b2 &&& (127 : Int32)).toInt64) <<< ((14 : Int32) &&& 0x3f).toInt64))), .second, .val (.int (3 : Int32)), .val (.int b3)] [(.int (3 : Int32))])) _
    refine XS.bipush X16.here hx rfl (hb hby d5_35) ?_
    show Steps p.tables e below (T16.setTop (mkF m 37 #[.val (.ref a1), .val (.long ((((0 : Int64) ||| (((b0 &&& (127 : Int32)).toInt64) <<< ((0 : Int32) &&& 0x3f).toInt64)) ||| (((b1 &&& (127 : Int32)).toInt64) <<< ((7 : Int32) &&& 0x3f).toInt64)) ||| (((b2 &&& (127 : Int32)).toInt64) <<< ((14 : Int32) &&& 0x3f).toInt64))), .second, .val (.int (3 : Int32)), .val (.int b3)] [(.int (9 : Int32)), (.int (3 : Int32))])) _
    refine XS.icmpYes X16.here hx rfl (pc0 := 37) (pc' := 63) rfl (hb hby d5_37) rfl (feq (by decide : ¬ ((3 : Int32) = (9 : Int32)))).2 (by decide) (by decide) ?_
    show Steps p.tables e below (T16.setTop (mkF m 63 #[.val (.ref a1), .val (.long ((((0 : Int64) ||| (((b0 &&& (127 : Int32)).toInt64) <<< ((0 : Int32) &&& 0x3f).toInt64)) ||| (((b1 &&& (127 : Int32)).toInt64) <<< ((7 : Int32) &&& 0x3f).toInt64)) ||| (((b2 &&& (127 : Int32)).toInt64) <<< ((14 : Int32) &&& 0x3f).toInt64))), .second, .val (.int (3 : Int32)), .val (.int b3)] [])) _
    refine XS.lloadN X16.here hx rfl (hb hby d5_63) rfl ?_
    show Steps p.tables e below (T16.setTop (mkF m 64 #[.val (.ref a1), .val (.long ((((0 : Int64) ||| (((b0 &&& (127 : Int32)).toInt64) <<< ((0 : Int32) &&& 0x3f).toInt64)) ||| (((b1 &&& (127 : Int32)).toInt64) <<< ((7 : Int32) &&& 0x3f).toInt64)) ||| (((b2 &&& (127 : Int32)).toInt64) <<< ((14 : Int32) &&& 0x3f).toInt64))), .second, .val (.int (3 : Int32)), .val (.int b3)] [(.long ((((0 : Int64) ||| (((b0 &&& (127 : Int32)).toInt64) <<< ((0 : Int32) &&& 0x3f).toInt64)) ||| (((b1 &&& (127 : Int32)).toInt64) <<< ((7 : Int32) &&& 0x3f).toInt64)) ||| (((b2 &&& (127 : Int32)).toInt64) <<< ((14 : Int32) &&& 0x3f).toInt64)))])) _
    refine XS.iload X16.here hx rfl (hb hby d5_64) rfl ?_
    show Steps p.tables e below (T16.setTop (mkF m 66 #[.val (.ref a1), .val (.long ((((0 : Int64) ||| (((b0 &&& (127 : Int32)).toInt64) <<< ((0 : Int32) &&& 0x3f).toInt64)) ||| (((b1 &&& (127 : Int32)).toInt64) <<< ((7 : Int32) &&& 0x3f).toInt64)) ||| (((b2 &&& (127 : Int32)).toInt64) <<< ((14 : Int32) &&& 0x3f).toInt64))), .second, .val (.int (3 : Int32)), .val (.int b3)] [(.int b3), (.long ((((0 : Int64) ||| (((b0 &&& (127 : Int32)).toInt64) <<< ((0 : Int32) &&& 0x3f).toInt64)) ||| (((b1 &&& (127 : Int32)).toInt64) <<< ((7 : Int32) &&& 0x3f).toInt64)) ||| (((b2 &&& (127 : Int32)).toInt64) <<< ((14 : Int32) &&& 0x3f).toInt64)))])) _
    refine XS.bipush X16.here hx rfl (hb hby d5_66) ?_
    show Steps p.tables e below (T16.setTop (mkF m 68 #[.val (.ref a1), .val (.long ((((0 : Int64) ||| (((b0 &&& (127 : Int32)).toInt64) <<< ((0 : Int32) &&& 0x3f).toInt64)) ||| (((b1 &&& (127 : Int32)).toInt64) <<< ((7 : Int32) &&& 0x3f).toInt64)) ||| (((b2 &&& (127 : Int32)).toInt64) <<< ((14 : Int32) &&& 0x3f).toInt64))), .second, .val (.int (3 : Int32)), .val (.int b3)] [(.int (127 : Int32)), (.int b3), (.long ((((0 : Int64) ||| (((b0 &&& (127 : Int32)).toInt64) <<< ((0 : Int32) &&& 0x3f).toInt64)) ||| (((b1 &&& (127 : Int32)).toInt64) <<< ((7 : Int32) &&& 0x3f).toInt64)) ||| (((b2 &&& (127 : Int32)).toInt64) <<< ((14 : Int32) &&& 0x3f).toInt64)))])) _
    refine XS.iand X16.here hx rfl (hb hby d5_68) rfl ?_
    show Steps p.tables e below (T16.setTop (mkF m 69 #[.val (.ref a1), .val (.long ((((0 : Int64) ||| (((b0 &&& (127 : Int32)).toInt64) <<< ((0 : Int32) &&& 0x3f).toInt64)) ||| (((b1 &&& (127 : Int32)).toInt64) <<< ((7 : Int32) &&& 0x3f).toInt64)) ||| (((b2 &&& (127 : Int32)).toInt64) <<< ((14 : Int32) &&& 0x3f).toInt64))), .second, .val (.int (3 : Int32)), .val (.int b3)] [(.int (b3 &&& (127 : Int32))), (.long ((((0 : Int64) ||| (((b0 &&& (127 : Int32)).toInt64) <<< ((0 : Int32) &&& 0x3f).toInt64)) ||| (((b1 &&& (127 : Int32)).toInt64) <<< ((7 : Int32) &&& 0x3f).toInt64)) ||| (((b2 &&& (127 : Int32)).toInt64) <<< ((14 : Int32) &&& 0x3f).toInt64)))])) _
    refine XS.i2l X16.here hx rfl (hb hby d5_69) rfl ?_
    show Steps p.tables e below (T16.setTop (mkF m 70 #[.val (.ref a1), .val (.long ((((0 : Int64) ||| (((b0 &&& (127 : Int32)).toInt64) <<< ((0 : Int32) &&& 0x3f).toInt64)) ||| (((b1 &&& (127 : Int32)).toInt64) <<< ((7 : Int32) &&& 0x3f).toInt64)) ||| (((b2 &&& (127 : Int32)).toInt64) <<< ((14 : Int32) &&& 0x3f).toInt64))), .second, .val (.int (3 : Int32)), .val (.int b3)] [(.long ((b3 &&& (127 : Int32)).toInt64)), (.long ((((0 : Int64) ||| (((b0 &&& (127 : Int32)).toInt64) <<< ((0 : Int32) &&& 0x3f).toInt64)) ||| (((b1 &&& (127 : Int32)).toInt64) <<< ((7 : Int32) &&& 0x3f).toInt64)) ||| (((b2 &&& (127 : Int32)).toInt64) <<< ((14 : Int32) &&& 0x3f).toInt64)))])) _
    refine XS.bipush X16.here hx rfl (hb hby d5_70) ?_
    show Steps p.tables e below (T16.setTop (mkF m 72 #[.val (.ref a1), .val (.long ((((0 : Int64) ||| (((b0 &&& (127 : Int32)).toInt64) <<< ((0 : Int32) &&& 0x3f).toInt64)) ||| (((b1 &&& (127 : Int32)).toInt64) <<< ((7 : Int32) &&& 0x3f).toInt64)) ||| (((b2 &&& (127 : Int32)).toInt64) <<< ((14 : Int32) &&& 0x3f).toInt64))), .second, .val (.int (3 : Int32)), .val (.int b3)] [(.int (7 : Int32)), (.long ((b3 &&& (127 : Int32)).toInt64)), (.long ((((0 : Int64) ||| (((b0 &&& (127 : Int32)).toInt64) <<< ((0 : Int32) &&& 0x3f).toInt64)) ||| (((b1 &&& (127 : Int32)).toInt64) <<< ((7 : Int32) &&& 0x3f).toInt64)) ||| (((b2 &&& (127 : Int32)).toInt64) <<< ((14 : Int32) &&& 0x3f).toInt64)))])) _
    refine XS.iloadN X16.here hx rfl (hb hby d5_72) rfl ?_
    show Steps p.tables e below (T16.setTop (mkF m 73 #[.val (.ref a1), .val (.long ((((0 : Int64) ||| (((b0 &&& (127 : Int32)).toInt64) <<< ((0 : Int32) &&& 0x3f).toInt64)) ||| (((b1 &&& (127 : Int32)).toInt64) <<< ((7 : Int32) &&& 0x3f).toInt64)) ||| (((b2 &&& (127 : Int32)).toInt64) <<< ((14 : Int32) &&& 0x3f).toInt64))), .second, .val (.int (3 : Int32)), .val (.int b3)] [(.int (3 : Int32)), (.int (7 : Int32)), (.long ((b3 &&& (127 : Int32)).toInt64)), (.long ((((0 : Int64) ||| (((b0 &&& (127 : Int32)).toInt64) <<< ((0 : Int32) &&& 0x3f).toInt64)) ||| (((b1 &&& (127 : Int32)).toInt64) <<< ((7 : Int32) &&& 0x3f).toInt64)) ||| (((b2 &&& (127 : Int32)).toInt64) <<< ((14 : Int32) &&& 0x3f).toInt64)))])) _
    refine XS.imul X16.here hx rfl (hb hby d5_73) rfl ?_
    show Steps p.tables e below (T16.setTop (mkF m 74 #[.val (.ref a1), .val (.long ((((0 : Int64) ||| (((b0 &&& (127 : Int32)).toInt64) <<< ((0 : Int32) &&& 0x3f).toInt64)) ||| (((b1 &&& (127 : Int32)).toInt64) <<< ((7 : Int32) &&& 0x3f).toInt64)) ||| (((b2 &&& (127 : Int32)).toInt64) <<< ((14 : Int32) &&& 0x3f).toInt64))), .second, .val (.int (3 : Int32)), .val (.int b3)] [(.int (21 : Int32)), (.long ((b3 &&& (127 : Int32)).toInt64)), (.long ((((0 : Int64) ||| (((b0 &&& (127 : Int32)).toInt64) <<< ((0 : Int32) &&& 0x3f).toInt64)) ||| (((b1 &&& (127 : Int32)).toInt64) <<< ((7 : Int32) &&& 0x3f).toInt64)) ||| (((b2 &&& (127 : Int32)).toInt64) <<< ((14 : Int32) &&& 0x3f).toInt64)))])) _
    refine XS.lshl X16.here hx rfl (hb hby d5_74) rfl ?_
    show Steps p.tables e below (T16.setTop (mkF m 75 #[.val (.ref a1), .val (.long ((((0 : Int64) ||| (((b0 &&& (127 : Int32)).toInt64) <<< ((0 : Int32) &&& 0x3f).toInt64)) ||| (((b1 &&& (127 : Int32)).toInt64) <<< ((7 : Int32) &&& 0x3f).toInt64)) ||| (((b2 &&& (127 : Int32)).toInt64) <<< ((14 : Int32) &&& 0x3f).toInt64))), .second, .val (.int (3 : Int32)), .val (.int b3)] [(.long (((b3 &&& (127 : Int32)).toInt64) <<< ((21 : Int32) &&& 0x3f).toInt64)), (.long ((((0 : Int64) ||| (((b0 &&& (127 : Int32)).toInt64) <<< ((0 : Int32) &&& 0x3f).toInt64)) ||| (((b1 &&& (127 : Int32)).toInt64) <<< ((7 : Int32) &&& 0x3f).toInt64)) ||| (((b2 &&& (127 : Int32)).toInt64) <<< ((14 : Int32) &&& 0x3f).toInt64)))])) _
    refine XS.lor X16.here hx rfl (hb hby d5_75) rfl ?_
    show Steps p.tables e below (T16.setTop (mkF m 76 #[.val (.ref a1), .val (.long ((((0 : Int64) ||| (((b0 &&& (127 : Int32)).toInt64) <<< ((0 : Int32) &&& 0x3f).toInt64)) ||| (((b1 &&& (127 : Int32)).toInt64) <<< ((7 : Int32) &&& 0x3f).toInt64)) ||| (((b2 &&& (127 : Int32)).toInt64) <<< ((14 : Int32) &&& 0x3f).toInt64))), .second, .val (.int (3 : Int32)), .val (.int b3)] [(.long (((((0 : Int64) ||| (((b0 &&& (127 : Int32)).toInt64) <<< ((0 : Int32) &&& 0x3f).toInt64)) ||| (((b1 &&& (127 : Int32)).toInt64) <<< ((7 : Int32) &&& 0x3f).toInt64)) ||| (((b2 &&& (127 : Int32)).toInt64) <<< ((14 : Int32) &&& 0x3f).toInt64)) ||| (((b3 &&& (127 : Int32)).toInt64) <<< ((21 : Int32) &&& 0x3f).toInt64)))])) _
    refine XS.lstoreN X16.here hx rfl (hb hby d5_76) rfl (l' := #[.val (.ref a1), .val (.long (((((0 : Int64) ||| (((b0 &&& (127 : Int32)).toInt64) <<< ((0 : Int32) &&& 0x3f).toInt64)) ||| (((b1 &&& (127 : Int32)).toInt64) <<< ((7 : Int32) &&& 0x3f).toInt64)) ||| (((b2 &&& (127 : Int32)).toInt64) <<< ((14 : Int32) &&& 0x3f).toInt64)) ||| (((b3 &&& (127 : Int32)).toInt64) <<< ((21 : Int32) &&& 0x3f).toInt64))), .second, .val (.int (3 : Int32)), .val (.int b3)]) rfl ?_
    show Steps p.tables e below (T16.setTop (mkF m 77 #[.val (.ref a1), .val (.long (((((0 : Int64) ||| (((b0 &&& (127 : Int32)).toInt64) <<< ((0 : Int32) &&& 0x3f).toInt64)) ||| (((b1 &&& (127 : Int32)).toInt64) <<< ((7 : Int32) &&& 0x3f).toInt64)) ||| (((b2 &&& (127 : Int32)).toInt64) <<< ((14 : Int32) &&& 0x3f).toInt64)) ||| (((b3 &&& (127 : Int32)).toInt64) <<< ((21 : Int32) &&& 0x3f).toInt64))), .second, .val (.int (3 : Int32)), .val (.int b3)] [])) _
    refine XS.iload X16.here hx rfl (hb hby d5_77) rfl ?_
    show Steps p.tables e below (T16.setTop (mkF m 79 #[.val (.ref a1), .val (.long (((((0 : Int64) ||| (((b0 &&& (127 : Int32)).toInt64) <<< ((0 : Int32) &&& 0x3f).toInt64)) ||| (((b1 &&& (127 : Int32)).toInt64) <<< ((7 : Int32) &&& 0x3f).toInt64)) ||| (((b2 &&& (127 : Int32)).toInt64) <<< ((14 : Int32) &&& 0x3f).toInt64)) ||| (((b3 &&& (127 : Int32)).toInt64) <<< ((21 : Int32) &&& 0x3f).toInt64))), .second, .val (.int (3 : Int32)), .val (.int b3)] [(.int b3)])) _
    refine XS.ifYes X16.here hx rfl (pc0 := 79) (pc' := 84) rfl (hb hby d5_79) rfl ((if0 _ _).trans (tlt u3).1) (by decide) (by decide) ?_
    show Steps p.tables e below (T16.setTop (mkF m 84 #[.val (.ref a1), .val (.long (((((0 : Int64) ||| (((b0 &&& (127 : Int32)).toInt64) <<< ((0 : Int32) &&& 0x3f).toInt64)) ||| (((b1 &&& (127 : Int32)).toInt64) <<< ((7 : Int32) &&& 0x3f).toInt64)) ||| (((b2 &&& (127 : Int32)).toInt64) <<< ((14 : Int32) &&& 0x3f).toInt64)) ||| (((b3 &&& (127 : Int32)).toInt64) <<< ((21 : Int32) &&& 0x3f).toInt64))), .second, .val (.int (3 : Int32)), .val (.int b3)] [])) _
    refine XS.iinc X16.here hx rfl (hb hby d5_84) rfl (l' := #[.val (.ref a1), .val (.long (((((0 : Int64) ||| (((b0 &&& (127 : Int32)).toInt64) <<< ((0 : Int32) &&& 0x3f).toInt64)) ||| (((b1 &&& (127 : Int32)).toInt64) <<< ((7 : Int32) &&& 0x3f).toInt64)) ||| (((b2 &&& (127 : Int32)).toInt64) <<< ((14 : Int32) &&& 0x3f).toInt64)) ||| (((b3 &&& (127 : Int32)).toInt64) <<< ((21 : Int32) &&& 0x3f).toInt64))), .second, .val (.int (4 : Int32)), .val (.int b3)]) rfl ?_
    show Steps p.tables e below (T16.setTop (mkF m 87 #[.val (.ref a1), .val (.long (((((0 : Int64) ||| (((b0 &&& (127 : Int32)).toInt64) <<< ((0 : Int32) &&& 0x3f).toInt64)) ||| (((b1 &&& (127 : Int32)).toInt64) <<< ((7 : Int32) &&& 0x3f).toInt64)) ||| (((b2 &&& (127 : Int32)).toInt64) <<< ((14 : Int32) &&& 0x3f).toInt64)) ||| (((b3 &&& (127 : Int32)).toInt64) <<< ((21 : Int32) &&& 0x3f).toInt64))), .second, .val (.int (4 : Int32)), .val (.int b3)] [])) _
    refine XS.goto X16.here hx rfl (pc0 := 87) (pc' := 4) rfl (hb hby d5_87) (by decide) (by decide) ?_
    show Steps p.tables e below (T16.setTop (mkF m 4 #[.val (.ref a1), .val (.long (((((0 : Int64) ||| (((b0 &&& (127 : Int32)).toInt64) <<< ((0 : Int32) &&& 0x3f).toInt64)) ||| (((b1 &&& (127 : Int32)).toInt64) <<< ((7 : Int32) &&& 0x3f).toInt64)) ||| (((b2 &&& (127 : Int32)).toInt64) <<< ((14 : Int32) &&& 0x3f).toInt64)) ||| (((b3 &&& (127 : Int32)).toInt64) <<< ((21 : Int32) &&& 0x3f).toInt64))), .second, .val (.int (4 : Int32)), .val (.int b3)] [])) _
    refine XS.iloadN X16.here hx rfl (hb hby d5_4) rfl ?_
    show Steps p.tables e below (T16.setTop (mkF m 5 #[.val (.ref a1), .val (.long (((((0 : Int64) ||| (((b0 &&& (127 : Int32)).toInt64) <<< ((0 : Int32) &&& 0x3f).toInt64)) ||| (((b1 &&& (127 : Int32)).toInt64) <<< ((7 : Int32) &&& 0x3f).toInt64)) ||| (((b2 &&& (127 : Int32)).toInt64) <<< ((14 : Int32) &&& 0x3f).toInt64)) ||| (((b3 &&& (127 : Int32)).toInt64) <<< ((21 : Int32) &&& 0x3f).toInt64))), .second, .val (.int (4 : Int32)), .val (.int b3)] [(.int (4 : Int32))])) _
    refine XS.bipush X16.here hx rfl (hb hby d5_5) ?_
    show Steps p.tables e below (T16.setTop (mkF m 7 #[.val (.ref a1), .val (.long (((((0 : Int64) ||| (((b0 &&& (127 : Int32)).toInt64) <<< ((0 : Int32) &&& 0x3f).toInt64)) ||| (((b1 &&& (127 : Int32)).toInt64) <<< ((7 : Int32) &&& 0x3f).toInt64)) ||| (((b2 &&& (127 : Int32)).toInt64) <<< ((14 : Int32) &&& 0x3f).toInt64)) ||| (((b3 &&& (127 : Int32)).toInt64) <<< ((21 : Int32) &&& 0x3f).toInt64))), .second, .val (.int (4 : Int32)), .val (.int b3)] [(.int (10 : Int32)), (.int (4 : Int32))])) _
    refine XS.icmpNo X16.here hx rfl (hb hby d5_7) rfl (tlt (by decide : (4 : Int32) < (10 : Int32))).2.1 ?_
    show Steps p.tables e below (T16.setTop (mkF m 10 #[.val (.ref a1), .val (.long (((((0 : Int64) ||| (((b0 &&& (127 : Int32)).toInt64) <<< ((0 : Int32) &&& 0x3f).toInt64)) ||| (((b1 &&& (127 : Int32)).toInt64) <<< ((7 : Int32) &&& 0x3f).toInt64)) ||| (((b2 &&& (127 : Int32)).toInt64) <<< ((14 : Int32) &&& 0x3f).toInt64)) ||| (((b3 &&& (127 : Int32)).toInt64) <<< ((21 : Int32) &&& 0x3f).toInt64))), .second, .val (.int (4 : Int32)), .val (.int b3)] [])) _
    refine XS.aloadN X16.here hx rfl (hb hby d5_10) rfl (rfl) ?_
    show Steps p.tables e below (T16.setTop (mkF m 11 #[.val (.ref a1), .val (.long (((((0 : Int64) ||| (((b0 &&& (127 : Int32)).toInt64) <<< ((0 : Int32) &&& 0x3f).toInt64)) ||| (((b1 &&& (127 : Int32)).toInt64) <<< ((7 : Int32) &&& 0x3f).toInt64)) ||| (((b2 &&& (127 : Int32)).toInt64) <<< ((14 : Int32) &&& 0x3f).toInt64)) ||| (((b3 &&& (127 : Int32)).toInt64) <<< ((21 : Int32) &&& 0x3f).toInt64))), .second, .val (.int (4 : Int32)), .val (.int b3)] [(.ref a1)])) _
    refine XS.lconst X16.here hx rfl (hb hby d5_11) ?_
    show Steps p.tables e below (T16.setTop (mkF m 12 #[.val (.ref a1), .val (.long (((((0 : Int64) ||| (((b0 &&& (127 : Int32)).toInt64) <<< ((0 : Int32) &&& 0x3f).toInt64)) ||| (((b1 &&& (127 : Int32)).toInt64) <<< ((7 : Int32) &&& 0x3f).toInt64)) ||| (((b2 &&& (127 : Int32)).toInt64) <<< ((14 : Int32) &&& 0x3f).toInt64)) ||| (((b3 &&& (127 : Int32)).toInt64) <<< ((21 : Int32) &&& 0x3f).toInt64))), .second, .val (.int (4 : Int32)), .val (.int b3)] [(.long (1 : Int64)), (.ref a1)])) _
    refine st17.trans ?_
    show Steps p.tables e below (T17.setTop (mkF m 15 #[.val (.ref a1), .val (.long (((((0 : Int64) ||| (((b0 &&& (127 : Int32)).toInt64) <<< ((0 : Int32) &&& 0x3f).toInt64)) ||| (((b1 &&& (127 : Int32)).toInt64) <<< ((7 : Int32) &&& 0x3f).toInt64)) ||| (((b2 &&& (127 : Int32)).toInt64) <<< ((14 : Int32) &&& 0x3f).toInt64)) ||| (((b3 &&& (127 : Int32)).toInt64) <<< ((21 : Int32) &&& 0x3f).toInt64))), .second, .val (.int (4 : Int32)), .val (.int b3)] [(.int (1 : Int64).toInt32)])) _
    refine XS.pop X17.here hx rfl (hb hby d5_15) rfl rfl ?_
    show Steps p.tables e below (T17.setTop (mkF m 16 #[.val (.ref a1), .val (.long (((((0 : Int64) ||| (((b0 &&& (127 : Int32)).toInt64) <<< ((0 : Int32) &&& 0x3f).toInt64)) ||| (((b1 &&& (127 : Int32)).toInt64) <<< ((7 : Int32) &&& 0x3f).toInt64)) ||| (((b2 &&& (127 : Int32)).toInt64) <<< ((14 : Int32) &&& 0x3f).toInt64)) ||| (((b3 &&& (127 : Int32)).toInt64) <<< ((21 : Int32) &&& 0x3f).toInt64))), .second, .val (.int (4 : Int32)), .val (.int b3)] [])) _
    refine XS.aloadN X17.here hx rfl (hb hby d5_16) rfl (rfl) ?_
    show Steps p.tables e below (T17.setTop (mkF m 17 #[.val (.ref a1), .val (.long (((((0 : Int64) ||| (((b0 &&& (127 : Int32)).toInt64) <<< ((0 : Int32) &&& 0x3f).toInt64)) ||| (((b1 &&& (127 : Int32)).toInt64) <<< ((7 : Int32) &&& 0x3f).toInt64)) ||| (((b2 &&& (127 : Int32)).toInt64) <<< ((14 : Int32) &&& 0x3f).toInt64)) ||| (((b3 &&& (127 : Int32)).toInt64) <<< ((21 : Int32) &&& 0x3f).toInt64))), .second, .val (.int (4 : Int32)), .val (.int b3)] [(.ref a1)])) _
    refine st18 _ ?_
    show Steps p.tables e below (T18.setTop (mkF m 20 #[.val (.ref a1), .val (.long (((((0 : Int64) ||| (((b0 &&& (127 : Int32)).toInt64) <<< ((0 : Int32) &&& 0x3f).toInt64)) ||| (((b1 &&& (127 : Int32)).toInt64) <<< ((7 : Int32) &&& 0x3f).toInt64)) ||| (((b2 &&& (127 : Int32)).toInt64) <<< ((14 : Int32) &&& 0x3f).toInt64)) ||| (((b3 &&& (127 : Int32)).toInt64) <<< ((21 : Int32) &&& 0x3f).toInt64))), .second, .val (.int (4 : Int32)), .val (.int b3)] [(.ref a2)])) _
    refine XS.aloadN X18.here hx rfl (hb hby d5_20) rfl (rfl) ?_
    show Steps p.tables e below (T18.setTop (mkF m 21 #[.val (.ref a1), .val (.long (((((0 : Int64) ||| (((b0 &&& (127 : Int32)).toInt64) <<< ((0 : Int32) &&& 0x3f).toInt64)) ||| (((b1 &&& (127 : Int32)).toInt64) <<< ((7 : Int32) &&& 0x3f).toInt64)) ||| (((b2 &&& (127 : Int32)).toInt64) <<< ((14 : Int32) &&& 0x3f).toInt64)) ||| (((b3 &&& (127 : Int32)).toInt64) <<< ((21 : Int32) &&& 0x3f).toInt64))), .second, .val (.int (4 : Int32)), .val (.int b3)] [(.ref a1), (.ref a2)])) _
    refine XS.dup X18.here hx rfl (hb hby d5_21) rfl rfl ?_
    show Steps p.tables e below (T18.setTop (mkF m 22 #[.val (.ref a1), .val (.long (((((0 : Int64) ||| (((b0 &&& (127 : Int32)).toInt64) <<< ((0 : Int32) &&& 0x3f).toInt64)) ||| (((b1 &&& (127 : Int32)).toInt64) <<< ((7 : Int32) &&& 0x3f).toInt64)) ||| (((b2 &&& (127 : Int32)).toInt64) <<< ((14 : Int32) &&& 0x3f).toInt64)) ||| (((b3 &&& (127 : Int32)).toInt64) <<< ((21 : Int32) &&& 0x3f).toInt64))), .second, .val (.int (4 : Int32)), .val (.int b3)] [(.ref a1), (.ref a1), (.ref a2)])) _
    refine st19 _ ?_
    show Steps p.tables e below (T19.setTop (mkF m 25 #[.val (.ref a1), .val (.long (((((0 : Int64) ||| (((b0 &&& (127 : Int32)).toInt64) <<< ((0 : Int32) &&& 0x3f).toInt64)) ||| (((b1 &&& (127 : Int32)).toInt64) <<< ((7 : Int32) &&& 0x3f).toInt64)) ||| (((b2 &&& (127 : Int32)).toInt64) <<< ((14 : Int32) &&& 0x3f).toInt64)) ||| (((b3 &&& (127 : Int32)).toInt64) <<< ((21 : Int32) &&& 0x3f).toInt64))), .second, .val (.int (4 : Int32)), .val (.int b3)] [(.int (4 : Int32)), (.ref a1), (.ref a2)])) _
    refine XS.dupX1 X19.here hx rfl (hb hby d5_25) rfl rfl rfl ?_
    show Steps p.tables e below (T19.setTop (mkF m 26 #[.val (.ref a1), .val (.long (((((0 : Int64) ||| (((b0 &&& (127 : Int32)).toInt64) <<< ((0 : Int32) &&& 0x3f).toInt64)) ||| (((b1 &&& (127 : Int32)).toInt64) <<< ((7 : Int32) &&& 0x3f).toInt64)) ||| (((b2 &&& (127 : Int32)).toInt64) <<< ((14 : Int32) &&& 0x3f).toInt64)) ||| (((b3 &&& (127 : Int32)).toInt64) <<< ((21 : Int32) &&& 0x3f).toInt64))), .second, .val (.int (4 : Int32)), .val (.int b3)] [(.int (4 : Int32)), (.ref a1), (.int (4 : Int32)), (.ref a2)])) _
    refine XS.iconst X19.here hx rfl (hb hby d5_26) ?_
    show Steps p.tables e below (T19.setTop (mkF m 27 #[.val (.ref a1), .val (.long (((((0 : Int64) ||| (((b0 &&& (127 : Int32)).toInt64) <<< ((0 : Int32) &&& 0x3f).toInt64)) ||| (((b1 &&& (127 : Int32)).toInt64) <<< ((7 : Int32) &&& 0x3f).toInt64)) ||| (((b2 &&& (127 : Int32)).toInt64) <<< ((14 : Int32) &&& 0x3f).toInt64)) ||| (((b3 &&& (127 : Int32)).toInt64) <<< ((21 : Int32) &&& 0x3f).toInt64))), .second, .val (.int (4 : Int32)), .val (.int b3)] [(.int (1 : Int32)), (.int (4 : Int32)), (.ref a1), (.int (4 : Int32)), (.ref a2)])) _
    refine XS.iadd X19.here hx rfl (hb hby d5_27) rfl ?_
    show Steps p.tables e below (T19.setTop (mkF m 28 #[.val (.ref a1), .val (.long (((((0 : Int64) ||| (((b0 &&& (127 : Int32)).toInt64) <<< ((0 : Int32) &&& 0x3f).toInt64)) ||| (((b1 &&& (127 : Int32)).toInt64) <<< ((7 : Int32) &&& 0x3f).toInt64)) ||| (((b2 &&& (127 : Int32)).toInt64) <<< ((14 : Int32) &&& 0x3f).toInt64)) ||| (((b3 &&& (127 : Int32)).toInt64) <<< ((21 : Int32) &&& 0x3f).toInt64))), .second, .val (.int (4 : Int32)), .val (.int b3)] [(.int (5 : Int32)), (.ref a1), (.int (4 : Int32)), (.ref a2)])) _
    refine st20 _ ?_
    show Steps p.tables e below (T20.setTop (mkF m 31 #[.val (.ref a1), .val (.long (((((0 : Int64) ||| (((b0 &&& (127 : Int32)).toInt64) <<< ((0 : Int32) &&& 0x3f).toInt64)) ||| (((b1 &&& (127 : Int32)).toInt64) <<< ((7 : Int32) &&& 0x3f).toInt64)) ||| (((b2 &&& (127 : Int32)).toInt64) <<< ((14 : Int32) &&& 0x3f).toInt64)) ||| (((b3 &&& (127 : Int32)).toInt64) <<< ((21 : Int32) &&& 0x3f).toInt64))), .second, .val (.int (4 : Int32)), .val (.int b3)] [(.int (4 : Int32)), (.ref a2)])) _
    refine X20.baloadBytes hx (j := (4 : Int32)) (v := (.int b4)) (by rw [e20]; exact (((((Ar.other W4 (ne_a2_a1)).other W8 (ne_a2_a1)).other W12 (ne_a2_a1)).other W16 (ne_a2_a1)).other W20 (ne_a2_a1)).1) (State.isArrayOf_alike hZ.alike (((((Ar.other W4 (ne_a2_a1)).other W8 (ne_a2_a1)).other W12 (ne_a2_a1)).other W16 (ne_a2_a1)).other W20 (ne_a2_a1)).2.1) (((((Ar.other W4 (ne_a2_a1)).other W8 (ne_a2_a1)).other W12 (ne_a2_a1)).other W16 (ne_a2_a1)).other W20 (ne_a2_a1)).2.2 (inb_of Sz ⟨by decide, by decide⟩) t4 (g := (mkF m 31 #[.val (.ref a1), .val (.long (((((0 : Int64) ||| (((b0 &&& (127 : Int32)).toInt64) <<< ((0 : Int32) &&& 0x3f).toInt64)) ||| (((b1 &&& (127 : Int32)).toInt64) <<< ((7 : Int32) &&& 0x3f).toInt64)) ||| (((b2 &&& (127 : Int32)).toInt64) <<< ((14 : Int32) &&& 0x3f).toInt64)) ||| (((b3 &&& (127 : Int32)).toInt64) <<< ((21 : Int32) &&& 0x3f).toInt64))), .second, .val (.int (4 : Int32)), .val (.int b3)] [(.int (4 : Int32)), (.ref a2)])) rfl rfl (hb hby d5_31) _ ?_
    show Steps p.tables e below (T20.setTop (mkF m 32 #[.val (.ref a1), .val (.long (((((0 : Int64) ||| (((b0 &&& (127 : Int32)).toInt64) <<< ((0 : Int32) &&& 0x3f).toInt64)) ||| (((b1 &&& (127 : Int32)).toInt64) <<< ((7 : Int32) &&& 0x3f).toInt64)) ||| (((b2 &&& (127 : Int32)).toInt64) <<< ((14 : Int32) &&& 0x3f).toInt64)) ||| (((b3 &&& (127 : Int32)).toInt64) <<< ((21 : Int32) &&& 0x3f).toInt64))), .second, .val (.int (4 : Int32)), .val (.int b3)] [(.int b4)])) _
    refine XS.istore X20.here hx rfl (hb hby d5_32) rfl (l' := #[.val (.ref a1), .val (.long (((((0 : Int64) ||| (((b0 &&& (127 : Int32)).toInt64) <<< ((0 : Int32) &&& 0x3f).toInt64)) ||| (((b1 &&& (127 : Int32)).toInt64) <<< ((7 : Int32) &&& 0x3f).toInt64)) ||| (((b2 &&& (127 : Int32)).toInt64) <<< ((14 : Int32) &&& 0x3f).toInt64)) ||| (((b3 &&& (127 : Int32)).toInt64) <<< ((21 : Int32) &&& 0x3f).toInt64))), .second, .val (.int (4 : Int32)), .val (.int b4)]) rfl ?_
    show Steps p.tables e below (T20.setTop (mkF m 34 #[.val (.ref a1), .val (.long (((((0 : Int64) ||| (((b0 &&& (127 : Int32)).toInt64) <<< ((0 : Int32) &&& 0x3f).toInt64)) ||| (((b1 &&& (127 : Int32)).toInt64) <<< ((7 : Int32) &&& 0x3f).toInt64)) ||| (((b2 &&& (127 : Int32)).toInt64) <<< ((14 : Int32) &&& 0x3f).toInt64)) ||| (((b3 &&& (127 : Int32)).toInt64) <<< ((21 : Int32) &&& 0x3f).toInt64))), .second, .val (.int (4 : Int32)), .val (.int b4)] [])) _
    refine XS.iloadN X20.here hx rfl (hb hby d5_34) rfl ?_
    show Steps p.tables e below (T20.setTop (mkF m 35 #[.val (.ref a1), .val (.long (((((0 : Int64) ||| (((b0 &&& (127 : Int32)).toInt64) <<< ((0 : Int32) &&& 0x3f).toInt64)) ||| (((b1 &&& (127 : Int32)).toInt64) <<< ((7 : Int32) &&& 0x3f).toInt64)) ||| (((b2 &&& (127 : Int32)).toInt64) <<< ((14 : Int32) &&& 0x3f).toInt64)) ||| (((b3 &&& (127 : Int32)).toInt64) <<< ((21 : Int32) &&& 0x3f).toInt64))), .second, .val (.int (4 : Int32)), .val (.int b4)] [(.int (4 : Int32))])) _
    refine XS.bipush X20.here hx rfl (hb hby d5_35) ?_
    show Steps p.tables e below (T20.setTop (mkF m 37 #[.val (.ref a1), .val (.long (((((0 : Int64) ||| (((b0 &&& (127 : Int32)).toInt64) <<< ((0 : Int32) &&& 0x3f).toInt64)) ||| (((b1 &&& (127 : Int32)).toInt64) <<< ((7 : Int32) &&& 0x3f).toInt64)) ||| (((b2 &&& (127 : Int32)).toInt64) <<< ((14 : Int32) &&& 0x3f).toInt64)) ||| (((b3 &&& (127 : Int32)).toInt64) <<< ((21 : Int32) &&& 0x3f).toInt64))), .second, .val (.int (4 : Int32)), .val (.int b4)] [(.int (9 : Int32)), (.int (4 : Int32))])) _
    refine XS.icmpYes X20.here hx rfl (pc0 := 37) (pc' := 63) rfl (hb hby d5_37) rfl (feq (by decide : ¬ ((4 : Int32) = (9 : Int32)))).2 (by decide) (by decide) ?_
    show Steps p.tables e below (T20.setTop (mkF m 63 #[.val (.ref a1), .val (.long (((((0 : Int64) ||| (((b0 &&& (127 : Int32)).toInt64) <<< ((0 : Int32) &&& 0x3f).toInt64)) ||| (((b1 &&& (127 : Int32)).toInt64) <<< ((7 : Int32) &&& 0x3f).toInt64)) ||| (((b2 &&& (127 : Int32)).toInt64) <<< ((14 : Int32) &&& 0x3f).toInt64)) ||| (((b3 &&& (127 : Int32)).toInt64) <<< ((21 : Int32) &&& 0x3f).toInt64))), .second, .val (.int (4 : Int32)), .val (.int b4)] [])) _
    refine XS.lloadN X20.here hx rfl (hb hby d5_63) rfl ?_
    show Steps p.tables e below (T20.setTop (mkF m 64 #[.val (.ref a1), .val (.long (((((0 : Int64) ||| (((b0 &&& (127 : Int32)).toInt64) <<< ((0 : Int32) &&& 0x3f).toInt64)) ||| (((b1 &&& (127 : Int32)).toInt64) <<< ((7 : Int32) &&& 0x3f).toInt64)) ||| (((b2 &&& (127 : Int32)).toInt64) <<< ((14 : Int32) &&& 0x3f).toInt64)) ||| (((b3 &&& (127 : Int32)).toInt64) <<< ((21 : Int32) &&& 0x3f).toInt64))), .second, .val (.int (4 : Int32)), .val (.int b4)] [(.long (((((0 : Int64) ||| (((b0 &&& (127 : Int32)).toInt64) <<< ((0 : Int32) &&& 0x3f).toInt64)) ||| (((b1 &&& (127 : Int32)).toInt64) <<< ((7 : Int32) &&& 0x3f).toInt64)) ||| (((b2 &&& (127 : Int32)).toInt64) <<< ((14 : Int32) &&& 0x3f).toInt64)) ||| (((b3 &&& (127 : Int32)).toInt64) <<< ((21 : Int32) &&& 0x3f).toInt64)))])) _
    refine XS.iload X20.here hx rfl (hb hby d5_64) rfl ?_
    show Steps p.tables e below (T20.setTop (mkF m 66 #[.val (.ref a1), .val (.long (((((0 : Int64) ||| (((b0 &&& (127 : Int32)).toInt64) <<< ((0 : Int32) &&& 0x3f).toInt64)) ||| (((b1 &&& (127 : Int32)).toInt64) <<< ((7 : Int32) &&& 0x3f).toInt64)) ||| (((b2 &&& (127 : Int32)).toInt64) <<< ((14 : Int32) &&& 0x3f).toInt64)) ||| (((b3 &&& (127 : Int32)).toInt64) <<< ((21 : Int32) &&& 0x3f).toInt64))), .second, .val (.int (4 : Int32)), .val (.int b4)] [(.int b4), (.long (((((0 : Int64) ||| (((b0 &&& (127 : Int32)).toInt64) <<< ((0 : Int32) &&& 0x3f).toInt64)) ||| (((b1 &&& (127 : Int32)).toInt64) <<< ((7 : Int32) &&& 0x3f).toInt64)) ||| (((b2 &&& (127 : Int32)).toInt64) <<< ((14 : Int32) &&& 0x3f).toInt64)) ||| (((b3 &&& (127 : Int32)).toInt64) <<< ((21 : Int32) &&& 0x3f).toInt64)))])) _
    refine XS.bipush X20.here hx rfl (hb hby d5_66) ?_
    show Steps p.tables e below (T20.setTop (mkF m 68 #[.val (.ref a1), .val (.long (((((0 : Int64) ||| (((b0 &&& (127 : Int32)).toInt64) <<< ((0 : Int32) &&& 0x3f).toInt64)) ||| (((b1 &&& (127 : Int32)).toInt64) <<< ((7 : Int32) &&& 0x3f).toInt64)) ||| (((b2 &&& (127 : Int32)).toInt64) <<< ((14 : Int32) &&& 0x3f).toInt64)) ||| (((b3 &&& (127 : Int32)).toInt64) <<< ((21 : Int32) &&& 0x3f).toInt64))), .second, .val (.int (4 : Int32)), .val (.int b4)] [(.int (127 : Int32)), (.int b4), (.long (((((0 : Int64) ||| (((b0 &&& (127 : Int32)).toInt64) <<< ((0 : Int32) &&& 0x3f).toInt64)) ||| (((b1 &&& (127 : Int32)).toInt64) <<< ((7 : Int32) &&& 0x3f).toInt64)) ||| (((b2 &&& (127 : Int32)).toInt64) <<< ((14 : Int32) &&& 0x3f).toInt64)) ||| (((b3 &&& (127 : Int32)).toInt64) <<< ((21 : Int32) &&& 0x3f).toInt64)))])) _
    refine XS.iand X20.here hx rfl (hb hby d5_68) rfl ?_
    show Steps p.tables e below (T20.setTop (mkF m 69 #[.val (.ref a1), .val (.long (((((0 : Int64) ||| (((b0 &&& (127 : Int32)).toInt64) <<< ((0 : Int32) &&& 0x3f).toInt64)) ||| (((b1 &&& (127 : Int32)).toInt64) <<< ((7 : Int32) &&& 0x3f).toInt64)) ||| (((b2 &&& (127 : Int32)).toInt64) <<< ((14 : Int32) &&& 0x3f).toInt64)) ||| (((b3 &&& (127 : Int32)).toInt64) <<< ((21 : Int32) &&& 0x3f).toInt64))), .second, .val (.int (4 : Int32)), .val (.int b4)] [(.int (b4 &&& (127 : Int32))), (.long (((((0 : Int64) ||| (((b0 &&& (127 : Int32)).toInt64) <<< ((0 : Int32) &&& 0x3f).toInt64)) ||| (((b1 &&& (127 : Int32)).toInt64) <<< ((7 : Int32) &&& 0x3f).toInt64)) ||| (((b2 &&& (127 : Int32)).toInt64) <<< ((14 : Int32) &&& 0x3f).toInt64)) ||| (((b3 &&& (127 : Int32)).toInt64) <<< ((21 : Int32) &&& 0x3f).toInt64)))])) _
    refine XS.i2l X20.here hx rfl (hb hby d5_69) rfl ?_
    show Steps p.tables e below (T20.setTop (mkF m 70 #[.val (.ref a1), .val (.long (((((0 : Int64) ||| (((b0 &&& (127 : Int32)).toInt64) <<< ((0 : Int32) &&& 0x3f).toInt64)) ||| (((b1 &&& (127 : Int32)).toInt64) <<< ((7 : Int32) &&& 0x3f).toInt64)) ||| (((b2 &&& (127 : Int32)).toInt64) <<< ((14 : Int32) &&& 0x3f).toInt64)) ||| (((b3 &&& (127 : Int32)).toInt64) <<< ((21 : Int32) &&& 0x3f).toInt64))), .second, .val (.int (4 : Int32)), .val (.int b4)] [(.long ((b4 &&& (127 : Int32)).toInt64)), (.long (((((0 : Int64) ||| (((b0 &&& (127 : Int32)).toInt64) <<< ((0 : Int32) &&& 0x3f).toInt64)) ||| (((b1 &&& (127 : Int32)).toInt64) <<< ((7 : Int32) &&& 0x3f).toInt64)) ||| (((b2 &&& (127 : Int32)).toInt64) <<< ((14 : Int32) &&& 0x3f).toInt64)) ||| (((b3 &&& (127 : Int32)).toInt64) <<< ((21 : Int32) &&& 0x3f).toInt64)))])) _
    refine XS.bipush X20.here hx rfl (hb hby d5_70) ?_
    show Steps p.tables e below (T20.setTop (mkF m 72 #[.val (.ref a1), .val (.long (((((0 : Int64) ||| (((b0 &&& (127 : Int32)).toInt64) <<< ((0 : Int32) &&& 0x3f).toInt64)) ||| (((b1 &&& (127 : Int32)).toInt64) <<< ((7 : Int32) &&& 0x3f).toInt64)) ||| (((b2 &&& (127 : Int32)).toInt64) <<< ((14 : Int32) &&& 0x3f).toInt64)) ||| (((b3 &&& (127 : Int32)).toInt64) <<< ((21 : Int32) &&& 0x3f).toInt64))), .second, .val (.int (4 : Int32)), .val (.int b4)] [(.int (7 : Int32)), (.long ((b4 &&& (127 : Int32)).toInt64)), (.long (((((0 : Int64) ||| (((b0 &&& (127 : Int32)).toInt64) <<< ((0 : Int32) &&& 0x3f).toInt64)) ||| (((b1 &&& (127 : Int32)).toInt64) <<< ((7 : Int32) &&& 0x3f).toInt64)) ||| (((b2 &&& (127 : Int32)).toInt64) <<< ((14 : Int32) &&& 0x3f).toInt64)) ||| (((b3 &&& (127 : Int32)).toInt64) <<< ((21 : Int32) &&& 0x3f).toInt64)))])) _
    refine XS.iloadN X20.here hx rfl (hb hby d5_72) rfl ?_
    show Steps p.tables e below (T20.setTop (mkF m 73 #[.val (.ref a1), .val (.long (((((0 : Int64) ||| (((b0 &&& (127 : Int32)).toInt64) <<< ((0 : Int32) &&& 0x3f).toInt64)) ||| (((b1 &&& (127 : Int32)).toInt64) <<< ((7 : Int32) &&& 0x3f).toInt64)) ||| (((b2 &&& (127 : Int32)).toInt64) <<< ((14 : Int32) &&& 0x3f).toInt64)) ||| (((b3 &&& (127 : Int32)).toInt64) <<< ((21 : Int32) &&& 0x3f).toInt64))), .second, .val (.int (4 : Int32)), .val (.int b4)] [(.int (4 : Int32)), (.int (7 : Int32)), (.long ((b4 &&& (127 : Int32)).toInt64)), (.long (((((0 : Int64) ||| (((b0 &&& (127 : Int32)).toInt64) <<< ((0 : Int32) &&& 0x3f).toInt64)) ||| (((b1 &&& (127 : Int32)).toInt64) <<< ((7 : Int32) &&& 0x3f).toInt64)) ||| (((b2 &&& (127 : Int32)).toInt64) <<< ((14 : Int32) &&& 0x3f).toInt64)) ||| (((b3 &&& (127 : Int32)).toInt64) <<< ((21 : Int32) &&& 0x3f).toInt64)))])) _
    refine XS.imul X20.here hx rfl (hb hby d5_73) rfl ?_
    show Steps p.tables e below (T20.setTop (mkF m 74 #[.val (.ref a1), .val (.long (((((0 : Int64) ||| (((b0 &&& (127 : Int32)).toInt64) <<< ((0 : Int32) &&& 0x3f).toInt64)) ||| (((b1 &&& (127 : Int32)).toInt64) <<< ((7 : Int32) &&& 0x3f).toInt64)) ||| (((b2 &&& (127 : Int32)).toInt64) <<< ((14 : Int32) &&& 0x3f).toInt64)) ||| (((b3 &&& (127 : Int32)).toInt64) <<< ((21 : Int32) &&& 0x3f).toInt64))), .second, .val (.int (4 : Int32)), .val (.int b4)] [(.int (28 : Int32)), (.long ((b4 &&& (127 : Int32)).toInt64)), (.long (((((0 : Int64) ||| (((b0 &&& (127 : Int32)).toInt64) <<< ((0 : Int32) &&& 0x3f).toInt64)) ||| (((b1 &&& (127 : Int32)).toInt64) <<< ((7 : Int32) &&& 0x3f).toInt64)) ||| (((b2 &&& (127 : Int32)).toInt64) <<< ((14 : Int32) &&& 0x3f).toInt64)) ||| (((b3 &&& (127 : Int32)).toInt64) <<< ((21 : Int32) &&& 0x3f).toInt64)))])) _
    refine XS.lshl X20.here hx rfl (hb hby d5_74) rfl ?_
    show Steps p.tables e below (T20.setTop (mkF m 75 #[.val (.ref a1), .val (.long (((((0 : Int64) ||| (((b0 &&& (127 : Int32)).toInt64) <<< ((0 : Int32) &&& 0x3f).toInt64)) ||| (((b1 &&& (127 : Int32)).toInt64) <<< ((7 : Int32) &&& 0x3f).toInt64)) ||| (((b2 &&& (127 : Int32)).toInt64) <<< ((14 : Int32) &&& 0x3f).toInt64)) ||| (((b3 &&& (127 : Int32)).toInt64) <<< ((21 : Int32) &&& 0x3f).toInt64))), .second, .val (.int (4 : Int32)), .val (.int b4)] [(.long (((b4 &&& (127 : Int32)).toInt64) <<< ((28 : Int32) &&& 0x3f).toInt64)), (.long (((((0 : Int64) ||| (((b0 &&& (127 : Int32)).toInt64) <<< ((0 : Int32) &&& 0x3f).toInt64)) ||| (((b1 &&& (127 : Int32)).toInt64) <<< ((7 : Int32) &&& 0x3f).toInt64)) ||| (((b2 &&& (127 : Int32)).toInt64) <<< ((14 : Int32) &&& 0x3f).toInt64)) ||| (((b3 &&& (127 : Int32)).toInt64) <<< ((21 : Int32) &&& 0x3f).toInt64)))])) _
    refine XS.lor X20.here hx rfl (hb hby d5_75) rfl ?_
    show Steps p.tables e below (T20.setTop (mkF m 76 #[.val (.ref a1), .val (.long (((((0 : Int64) ||| (((b0 &&& (127 : Int32)).toInt64) <<< ((0 : Int32) &&& 0x3f).toInt64)) ||| (((b1 &&& (127 : Int32)).toInt64) <<< ((7 : Int32) &&& 0x3f).toInt64)) ||| (((b2 &&& (127 : Int32)).toInt64) <<< ((14 : Int32) &&& 0x3f).toInt64)) ||| (((b3 &&& (127 : Int32)).toInt64) <<< ((21 : Int32) &&& 0x3f).toInt64))), .second, .val (.int (4 : Int32)), .val (.int b4)] [(.long ((((((0 : Int64) ||| (((b0 &&& (127 : Int32)).toInt64) <<< ((0 : Int32) &&& 0x3f).toInt64)) ||| (((b1 &&& (127 : Int32)).toInt64) <<< ((7 : Int32) &&& 0x3f).toInt64)) ||| (((b2 &&& (127 : Int32)).toInt64) <<< ((14 : Int32) &&& 0x3f).toInt64)) ||| (((b3 &&& (127 : Int32)).toInt64) <<< ((21 : Int32) &&& 0x3f).toInt64)) ||| (((b4 &&& (127 : Int32)).toInt64) <<< ((28 : Int32) &&& 0x3f).toInt64)))])) _
    refine XS.lstoreN X20.here hx rfl (hb hby d5_76) rfl (l' := #[.val (.ref a1), .val (.long ((((((0 : Int64) ||| (((b0 &&& (127 : Int32)).toInt64) <<< ((0 : Int32) &&& 0x3f).toInt64)) ||| (((b1 &&& (127 : Int32)).toInt64) <<< ((7 : Int32) &&& 0x3f).toInt64)) ||| (((b2 &&& (127 : Int32)).toInt64) <<< ((14 : Int32) &&& 0x3f).toInt64)) ||| (((b3 &&& (127 : Int32)).toInt64) <<< ((21 : Int32) &&& 0x3f).toInt64)) ||| (((b4 &&& (127 : Int32)).toInt64) <<< ((28 : Int32) &&& 0x3f).toInt64))), .second, .val (.int (4 : Int32)), .val (.int b4)]) rfl ?_
    show Steps p.tables e below (T20.setTop (mkF m 77 #[.val (.ref a1), .val (.long ((((((0 : Int64) ||| (((b0 &&& (127 : Int32)).toInt64) <<< ((0 : Int32) &&& 0x3f).toInt64)) ||| (((b1 &&& (127 : Int32)).toInt64) <<< ((7 : Int32) &&& 0x3f).toInt64)) ||| (((b2 &&& (127 : Int32)).toInt64) <<< ((14 : Int32) &&& 0x3f).toInt64)) ||| (((b3 &&& (127 : Int32)).toInt64) <<< ((21 : Int32) &&& 0x3f).toInt64)) ||| (((b4 &&& (127 : Int32)).toInt64) <<< ((28 : Int32) &&& 0x3f).toInt64))), .second, .val (.int (4 : Int32)), .val (.int b4)] [])) _
    refine XS.iload X20.here hx rfl (hb hby d5_77) rfl ?_
    show Steps p.tables e below (T20.setTop (mkF m 79 #[.val (.ref a1), .val (.long ((((((0 : Int64) ||| (((b0 &&& (127 : Int32)).toInt64) <<< ((0 : Int32) &&& 0x3f).toInt64)) ||| (((b1 &&& (127 : Int32)).toInt64) <<< ((7 : Int32) &&& 0x3f).toInt64)) ||| (((b2 &&& (127 : Int32)).toInt64) <<< ((14 : Int32) &&& 0x3f).toInt64)) ||| (((b3 &&& (127 : Int32)).toInt64) <<< ((21 : Int32) &&& 0x3f).toInt64)) ||| (((b4 &&& (127 : Int32)).toInt64) <<< ((28 : Int32) &&& 0x3f).toInt64))), .second, .val (.int (4 : Int32)), .val (.int b4)] [(.int b4)])) _
    refine XS.ifNo X20.here hx rfl (hb hby d5_79) rfl ((if0 _ _).trans (flt u4).1) ?_
    show Steps p.tables e below (T20.setTop (mkF m 82 #[.val (.ref a1), .val (.long ((((((0 : Int64) ||| (((b0 &&& (127 : Int32)).toInt64) <<< ((0 : Int32) &&& 0x3f).toInt64)) ||| (((b1 &&& (127 : Int32)).toInt64) <<< ((7 : Int32) &&& 0x3f).toInt64)) ||| (((b2 &&& (127 : Int32)).toInt64) <<< ((14 : Int32) &&& 0x3f).toInt64)) ||| (((b3 &&& (127 : Int32)).toInt64) <<< ((21 : Int32) &&& 0x3f).toInt64)) ||| (((b4 &&& (127 : Int32)).toInt64) <<< ((28 : Int32) &&& 0x3f).toInt64))), .second, .val (.int (4 : Int32)), .val (.int b4)] [])) _
    refine XS.lloadN X20.here hx rfl (hb hby d5_82) rfl ?_
    show Steps p.tables e below (T20.setTop (mkF m 83 #[.val (.ref a1), .val (.long ((((((0 : Int64) ||| (((b0 &&& (127 : Int32)).toInt64) <<< ((0 : Int32) &&& 0x3f).toInt64)) ||| (((b1 &&& (127 : Int32)).toInt64) <<< ((7 : Int32) &&& 0x3f).toInt64)) ||| (((b2 &&& (127 : Int32)).toInt64) <<< ((14 : Int32) &&& 0x3f).toInt64)) ||| (((b3 &&& (127 : Int32)).toInt64) <<< ((21 : Int32) &&& 0x3f).toInt64)) ||| (((b4 &&& (127 : Int32)).toInt64) <<< ((28 : Int32) &&& 0x3f).toInt64))), .second, .val (.int (4 : Int32)), .val (.int b4)] [(.long ((((((0 : Int64) ||| (((b0 &&& (127 : Int32)).toInt64) <<< ((0 : Int32) &&& 0x3f).toInt64)) ||| (((b1 &&& (127 : Int32)).toInt64) <<< ((7 : Int32) &&& 0x3f).toInt64)) ||| (((b2 &&& (127 : Int32)).toInt64) <<< ((14 : Int32) &&& 0x3f).toInt64)) ||| (((b3 &&& (127 : Int32)).toInt64) <<< ((21 : Int32) &&& 0x3f).toInt64)) ||| (((b4 &&& (127 : Int32)).toInt64) <<< ((28 : Int32) &&& 0x3f).toInt64)))])) _
    exact k
  obtain ⟨fs, hr, hrun, hended, hW, hsame⟩ := X20.leave (v := some (.long ((((((0 : Int64) ||| (((b0 &&& (127 : Int32)).toInt64) <<< ((0 : Int32) &&& 0x3f).toInt64)) ||| (((b1 &&& (127 : Int32)).toInt64) <<< ((7 : Int32) &&& 0x3f).toInt64)) ||| (((b2 &&& (127 : Int32)).toInt64) <<< ((14 : Int32) &&& 0x3f).toInt64)) ||| (((b3 &&& (127 : Int32)).toInt64) <<< ((21 : Int32) &&& 0x3f).toInt64)) ||| (((b4 &&& (127 : Int32)).toInt64) <<< ((28 : Int32) &&& 0x3f).toInt64)))) (fun h => by rw [Bd.returns] at h; cases h)
  refine ⟨_, _, pre21 _ ?_, hrun, hended, _, _, rfl, ?_, ⟨_, rfl⟩, hW, hsame.mono (by decide) (by decide)⟩
  · exact retOut X20 hx Bd.returns rfl (Or.inr (Or.inl ⟨rfl, rfl, _, rfl⟩)) (hb hby d5_83) hr
  · show Q_rmV Z a1 a2 cl b0 b1 b2 b3 b4 h0 n0 _ T20.heap _
    rw [e20]
    exact ⟨rfl, N20, K20, (((((E1.wr W4).wr W8).wr W12).wr W16).wr W20), (((((F0.other W4 (Or.inr (slot_ne (Or.inr (hw _ (List.mem_of_getElem? (i := 18) rfl))) (Or.inl (hw _ (List.mem_of_getElem? (i := 20) rfl))) (by decide) (t := (.array .byte)) (t' := .int) (by decide) (by decide)))).other W8 (Or.inr (slot_ne (Or.inr (hw _ (List.mem_of_getElem? (i := 18) rfl))) (Or.inl (hw _ (List.mem_of_getElem? (i := 20) rfl))) (by decide) (t := (.array .byte)) (t' := .int) (by decide) (by decide)))).other W12 (Or.inr (slot_ne (Or.inr (hw _ (List.mem_of_getElem? (i := 18) rfl))) (Or.inl (hw _ (List.mem_of_getElem? (i := 20) rfl))) (by decide) (t := (.array .byte)) (t' := .int) (by decide) (by decide)))).other W16 (Or.inr (slot_ne (Or.inr (hw _ (List.mem_of_getElem? (i := 18) rfl))) (Or.inl (hw _ (List.mem_of_getElem? (i := 20) rfl))) (by decide) (t := (.array .byte)) (t' := .int) (by decide) (by decide)))).other W20 (Or.inr (slot_ne (Or.inr (hw _ (List.mem_of_getElem? (i := 18) rfl))) (Or.inl (hw _ (List.mem_of_getElem? (i := 20) rfl))) (by decide) (t := (.array .byte)) (t' := .int) (by decide) (by decide)))), Fw20, (((((F2.other W4 (Or.inr (slot_ne (Or.inr (hw _ (List.mem_of_getElem? (i := 22) rfl))) (Or.inl (hw _ (List.mem_of_getElem? (i := 20) rfl))) (by decide) (t := .int) (t' := .int) (by decide) (by decide)))).other W8 (Or.inr (slot_ne (Or.inr (hw _ (List.mem_of_getElem? (i := 22) rfl))) (Or.inl (hw _ (List.mem_of_getElem? (i := 20) rfl))) (by decide) (t := .int) (t' := .int) (by decide) (by decide)))).other W12 (Or.inr (slot_ne (Or.inr (hw _ (List.mem_of_getElem? (i := 22) rfl))) (Or.inl (hw _ (List.mem_of_getElem? (i := 20) rfl))) (by decide) (t := .int) (t' := .int) (by decide) (by decide)))).other W16 (Or.inr (slot_ne (Or.inr (hw _ (List.mem_of_getElem? (i := 22) rfl))) (Or.inl (hw _ (List.mem_of_getElem? (i := 20) rfl))) (by decide) (t := .int) (t' := .int) (by decide) (by decide)))).other W20 (Or.inr (slot_ne (Or.inr (hw _ (List.mem_of_getElem? (i := 22) rfl))) (Or.inl (hw _ (List.mem_of_getElem? (i := 20) rfl))) (by decide) (t := .int) (t' := .int) (by decide) (by decide)))), (((((F3.other W4 (Or.inr (slot_ne (Or.inl (hw _ (List.mem_of_getElem? (i := 50) rfl))) (Or.inl (hw _ (List.mem_of_getElem? (i := 20) rfl))) (by decide) (t := .int) (t' := .int) (by decide) (by decide)))).other W8 (Or.inr (slot_ne (Or.inl (hw _ (List.mem_of_getElem? (i := 50) rfl))) (Or.inl (hw _ (List.mem_of_getElem? (i := 20) rfl))) (by decide) (t := .int) (t' := .int) (by decide) (by decide)))).other W12 (Or.inr (slot_ne (Or.inl (hw _ (List.mem_of_getElem? (i := 50) rfl))) (Or.inl (hw _ (List.mem_of_getElem? (i := 20) rfl))) (by decide) (t := .int) (t' := .int) (by decide) (by decide)))).other W16 (Or.inr (slot_ne (Or.inl (hw _ (List.mem_of_getElem? (i := 50) rfl))) (Or.inl (hw _ (List.mem_of_getElem? (i := 20) rfl))) (by decide) (t := .int) (t' := .int) (by decide) (by decide)))).other W20 (Or.inr (slot_ne (Or.inl (hw _ (List.mem_of_getElem? (i := 50) rfl))) (Or.inl (hw _ (List.mem_of_getElem? (i := 20) rfl))) (by decide) (t := .int) (t' := .int) (by decide) (by decide)))), (((((F4.other W4 (Or.inr (slot_ne (Or.inl (hw _ (List.mem_of_getElem? (i := 56) rfl))) (Or.inl (hw _ (List.mem_of_getElem? (i := 20) rfl))) (by decide) (t := .int) (t' := .int) (by decide) (by decide)))).other W8 (Or.inr (slot_ne (Or.inl (hw _ (List.mem_of_getElem? (i := 56) rfl))) (Or.inl (hw _ (List.mem_of_getElem? (i := 20) rfl))) (by decide) (t := .int) (t' := .int) (by decide) (by decide)))).other W12 (Or.inr (slot_ne (Or.inl (hw _ (List.mem_of_getElem? (i := 56) rfl))) (Or.inl (hw _ (List.mem_of_getElem? (i := 20) rfl))) (by decide) (t := .int) (t' := .int) (by decide) (by decide)))).other W16 (Or.inr (slot_ne (Or.inl (hw _ (List.mem_of_getElem? (i := 56) rfl))) (Or.inl (hw _ (List.mem_of_getElem? (i := 20) rfl))) (by decide) (t := .int) (t' := .int) (by decide) (by decide)))).other W20 (Or.inr (slot_ne (Or.inl (hw _ (List.mem_of_getElem? (i := 56) rfl))) (Or.inl (hw _ (List.mem_of_getElem? (i := 20) rfl))) (by decide) (t := .int) (t' := .int) (by decide) (by decide))))⟩
def own_cmp (x y : Int64) : Int32 := if x < y then -1 else if x = y then 0 else 1
def own_field (q : Int64) : Int32 := ((q.toUInt64 >>> ((3 : Int32) &&& 0x3f).toInt64.toUInt64).toInt64).toInt32
def own_wire (q : Int64) : Int32 := (q &&& (7 : Int64)).toInt32
def own_at (f w p r : Int32) : Int32 := if f = p then (if w = r then 1 else 0) else 0
theorem ef_rmC (m : MethodId) (x0 : Int64) (x1 : Int64) : entryFrame m #[(.long x0), (.long x1)] 4 = mkF m 0 #[.val (.long x0), .second, .val (.long x1), .second] [] := by first | (simp [entryFrame, mkF, argsToLocals, Value.category]; done) | rfl
theorem pn_3 : plainName "java/lang/Long" = true := by first | (simp [plainName, overriddenIn]; done) | decide +kernel
theorem d8_0 : decode jdk_35_method_42_code 0 = .ok (.lload_n 0, 1) := by decide +kernel
theorem d8_1 : decode jdk_35_method_42_code 1 = .ok (.lload_n 2, 1) := by decide +kernel
theorem d8_2 : decode jdk_35_method_42_code 2 = .ok (.lcmp, 1) := by decide +kernel
theorem d8_3 : decode jdk_35_method_42_code 3 = .ok (.ifCond .ge 7, 3) := by decide +kernel
theorem d8_6 : decode jdk_35_method_42_code 6 = .ok (.iconst (-1), 1) := by decide +kernel
theorem d8_7 : decode jdk_35_method_42_code 7 = .ok (.goto 14, 3) := by decide +kernel
theorem d8_21 : decode jdk_35_method_42_code 21 = .ok (.ireturn, 1) := by decide +kernel
theorem d8_10 : decode jdk_35_method_42_code 10 = .ok (.lload_n 0, 1) := by decide +kernel
theorem d8_11 : decode jdk_35_method_42_code 11 = .ok (.lload_n 2, 1) := by decide +kernel
theorem d8_12 : decode jdk_35_method_42_code 12 = .ok (.lcmp, 1) := by decide +kernel
theorem d8_13 : decode jdk_35_method_42_code 13 = .ok (.ifCond .ne 7, 3) := by decide +kernel
theorem d8_16 : decode jdk_35_method_42_code 16 = .ok (.iconst 0, 1) := by decide +kernel
theorem d8_17 : decode jdk_35_method_42_code 17 = .ok (.goto 4, 3) := by decide +kernel
theorem d8_20 : decode jdk_35_method_42_code 20 = .ok (.iconst 1, 1) := by decide +kernel
def Q_rmC (Z : State) (q1 : Int64) (q2 : Int64) (h0 : Heap) (n0 : Nat) (v : Option Value) (h : Heap) (L : List Loc) : Prop := v = some (.int (own_cmp q1 q2)) ∧ Fr n0 L ∧ h = h0
set_option maxRecDepth 65536 in
set_option maxHeartbeats 40000000 in
theorem rmC (l : Launch) (Z : State) (a0 : Array Value) (hw : ∀ d ∈ tables_1, d.before a0 Z = true) (ws : List Jvm.Cond) (q1 : Int64) (q2 : Int64) (h0 : Heap) (n0 : Nat) (Z0 : n0 ≤ h0.size) :
    MetFree l (⟨"java/lang/Long", "compare", "(JJ)I"⟩ : MethodName) (head1 (Jvm.Cond.code (⟨"java/lang/Long", "compare", "(JJ)I"⟩ : MethodName) jdk_35_method_42_code 4 (some .int) :: ws) ({ frames := 0, cells := 0, slots := 0, locals := 0 } : Room)) (fun a U => a = #[(.long q1), (.long q2)] ∧ Z.Warmed39 U.vm ∧ U.heap = h0) (fun _ _ _ _ _ => True) (fun _ U o U' => ∃ v L, o = .returned v ∧ Q_rmC Z q1 q2 h0 n0 v U'.heap L ∧ FrameEnd U o U' L ({ frames := 0, cells := 0, slots := 0, locals := 0 } : Room).cells ({ frames := 0, cells := 0, slots := 0, locals := 0 } : Room).slots) := by
  refine MetFree.of_bodySF (plainFor_of_name pn_3) hisR ?_
  intro p e s m args below meth c s₁ Bd hml0 hP hK
  obtain ⟨rfl, hZ, hh⟩ := hP
  have hx := Bd.exec
  have hby := Bd.bytes
  have hml : c.maxLocals = 4 := hml0
  have hown : s.vm.findClass "java/lang/Long" = some m.cls := (findClass_of_methodNamed Bd.named :)
  have hnm := (name_of_methodNamed Bd.named Bd.method).1
  have X0 : Stand p l e ({ frames := 0, cells := 0, slots := 0, locals := 0 } : Room) s m #[(.long q1), (.long q2)] below meth c s₁ [] 0 0 := Stand.of_body Bd
  have e0 : s₁.heap = h0 := by rw [← hh, Bd.state]; rfl
  have N0 := Fr.nil n0
  have pre0 : ∀ t, Steps p.tables e below (s₁.setTop (mkF m 0 #[.val (.long q1), .second, .val (.long q2), .second] [])) t → Steps p.tables e below (s₁.setTop (entryFrame m #[(.long q1), (.long q2)] 4)) t := fun t k => castTop (ef_rmC m q1 q2) k
  have pre1 : ∀ t, Steps p.tables e below (s₁.setTop (mkF m 3 #[.val (.long q1), .second, .val (.long q2), .second] [(.int (lcmpW q1 q2))])) t → Steps p.tables e below (s₁.setTop (entryFrame m #[(.long q1), (.long q2)] 4)) t := by
    intro t k
    refine pre0 t ?_
    show Steps p.tables e below (s₁.setTop (mkF m 0 #[.val (.long q1), .second, .val (.long q2), .second] [])) _
    refine XS.lloadN X0.here hx rfl (hb hby d8_0) rfl ?_
    show Steps p.tables e below (s₁.setTop (mkF m 1 #[.val (.long q1), .second, .val (.long q2), .second] [(.long q1)])) _
    refine XS.lloadN X0.here hx rfl (hb hby d8_1) rfl ?_
    show Steps p.tables e below (s₁.setTop (mkF m 2 #[.val (.long q1), .second, .val (.long q2), .second] [(.long q2), (.long q1)])) _
    refine XS.lcmp X0.here hx rfl (hb hby d8_2) rfl ?_
    show Steps p.tables e below (s₁.setTop (mkF m 3 #[.val (.long q1), .second, .val (.long q2), .second] [(.int (lcmpW q1 q2))])) _
    exact k
  by_cases h3 : q1 < q2
  · skip
    have pre2 : ∀ t, Steps p.tables e below (s₁.setTop (mkF m 21 #[.val (.long q1), .second, .val (.long q2), .second] [(.int (-1 : Int32))])) t → Steps p.tables e below (s₁.setTop (entryFrame m #[(.long q1), (.long q2)] 4)) t := by
      intro t k
      refine pre1 t ?_
      refine XS.ifNo X0.here hx rfl (hb hby d8_3) rfl ((if0 _ _).trans (tlt ((lw_lt q1 q2).mpr h3)).2.1) ?_
      show Steps p.tables e below (s₁.setTop (mkF m 6 #[.val (.long q1), .second, .val (.long q2), .second] [])) _
      refine XS.iconst X0.here hx rfl (hb hby d8_6) ?_
      show Steps p.tables e below (s₁.setTop (mkF m 7 #[.val (.long q1), .second, .val (.long q2), .second] [(.int (-1 : Int32))])) _
      refine XS.goto X0.here hx rfl (pc0 := 7) (pc' := 21) rfl (hb hby d8_7) (by decide) (by decide) ?_
      show Steps p.tables e below (s₁.setTop (mkF m 21 #[.val (.long q1), .second, .val (.long q2), .second] [(.int (-1 : Int32))])) _
      exact k
    obtain ⟨fs, hr, hrun, hended, hW, hsame⟩ := X0.leave (v := some (.int (-1 : Int32))) (fun h => by rw [Bd.returns] at h; cases h)
    refine ⟨_, _, pre2 _ ?_, hrun, hended, _, _, rfl, ?_, ⟨_, rfl⟩, hW, hsame.mono (by decide) (by decide)⟩
    · exact retOut X0 hx Bd.returns rfl (Or.inl ⟨rfl, Or.inl rfl, _, rfl⟩) (hb hby d8_21) hr
    · show Q_rmC Z q1 q2 h0 n0 _ s₁.heap _
      rw [e0]
      exact ⟨by simp [own_cmp, h3], N0, rfl⟩
  · skip
    have pre3 : ∀ t, Steps p.tables e below (s₁.setTop (mkF m 13 #[.val (.long q1), .second, .val (.long q2), .second] [(.int (lcmpW q1 q2))])) t → Steps p.tables e below (s₁.setTop (entryFrame m #[(.long q1), (.long q2)] 4)) t := by
      intro t k
      refine pre1 t ?_
      refine XS.ifYes X0.here hx rfl (pc0 := 3) (pc' := 10) rfl (hb hby d8_3) rfl ((if0 _ _).trans (flt (mt (lw_lt q1 q2).mp h3)).2.1) (by decide) (by decide) ?_
      show Steps p.tables e below (s₁.setTop (mkF m 10 #[.val (.long q1), .second, .val (.long q2), .second] [])) _
      refine XS.lloadN X0.here hx rfl (hb hby d8_10) rfl ?_
      show Steps p.tables e below (s₁.setTop (mkF m 11 #[.val (.long q1), .second, .val (.long q2), .second] [(.long q1)])) _
      refine XS.lloadN X0.here hx rfl (hb hby d8_11) rfl ?_
      show Steps p.tables e below (s₁.setTop (mkF m 12 #[.val (.long q1), .second, .val (.long q2), .second] [(.long q2), (.long q1)])) _
      refine XS.lcmp X0.here hx rfl (hb hby d8_12) rfl ?_
      show Steps p.tables e below (s₁.setTop (mkF m 13 #[.val (.long q1), .second, .val (.long q2), .second] [(.int (lcmpW q1 q2))])) _
      exact k
    by_cases h13 : q1 = q2
    · skip
      have pre4 : ∀ t, Steps p.tables e below (s₁.setTop (mkF m 21 #[.val (.long q1), .second, .val (.long q2), .second] [(.int (0 : Int32))])) t → Steps p.tables e below (s₁.setTop (entryFrame m #[(.long q1), (.long q2)] 4)) t := by
        intro t k
        refine pre3 t ?_
        refine XS.ifNo X0.here hx rfl (hb hby d8_13) rfl ((if0 _ _).trans (teq ((lw_eq q1 q2).mpr h13)).2) ?_
        show Steps p.tables e below (s₁.setTop (mkF m 16 #[.val (.long q1), .second, .val (.long q2), .second] [])) _
        refine XS.iconst X0.here hx rfl (hb hby d8_16) ?_
        show Steps p.tables e below (s₁.setTop (mkF m 17 #[.val (.long q1), .second, .val (.long q2), .second] [(.int (0 : Int32))])) _
        refine XS.goto X0.here hx rfl (pc0 := 17) (pc' := 21) rfl (hb hby d8_17) (by decide) (by decide) ?_
        show Steps p.tables e below (s₁.setTop (mkF m 21 #[.val (.long q1), .second, .val (.long q2), .second] [(.int (0 : Int32))])) _
        exact k
      obtain ⟨fs, hr, hrun, hended, hW, hsame⟩ := X0.leave (v := some (.int (0 : Int32))) (fun h => by rw [Bd.returns] at h; cases h)
      refine ⟨_, _, pre4 _ ?_, hrun, hended, _, _, rfl, ?_, ⟨_, rfl⟩, hW, hsame.mono (by decide) (by decide)⟩
      · exact retOut X0 hx Bd.returns rfl (Or.inl ⟨rfl, Or.inl rfl, _, rfl⟩) (hb hby d8_21) hr
      · show Q_rmC Z q1 q2 h0 n0 _ s₁.heap _
        rw [e0]
        exact ⟨by simp [own_cmp, h3, h13], N0, rfl⟩
    · skip
      have pre5 : ∀ t, Steps p.tables e below (s₁.setTop (mkF m 21 #[.val (.long q1), .second, .val (.long q2), .second] [(.int (1 : Int32))])) t → Steps p.tables e below (s₁.setTop (entryFrame m #[(.long q1), (.long q2)] 4)) t := by
        intro t k
        refine pre3 t ?_
        refine XS.ifYes X0.here hx rfl (pc0 := 13) (pc' := 20) rfl (hb hby d8_13) rfl ((if0 _ _).trans (feq (mt (lw_eq q1 q2).mp h13)).2) (by decide) (by decide) ?_
        show Steps p.tables e below (s₁.setTop (mkF m 20 #[.val (.long q1), .second, .val (.long q2), .second] [])) _
        refine XS.iconst X0.here hx rfl (hb hby d8_20) ?_
        show Steps p.tables e below (s₁.setTop (mkF m 21 #[.val (.long q1), .second, .val (.long q2), .second] [(.int (1 : Int32))])) _
        exact k
      obtain ⟨fs, hr, hrun, hended, hW, hsame⟩ := X0.leave (v := some (.int (1 : Int32))) (fun h => by rw [Bd.returns] at h; cases h)
      refine ⟨_, _, pre5 _ ?_, hrun, hended, _, _, rfl, ?_, ⟨_, rfl⟩, hW, hsame.mono (by decide) (by decide)⟩
      · exact retOut X0 hx Bd.returns rfl (Or.inl ⟨rfl, Or.inl rfl, _, rfl⟩) (hb hby d8_21) hr
      · show Q_rmC Z q1 q2 h0 n0 _ s₁.heap _
        rw [e0]
        exact ⟨by simp [own_cmp, h3, h13], N0, rfl⟩
theorem ef_rmU (m : MethodId) (x0 : Int64) (x1 : Int64) : entryFrame m #[(.long x0), (.long x1)] 4 = mkF m 0 #[.val (.long x0), .second, .val (.long x1), .second] [] := by first | (simp [entryFrame, mkF, argsToLocals, Value.category]; done) | rfl
theorem d7_0 : decode jdk_35_method_43_code 0 = .ok (.lload_n 0, 1) := by decide +kernel
theorem d7_1 : decode jdk_35_method_43_code 1 = .ok (.ldc2_w 168, 3) := by decide +kernel
theorem d7_4 : decode jdk_35_method_43_code 4 = .ok (.ladd, 1) := by decide +kernel
theorem d7_5 : decode jdk_35_method_43_code 5 = .ok (.lload_n 2, 1) := by decide +kernel
theorem d7_6 : decode jdk_35_method_43_code 6 = .ok (.ldc2_w 168, 3) := by decide +kernel
theorem d7_9 : decode jdk_35_method_43_code 9 = .ok (.ladd, 1) := by decide +kernel
theorem d7_10 : decode jdk_35_method_43_code 10 = .ok (.invokestatic 302, 3) := by decide +kernel
theorem pd_2 : parseMethodDescriptor "(JJ)I" = some ⟨[.long, .long], some .int⟩ := by decide +kernel
theorem d7_13 : decode jdk_35_method_43_code 13 = .ok (.ireturn, 1) := by decide +kernel
def Q_rmU (Z : State) (q1 : Int64) (q2 : Int64) (h0 : Heap) (n0 : Nat) (v : Option Value) (h : Heap) (L : List Loc) : Prop := v = some (.int (own_cmp (q1 + (-9223372036854775808 : Int64)) (q2 + (-9223372036854775808 : Int64)))) ∧ Fr n0 L ∧ h = h0
set_option maxRecDepth 65536 in
set_option maxHeartbeats 40000000 in
theorem rmU (l : Launch) (Z : State) (a0 : Array Value) (hw : ∀ d ∈ tables_1, d.before a0 Z = true) (ws : List Jvm.Cond) (q1 : Int64) (q2 : Int64) (h0 : Heap) (n0 : Nat) (Z0 : n0 ≤ h0.size) :
    MetFree l (⟨"java/lang/Long", "compareUnsigned", "(JJ)I"⟩ : MethodName) (head1 (Jvm.Cond.code (⟨"java/lang/Long", "compareUnsigned", "(JJ)I"⟩ : MethodName) jdk_35_method_43_code 4 (some .int) :: ws) ({ frames := 1, cells := 0, slots := 0, locals := 20 } : Room)) (fun a U => a = #[(.long q1), (.long q2)] ∧ Z.Warmed39 U.vm ∧ U.heap = h0) (fun _ _ _ _ _ => True) (fun _ U o U' => ∃ v L, o = .returned v ∧ Q_rmU Z q1 q2 h0 n0 v U'.heap L ∧ FrameEnd U o U' L ({ frames := 1, cells := 0, slots := 0, locals := 20 } : Room).cells ({ frames := 1, cells := 0, slots := 0, locals := 20 } : Room).slots) := by
  refine MetFree.of_bodySF (plainFor_of_name pn_3) hisR ?_
  intro p e s m args below meth c s₁ Bd hml0 hP hK
  obtain ⟨rfl, hZ, hh⟩ := hP
  have hx := Bd.exec
  have hby := Bd.bytes
  have hml : c.maxLocals = 4 := hml0
  have hown : s.vm.findClass "java/lang/Long" = some m.cls := (findClass_of_methodNamed Bd.named :)
  have hnm := (name_of_methodNamed Bd.named Bd.method).1
  have X0 : Stand p l e ({ frames := 1, cells := 0, slots := 0, locals := 20 } : Room) s m #[(.long q1), (.long q2)] below meth c s₁ [] 0 0 := Stand.of_body Bd
  have e0 : s₁.heap = h0 := by rw [← hh, Bd.state]; rfl
  have N0 := Fr.nil n0
  have pre0 : ∀ t, Steps p.tables e below (s₁.setTop (mkF m 0 #[.val (.long q1), .second, .val (.long q2), .second] [])) t → Steps p.tables e below (s₁.setTop (entryFrame m #[(.long q1), (.long q2)] 4)) t := fun t k => castTop (ef_rmU m q1 q2) k
  obtain ⟨_, _, ⟨T1, L1, k1, n1⟩, -, X1, ⟨Lc1, hQ1, l1, y1, z1⟩, st1⟩ := Jvm.LawKit.callS X0 hx (y := (⟨"java/lang/Long", "compare", "(JJ)I"⟩ : MethodName)) hown (mvT hZ (hw _ (List.mem_of_getElem? (i := 42) rfl))) (mvT hZ (hw _ (List.mem_of_getElem? (i := 43) rfl))) (mvT hZ (hw _ (List.mem_of_getElem? (i := 39) rfl))) (mvT hZ (hw _ (List.mem_of_getElem? (i := 44) rfl))) (by decide) (backOf (W := 0) (rmC l Z a0 hw [] (q1 + (-9223372036854775808 : Int64)) (q2 + (-9223372036854775808 : Int64))  h0 n0 Z0 ) hZ (hw _ (List.mem_of_getElem? (i := 44) rfl)) (hw _ (List.mem_of_getElem? (i := 39) rfl)) (by decide) (by decide)) (g := (mkF m 10 #[.val (.long q1), .second, .val (.long q2), .second] [(.long (q2 + (-9223372036854775808 : Int64))), (.long (q1 + (-9223372036854775808 : Int64)))])) rfl (by rw [hml]; rfl) (argsL := [(.long (q1 + (-9223372036854775808 : Int64))), (.long (q2 + (-9223372036854775808 : Int64)))]) (rest := []) (lenOf pd_2 rfl) rfl (by show 2 * 0 + _ ≤ _; exact Nat.le_of_eq rfl) (hb hby d7_10) (fun _ _ => ⟨rfl, e0, (by decide : 0 + 0 ≤ _), (by decide : 0 + 0 ≤ _)⟩)
  dsimp only [Pt.U, Pt.locs, Pt.cells, Pt.slots] at X1 l1 y1 z1 st1 hQ1
  subst l1 y1 z1
  obtain ⟨rfl, N1q, hq1⟩ := hQ1
  have N1 := Fr.app N0 N1q
  have pre2 : ∀ t, Steps p.tables e below (T1.setTop (mkF m 13 #[.val (.long q1), .second, .val (.long q2), .second] [(.int (own_cmp (q1 + (-9223372036854775808 : Int64)) (q2 + (-9223372036854775808 : Int64))))])) t → Steps p.tables e below (s₁.setTop (entryFrame m #[(.long q1), (.long q2)] 4)) t := by
    intro t k
    refine pre0 t ?_
    show Steps p.tables e below (s₁.setTop (mkF m 0 #[.val (.long q1), .second, .val (.long q2), .second] [])) _
    refine XS.lloadN X0.here hx rfl (hb hby d7_0) rfl ?_
    show Steps p.tables e below (s₁.setTop (mkF m 1 #[.val (.long q1), .second, .val (.long q2), .second] [(.long q1)])) _
    refine X0.ldc2Long hx hown (mvT hZ (hw _ (List.mem_of_getElem? (i := 41) rfl))) (g := (mkF m 1 #[.val (.long q1), .second, .val (.long q2), .second] [(.long q1)])) rfl (hb hby d7_1) _ ?_
    show Steps p.tables e below (s₁.setTop (mkF m 4 #[.val (.long q1), .second, .val (.long q2), .second] [(.long (-9223372036854775808 : Int64)), (.long q1)])) _
    refine XS.ladd X0.here hx rfl (hb hby d7_4) rfl ?_
    show Steps p.tables e below (s₁.setTop (mkF m 5 #[.val (.long q1), .second, .val (.long q2), .second] [(.long (q1 + (-9223372036854775808 : Int64)))])) _
    refine XS.lloadN X0.here hx rfl (hb hby d7_5) rfl ?_
    show Steps p.tables e below (s₁.setTop (mkF m 6 #[.val (.long q1), .second, .val (.long q2), .second] [(.long q2), (.long (q1 + (-9223372036854775808 : Int64)))])) _
    refine X0.ldc2Long hx hown (mvT hZ (hw _ (List.mem_of_getElem? (i := 41) rfl))) (g := (mkF m 6 #[.val (.long q1), .second, .val (.long q2), .second] [(.long q2), (.long (q1 + (-9223372036854775808 : Int64)))])) rfl (hb hby d7_6) _ ?_
    show Steps p.tables e below (s₁.setTop (mkF m 9 #[.val (.long q1), .second, .val (.long q2), .second] [(.long (-9223372036854775808 : Int64)), (.long q2), (.long (q1 + (-9223372036854775808 : Int64)))])) _
    refine XS.ladd X0.here hx rfl (hb hby d7_9) rfl ?_
    show Steps p.tables e below (s₁.setTop (mkF m 10 #[.val (.long q1), .second, .val (.long q2), .second] [(.long (q2 + (-9223372036854775808 : Int64))), (.long (q1 + (-9223372036854775808 : Int64)))])) _
    refine st1 _ ?_
    show Steps p.tables e below (T1.setTop (mkF m 13 #[.val (.long q1), .second, .val (.long q2), .second] [(.int (own_cmp (q1 + (-9223372036854775808 : Int64)) (q2 + (-9223372036854775808 : Int64))))])) _
    exact k
  obtain ⟨fs, hr, hrun, hended, hW, hsame⟩ := X1.leave (v := some (.int (own_cmp (q1 + (-9223372036854775808 : Int64)) (q2 + (-9223372036854775808 : Int64))))) (fun h => by rw [Bd.returns] at h; cases h)
  refine ⟨_, _, pre2 _ ?_, hrun, hended, _, _, rfl, ?_, ⟨_, rfl⟩, hW, hsame.mono (by decide) (by decide)⟩
  · exact retOut X1 hx Bd.returns rfl (Or.inl ⟨rfl, Or.inl rfl, _, rfl⟩) (hb hby d7_13) hr
  · show Q_rmU Z q1 q2 h0 n0 _ T1.heap _
    rw [hq1]
    exact ⟨rfl, N1, rfl⟩
theorem ef_rmF (m : MethodId) (x0 : Int64) : entryFrame m #[(.long x0)] 2 = mkF m 0 #[.val (.long x0), .second] [] := by first | (simp [entryFrame, mkF, argsToLocals, Value.category]; done) | rfl
theorem pn_2 : plainName own_W = true := by first | (simp [plainName, overriddenIn]; done) | decide +kernel
theorem d9_0 : decode prog_15_method_3_code 0 = .ok (.lload_n 0, 1) := by decide +kernel
theorem d9_1 : decode prog_15_method_3_code 1 = .ok (.iconst 3, 1) := by decide +kernel
theorem d9_2 : decode prog_15_method_3_code 2 = .ok (.lushr, 1) := by decide +kernel
theorem d9_3 : decode prog_15_method_3_code 3 = .ok (.l2i, 1) := by decide +kernel
theorem d9_4 : decode prog_15_method_3_code 4 = .ok (.ireturn, 1) := by decide +kernel
def Q_rmF (Z : State) (q1 : Int64) (h0 : Heap) (n0 : Nat) (v : Option Value) (h : Heap) (L : List Loc) : Prop := v = some (.int (own_field q1)) ∧ Fr n0 L ∧ h = h0
set_option maxRecDepth 65536 in
set_option maxHeartbeats 40000000 in
theorem rmF (l : Launch) (Z : State) (a0 : Array Value) (hw : ∀ d ∈ tables_1, d.before a0 Z = true) (ws : List Jvm.Cond) (q1 : Int64) (h0 : Heap) (n0 : Nat) (Z0 : n0 ≤ h0.size) :
    MetFree l (⟨own_W, "field", "(J)I"⟩ : MethodName) (head1 (Jvm.Cond.code (⟨own_W, "field", "(J)I"⟩ : MethodName) prog_15_method_3_code 2 (some .int) :: ws) ({ frames := 0, cells := 0, slots := 0, locals := 0 } : Room)) (fun a U => a = #[(.long q1)] ∧ Z.Warmed39 U.vm ∧ U.heap = h0) (fun _ _ _ _ _ => True) (fun _ U o U' => ∃ v L, o = .returned v ∧ Q_rmF Z q1 h0 n0 v U'.heap L ∧ FrameEnd U o U' L ({ frames := 0, cells := 0, slots := 0, locals := 0 } : Room).cells ({ frames := 0, cells := 0, slots := 0, locals := 0 } : Room).slots) := by
  refine MetFree.of_bodySF (plainFor_of_name pn_2) hisR ?_
  intro p e s m args below meth c s₁ Bd hml0 hP hK
  obtain ⟨rfl, hZ, hh⟩ := hP
  have hx := Bd.exec
  have hby := Bd.bytes
  have hml : c.maxLocals = 2 := hml0
  have hown : s.vm.findClass own_W = some m.cls := (findClass_of_methodNamed Bd.named :)
  have hnm := (name_of_methodNamed Bd.named Bd.method).1
  have X0 : Stand p l e ({ frames := 0, cells := 0, slots := 0, locals := 0 } : Room) s m #[(.long q1)] below meth c s₁ [] 0 0 := Stand.of_body Bd
  have e0 : s₁.heap = h0 := by rw [← hh, Bd.state]; rfl
  have N0 := Fr.nil n0
  have pre0 : ∀ t, Steps p.tables e below (s₁.setTop (mkF m 0 #[.val (.long q1), .second] [])) t → Steps p.tables e below (s₁.setTop (entryFrame m #[(.long q1)] 2)) t := fun t k => castTop (ef_rmF m q1) k
  have pre1 : ∀ t, Steps p.tables e below (s₁.setTop (mkF m 4 #[.val (.long q1), .second] [(.int (((q1.toUInt64 >>> ((3 : Int32) &&& 0x3f).toInt64.toUInt64).toInt64).toInt32))])) t → Steps p.tables e below (s₁.setTop (entryFrame m #[(.long q1)] 2)) t := by
    intro t k
    refine pre0 t ?_
    show Steps p.tables e below (s₁.setTop (mkF m 0 #[.val (.long q1), .second] [])) _
    refine XS.lloadN X0.here hx rfl (hb hby d9_0) rfl ?_
    show Steps p.tables e below (s₁.setTop (mkF m 1 #[.val (.long q1), .second] [(.long q1)])) _
    refine XS.iconst X0.here hx rfl (hb hby d9_1) ?_
    show Steps p.tables e below (s₁.setTop (mkF m 2 #[.val (.long q1), .second] [(.int (3 : Int32)), (.long q1)])) _
    refine XS.lushr X0.here hx rfl (hb hby d9_2) rfl ?_
    show Steps p.tables e below (s₁.setTop (mkF m 3 #[.val (.long q1), .second] [(.long ((q1.toUInt64 >>> ((3 : Int32) &&& 0x3f).toInt64.toUInt64).toInt64))])) _
    refine XS.l2i X0.here hx rfl (hb hby d9_3) rfl ?_
    show Steps p.tables e below (s₁.setTop (mkF m 4 #[.val (.long q1), .second] [(.int (((q1.toUInt64 >>> ((3 : Int32) &&& 0x3f).toInt64.toUInt64).toInt64).toInt32))])) _
    exact k
  obtain ⟨fs, hr, hrun, hended, hW, hsame⟩ := X0.leave (v := some (.int (((q1.toUInt64 >>> ((3 : Int32) &&& 0x3f).toInt64.toUInt64).toInt64).toInt32))) (fun h => by rw [Bd.returns] at h; cases h)
  refine ⟨_, _, pre1 _ ?_, hrun, hended, _, _, rfl, ?_, ⟨_, rfl⟩, hW, hsame.mono (by decide) (by decide)⟩
  · exact retOut X0 hx Bd.returns rfl (Or.inl ⟨rfl, Or.inl rfl, _, rfl⟩) (hb hby d9_4) hr
  · show Q_rmF Z q1 h0 n0 _ s₁.heap _
    rw [e0]
    exact ⟨rfl, N0, rfl⟩
theorem ef_rmW (m : MethodId) (x0 : Int64) : entryFrame m #[(.long x0)] 2 = mkF m 0 #[.val (.long x0), .second] [] := by first | (simp [entryFrame, mkF, argsToLocals, Value.category]; done) | rfl
theorem d10_0 : decode prog_15_method_4_code 0 = .ok (.lload_n 0, 1) := by decide +kernel
theorem d10_1 : decode prog_15_method_4_code 1 = .ok (.ldc2_w 9, 3) := by decide +kernel
theorem d10_4 : decode prog_15_method_4_code 4 = .ok (.land, 1) := by decide +kernel
theorem d10_5 : decode prog_15_method_4_code 5 = .ok (.l2i, 1) := by decide +kernel
theorem d10_6 : decode prog_15_method_4_code 6 = .ok (.ireturn, 1) := by decide +kernel
def Q_rmW (Z : State) (q1 : Int64) (h0 : Heap) (n0 : Nat) (v : Option Value) (h : Heap) (L : List Loc) : Prop := v = some (.int (own_wire q1)) ∧ Fr n0 L ∧ h = h0
set_option maxRecDepth 65536 in
set_option maxHeartbeats 40000000 in
theorem rmW (l : Launch) (Z : State) (a0 : Array Value) (hw : ∀ d ∈ tables_1, d.before a0 Z = true) (ws : List Jvm.Cond) (q1 : Int64) (h0 : Heap) (n0 : Nat) (Z0 : n0 ≤ h0.size) :
    MetFree l (⟨own_W, "wireType", "(J)I"⟩ : MethodName) (head1 (Jvm.Cond.code (⟨own_W, "wireType", "(J)I"⟩ : MethodName) prog_15_method_4_code 2 (some .int) :: ws) ({ frames := 0, cells := 0, slots := 0, locals := 0 } : Room)) (fun a U => a = #[(.long q1)] ∧ Z.Warmed39 U.vm ∧ U.heap = h0) (fun _ _ _ _ _ => True) (fun _ U o U' => ∃ v L, o = .returned v ∧ Q_rmW Z q1 h0 n0 v U'.heap L ∧ FrameEnd U o U' L ({ frames := 0, cells := 0, slots := 0, locals := 0 } : Room).cells ({ frames := 0, cells := 0, slots := 0, locals := 0 } : Room).slots) := by
  refine MetFree.of_bodySF (plainFor_of_name pn_2) hisR ?_
  intro p e s m args below meth c s₁ Bd hml0 hP hK
  obtain ⟨rfl, hZ, hh⟩ := hP
  have hx := Bd.exec
  have hby := Bd.bytes
  have hml : c.maxLocals = 2 := hml0
  have hown : s.vm.findClass own_W = some m.cls := (findClass_of_methodNamed Bd.named :)
  have hnm := (name_of_methodNamed Bd.named Bd.method).1
  have X0 : Stand p l e ({ frames := 0, cells := 0, slots := 0, locals := 0 } : Room) s m #[(.long q1)] below meth c s₁ [] 0 0 := Stand.of_body Bd
  have e0 : s₁.heap = h0 := by rw [← hh, Bd.state]; rfl
  have N0 := Fr.nil n0
  have pre0 : ∀ t, Steps p.tables e below (s₁.setTop (mkF m 0 #[.val (.long q1), .second] [])) t → Steps p.tables e below (s₁.setTop (entryFrame m #[(.long q1)] 2)) t := fun t k => castTop (ef_rmW m q1) k
  have pre1 : ∀ t, Steps p.tables e below (s₁.setTop (mkF m 6 #[.val (.long q1), .second] [(.int ((q1 &&& (7 : Int64)).toInt32))])) t → Steps p.tables e below (s₁.setTop (entryFrame m #[(.long q1)] 2)) t := by
    intro t k
    refine pre0 t ?_
    show Steps p.tables e below (s₁.setTop (mkF m 0 #[.val (.long q1), .second] [])) _
    refine XS.lloadN X0.here hx rfl (hb hby d10_0) rfl ?_
    show Steps p.tables e below (s₁.setTop (mkF m 1 #[.val (.long q1), .second] [(.long q1)])) _
    refine X0.ldc2Long hx hown (mvT hZ (hw _ (List.mem_of_getElem? (i := 54) rfl))) (g := (mkF m 1 #[.val (.long q1), .second] [(.long q1)])) rfl (hb hby d10_1) _ ?_
    show Steps p.tables e below (s₁.setTop (mkF m 4 #[.val (.long q1), .second] [(.long (7 : Int64)), (.long q1)])) _
    refine XS.land X0.here hx rfl (hb hby d10_4) rfl ?_
    show Steps p.tables e below (s₁.setTop (mkF m 5 #[.val (.long q1), .second] [(.long (q1 &&& (7 : Int64)))])) _
    refine XS.l2i X0.here hx rfl (hb hby d10_5) rfl ?_
    show Steps p.tables e below (s₁.setTop (mkF m 6 #[.val (.long q1), .second] [(.int ((q1 &&& (7 : Int64)).toInt32))])) _
    exact k
  obtain ⟨fs, hr, hrun, hended, hW, hsame⟩ := X0.leave (v := some (.int ((q1 &&& (7 : Int64)).toInt32))) (fun h => by rw [Bd.returns] at h; cases h)
  refine ⟨_, _, pre1 _ ?_, hrun, hended, _, _, rfl, ?_, ⟨_, rfl⟩, hW, hsame.mono (by decide) (by decide)⟩
  · exact retOut X0 hx Bd.returns rfl (Or.inl ⟨rfl, Or.inl rfl, _, rfl⟩) (hb hby d10_6) hr
  · show Q_rmW Z q1 h0 n0 _ s₁.heap _
    rw [e0]
    exact ⟨rfl, N0, rfl⟩
theorem ef_rmN (m : MethodId) (x0 : Addr) : entryFrame m #[(.ref x0)] 3 = mkF m 0 #[.val (.ref x0), .unset, .unset] [] := by first | (simp [entryFrame, mkF, argsToLocals, Value.category]; done) | rfl
theorem d4_0 : decode prog_13_method_3_code 0 = .ok (.aload_n 0, 1) := by decide +kernel
theorem d4_1 : decode prog_13_method_3_code 1 = .ok (.getfield 16, 3) := by decide +kernel
theorem d4_4 : decode prog_13_method_3_code 4 = .ok (.aload_n 0, 1) := by decide +kernel
theorem d4_5 : decode prog_13_method_3_code 5 = .ok (.getfield 20, 3) := by decide +kernel
theorem d4_8 : decode prog_13_method_3_code 8 = .ok (.if_icmp .ne 5, 3) := by decide +kernel
theorem d4_13 : decode prog_13_method_3_code 13 = .ok (.aload_n 0, 1) := by decide +kernel
theorem d4_14 : decode prog_13_method_3_code 14 = .ok (.invokevirtual 23, 3) := by decide +kernel
theorem pd_3 : parseMethodDescriptor "()J" = some ⟨[], some .long⟩ := by decide +kernel
theorem d4_17 : decode prog_13_method_3_code 17 = .ok (.lstore_n 1, 1) := by decide +kernel
theorem d4_18 : decode prog_13_method_3_code 18 = .ok (.lload_n 1, 1) := by decide +kernel
theorem d4_19 : decode prog_13_method_3_code 19 = .ok (.ldc2_w 27, 3) := by decide +kernel
theorem d4_22 : decode prog_13_method_3_code 22 = .ok (.invokestatic 29, 3) := by decide +kernel
theorem d4_25 : decode prog_13_method_3_code 25 = .ok (.ifCond .gt 10, 3) := by decide +kernel
theorem d4_28 : decode prog_13_method_3_code 28 = .ok (.lload_n 1, 1) := by decide +kernel
theorem d4_29 : decode prog_13_method_3_code 29 = .ok (.invokestatic 35, 3) := by decide +kernel
theorem d4_32 : decode prog_13_method_3_code 32 = .ok (.ifCond .ne 20, 3) := by decide +kernel
theorem d4_52 : decode prog_13_method_3_code 52 = .ok (.aload_n 0, 1) := by decide +kernel
theorem d4_53 : decode prog_13_method_3_code 53 = .ok (.lload_n 1, 1) := by decide +kernel
theorem d4_54 : decode prog_13_method_3_code 54 = .ok (.invokestatic 35, 3) := by decide +kernel
theorem d4_57 : decode prog_13_method_3_code 57 = .ok (.putfield 54, 3) := by decide +kernel
theorem d4_60 : decode prog_13_method_3_code 60 = .ok (.aload_n 0, 1) := by decide +kernel
theorem d4_61 : decode prog_13_method_3_code 61 = .ok (.lload_n 1, 1) := by decide +kernel
theorem d4_62 : decode prog_13_method_3_code 62 = .ok (.invokestatic 56, 3) := by decide +kernel
theorem d4_65 : decode prog_13_method_3_code 65 = .ok (.putfield 59, 3) := by decide +kernel
theorem d4_68 : decode prog_13_method_3_code 68 = .ok (.iconst 1, 1) := by decide +kernel
theorem d4_69 : decode prog_13_method_3_code 69 = .ok (.ireturn, 1) := by decide +kernel
def Q_rmN (Z : State) (a1 : Addr) (a2 : Addr) (cl : Cell) (b0 : Int32) (b1 : Int32) (b2 : Int32) (b3 : Int32) (b4 : Int32) (h0 : Heap) (n0 : Nat) (v : Option Value) (h : Heap) (L : List Loc) : Prop := v = some (.int (1 : Int32)) ∧ Fr n0 L ∧ Keep h0 h [a1] ∧ Exa Z h a1 site_130.cls ∧ Fld Z h a1 site_130.cls "field" "I" (.int (own_field (own_var b0 b1 b2 b3 b4))) ∧ Fld Z h a1 site_130.cls "wireType" "I" (.int (own_wire (own_var b0 b1 b2 b3 b4)))
set_option maxRecDepth 65536 in
set_option maxHeartbeats 40000000 in
theorem rmN (l : Launch) (Z : State) (a0 : Array Value) (hw : ∀ d ∈ tables_1, d.before a0 Z = true) (ws : List Jvm.Cond) (a1 : Addr) (a2 : Addr) (cl : Cell) (b0 : Int32) (b1 : Int32) (b2 : Int32) (b3 : Int32) (b4 : Int32) (h0 : Heap) (n0 : Nat) (Z0 : n0 ≤ h0.size) (F0 : Fld Z h0 a1 site_130.cls "bytes" "[B" (.ref a2)) (F1 : Fld Z h0 a1 site_130.cls "position" "I" (.int (0 : Int32))) (F2 : Fld Z h0 a1 site_130.cls "end" "I" (.int (5 : Int32))) (F3 : Fld Z h0 a1 site_130.cls "field" "I" (.int (0 : Int32))) (F4 : Fld Z h0 a1 site_130.cls "wireType" "I" (.int (0 : Int32))) (E1 : Exa Z h0 a1 site_130.cls) (g_a1 : n0 ≤ a1) (Ar : Arr Z h0 a2 cl .byte) (Sz : cl.slots.size = (5 : Int32).toNatClampNeg) (ne_a2_a1 : a2 ≠ a1) (t0 : cl.slots[0]? = some (.int b0)) (t1 : cl.slots[1]? = some (.int b1)) (t2 : cl.slots[2]? = some (.int b2)) (t3 : cl.slots[3]? = some (.int b3)) (t4 : cl.slots[4]? = some (.int b4)) (u0 : b0 < (0 : Int32)) (u1 : b1 < (0 : Int32)) (u2 : b2 < (0 : Int32)) (u3 : b3 < (0 : Int32)) (u4 : ¬ (b4 < (0 : Int32))) (hu : ¬ ((0 : Int32) < own_cmp ((own_var b0 b1 b2 b3 b4) + (-9223372036854775808 : Int64)) ((4294967295 : Int64) + (-9223372036854775808 : Int64)))) (hf : ¬ (own_field (own_var b0 b1 b2 b3 b4) = (0 : Int32))) :
    MetFree l (⟨site_130.cls, "next", "()Z"⟩ : MethodName) (head1 (Jvm.Cond.code (⟨site_130.cls, "next", "()Z"⟩ : MethodName) prog_13_method_3_code 3 (some .boolean) :: ws) ({ frames := 2, cells := 0, slots := 0, locals := 40 } : Room)) (fun a U => a = #[(.ref a1)] ∧ Z.Warmed39 U.vm ∧ U.heap = h0) (fun _ _ _ _ _ => True) (fun _ U o U' => ∃ v L, o = .returned v ∧ Q_rmN Z a1 a2 cl b0 b1 b2 b3 b4 h0 n0 v U'.heap L ∧ FrameEnd U o U' L ({ frames := 2, cells := 0, slots := 0, locals := 40 } : Room).cells ({ frames := 2, cells := 0, slots := 0, locals := 40 } : Room).slots) := by
  refine MetFree.of_bodySF (plainFor_of_name pn_0) hisR ?_
  intro p e s m args below meth c s₁ Bd hml0 hP hK
  obtain ⟨rfl, hZ, hh⟩ := hP
  have hx := Bd.exec
  have hby := Bd.bytes
  have hml : c.maxLocals = 3 := hml0
  have hown : s.vm.findClass site_130.cls = some m.cls := (findClass_of_methodNamed Bd.named :)
  have hnm := (name_of_methodNamed Bd.named Bd.method).1
  have X0 : Stand p l e ({ frames := 2, cells := 0, slots := 0, locals := 40 } : Room) s m #[(.ref a1)] below meth c s₁ [] 0 0 := Stand.of_body Bd
  have e0 : s₁.heap = h0 := by rw [← hh, Bd.state]; rfl
  have N0 := Fr.nil n0
  have pre0 : ∀ t, Steps p.tables e below (s₁.setTop (mkF m 0 #[.val (.ref a1), .unset, .unset] [])) t → Steps p.tables e below (s₁.setTop (entryFrame m #[(.ref a1)] 3)) t := fun t k => castTop (ef_rmN m a1) k
  obtain ⟨T1, X1, e1, st1⟩ := getF X0 hx hZ hown (host := "") (Or.inl (hw _ (List.mem_of_getElem? (i := 19) rfl))) Via.refl e0 F1 (g := (mkF m 1 #[.val (.ref a1), .unset, .unset] [(.ref a1)])) rfl rfl (hb hby d4_1)
  obtain ⟨T2, X2, e2, st2⟩ := getF X1 hx hZ hown (host := "") (Or.inl (hw _ (List.mem_of_getElem? (i := 21) rfl))) Via.refl e1 F2 (g := (mkF m 5 #[.val (.ref a1), .unset, .unset] [(.ref a1), (.int (0 : Int32))])) rfl rfl (hb hby d4_5)
  obtain ⟨cq3, q3, q3'⟩ := E1.cell
  obtain ⟨_, _, ⟨T3, L3, k3, n3⟩, -, X3, ⟨Lc3, hQ3, l3, y3, z3⟩, st3⟩ := X2.privateBack hx (y := (⟨site_130.cls, "readRawVarint", "()J"⟩ : MethodName)) hown (mvT hZ (hw _ (List.mem_of_getElem? (i := 28) rfl))) (mvT hZ (hw _ (List.mem_of_getElem? (i := 29) rfl))) (own_selP (y := (⟨site_130.cls, "readRawVarint", "()J"⟩ : MethodName)) hZ (hw _ (List.mem_of_getElem? (i := 6) rfl)) (hw _ (List.mem_of_getElem? (i := 29) rfl)) (hw _ (List.mem_of_getElem? (i := 30) rfl)) (by decide)) (Cond.privateMethod_at (mvP hZ (hw _ (List.mem_of_getElem? (i := 30) rfl)) (args := #[]))) (mvT hZ (hw _ (List.mem_of_getElem? (i := 31) rfl))) (by decide) (backOf (W := 0) (rmV l Z a0 hw [] a1 a2 cl b0 b1 b2 b3 b4 h0 n0 Z0 F0 F1 F2 F3 F4 E1 g_a1 Ar Sz ne_a2_a1 t0 t1 t2 t3 t4 u0 u1 u2 u3 u4) hZ (hw _ (List.mem_of_getElem? (i := 31) rfl)) (hw _ (List.mem_of_getElem? (i := 7) rfl)) (by decide) (by decide)) (g := (mkF m 14 #[.val (.ref a1), .unset, .unset] [(.ref a1)])) rfl (by rw [hml]; rfl) (Steps.refl _) (a := a1) (by rw [e2]; exact q3) q3' (argsL := []) (rest := []) (lenOf pd_3 rfl) rfl (by show 2 * 0 + _ ≤ _; exact Nat.le_of_eq rfl) (hb hby d4_14) (fun _ _ => ⟨rfl, e2, (by decide : 0 + 0 ≤ _), (by decide : 0 + 0 ≤ _)⟩)
  dsimp only [Pt.U, Pt.locs, Pt.cells, Pt.slots] at X3 l3 y3 z3 st3 hQ3
  subst l3 y3 z3
  obtain ⟨rfl, N3q, Kq3, Eq3, G0q3, G1q3, G2q3, G3q3, G4q3⟩ := hQ3
  have N3 := Fr.app N0 N3q
  have K3 : Keep h0 T3.heap [a1] := (Keep.refl h0 [a1]).trans Kq3 (allS (Or.inl (List.mem_of_getElem? (i := 0) rfl)) all0)
  obtain ⟨_, _, ⟨T4, L4, k4, n4⟩, -, X4, ⟨Lc4, hQ4, l4, y4, z4⟩, st4⟩ := Jvm.LawKit.callS X3 hx (y := (⟨"java/lang/Long", "compareUnsigned", "(JJ)I"⟩ : MethodName)) hown (mvT hZ (hw _ (List.mem_of_getElem? (i := 37) rfl))) (mvT hZ (hw _ (List.mem_of_getElem? (i := 38) rfl))) (mvT hZ (hw _ (List.mem_of_getElem? (i := 39) rfl))) (mvT hZ (hw _ (List.mem_of_getElem? (i := 40) rfl))) (by decide) (backOf (W := 0) (rmU l Z a0 hw [] (own_var b0 b1 b2 b3 b4) (4294967295 : Int64)  T3.heap n0 (Nat.le_trans Z0 Kq3.1) ) hZ (hw _ (List.mem_of_getElem? (i := 40) rfl)) (hw _ (List.mem_of_getElem? (i := 39) rfl)) (by decide) (by decide)) (g := (mkF m 22 #[.val (.ref a1), .val (.long (own_var b0 b1 b2 b3 b4)), .second] [(.long (4294967295 : Int64)), (.long (own_var b0 b1 b2 b3 b4))])) rfl (by rw [hml]; rfl) (argsL := [(.long (own_var b0 b1 b2 b3 b4)), (.long (4294967295 : Int64))]) (rest := []) (lenOf pd_2 rfl) rfl (by show 2 * 0 + _ ≤ _; exact Nat.le_of_eq rfl) (hb hby d4_22) (fun _ _ => ⟨rfl, rfl, (by decide : 0 + 0 ≤ _), (by decide : 0 + 0 ≤ _)⟩)
  dsimp only [Pt.U, Pt.locs, Pt.cells, Pt.slots] at X4 l4 y4 z4 st4 hQ4
  subst l4 y4 z4
  obtain ⟨rfl, N4q, hq4⟩ := hQ4
  have N4 := Fr.app N3 N4q
  obtain ⟨_, _, ⟨T5, L5, k5, n5⟩, -, X5, ⟨Lc5, hQ5, l5, y5, z5⟩, st5⟩ := Jvm.LawKit.callS X4 hx (y := (⟨own_W, "field", "(J)I"⟩ : MethodName)) hown (mvT hZ (hw _ (List.mem_of_getElem? (i := 45) rfl))) (mvT hZ (hw _ (List.mem_of_getElem? (i := 46) rfl))) (mvT hZ (hw _ (List.mem_of_getElem? (i := 47) rfl))) (mvT hZ (hw _ (List.mem_of_getElem? (i := 48) rfl))) (by decide) (backOf (W := 0) (rmF l Z a0 hw [] (own_var b0 b1 b2 b3 b4)  T3.heap n0 (Nat.le_trans Z0 Kq3.1) ) hZ (hw _ (List.mem_of_getElem? (i := 48) rfl)) (hw _ (List.mem_of_getElem? (i := 47) rfl)) (by decide) (by decide)) (g := (mkF m 29 #[.val (.ref a1), .val (.long (own_var b0 b1 b2 b3 b4)), .second] [(.long (own_var b0 b1 b2 b3 b4))])) rfl (by rw [hml]; rfl) (argsL := [(.long (own_var b0 b1 b2 b3 b4))]) (rest := []) (lenOf pd_1 rfl) rfl (by show 2 * 0 + _ ≤ _; exact Nat.le_of_eq rfl) (hb hby d4_29) (fun _ _ => ⟨rfl, hq4, (by decide : 0 + 0 ≤ _), (by decide : 0 + 0 ≤ _)⟩)
  dsimp only [Pt.U, Pt.locs, Pt.cells, Pt.slots] at X5 l5 y5 z5 st5 hQ5
  subst l5 y5 z5
  obtain ⟨rfl, N5q, hq5⟩ := hQ5
  have N5 := Fr.app N4 N5q
  obtain ⟨_, _, ⟨T6, L6, k6, n6⟩, -, X6, ⟨Lc6, hQ6, l6, y6, z6⟩, st6⟩ := Jvm.LawKit.callS X5 hx (y := (⟨own_W, "field", "(J)I"⟩ : MethodName)) hown (mvT hZ (hw _ (List.mem_of_getElem? (i := 45) rfl))) (mvT hZ (hw _ (List.mem_of_getElem? (i := 46) rfl))) (mvT hZ (hw _ (List.mem_of_getElem? (i := 47) rfl))) (mvT hZ (hw _ (List.mem_of_getElem? (i := 48) rfl))) (by decide) (backOf (W := 1) (rmF l Z a0 hw [] (own_var b0 b1 b2 b3 b4)  T3.heap n0 (Nat.le_trans Z0 Kq3.1) ) hZ (hw _ (List.mem_of_getElem? (i := 48) rfl)) (hw _ (List.mem_of_getElem? (i := 47) rfl)) (by decide) (by decide)) (g := (mkF m 54 #[.val (.ref a1), .val (.long (own_var b0 b1 b2 b3 b4)), .second] [(.long (own_var b0 b1 b2 b3 b4)), (.ref a1)])) rfl (by rw [hml]; rfl) (argsL := [(.long (own_var b0 b1 b2 b3 b4))]) (rest := [(.ref a1)]) (lenOf pd_1 rfl) rfl (by show 2 * 0 + _ ≤ _; exact Nat.le_of_eq rfl) (hb hby d4_54) (fun _ _ => ⟨rfl, hq5, (by decide : 0 + 0 ≤ _), (by decide : 0 + 0 ≤ _)⟩)
  dsimp only [Pt.U, Pt.locs, Pt.cells, Pt.slots] at X6 l6 y6 z6 st6 hQ6
  subst l6 y6 z6
  obtain ⟨rfl, N6q, hq6⟩ := hQ6
  have N6 := Fr.app N5 N6q
  obtain ⟨T7, h7, X7, e7, W7, st7⟩ := putF X6 hx hZ hown (host := "") (Or.inl (hw _ (List.mem_of_getElem? (i := 49) rfl))) Via.refl hq6 G3q3 Eq3 (Or.inl (hw _ (List.mem_of_getElem? (i := 50) rfl))) (hw _ (List.mem_of_getElem? (i := 6) rfl)) (ty := .int) (by decide) rfl rfl (g := (mkF m 57 #[.val (.ref a1), .val (.long (own_var b0 b1 b2 b3 b4)), .second] [(.int (own_field (own_var b0 b1 b2 b3 b4))), (.ref a1)])) rfl rfl (hb hby d4_57)
  have Fw7 := G3q3.same W7
  have K7 : Keep h0 h7 [a1] := K3.wr W7 (Or.inl (List.mem_of_getElem? (i := 0) rfl))
  have N7 := Fr.snoc X7 N6 g_a1
  obtain ⟨_, _, ⟨T8, L8, k8, n8⟩, -, X8, ⟨Lc8, hQ8, l8, y8, z8⟩, st8⟩ := Jvm.LawKit.callS X7 hx (y := (⟨own_W, "wireType", "(J)I"⟩ : MethodName)) hown (mvT hZ (hw _ (List.mem_of_getElem? (i := 51) rfl))) (mvT hZ (hw _ (List.mem_of_getElem? (i := 52) rfl))) (mvT hZ (hw _ (List.mem_of_getElem? (i := 47) rfl))) (mvT hZ (hw _ (List.mem_of_getElem? (i := 53) rfl))) (by decide) (backOf (W := 1) (rmW l Z a0 hw [] (own_var b0 b1 b2 b3 b4)  h7 n0 (Nat.le_trans (Nat.le_trans Z0 Kq3.1) (Keep.of_wr W7).1) ) hZ (hw _ (List.mem_of_getElem? (i := 53) rfl)) (hw _ (List.mem_of_getElem? (i := 47) rfl)) (by decide) (by decide)) (g := (mkF m 62 #[.val (.ref a1), .val (.long (own_var b0 b1 b2 b3 b4)), .second] [(.long (own_var b0 b1 b2 b3 b4)), (.ref a1)])) rfl (by rw [hml]; rfl) (argsL := [(.long (own_var b0 b1 b2 b3 b4))]) (rest := [(.ref a1)]) (lenOf pd_1 rfl) rfl (by show 2 * 0 + _ ≤ _; exact Nat.le_of_eq rfl) (hb hby d4_62) (fun _ _ => ⟨rfl, e7, (by decide : 0 + 0 ≤ _), (by decide : 0 + 0 ≤ _)⟩)
  dsimp only [Pt.U, Pt.locs, Pt.cells, Pt.slots] at X8 l8 y8 z8 st8 hQ8
  subst l8 y8 z8
  obtain ⟨rfl, N8q, hq8⟩ := hQ8
  have N8 := Fr.app N7 N8q
  obtain ⟨T9, h9, X9, e9, W9, st9⟩ := putF X8 hx hZ hown (host := "") (Or.inl (hw _ (List.mem_of_getElem? (i := 55) rfl))) Via.refl hq8 (G4q3.other W7 (Or.inr (slot_ne (Or.inl (hw _ (List.mem_of_getElem? (i := 56) rfl))) (Or.inl (hw _ (List.mem_of_getElem? (i := 50) rfl))) (by decide) (t := .int) (t' := .int) (by decide) (by decide)))) (Eq3.wr W7) (Or.inl (hw _ (List.mem_of_getElem? (i := 56) rfl))) (hw _ (List.mem_of_getElem? (i := 6) rfl)) (ty := .int) (by decide) rfl rfl (g := (mkF m 65 #[.val (.ref a1), .val (.long (own_var b0 b1 b2 b3 b4)), .second] [(.int (own_wire (own_var b0 b1 b2 b3 b4))), (.ref a1)])) rfl rfl (hb hby d4_65)
  have Fw9 := (G4q3.other W7 (Or.inr (slot_ne (Or.inl (hw _ (List.mem_of_getElem? (i := 56) rfl))) (Or.inl (hw _ (List.mem_of_getElem? (i := 50) rfl))) (by decide) (t := .int) (t' := .int) (by decide) (by decide)))).same W9
  have K9 : Keep h0 h9 [a1] := K7.wr W9 (Or.inl (List.mem_of_getElem? (i := 0) rfl))
  have N9 := Fr.snoc X9 N8 g_a1
  have pre10 : ∀ t, Steps p.tables e below (T9.setTop (mkF m 69 #[.val (.ref a1), .val (.long (own_var b0 b1 b2 b3 b4)), .second] [(.int (1 : Int32))])) t → Steps p.tables e below (s₁.setTop (entryFrame m #[(.ref a1)] 3)) t := by
    intro t k
    refine pre0 t ?_
    show Steps p.tables e below (s₁.setTop (mkF m 0 #[.val (.ref a1), .unset, .unset] [])) _
    refine XS.aloadN X0.here hx rfl (hb hby d4_0) rfl (rfl) ?_
    show Steps p.tables e below (s₁.setTop (mkF m 1 #[.val (.ref a1), .unset, .unset] [(.ref a1)])) _
    refine st1 _ ?_
    show Steps p.tables e below (T1.setTop (mkF m 4 #[.val (.ref a1), .unset, .unset] [(.int (0 : Int32))])) _
    refine XS.aloadN X1.here hx rfl (hb hby d4_4) rfl (rfl) ?_
    show Steps p.tables e below (T1.setTop (mkF m 5 #[.val (.ref a1), .unset, .unset] [(.ref a1), (.int (0 : Int32))])) _
    refine st2 _ ?_
    show Steps p.tables e below (T2.setTop (mkF m 8 #[.val (.ref a1), .unset, .unset] [(.int (5 : Int32)), (.int (0 : Int32))])) _
    refine XS.icmpYes X2.here hx rfl (pc0 := 8) (pc' := 13) rfl (hb hby d4_8) rfl (feq (by decide : ¬ ((0 : Int32) = (5 : Int32)))).2 (by decide) (by decide) ?_
    show Steps p.tables e below (T2.setTop (mkF m 13 #[.val (.ref a1), .unset, .unset] [])) _
    refine XS.aloadN X2.here hx rfl (hb hby d4_13) rfl (rfl) ?_
    show Steps p.tables e below (T2.setTop (mkF m 14 #[.val (.ref a1), .unset, .unset] [(.ref a1)])) _
    refine st3.trans ?_
    show Steps p.tables e below (T3.setTop (mkF m 17 #[.val (.ref a1), .unset, .unset] [(.long (own_var b0 b1 b2 b3 b4))])) _
    refine XS.lstoreN X3.here hx rfl (hb hby d4_17) rfl (l' := #[.val (.ref a1), .val (.long (own_var b0 b1 b2 b3 b4)), .second]) rfl ?_
    show Steps p.tables e below (T3.setTop (mkF m 18 #[.val (.ref a1), .val (.long (own_var b0 b1 b2 b3 b4)), .second] [])) _
    refine XS.lloadN X3.here hx rfl (hb hby d4_18) rfl ?_
    show Steps p.tables e below (T3.setTop (mkF m 19 #[.val (.ref a1), .val (.long (own_var b0 b1 b2 b3 b4)), .second] [(.long (own_var b0 b1 b2 b3 b4))])) _
    refine X3.ldc2Long hx hown (mvT hZ (hw _ (List.mem_of_getElem? (i := 36) rfl))) (g := (mkF m 19 #[.val (.ref a1), .val (.long (own_var b0 b1 b2 b3 b4)), .second] [(.long (own_var b0 b1 b2 b3 b4))])) rfl (hb hby d4_19) _ ?_
    show Steps p.tables e below (T3.setTop (mkF m 22 #[.val (.ref a1), .val (.long (own_var b0 b1 b2 b3 b4)), .second] [(.long (4294967295 : Int64)), (.long (own_var b0 b1 b2 b3 b4))])) _
    refine st4 _ ?_
    show Steps p.tables e below (T4.setTop (mkF m 25 #[.val (.ref a1), .val (.long (own_var b0 b1 b2 b3 b4)), .second] [(.int (own_cmp ((own_var b0 b1 b2 b3 b4) + (-9223372036854775808 : Int64)) ((4294967295 : Int64) + (-9223372036854775808 : Int64))))])) _
    refine XS.ifNo X4.here hx rfl (hb hby d4_25) rfl ((if0 _ _).trans (flt hu).2.2.1) ?_
    show Steps p.tables e below (T4.setTop (mkF m 28 #[.val (.ref a1), .val (.long (own_var b0 b1 b2 b3 b4)), .second] [])) _
    refine XS.lloadN X4.here hx rfl (hb hby d4_28) rfl ?_
    show Steps p.tables e below (T4.setTop (mkF m 29 #[.val (.ref a1), .val (.long (own_var b0 b1 b2 b3 b4)), .second] [(.long (own_var b0 b1 b2 b3 b4))])) _
    refine st5 _ ?_
    show Steps p.tables e below (T5.setTop (mkF m 32 #[.val (.ref a1), .val (.long (own_var b0 b1 b2 b3 b4)), .second] [(.int (own_field (own_var b0 b1 b2 b3 b4)))])) _
    refine XS.ifYes X5.here hx rfl (pc0 := 32) (pc' := 52) rfl (hb hby d4_32) rfl ((if0 _ _).trans (feq hf).2) (by decide) (by decide) ?_
    show Steps p.tables e below (T5.setTop (mkF m 52 #[.val (.ref a1), .val (.long (own_var b0 b1 b2 b3 b4)), .second] [])) _
    refine XS.aloadN X5.here hx rfl (hb hby d4_52) rfl (rfl) ?_
    show Steps p.tables e below (T5.setTop (mkF m 53 #[.val (.ref a1), .val (.long (own_var b0 b1 b2 b3 b4)), .second] [(.ref a1)])) _
    refine XS.lloadN X5.here hx rfl (hb hby d4_53) rfl ?_
    show Steps p.tables e below (T5.setTop (mkF m 54 #[.val (.ref a1), .val (.long (own_var b0 b1 b2 b3 b4)), .second] [(.long (own_var b0 b1 b2 b3 b4)), (.ref a1)])) _
    refine st6 _ ?_
    show Steps p.tables e below (T6.setTop (mkF m 57 #[.val (.ref a1), .val (.long (own_var b0 b1 b2 b3 b4)), .second] [(.int (own_field (own_var b0 b1 b2 b3 b4))), (.ref a1)])) _
    refine st7 _ ?_
    show Steps p.tables e below (T7.setTop (mkF m 60 #[.val (.ref a1), .val (.long (own_var b0 b1 b2 b3 b4)), .second] [])) _
    refine XS.aloadN X7.here hx rfl (hb hby d4_60) rfl (rfl) ?_
    show Steps p.tables e below (T7.setTop (mkF m 61 #[.val (.ref a1), .val (.long (own_var b0 b1 b2 b3 b4)), .second] [(.ref a1)])) _
    refine XS.lloadN X7.here hx rfl (hb hby d4_61) rfl ?_
    show Steps p.tables e below (T7.setTop (mkF m 62 #[.val (.ref a1), .val (.long (own_var b0 b1 b2 b3 b4)), .second] [(.long (own_var b0 b1 b2 b3 b4)), (.ref a1)])) _
    refine st8 _ ?_
    show Steps p.tables e below (T8.setTop (mkF m 65 #[.val (.ref a1), .val (.long (own_var b0 b1 b2 b3 b4)), .second] [(.int (own_wire (own_var b0 b1 b2 b3 b4))), (.ref a1)])) _
    refine st9 _ ?_
    show Steps p.tables e below (T9.setTop (mkF m 68 #[.val (.ref a1), .val (.long (own_var b0 b1 b2 b3 b4)), .second] [])) _
    refine XS.iconst X9.here hx rfl (hb hby d4_68) ?_
    show Steps p.tables e below (T9.setTop (mkF m 69 #[.val (.ref a1), .val (.long (own_var b0 b1 b2 b3 b4)), .second] [(.int (1 : Int32))])) _
    exact k
  obtain ⟨fs, hr, hrun, hended, hW, hsame⟩ := X9.leave (v := some (.int (1 : Int32))) (fun h => by rw [Bd.returns] at h; cases h)
  refine ⟨_, _, pre10 _ ?_, hrun, hended, _, _, rfl, ?_, ⟨_, rfl⟩, hW, hsame.mono (by decide) (by decide)⟩
  · exact retN X9 hx (t := .boolean) Bd.returns (by simp) (hb hby d4_69) hr
  · show Q_rmN Z a1 a2 cl b0 b1 b2 b3 b4 h0 n0 _ T9.heap _
    rw [e9]
    exact ⟨rfl, N9, K9, ((Eq3.wr W7).wr W9), (Fw7.other W9 (Or.inr (slot_ne (Or.inl (hw _ (List.mem_of_getElem? (i := 50) rfl))) (Or.inl (hw _ (List.mem_of_getElem? (i := 56) rfl))) (by decide) (t := .int) (t' := .int) (by decide) (by decide)))), Fw9⟩
theorem ef_rmA (m : MethodId) (x0 : Addr) (x1 : Int32) (x2 : Int32) : entryFrame m #[(.ref x0), (.int x1), (.int x2)] 3 = mkF m 0 #[.val (.ref x0), .val (.int x1), .val (.int x2)] [] := by first | (simp [entryFrame, mkF, argsToLocals, Value.category]; done) | rfl
theorem d11_0 : decode prog_13_method_4_code 0 = .ok (.aload_n 0, 1) := by decide +kernel
theorem d11_1 : decode prog_13_method_4_code 1 = .ok (.getfield 54, 3) := by decide +kernel
theorem d11_4 : decode prog_13_method_4_code 4 = .ok (.iload_n 1, 1) := by decide +kernel
theorem d11_5 : decode prog_13_method_4_code 5 = .ok (.if_icmp .ne 15, 3) := by decide +kernel
theorem d11_8 : decode prog_13_method_4_code 8 = .ok (.aload_n 0, 1) := by decide +kernel
theorem d11_9 : decode prog_13_method_4_code 9 = .ok (.getfield 59, 3) := by decide +kernel
theorem d11_12 : decode prog_13_method_4_code 12 = .ok (.iload_n 2, 1) := by decide +kernel
theorem d11_13 : decode prog_13_method_4_code 13 = .ok (.if_icmp .ne 7, 3) := by decide +kernel
theorem d11_16 : decode prog_13_method_4_code 16 = .ok (.iconst 1, 1) := by decide +kernel
theorem d11_17 : decode prog_13_method_4_code 17 = .ok (.goto 4, 3) := by decide +kernel
theorem d11_21 : decode prog_13_method_4_code 21 = .ok (.ireturn, 1) := by decide +kernel
theorem d11_20 : decode prog_13_method_4_code 20 = .ok (.iconst 0, 1) := by decide +kernel
def Q_rmA (Z : State) (a1 : Addr) (p1 : Int32) (p2 : Int32) (f1 : Int32) (f2 : Int32) (h0 : Heap) (n0 : Nat) (v : Option Value) (h : Heap) (L : List Loc) : Prop := v = some (.int (own_at f1 f2 p1 p2)) ∧ Fr n0 L ∧ h = h0
set_option maxRecDepth 65536 in
set_option maxHeartbeats 40000000 in
theorem rmA (l : Launch) (Z : State) (a0 : Array Value) (hw : ∀ d ∈ tables_1, d.before a0 Z = true) (ws : List Jvm.Cond) (a1 : Addr) (p1 : Int32) (p2 : Int32) (f1 : Int32) (f2 : Int32) (h0 : Heap) (n0 : Nat) (Z0 : n0 ≤ h0.size) (F3 : Fld Z h0 a1 site_130.cls "field" "I" (.int f1)) (F4 : Fld Z h0 a1 site_130.cls "wireType" "I" (.int f2)) :
    MetFree l (⟨site_130.cls, "at", "(II)Z"⟩ : MethodName) (head1 (Jvm.Cond.code (⟨site_130.cls, "at", "(II)Z"⟩ : MethodName) prog_13_method_4_code 3 (some .boolean) :: ws) ({ frames := 0, cells := 0, slots := 0, locals := 0 } : Room)) (fun a U => a = #[(.ref a1), (.int p1), (.int p2)] ∧ Z.Warmed39 U.vm ∧ U.heap = h0) (fun _ _ _ _ _ => True) (fun _ U o U' => ∃ v L, o = .returned v ∧ Q_rmA Z a1 p1 p2 f1 f2 h0 n0 v U'.heap L ∧ FrameEnd U o U' L ({ frames := 0, cells := 0, slots := 0, locals := 0 } : Room).cells ({ frames := 0, cells := 0, slots := 0, locals := 0 } : Room).slots) := by
  refine MetFree.of_bodySF (plainFor_of_name pn_0) hisR ?_
  intro p e s m args below meth c s₁ Bd hml0 hP hK
  obtain ⟨rfl, hZ, hh⟩ := hP
  have hx := Bd.exec
  have hby := Bd.bytes
  have hml : c.maxLocals = 3 := hml0
  have hown : s.vm.findClass site_130.cls = some m.cls := (findClass_of_methodNamed Bd.named :)
  have hnm := (name_of_methodNamed Bd.named Bd.method).1
  have X0 : Stand p l e ({ frames := 0, cells := 0, slots := 0, locals := 0 } : Room) s m #[(.ref a1), (.int p1), (.int p2)] below meth c s₁ [] 0 0 := Stand.of_body Bd
  have e0 : s₁.heap = h0 := by rw [← hh, Bd.state]; rfl
  have N0 := Fr.nil n0
  have pre0 : ∀ t, Steps p.tables e below (s₁.setTop (mkF m 0 #[.val (.ref a1), .val (.int p1), .val (.int p2)] [])) t → Steps p.tables e below (s₁.setTop (entryFrame m #[(.ref a1), (.int p1), (.int p2)] 3)) t := fun t k => castTop (ef_rmA m a1 p1 p2) k
  obtain ⟨T1, X1, e1, st1⟩ := getF X0 hx hZ hown (host := "") (Or.inl (hw _ (List.mem_of_getElem? (i := 49) rfl))) Via.refl e0 F3 (g := (mkF m 1 #[.val (.ref a1), .val (.int p1), .val (.int p2)] [(.ref a1)])) rfl rfl (hb hby d11_1)
  have pre2 : ∀ t, Steps p.tables e below (T1.setTop (mkF m 5 #[.val (.ref a1), .val (.int p1), .val (.int p2)] [(.int p1), (.int f1)])) t → Steps p.tables e below (s₁.setTop (entryFrame m #[(.ref a1), (.int p1), (.int p2)] 3)) t := by
    intro t k
    refine pre0 t ?_
    show Steps p.tables e below (s₁.setTop (mkF m 0 #[.val (.ref a1), .val (.int p1), .val (.int p2)] [])) _
    refine XS.aloadN X0.here hx rfl (hb hby d11_0) rfl (rfl) ?_
    show Steps p.tables e below (s₁.setTop (mkF m 1 #[.val (.ref a1), .val (.int p1), .val (.int p2)] [(.ref a1)])) _
    refine st1 _ ?_
    show Steps p.tables e below (T1.setTop (mkF m 4 #[.val (.ref a1), .val (.int p1), .val (.int p2)] [(.int f1)])) _
    refine XS.iloadN X1.here hx rfl (hb hby d11_4) rfl ?_
    show Steps p.tables e below (T1.setTop (mkF m 5 #[.val (.ref a1), .val (.int p1), .val (.int p2)] [(.int p1), (.int f1)])) _
    exact k
  by_cases h5 : f1 = p1
  · skip
    obtain ⟨T3, X3, e3, st3⟩ := getF X1 hx hZ hown (host := "") (Or.inl (hw _ (List.mem_of_getElem? (i := 55) rfl))) Via.refl e1 F4 (g := (mkF m 9 #[.val (.ref a1), .val (.int p1), .val (.int p2)] [(.ref a1)])) rfl rfl (hb hby d11_9)
    have pre4 : ∀ t, Steps p.tables e below (T3.setTop (mkF m 13 #[.val (.ref a1), .val (.int p1), .val (.int p2)] [(.int p2), (.int f2)])) t → Steps p.tables e below (s₁.setTop (entryFrame m #[(.ref a1), (.int p1), (.int p2)] 3)) t := by
      intro t k
      refine pre2 t ?_
      refine XS.icmpNo X1.here hx rfl (hb hby d11_5) rfl (teq h5).2 ?_
      show Steps p.tables e below (T1.setTop (mkF m 8 #[.val (.ref a1), .val (.int p1), .val (.int p2)] [])) _
      refine XS.aloadN X1.here hx rfl (hb hby d11_8) rfl (rfl) ?_
      show Steps p.tables e below (T1.setTop (mkF m 9 #[.val (.ref a1), .val (.int p1), .val (.int p2)] [(.ref a1)])) _
      refine st3 _ ?_
      show Steps p.tables e below (T3.setTop (mkF m 12 #[.val (.ref a1), .val (.int p1), .val (.int p2)] [(.int f2)])) _
      refine XS.iloadN X3.here hx rfl (hb hby d11_12) rfl ?_
      show Steps p.tables e below (T3.setTop (mkF m 13 #[.val (.ref a1), .val (.int p1), .val (.int p2)] [(.int p2), (.int f2)])) _
      exact k
    by_cases h13 : f2 = p2
    · skip
      have pre5 : ∀ t, Steps p.tables e below (T3.setTop (mkF m 21 #[.val (.ref a1), .val (.int p1), .val (.int p2)] [(.int (1 : Int32))])) t → Steps p.tables e below (s₁.setTop (entryFrame m #[(.ref a1), (.int p1), (.int p2)] 3)) t := by
        intro t k
        refine pre4 t ?_
        refine XS.icmpNo X3.here hx rfl (hb hby d11_13) rfl (teq h13).2 ?_
        show Steps p.tables e below (T3.setTop (mkF m 16 #[.val (.ref a1), .val (.int p1), .val (.int p2)] [])) _
        refine XS.iconst X3.here hx rfl (hb hby d11_16) ?_
        show Steps p.tables e below (T3.setTop (mkF m 17 #[.val (.ref a1), .val (.int p1), .val (.int p2)] [(.int (1 : Int32))])) _
        refine XS.goto X3.here hx rfl (pc0 := 17) (pc' := 21) rfl (hb hby d11_17) (by decide) (by decide) ?_
        show Steps p.tables e below (T3.setTop (mkF m 21 #[.val (.ref a1), .val (.int p1), .val (.int p2)] [(.int (1 : Int32))])) _
        exact k
      obtain ⟨fs, hr, hrun, hended, hW, hsame⟩ := X3.leave (v := some (.int (1 : Int32))) (fun h => by rw [Bd.returns] at h; cases h)
      refine ⟨_, _, pre5 _ ?_, hrun, hended, _, _, rfl, ?_, ⟨_, rfl⟩, hW, hsame.mono (by decide) (by decide)⟩
      · exact retN X3 hx (t := .boolean) Bd.returns (by simp) (hb hby d11_21) hr
      · show Q_rmA Z a1 p1 p2 f1 f2 h0 n0 _ T3.heap _
        rw [e3]
        exact ⟨by simp [own_at, h5, h13], N0, rfl⟩
    · skip
      have pre6 : ∀ t, Steps p.tables e below (T3.setTop (mkF m 21 #[.val (.ref a1), .val (.int p1), .val (.int p2)] [(.int (0 : Int32))])) t → Steps p.tables e below (s₁.setTop (entryFrame m #[(.ref a1), (.int p1), (.int p2)] 3)) t := by
        intro t k
        refine pre4 t ?_
        refine XS.icmpYes X3.here hx rfl (pc0 := 13) (pc' := 20) rfl (hb hby d11_13) rfl (feq h13).2 (by decide) (by decide) ?_
        show Steps p.tables e below (T3.setTop (mkF m 20 #[.val (.ref a1), .val (.int p1), .val (.int p2)] [])) _
        refine XS.iconst X3.here hx rfl (hb hby d11_20) ?_
        show Steps p.tables e below (T3.setTop (mkF m 21 #[.val (.ref a1), .val (.int p1), .val (.int p2)] [(.int (0 : Int32))])) _
        exact k
      obtain ⟨fs, hr, hrun, hended, hW, hsame⟩ := X3.leave (v := some (.int (0 : Int32))) (fun h => by rw [Bd.returns] at h; cases h)
      refine ⟨_, _, pre6 _ ?_, hrun, hended, _, _, rfl, ?_, ⟨_, rfl⟩, hW, hsame.mono (by decide) (by decide)⟩
      · exact retN X3 hx (t := .boolean) Bd.returns (by simp) (hb hby d11_21) hr
      · show Q_rmA Z a1 p1 p2 f1 f2 h0 n0 _ T3.heap _
        rw [e3]
        exact ⟨by simp [own_at, h5, h13], N0, rfl⟩
  · skip
    have pre7 : ∀ t, Steps p.tables e below (T1.setTop (mkF m 21 #[.val (.ref a1), .val (.int p1), .val (.int p2)] [(.int (0 : Int32))])) t → Steps p.tables e below (s₁.setTop (entryFrame m #[(.ref a1), (.int p1), (.int p2)] 3)) t := by
      intro t k
      refine pre2 t ?_
      refine XS.icmpYes X1.here hx rfl (pc0 := 5) (pc' := 20) rfl (hb hby d11_5) rfl (feq h5).2 (by decide) (by decide) ?_
      show Steps p.tables e below (T1.setTop (mkF m 20 #[.val (.ref a1), .val (.int p1), .val (.int p2)] [])) _
      refine XS.iconst X1.here hx rfl (hb hby d11_20) ?_
      show Steps p.tables e below (T1.setTop (mkF m 21 #[.val (.ref a1), .val (.int p1), .val (.int p2)] [(.int (0 : Int32))])) _
      exact k
    obtain ⟨fs, hr, hrun, hended, hW, hsame⟩ := X1.leave (v := some (.int (0 : Int32))) (fun h => by rw [Bd.returns] at h; cases h)
    refine ⟨_, _, pre7 _ ?_, hrun, hended, _, _, rfl, ?_, ⟨_, rfl⟩, hW, hsame.mono (by decide) (by decide)⟩
    · exact retN X1 hx (t := .boolean) Bd.returns (by simp) (hb hby d11_21) hr
    · show Q_rmA Z a1 p1 p2 f1 f2 h0 n0 _ T1.heap _
      rw [e1]
      exact ⟨by simp [own_at, h5], N0, rfl⟩
theorem own_f {x f0 f : Int32} (e : f0 = x &&& (536870911 : Int32)) (h : f = if f0 = (0 : Int32) then (1 : Int32) else f0) : 1 ≤ f.toInt ∧ f.toInt < 2 ^ 29 := by
  have e1 : f0.toInt = x.toInt % 2 ^ 29 := by rw [e]; exact Jvm.Kit.i32_mask x 536870911 (k := 29) (by decide) (by decide)
  have o1 : (1 : Int32).toInt = 1 := rfl
  by_cases q : f0 = (0 : Int32)
  · rw [if_pos q] at h; rw [h]; omega
  · rw [if_neg q] at h; rw [h]
    have : f0.toInt ≠ 0 := fun z => q (Int32.toInt_inj.mp (by rw [z]; rfl))
    omega
theorem own_w {x w : Int32} (e : w = x &&& (7 : Int32)) : 0 ≤ w.toInt ∧ w.toInt < 8 := by
  have e1 : w.toInt = x.toInt % 2 ^ 3 := by rw [e]; exact Jvm.Kit.i32_mask x 7 (k := 3) (by decide) (by decide)
  omega
theorem own_nn {x : Int64} (h : 0 ≤ x.toInt) : x.toInt = (x.toBitVec.toNat : Int) ∧ x.toBitVec.toNat < 2 ^ 63 := by
  have e : x.toInt = x.toBitVec.toInt := rfl
  rw [BitVec.toInt_eq_toNat_cond] at e
  have := x.toBitVec.isLt
  split at e <;> omega
theorem own_of {x : Int64} {n : Nat} (h : x.toBitVec.toNat = n) (hn : n < 2 ^ 63) : x.toInt = n := by
  have e : x.toInt = x.toBitVec.toInt := rfl
  rw [e, BitVec.toInt_eq_toNat_cond, h, if_pos (by omega)]
theorem own_or {x y : Int64} (n : Nat) (hx : 0 ≤ x.toInt) (hy : 0 ≤ y.toInt) (hl : y.toInt < 2 ^ n) (hd : x.toInt % 2 ^ n = 0) (hs : x.toInt + y.toInt < 2 ^ 63) : (x ||| y).toInt = x.toInt + y.toInt := by
  obtain ⟨e1, b1⟩ := own_nn hx
  obtain ⟨e2, b2⟩ := own_nn hy
  rw [e1, e2] at hs
  rw [e1] at hd
  rw [e2] at hl
  have k : (x ||| y).toBitVec.toNat = x.toBitVec.toNat ||| y.toBitVec.toNat := by rw [Int64.toBitVec_or, BitVec.toNat_or]
  have hl' : y.toBitVec.toNat < 2 ^ n := by exact_mod_cast hl
  have hd' : x.toBitVec.toNat % 2 ^ n = 0 := by exact_mod_cast hd
  have d1 : 2 ^ n * (x.toBitVec.toNat / 2 ^ n) = x.toBitVec.toNat := by
    have := Nat.div_add_mod x.toBitVec.toNat (2 ^ n)
    omega
  have s : x.toBitVec.toNat ||| y.toBitVec.toNat = x.toBitVec.toNat + y.toBitVec.toNat := by
    rw [← d1]; exact (Nat.two_pow_add_eq_or_of_lt hl' _).symm
  rw [own_of (k.trans s) (by omega), e1, e2]; omega
theorem own_orc (x y : Int64) : x ||| y = y ||| x := Int64.or_comm x y
theorem own_t {f w : Int32} {t : Int64} (hf : 1 ≤ f.toInt ∧ f.toInt < 2 ^ 29) (hw : 0 ≤ w.toInt ∧ w.toInt < 8) (e : t = (f.toInt64 <<< ((3 : Int32) &&& 0x3f).toInt64) ||| w.toInt64) : 0 ≤ t.toInt ∧ t.toInt < 2 ^ 32 ∧ t.toInt = f.toInt * 8 + w.toInt := by
  have e1 := Jvm.Kit.i64_of_i32 f
  have e2 := Jvm.Kit.i64_of_i32 w
  have s1 : (f.toInt64 <<< ((3 : Int32) &&& 0x3f).toInt64).toInt = f.toInt64.toInt * 2 ^ 3 := Jvm.Kit.i64_shl _ _ (k := 3) (by decide) (by omega) (by omega)
  have s2 : t.toInt = (f.toInt64 <<< ((3 : Int32) &&& 0x3f).toInt64).toInt + w.toInt64.toInt := by
    rw [e]; exact own_or 3 (by omega) (by omega) (by omega) (by omega) (by omega)
  omega
/-- a byte with its top bit set -/
theorem own_hi {t : Int64} {b : Int32} {j : Int32} {k : Nat} (h0 : 0 ≤ t.toInt) (hj : (j &&& 0x3f).toInt64.toUInt64.toNat = k) (hk : k < 64) (e : b = nar .byte (((((t.toUInt64 >>> (j &&& 0x3f).toInt64.toUInt64).toInt64) &&& (127 : Int64)) ||| (128 : Int64)).toInt32.toInt8.toInt32)) : b.toInt = t.toInt / 2 ^ k % 128 - 128 := by
  have s1 : ((t.toUInt64 >>> (j &&& 0x3f).toInt64.toUInt64).toInt64).toInt = t.toInt / 2 ^ k := Jvm.Kit.i64_lushr (by rw [Int64.le_iff_toInt_le]; exact h0) hj hk
  generalize (t.toUInt64 >>> (j &&& 0x3f).toInt64.toUInt64).toInt64 = u at *
  have s2 : (u &&& (127 : Int64)).toInt = u.toInt % 2 ^ 7 := Jvm.Kit.i64_mask u 127 (k := 7) (by decide) (by decide)
  generalize u &&& (127 : Int64) = d at *
  have o1 : (128 : Int64).toInt = 128 := rfl
  have s3 : (d ||| (128 : Int64)).toInt = (128 : Int64).toInt + d.toInt := by rw [own_orc]; exact own_or 7 (by omega) (by omega) (by omega) (by decide) (by omega)
  generalize d ||| (128 : Int64) = g at *
  have s4 : g.toInt32.toInt = g.toInt := Jvm.Kit.i32_of_i64 (by omega) (by omega)
  have s5 : b.toInt = g.toInt32.toInt8.toInt := by
    rw [e]
    show (g.toInt32.toInt8.toInt32.toInt8.toInt32).toInt = _
    rw [Int8.toInt_toInt32, Int32.toInt_toInt8, Int8.toInt_toInt32]
    have b1 := g.toInt32.toInt8.le_toInt
    have b2 := g.toInt32.toInt8.toInt_lt
    rw [Int.bmod_eq_of_le] <;> omega
  rw [s5, Int32.toInt_toInt8, s4, s3, s2, s1, o1]
  have m0 := Int.emod_nonneg (t.toInt / 2 ^ k) (b := 128) (by decide)
  have m1 := Int.emod_lt_of_pos (t.toInt / 2 ^ k) (b := 128) (by decide)
  rw [show (2 : Int) ^ 7 = 128 from rfl]
  generalize t.toInt / 2 ^ k % 128 = r at *
  rw [Int.bmod_def]; split <;> omega
theorem own_hi0 {t : Int64} {b : Int32} (h0 : 0 ≤ t.toInt) (e : b = nar .byte (((t &&& (127 : Int64)) ||| (128 : Int64)).toInt32.toInt8.toInt32)) : b.toInt = t.toInt % 128 - 128 := by
  have s2 : (t &&& (127 : Int64)).toInt = t.toInt % 2 ^ 7 := Jvm.Kit.i64_mask t 127 (k := 7) (by decide) (by decide)
  generalize t &&& (127 : Int64) = d at *
  have o1 : (128 : Int64).toInt = 128 := rfl
  have s3 : (d ||| (128 : Int64)).toInt = (128 : Int64).toInt + d.toInt := by rw [own_orc]; exact own_or 7 (by omega) (by omega) (by omega) (by decide) (by omega)
  generalize d ||| (128 : Int64) = g at *
  have s4 : g.toInt32.toInt = g.toInt := Jvm.Kit.i32_of_i64 (by omega) (by omega)
  have s5 : b.toInt = g.toInt32.toInt8.toInt := by
    rw [e]
    show (g.toInt32.toInt8.toInt32.toInt8.toInt32).toInt = _
    rw [Int8.toInt_toInt32, Int32.toInt_toInt8, Int8.toInt_toInt32]
    have b1 := g.toInt32.toInt8.le_toInt
    have b2 := g.toInt32.toInt8.toInt_lt
    rw [Int.bmod_eq_of_le] <;> omega
  rw [s5, Int32.toInt_toInt8, s4, s3, s2, o1]
  rw [show (2 : Int) ^ 7 = 128 from rfl]
  have m0 := Int.emod_nonneg t.toInt (b := 128) (by decide)
  have m1 := Int.emod_lt_of_pos t.toInt (b := 128) (by decide)
  generalize t.toInt % 128 = r at *
  rw [Int.bmod_def]; split <;> omega
theorem own_lo {t : Int64} {b : Int32} (h0 : 0 ≤ t.toInt) (h1 : t.toInt < 2 ^ 32) (e : b = nar .byte ((((t.toUInt64 >>> ((28 : Int32) &&& 0x3f).toInt64.toUInt64).toInt64) &&& (15 : Int64)).toInt32.toInt8.toInt32)) : b.toInt = t.toInt / 2 ^ 28 := by
  have s1 : ((t.toUInt64 >>> ((28 : Int32) &&& 0x3f).toInt64.toUInt64).toInt64).toInt = t.toInt / 2 ^ 28 := Jvm.Kit.i64_lushr (by rw [Int64.le_iff_toInt_le]; exact h0) (by decide) (by decide)
  generalize (t.toUInt64 >>> ((28 : Int32) &&& 0x3f).toInt64.toUInt64).toInt64 = u at *
  have s2 : (u &&& (15 : Int64)).toInt = u.toInt % 2 ^ 4 := Jvm.Kit.i64_mask u 15 (k := 4) (by decide) (by decide)
  generalize u &&& (15 : Int64) = g at *
  have s4 : g.toInt32.toInt = g.toInt := Jvm.Kit.i32_of_i64 (by omega) (by omega)
  have s5 : b.toInt = g.toInt32.toInt8.toInt := by
    rw [e]
    show (g.toInt32.toInt8.toInt32.toInt8.toInt32).toInt = _
    rw [Int8.toInt_toInt32, Int32.toInt_toInt8, Int8.toInt_toInt32]
    have b1 := g.toInt32.toInt8.le_toInt
    have b2 := g.toInt32.toInt8.toInt_lt
    rw [Int.bmod_eq_of_le] <;> omega
  rw [s5, Int32.toInt_toInt8, s4, Int.bmod_def]; split <;> omega
theorem own_acc {x : Int64} {b : Int32} {j : Int32} {k : Nat} {d : Int} (hj : ((j &&& 0x3f).toInt64.toBitVec.smod 64).toNat = k) (hk : k ≤ 28) (hx : 0 ≤ x.toInt) (hl : x.toInt < 2 ^ k) (hb : b.toInt % 128 = d) : (x ||| ((b &&& (127 : Int32)).toInt64 <<< (j &&& 0x3f).toInt64)).toInt = x.toInt + d * 2 ^ k := by
  have s1 : (b &&& (127 : Int32)).toInt = b.toInt % 2 ^ 7 := Jvm.Kit.i32_mask b 127 (k := 7) (by decide) (by decide)
  have s2 := Jvm.Kit.i64_of_i32 (b &&& (127 : Int32))
  generalize (b &&& (127 : Int32)).toInt64 = u at *
  have m0 := Int.emod_nonneg b.toInt (b := 128) (by decide)
  have m1 := Int.emod_lt_of_pos b.toInt (b := 128) (by decide)
  have ud : u.toInt = d := by rw [s2, s1]; exact hb
  have d0 : 0 ≤ d := by omega
  have d1 : d < 128 := by omega
  have p1 : (0 : Int) < 2 ^ k := Int.pow_pos (by decide)
  have p2 : (2 : Int) ^ k ≤ 2 ^ 28 := by exact_mod_cast Nat.pow_le_pow_right (by decide) hk
  have n0 : 0 ≤ d * 2 ^ k := Int.mul_nonneg d0 (by omega)
  have n1 : d * 2 ^ k ≤ 128 * 2 ^ 28 := Int.mul_le_mul (by omega) p2 (by omega) (by decide)
  have s3 : (u <<< (j &&& 0x3f).toInt64).toInt = u.toInt * 2 ^ k := Jvm.Kit.i64_shl _ _ hj (by rw [ud]; omega) (by rw [ud]; omega)
  rw [ud] at s3
  generalize u <<< (j &&& 0x3f).toInt64 = g at *
  rw [own_orc, own_or k (by omega) hx hl (by rw [s3]; exact Int.mul_emod_left d _) (by omega), s3]; omega
theorem own_bytes {t : Int64} {b0 b1 b2 b3 b4 : Int32} (h0 : 0 ≤ t.toInt) (h1 : t.toInt < 2 ^ 32) (e0 : b0 = nar .byte (((t &&& (127 : Int64)) ||| (128 : Int64)).toInt32.toInt8.toInt32))
    (e1 : b1 = nar .byte (((((t.toUInt64 >>> ((7 : Int32) &&& 0x3f).toInt64.toUInt64).toInt64) &&& (127 : Int64)) ||| (128 : Int64)).toInt32.toInt8.toInt32))
    (e2 : b2 = nar .byte (((((t.toUInt64 >>> ((14 : Int32) &&& 0x3f).toInt64.toUInt64).toInt64) &&& (127 : Int64)) ||| (128 : Int64)).toInt32.toInt8.toInt32))
    (e3 : b3 = nar .byte (((((t.toUInt64 >>> ((21 : Int32) &&& 0x3f).toInt64.toUInt64).toInt64) &&& (127 : Int64)) ||| (128 : Int64)).toInt32.toInt8.toInt32))
    (e4 : b4 = nar .byte ((((t.toUInt64 >>> ((28 : Int32) &&& 0x3f).toInt64.toUInt64).toInt64) &&& (15 : Int64)).toInt32.toInt8.toInt32)) :
    b0 < (0 : Int32) ∧ b1 < (0 : Int32) ∧ b2 < (0 : Int32) ∧ b3 < (0 : Int32) ∧ ¬ (b4 < (0 : Int32)) ∧ own_var b0 b1 b2 b3 b4 = t := by
  have r0 := own_hi0 h0 e0
  have r1 := own_hi h0 (k := 7) (by decide) (by decide) e1
  have r2 := own_hi h0 (k := 14) (by decide) (by decide) e2
  have r3 := own_hi h0 (k := 21) (by decide) (by decide) e3
  have r4 := own_lo h0 h1 e4
  have z0 : (0 : Int32).toInt = 0 := rfl
  simp only [Int32.lt_iff_toInt_lt]
  refine ⟨by omega, by omega, by omega, by omega, by omega, ?_⟩
  clear e0 e1 e2 e3 e4
  unfold own_var
  have y0 : (0 : Int64).toInt = 0 := rfl
  have a0 := own_acc (x := (0 : Int64)) (b := b0) (j := 0) (k := 0) (d := b0.toInt % 128) (by decide) (by decide) (by decide) (by decide) rfl
  generalize (0 : Int64) ||| ((b0 &&& (127 : Int32)).toInt64 <<< ((0 : Int32) &&& 0x3f).toInt64) = x0 at *
  have a1 := own_acc (x := x0) (b := b1) (j := 7) (k := 7) (d := b1.toInt % 128) (by decide) (by decide) (by omega) (by omega) rfl
  generalize x0 ||| ((b1 &&& (127 : Int32)).toInt64 <<< ((7 : Int32) &&& 0x3f).toInt64) = x1 at *
  have a2 := own_acc (x := x1) (b := b2) (j := 14) (k := 14) (d := b2.toInt % 128) (by decide) (by decide) (by omega) (by omega) rfl
  generalize x1 ||| ((b2 &&& (127 : Int32)).toInt64 <<< ((14 : Int32) &&& 0x3f).toInt64) = x2 at *
  have a3 := own_acc (x := x2) (b := b3) (j := 21) (k := 21) (d := b3.toInt % 128) (by decide) (by decide) (by omega) (by omega) rfl
  generalize x2 ||| ((b3 &&& (127 : Int32)).toInt64 <<< ((21 : Int32) &&& 0x3f).toInt64) = x3 at *
  have a4 := own_acc (x := x3) (b := b4) (j := 28) (k := 28) (d := b4.toInt % 128) (by decide) (by decide) (by omega) (by omega) rfl
  generalize x3 ||| ((b4 &&& (127 : Int32)).toInt64 <<< ((28 : Int32) &&& 0x3f).toInt64) = x4 at *
  refine Int64.toInt_inj.mp ?_
  omega
theorem own_fw {f w : Int32} {t : Int64} (hf : 1 ≤ f.toInt ∧ f.toInt < 2 ^ 29) (hw : 0 ≤ w.toInt ∧ w.toInt < 8) (e : t.toInt = f.toInt * 8 + w.toInt) (h0 : 0 ≤ t.toInt) : own_field t = f ∧ own_wire t = w := by
  constructor
  · have s1 : ((t.toUInt64 >>> ((3 : Int32) &&& 0x3f).toInt64.toUInt64).toInt64).toInt = t.toInt / 2 ^ 3 := Jvm.Kit.i64_lushr (by rw [Int64.le_iff_toInt_le]; exact h0) (by decide) (by decide)
    unfold own_field
    generalize (t.toUInt64 >>> ((3 : Int32) &&& 0x3f).toInt64.toUInt64).toInt64 = u at *
    refine Int32.toInt_inj.mp ?_
    rw [Jvm.Kit.i32_of_i64 (by omega) (by omega)]; omega
  · have s1 : (t &&& (7 : Int64)).toInt = t.toInt % 2 ^ 3 := Jvm.Kit.i64_mask t 7 (k := 3) (by decide) (by decide)
    unfold own_wire
    generalize t &&& (7 : Int64) = u at *
    refine Int32.toInt_inj.mp ?_
    rw [Jvm.Kit.i32_of_i64 (by omega) (by omega)]; omega
theorem own_nz {f : Int32} (hf : 1 ≤ f.toInt ∧ f.toInt < 2 ^ 29) : ¬ (f = (0 : Int32)) := fun q => by
  rw [q] at hf; exact absurd hf.1 (by decide)
theorem own_u {t : Int64} (h0 : 0 ≤ t.toInt) (h1 : t.toInt < 2 ^ 32) : ¬ ((0 : Int32) < own_cmp (t + (-9223372036854775808 : Int64)) ((4294967295 : Int64) + (-9223372036854775808 : Int64))) := by
  have o1 : (-9223372036854775808 : Int64).toInt = -9223372036854775808 := by decide
  have o2 : ((4294967295 : Int64) + (-9223372036854775808 : Int64)).toInt = 4294967295 - 9223372036854775808 := by decide
  have s1 : (t + (-9223372036854775808 : Int64)).toInt = t.toInt + (-9223372036854775808 : Int64).toInt := Jvm.Kit.i64_add (by omega) (by omega)
  generalize t + (-9223372036854775808 : Int64) = x at *
  generalize (4294967295 : Int64) + (-9223372036854775808 : Int64) = y at *
  unfold own_cmp
  by_cases q : x < y
  · rw [if_pos q]; decide
  · rw [if_neg q]
    have : x = y := Int64.toInt_inj.mp (by rw [Int64.lt_iff_toInt_lt] at q; omega)
    rw [if_pos this]; decide

theorem ef_rm0 (m : MethodId) (x0 : Int32) (x1 : Int32) (x2 : Int32) (x3 : Int32) (x4 : Int32) : entryFrame m #[(.int x0), (.int x1), (.int x2), (.int x3), (.int x4)] maxLocals = mkF m 0 #[.val (.int x0), .val (.int x1), .val (.int x2), .val (.int x3), .val (.int x4), .unset, .unset, .unset, .unset, .unset, .unset, .unset, .unset, .unset, .unset, .unset, .unset] [] := by first | (simp [entryFrame, mkF, argsToLocals, Value.category, maxLocals]; done) | rfl
theorem pn_1 : plainName x.cls = true := by first | (simp [plainName, overriddenIn]; done) | decide +kernel
theorem pd_4 : parseMethodDescriptor "([B)V" = some ⟨[(.array .byte)], none⟩ := by decide +kernel
theorem pd_5 : parseMethodDescriptor "()Z" = some ⟨[], some .boolean⟩ := by decide +kernel
theorem pd_6 : parseMethodDescriptor "(II)Z" = some ⟨[.int, .int], some .boolean⟩ := by decide +kernel
def Q_rm0 (Z : State) (p0 : Int32) (p1 : Int32) (p2 : Int32) (p3 : Int32) (p4 : Int32) (h0 : Heap) (n0 : Nat) (v : Option Value) (h : Heap) (L : List Loc) : Prop := v = some (.int 1) ∧ Fr n0 L
set_option maxRecDepth 65536 in
set_option maxHeartbeats 40000000 in
theorem rm0 (l : Launch) (Z : State) (a0 : Array Value) (hw : ∀ d ∈ tables_1, d.before a0 Z = true) (ws : List Jvm.Cond) (p0 : Int32) (p1 : Int32) (p2 : Int32) (p3 : Int32) (p4 : Int32) (h0 : Heap) (n0 : Nat) (Z0 : n0 ≤ h0.size) :
    MetFree l x (head1 (Jvm.Cond.code x code maxLocals ret :: ws) room_1) (fun a U => a = #[(.int p0), (.int p1), (.int p2), (.int p3), (.int p4)] ∧ Z.Warmed39 U.vm ∧ U.heap = h0) (fun _ _ _ _ _ => True) (fun _ U o U' => ∃ v L, o = .returned v ∧ Q_rm0 Z p0 p1 p2 p3 p4 h0 n0 v U'.heap L ∧ FrameEnd U o U' L room_1.cells room_1.slots) := by
  refine MetFree.of_bodySF (plainFor_of_name pn_1) hisR ?_
  intro p e s m args below meth c s₁ Bd hml0 hP hK
  obtain ⟨rfl, hZ, hh⟩ := hP
  have hx := Bd.exec
  have hby := Bd.bytes
  have hml : c.maxLocals = 17 := hml0
  have hown : s.vm.findClass x.cls = some m.cls := (findClass_of_methodNamed Bd.named :)
  have hnm := (name_of_methodNamed Bd.named Bd.method).1
  have X0 : Stand p l e room_1 s m #[(.int p0), (.int p1), (.int p2), (.int p3), (.int p4)] below meth c s₁ [] 0 0 := Stand.of_body Bd
  have e0 : s₁.heap = h0 := by rw [← hh, Bd.state]; rfl
  have N0 := Fr.nil n0
  have pre0 : ∀ t, Steps p.tables e below (s₁.setTop (mkF m 0 #[.val (.int p0), .val (.int p1), .val (.int p2), .val (.int p3), .val (.int p4), .unset, .unset, .unset, .unset, .unset, .unset, .unset, .unset, .unset, .unset, .unset, .unset] [])) t → Steps p.tables e below (s₁.setTop (entryFrame m #[(.int p0), (.int p1), (.int p2), (.int p3), (.int p4)] maxLocals)) t := fun t k => castTop (ef_rm0 m p0 p1 p2 p3 p4) k
  have pre1 : ∀ t, Steps p.tables e below (s₁.setTop (mkF m 4 #[.val (.int p0), .val (.int p1), .val (.int p2), .val (.int p3), .val (.int p4), .unset, .unset, .unset, .unset, .unset, .unset, .unset, .unset, .unset, .unset, .unset, .unset] [(.int (p0 &&& (536870911 : Int32)))])) t → Steps p.tables e below (s₁.setTop (entryFrame m #[(.int p0), (.int p1), (.int p2), (.int p3), (.int p4)] maxLocals)) t := by
    intro t k
    refine pre0 t ?_
    show Steps p.tables e below (s₁.setTop (mkF m 0 #[.val (.int p0), .val (.int p1), .val (.int p2), .val (.int p3), .val (.int p4), .unset, .unset, .unset, .unset, .unset, .unset, .unset, .unset, .unset, .unset, .unset, .unset] [])) _
    refine XS.iloadN X0.here hx rfl (hb hby at_0) rfl ?_
    show Steps p.tables e below (s₁.setTop (mkF m 1 #[.val (.int p0), .val (.int p1), .val (.int p2), .val (.int p3), .val (.int p4), .unset, .unset, .unset, .unset, .unset, .unset, .unset, .unset, .unset, .unset, .unset, .unset] [(.int p0)])) _
    refine X0.ldcInt hx hown (mvT hZ (hw _ (List.mem_of_getElem? (i := 0) rfl))) (g := (mkF m 1 #[.val (.int p0), .val (.int p1), .val (.int p2), .val (.int p3), .val (.int p4), .unset, .unset, .unset, .unset, .unset, .unset, .unset, .unset, .unset, .unset, .unset, .unset] [(.int p0)])) rfl (hb hby at_1) _ ?_
    show Steps p.tables e below (s₁.setTop (mkF m 3 #[.val (.int p0), .val (.int p1), .val (.int p2), .val (.int p3), .val (.int p4), .unset, .unset, .unset, .unset, .unset, .unset, .unset, .unset, .unset, .unset, .unset, .unset] [(.int (536870911 : Int32)), (.int p0)])) _
    refine XS.iand X0.here hx rfl (hb hby at_3) rfl ?_
    show Steps p.tables e below (s₁.setTop (mkF m 4 #[.val (.int p0), .val (.int p1), .val (.int p2), .val (.int p3), .val (.int p4), .unset, .unset, .unset, .unset, .unset, .unset, .unset, .unset, .unset, .unset, .unset, .unset] [(.int (p0 &&& (536870911 : Int32)))])) _
    exact k
  obtain ⟨f0, hf0⟩ : ∃ z : Int32, z = (p0 &&& (536870911 : Int32)) := ⟨_, rfl⟩
  rw [← hf0] at pre1
  have pre2 : ∀ t, Steps p.tables e below (s₁.setTop (mkF m 8 #[.val (.int p0), .val (.int p1), .val (.int p2), .val (.int p3), .val (.int p4), .val (.int f0), .unset, .unset, .unset, .unset, .unset, .unset, .unset, .unset, .unset, .unset, .unset] [(.int f0)])) t → Steps p.tables e below (s₁.setTop (entryFrame m #[(.int p0), (.int p1), (.int p2), (.int p3), (.int p4)] maxLocals)) t := by
    intro t k
    refine pre1 t ?_
    show Steps p.tables e below (s₁.setTop (mkF m 4 #[.val (.int p0), .val (.int p1), .val (.int p2), .val (.int p3), .val (.int p4), .unset, .unset, .unset, .unset, .unset, .unset, .unset, .unset, .unset, .unset, .unset, .unset] [(.int f0)])) _
    refine XS.istore X0.here hx rfl (hb hby at_4) rfl (l' := #[.val (.int p0), .val (.int p1), .val (.int p2), .val (.int p3), .val (.int p4), .val (.int f0), .unset, .unset, .unset, .unset, .unset, .unset, .unset, .unset, .unset, .unset, .unset]) rfl ?_
    show Steps p.tables e below (s₁.setTop (mkF m 6 #[.val (.int p0), .val (.int p1), .val (.int p2), .val (.int p3), .val (.int p4), .val (.int f0), .unset, .unset, .unset, .unset, .unset, .unset, .unset, .unset, .unset, .unset, .unset] [])) _
    refine XS.iload X0.here hx rfl (hb hby at_6) rfl ?_
    show Steps p.tables e below (s₁.setTop (mkF m 8 #[.val (.int p0), .val (.int p1), .val (.int p2), .val (.int p3), .val (.int p4), .val (.int f0), .unset, .unset, .unset, .unset, .unset, .unset, .unset, .unset, .unset, .unset, .unset] [(.int f0)])) _
    exact k
  obtain ⟨fj_0, hfj_0, prejfj⟩ : ∃ (fj_0 : Int32), (fj_0 = if f0 = (0 : Int32) then (1 : Int32) else f0) ∧ (∀ t, Steps p.tables e below (s₁.setTop (mkF m 14 #[.val (.int p0), .val (.int p1), .val (.int p2), .val (.int p3), .val (.int p4), .val (.int fj_0), .unset, .unset, .unset, .unset, .unset, .unset, .unset, .unset, .unset, .unset, .unset] [])) t → Steps p.tables e below (s₁.setTop (entryFrame m #[(.int p0), (.int p1), (.int p2), (.int p3), (.int p4)] maxLocals)) t) := by
    by_cases hjfj : f0 = (0 : Int32)
    · skip
      have pre3 : ∀ t, Steps p.tables e below (s₁.setTop (mkF m 14 #[.val (.int p0), .val (.int p1), .val (.int p2), .val (.int p3), .val (.int p4), .val (.int (1 : Int32)), .unset, .unset, .unset, .unset, .unset, .unset, .unset, .unset, .unset, .unset, .unset] [])) t → Steps p.tables e below (s₁.setTop (entryFrame m #[(.int p0), (.int p1), (.int p2), (.int p3), (.int p4)] maxLocals)) t := by
        intro t k
        refine pre2 t ?_
        refine XS.ifNo X0.here hx rfl (hb hby at_8) rfl ((if0 _ _).trans (teq hjfj).2) ?_
        show Steps p.tables e below (s₁.setTop (mkF m 11 #[.val (.int p0), .val (.int p1), .val (.int p2), .val (.int p3), .val (.int p4), .val (.int f0), .unset, .unset, .unset, .unset, .unset, .unset, .unset, .unset, .unset, .unset, .unset] [])) _
        refine XS.iconst X0.here hx rfl (hb hby at_11) ?_
        show Steps p.tables e below (s₁.setTop (mkF m 12 #[.val (.int p0), .val (.int p1), .val (.int p2), .val (.int p3), .val (.int p4), .val (.int f0), .unset, .unset, .unset, .unset, .unset, .unset, .unset, .unset, .unset, .unset, .unset] [(.int (1 : Int32))])) _
        refine XS.istore X0.here hx rfl (hb hby at_12) rfl (l' := #[.val (.int p0), .val (.int p1), .val (.int p2), .val (.int p3), .val (.int p4), .val (.int (1 : Int32)), .unset, .unset, .unset, .unset, .unset, .unset, .unset, .unset, .unset, .unset, .unset]) rfl ?_
        show Steps p.tables e below (s₁.setTop (mkF m 14 #[.val (.int p0), .val (.int p1), .val (.int p2), .val (.int p3), .val (.int p4), .val (.int (1 : Int32)), .unset, .unset, .unset, .unset, .unset, .unset, .unset, .unset, .unset, .unset, .unset] [])) _
        exact k
      exact ⟨(1 : Int32), by simp [hjfj], pre3⟩
    · skip
      have pre4 : ∀ t, Steps p.tables e below (s₁.setTop (mkF m 14 #[.val (.int p0), .val (.int p1), .val (.int p2), .val (.int p3), .val (.int p4), .val (.int f0), .unset, .unset, .unset, .unset, .unset, .unset, .unset, .unset, .unset, .unset, .unset] [])) t → Steps p.tables e below (s₁.setTop (entryFrame m #[(.int p0), (.int p1), (.int p2), (.int p3), (.int p4)] maxLocals)) t := by
        intro t k
        refine pre2 t ?_
        refine XS.ifYes X0.here hx rfl (pc0 := 8) (pc' := 14) rfl (hb hby at_8) rfl ((if0 _ _).trans (feq hjfj).2) (by decide) (by decide) ?_
        show Steps p.tables e below (s₁.setTop (mkF m 14 #[.val (.int p0), .val (.int p1), .val (.int p2), .val (.int p3), .val (.int p4), .val (.int f0), .unset, .unset, .unset, .unset, .unset, .unset, .unset, .unset, .unset, .unset, .unset] [])) _
        exact k
      exact ⟨f0, by simp [hjfj], pre4⟩
  have bff := own_f hf0 hfj_0
  have pre5 : ∀ t, Steps p.tables e below (s₁.setTop (mkF m 18 #[.val (.int p0), .val (.int p1), .val (.int p2), .val (.int p3), .val (.int p4), .val (.int fj_0), .unset, .unset, .unset, .unset, .unset, .unset, .unset, .unset, .unset, .unset, .unset] [(.int (p1 &&& (7 : Int32)))])) t → Steps p.tables e below (s₁.setTop (entryFrame m #[(.int p0), (.int p1), (.int p2), (.int p3), (.int p4)] maxLocals)) t := by
    intro t k
    refine prejfj t ?_
    show Steps p.tables e below (s₁.setTop (mkF m 14 #[.val (.int p0), .val (.int p1), .val (.int p2), .val (.int p3), .val (.int p4), .val (.int fj_0), .unset, .unset, .unset, .unset, .unset, .unset, .unset, .unset, .unset, .unset, .unset] [])) _
    refine XS.iloadN X0.here hx rfl (hb hby at_14) rfl ?_
    show Steps p.tables e below (s₁.setTop (mkF m 15 #[.val (.int p0), .val (.int p1), .val (.int p2), .val (.int p3), .val (.int p4), .val (.int fj_0), .unset, .unset, .unset, .unset, .unset, .unset, .unset, .unset, .unset, .unset, .unset] [(.int p1)])) _
    refine XS.bipush X0.here hx rfl (hb hby at_15) ?_
    show Steps p.tables e below (s₁.setTop (mkF m 17 #[.val (.int p0), .val (.int p1), .val (.int p2), .val (.int p3), .val (.int p4), .val (.int fj_0), .unset, .unset, .unset, .unset, .unset, .unset, .unset, .unset, .unset, .unset, .unset] [(.int (7 : Int32)), (.int p1)])) _
    refine XS.iand X0.here hx rfl (hb hby at_17) rfl ?_
    show Steps p.tables e below (s₁.setTop (mkF m 18 #[.val (.int p0), .val (.int p1), .val (.int p2), .val (.int p3), .val (.int p4), .val (.int fj_0), .unset, .unset, .unset, .unset, .unset, .unset, .unset, .unset, .unset, .unset, .unset] [(.int (p1 &&& (7 : Int32)))])) _
    exact k
  obtain ⟨ww, hww⟩ : ∃ z : Int32, z = (p1 &&& (7 : Int32)) := ⟨_, rfl⟩
  rw [← hww] at pre5
  have bww := own_w hww
  have pre6 : ∀ t, Steps p.tables e below (s₁.setTop (mkF m 29 #[.val (.int p0), .val (.int p1), .val (.int p2), .val (.int p3), .val (.int p4), .val (.int fj_0), .val (.int ww), .unset, .unset, .unset, .unset, .unset, .unset, .unset, .unset, .unset, .unset] [(.long (((fj_0.toInt64) <<< ((3 : Int32) &&& 0x3f).toInt64) ||| (ww.toInt64)))])) t → Steps p.tables e below (s₁.setTop (entryFrame m #[(.int p0), (.int p1), (.int p2), (.int p3), (.int p4)] maxLocals)) t := by
    intro t k
    refine pre5 t ?_
    show Steps p.tables e below (s₁.setTop (mkF m 18 #[.val (.int p0), .val (.int p1), .val (.int p2), .val (.int p3), .val (.int p4), .val (.int fj_0), .unset, .unset, .unset, .unset, .unset, .unset, .unset, .unset, .unset, .unset, .unset] [(.int ww)])) _
    refine XS.istore X0.here hx rfl (hb hby at_18) rfl (l' := #[.val (.int p0), .val (.int p1), .val (.int p2), .val (.int p3), .val (.int p4), .val (.int fj_0), .val (.int ww), .unset, .unset, .unset, .unset, .unset, .unset, .unset, .unset, .unset, .unset]) rfl ?_
    show Steps p.tables e below (s₁.setTop (mkF m 20 #[.val (.int p0), .val (.int p1), .val (.int p2), .val (.int p3), .val (.int p4), .val (.int fj_0), .val (.int ww), .unset, .unset, .unset, .unset, .unset, .unset, .unset, .unset, .unset, .unset] [])) _
    refine XS.iload X0.here hx rfl (hb hby at_20) rfl ?_
    show Steps p.tables e below (s₁.setTop (mkF m 22 #[.val (.int p0), .val (.int p1), .val (.int p2), .val (.int p3), .val (.int p4), .val (.int fj_0), .val (.int ww), .unset, .unset, .unset, .unset, .unset, .unset, .unset, .unset, .unset, .unset] [(.int fj_0)])) _
    refine XS.i2l X0.here hx rfl (hb hby at_22) rfl ?_
    show Steps p.tables e below (s₁.setTop (mkF m 23 #[.val (.int p0), .val (.int p1), .val (.int p2), .val (.int p3), .val (.int p4), .val (.int fj_0), .val (.int ww), .unset, .unset, .unset, .unset, .unset, .unset, .unset, .unset, .unset, .unset] [(.long (fj_0.toInt64))])) _
    refine XS.iconst X0.here hx rfl (hb hby at_23) ?_
    show Steps p.tables e below (s₁.setTop (mkF m 24 #[.val (.int p0), .val (.int p1), .val (.int p2), .val (.int p3), .val (.int p4), .val (.int fj_0), .val (.int ww), .unset, .unset, .unset, .unset, .unset, .unset, .unset, .unset, .unset, .unset] [(.int (3 : Int32)), (.long (fj_0.toInt64))])) _
    refine XS.lshl X0.here hx rfl (hb hby at_24) rfl ?_
    show Steps p.tables e below (s₁.setTop (mkF m 25 #[.val (.int p0), .val (.int p1), .val (.int p2), .val (.int p3), .val (.int p4), .val (.int fj_0), .val (.int ww), .unset, .unset, .unset, .unset, .unset, .unset, .unset, .unset, .unset, .unset] [(.long ((fj_0.toInt64) <<< ((3 : Int32) &&& 0x3f).toInt64))])) _
    refine XS.iload X0.here hx rfl (hb hby at_25) rfl ?_
    show Steps p.tables e below (s₁.setTop (mkF m 27 #[.val (.int p0), .val (.int p1), .val (.int p2), .val (.int p3), .val (.int p4), .val (.int fj_0), .val (.int ww), .unset, .unset, .unset, .unset, .unset, .unset, .unset, .unset, .unset, .unset] [(.int ww), (.long ((fj_0.toInt64) <<< ((3 : Int32) &&& 0x3f).toInt64))])) _
    refine XS.i2l X0.here hx rfl (hb hby at_27) rfl ?_
    show Steps p.tables e below (s₁.setTop (mkF m 28 #[.val (.int p0), .val (.int p1), .val (.int p2), .val (.int p3), .val (.int p4), .val (.int fj_0), .val (.int ww), .unset, .unset, .unset, .unset, .unset, .unset, .unset, .unset, .unset, .unset] [(.long (ww.toInt64)), (.long ((fj_0.toInt64) <<< ((3 : Int32) &&& 0x3f).toInt64))])) _
    refine XS.lor X0.here hx rfl (hb hby at_28) rfl ?_
    show Steps p.tables e below (s₁.setTop (mkF m 29 #[.val (.int p0), .val (.int p1), .val (.int p2), .val (.int p3), .val (.int p4), .val (.int fj_0), .val (.int ww), .unset, .unset, .unset, .unset, .unset, .unset, .unset, .unset, .unset, .unset] [(.long (((fj_0.toInt64) <<< ((3 : Int32) &&& 0x3f).toInt64) ||| (ww.toInt64)))])) _
    exact k
  obtain ⟨tt, htt⟩ : ∃ z : Int64, z = (((fj_0.toInt64) <<< ((3 : Int32) &&& 0x3f).toInt64) ||| (ww.toInt64)) := ⟨_, rfl⟩
  rw [← htt] at pre6
  have htt' := own_t bff bww htt
  obtain ⟨T7, h7, k7, X7, e7, E7, A7, st7⟩ := newP X0 hx hZ (hw _ (List.mem_of_getElem? (i := 1) rfl)) e0 (g := (mkF m 32 #[.val (.int p0), .val (.int p1), .val (.int p2), .val (.int p3), .val (.int p4), .val (.int fj_0), .val (.int ww), .val (.long tt), .second, .unset, .unset, .unset, .unset, .unset, .unset, .unset, .unset] [(.int (5 : Int32))])) rfl (hb hby at_32) rfl (by decide) (cap := 5) (by decide) (by decide) (by decide) (by decide)
  obtain ⟨b7, g7⟩ : ∃ z, z = h0.size := ⟨_, rfl⟩
  rw [← g7] at A7 st7
  have V7 : Arv Z h7 b7 k7 .byte (5 : Int32) [(.int (0 : Int32)), (.int (0 : Int32)), (.int (0 : Int32)), (.int (0 : Int32)), (.int (0 : Int32))] (.int (0 : Int32)) := (Arv.new A7 (by decide)).pad (pad_rep [] (.int (0 : Int32)) 5)
  have g_b7 : n0 ≤ b7 := Nat.le_trans Z0 (Nat.le_of_eq g7.symm)
  have sz_b7 : h0.size ≤ b7 := (Nat.le_trans (Keep.refl h0 []).1 (Nat.le_of_eq g7.symm))
  have K7 : Keep h0 h7 [] := (Keep.refl h0 []).ext E7
  obtain ⟨cl8, Ar8, q8, S8, M8, H8, G8⟩ := V7
  have hin8 : ¬ ((0 : Int32) < 0 ∨ cl8.slots.size ≤ ((0 : Int32)).toNatClampNeg) := inb_of S8 ⟨by decide, by decide⟩
  obtain ⟨T9, h9, X9, e9, W9, st9⟩ := stB X7 hx hZ e7 Ar8 (j := (0 : Int32)) hin8 (g := (mkF m 51 #[.val (.int p0), .val (.int p1), .val (.int p2), .val (.int p3), .val (.int p4), .val (.int fj_0), .val (.int ww), .val (.long tt), .second, .val (.ref b7), .unset, .unset, .unset, .unset, .unset, .unset, .unset] [(.int ((((tt &&& (127 : Int64)) ||| (128 : Int64)).toInt32).toInt8.toInt32)), (.int (0 : Int32)), (.ref b7)])) rfl rfl (hb hby at_51)
  obtain ⟨b0, hb0⟩ : ∃ z : Int32, z = nar .byte ((((tt &&& (127 : Int64)) ||| (128 : Int64)).toInt32).toInt8.toInt32) := ⟨_, rfl⟩
  rw [← hb0] at W9
  have V9 : Arv Z h9 b7 k7 .byte (5 : Int32) [(.int b0), (.int (0 : Int32)), (.int (0 : Int32)), (.int (0 : Int32)), (.int (0 : Int32))] (.int (0 : Int32)) := Arv.set Ar8 q8 S8 M8 H8 G8 (by rw [hb0]; exact fits_nar_byte _) W9 0 rfl (Nat.le_of_ble_eq_true rfl)
  have K9 : Keep h0 h9 [] := K7.wr W9 (Or.inr sz_b7)
  have N9 := Fr.snoc X9 N0 g_b7
  obtain ⟨cl10, Ar10, q10, S10, M10, H10, G10⟩ := V9
  have hin10 : ¬ ((1 : Int32) < 0 ∨ cl10.slots.size ≤ ((1 : Int32)).toNatClampNeg) := inb_of S10 ⟨by decide, by decide⟩
  obtain ⟨T11, h11, X11, e11, W11, st11⟩ := stB X9 hx hZ e9 Ar10 (j := (1 : Int32)) hin10 (g := (mkF m 70 #[.val (.int p0), .val (.int p1), .val (.int p2), .val (.int p3), .val (.int p4), .val (.int fj_0), .val (.int ww), .val (.long tt), .second, .val (.ref b7), .unset, .unset, .unset, .unset, .unset, .unset, .unset] [(.int ((((((tt.toUInt64 >>> ((7 : Int32) &&& 0x3f).toInt64.toUInt64).toInt64) &&& (127 : Int64)) ||| (128 : Int64)).toInt32).toInt8.toInt32)), (.int (1 : Int32)), (.ref b7)])) rfl rfl (hb hby at_70)
  obtain ⟨b1, hb1⟩ : ∃ z : Int32, z = nar .byte ((((((tt.toUInt64 >>> ((7 : Int32) &&& 0x3f).toInt64.toUInt64).toInt64) &&& (127 : Int64)) ||| (128 : Int64)).toInt32).toInt8.toInt32) := ⟨_, rfl⟩
  rw [← hb1] at W11
  have V11 : Arv Z h11 b7 k7 .byte (5 : Int32) [(.int b0), (.int b1), (.int (0 : Int32)), (.int (0 : Int32)), (.int (0 : Int32))] (.int (0 : Int32)) := Arv.set Ar10 q10 S10 M10 H10 G10 (by rw [hb1]; exact fits_nar_byte _) W11 1 rfl (Nat.le_of_ble_eq_true rfl)
  have K11 : Keep h0 h11 [] := K9.wr W11 (Or.inr sz_b7)
  have N11 := Fr.snoc X11 N9 g_b7
  obtain ⟨cl12, Ar12, q12, S12, M12, H12, G12⟩ := V11
  have hin12 : ¬ ((2 : Int32) < 0 ∨ cl12.slots.size ≤ ((2 : Int32)).toNatClampNeg) := inb_of S12 ⟨by decide, by decide⟩
  obtain ⟨T13, h13, X13, e13, W13, st13⟩ := stB X11 hx hZ e11 Ar12 (j := (2 : Int32)) hin12 (g := (mkF m 89 #[.val (.int p0), .val (.int p1), .val (.int p2), .val (.int p3), .val (.int p4), .val (.int fj_0), .val (.int ww), .val (.long tt), .second, .val (.ref b7), .unset, .unset, .unset, .unset, .unset, .unset, .unset] [(.int ((((((tt.toUInt64 >>> ((14 : Int32) &&& 0x3f).toInt64.toUInt64).toInt64) &&& (127 : Int64)) ||| (128 : Int64)).toInt32).toInt8.toInt32)), (.int (2 : Int32)), (.ref b7)])) rfl rfl (hb hby at_89)
  obtain ⟨b2, hb2⟩ : ∃ z : Int32, z = nar .byte ((((((tt.toUInt64 >>> ((14 : Int32) &&& 0x3f).toInt64.toUInt64).toInt64) &&& (127 : Int64)) ||| (128 : Int64)).toInt32).toInt8.toInt32) := ⟨_, rfl⟩
  rw [← hb2] at W13
  have V13 : Arv Z h13 b7 k7 .byte (5 : Int32) [(.int b0), (.int b1), (.int b2), (.int (0 : Int32)), (.int (0 : Int32))] (.int (0 : Int32)) := Arv.set Ar12 q12 S12 M12 H12 G12 (by rw [hb2]; exact fits_nar_byte _) W13 2 rfl (Nat.le_of_ble_eq_true rfl)
  have K13 : Keep h0 h13 [] := K11.wr W13 (Or.inr sz_b7)
  have N13 := Fr.snoc X13 N11 g_b7
  obtain ⟨cl14, Ar14, q14, S14, M14, H14, G14⟩ := V13
  have hin14 : ¬ ((3 : Int32) < 0 ∨ cl14.slots.size ≤ ((3 : Int32)).toNatClampNeg) := inb_of S14 ⟨by decide, by decide⟩
  obtain ⟨T15, h15, X15, e15, W15, st15⟩ := stB X13 hx hZ e13 Ar14 (j := (3 : Int32)) hin14 (g := (mkF m 108 #[.val (.int p0), .val (.int p1), .val (.int p2), .val (.int p3), .val (.int p4), .val (.int fj_0), .val (.int ww), .val (.long tt), .second, .val (.ref b7), .unset, .unset, .unset, .unset, .unset, .unset, .unset] [(.int ((((((tt.toUInt64 >>> ((21 : Int32) &&& 0x3f).toInt64.toUInt64).toInt64) &&& (127 : Int64)) ||| (128 : Int64)).toInt32).toInt8.toInt32)), (.int (3 : Int32)), (.ref b7)])) rfl rfl (hb hby at_108)
  obtain ⟨b3, hb3⟩ : ∃ z : Int32, z = nar .byte ((((((tt.toUInt64 >>> ((21 : Int32) &&& 0x3f).toInt64.toUInt64).toInt64) &&& (127 : Int64)) ||| (128 : Int64)).toInt32).toInt8.toInt32) := ⟨_, rfl⟩
  rw [← hb3] at W15
  have V15 : Arv Z h15 b7 k7 .byte (5 : Int32) [(.int b0), (.int b1), (.int b2), (.int b3), (.int (0 : Int32))] (.int (0 : Int32)) := Arv.set Ar14 q14 S14 M14 H14 G14 (by rw [hb3]; exact fits_nar_byte _) W15 3 rfl (Nat.le_of_ble_eq_true rfl)
  have K15 : Keep h0 h15 [] := K13.wr W15 (Or.inr sz_b7)
  have N15 := Fr.snoc X15 N13 g_b7
  obtain ⟨cl16, Ar16, q16, S16, M16, H16, G16⟩ := V15
  have hin16 : ¬ ((4 : Int32) < 0 ∨ cl16.slots.size ≤ ((4 : Int32)).toNatClampNeg) := inb_of S16 ⟨by decide, by decide⟩
  obtain ⟨T17, h17, X17, e17, W17, st17⟩ := stB X15 hx hZ e15 Ar16 (j := (4 : Int32)) hin16 (g := (mkF m 123 #[.val (.int p0), .val (.int p1), .val (.int p2), .val (.int p3), .val (.int p4), .val (.int fj_0), .val (.int ww), .val (.long tt), .second, .val (.ref b7), .unset, .unset, .unset, .unset, .unset, .unset, .unset] [(.int (((((tt.toUInt64 >>> ((28 : Int32) &&& 0x3f).toInt64.toUInt64).toInt64) &&& (15 : Int64)).toInt32).toInt8.toInt32)), (.int (4 : Int32)), (.ref b7)])) rfl rfl (hb hby at_123)
  obtain ⟨b4, hb4⟩ : ∃ z : Int32, z = nar .byte (((((tt.toUInt64 >>> ((28 : Int32) &&& 0x3f).toInt64.toUInt64).toInt64) &&& (15 : Int64)).toInt32).toInt8.toInt32) := ⟨_, rfl⟩
  rw [← hb4] at W17
  have V17 : Arv Z h17 b7 k7 .byte (5 : Int32) [(.int b0), (.int b1), (.int b2), (.int b3), (.int b4)] (.int (0 : Int32)) := Arv.set Ar16 q16 S16 M16 H16 G16 (by rw [hb4]; exact fits_nar_byte _) W17 4 rfl (Nat.le_of_ble_eq_true rfl)
  have K17 : Keep h0 h17 [] := K15.wr W17 (Or.inr sz_b7)
  have N17 := Fr.snoc X17 N15 g_b7
  obtain ⟨T18, h18, X18, e18, E18, A18, D18, -, st18⟩ := newO X17 hx hZ hown (hw _ (List.mem_of_getElem? (i := 5) rfl)) (hw _ (List.mem_of_getElem? (i := 6) rfl)) (hw _ (List.mem_of_getElem? (i := 7) rfl)) e17 (g := (mkF m 124 #[.val (.int p0), .val (.int p1), .val (.int p2), .val (.int p3), .val (.int p4), .val (.int fj_0), .val (.int ww), .val (.long tt), .second, .val (.ref b7), .unset, .unset, .unset, .unset, .unset, .unset, .unset] [])) rfl (hb hby at_124) (by decide) (by decide)
  obtain ⟨b18, g18⟩ : ∃ z, z = h17.size := ⟨_, rfl⟩
  rw [← g18] at A18 D18 st18
  have F18_bytes : Fld Z h18 b18 site_130.cls "bytes" "[B" .null := D18 (Or.inr (hw _ (List.mem_of_getElem? (i := 18) rfl))) (ty := (.array .byte)) (by decide)
  have F18_position : Fld Z h18 b18 site_130.cls "position" "I" (.int (0 : Int32)) := D18 (Or.inl (hw _ (List.mem_of_getElem? (i := 20) rfl))) (ty := .int) (by decide)
  have F18_end : Fld Z h18 b18 site_130.cls "end" "I" (.int (0 : Int32)) := D18 (Or.inr (hw _ (List.mem_of_getElem? (i := 22) rfl))) (ty := .int) (by decide)
  have F18_field : Fld Z h18 b18 site_130.cls "field" "I" (.int (0 : Int32)) := D18 (Or.inl (hw _ (List.mem_of_getElem? (i := 50) rfl))) (ty := .int) (by decide)
  have F18_wireType : Fld Z h18 b18 site_130.cls "wireType" "I" (.int (0 : Int32)) := D18 (Or.inl (hw _ (List.mem_of_getElem? (i := 56) rfl))) (ty := .int) (by decide)
  have g_b18 : n0 ≤ b18 := Nat.le_trans (Nat.le_trans (Nat.le_trans (Nat.le_trans (Nat.le_trans (Nat.le_trans (Nat.le_trans Z0 E7.1) (Keep.of_wr W9).1) (Keep.of_wr W11).1) (Keep.of_wr W13).1) (Keep.of_wr W15).1) (Keep.of_wr W17).1) (Nat.le_of_eq g18.symm)
  have sz_b18 : h0.size ≤ b18 := (Nat.le_trans K17.1 (Nat.le_of_eq g18.symm))
  have K18 : Keep h0 h18 [] := K17.ext E18
  obtain ⟨cl19, Ar19, q19, S19, M19, H19, G19⟩ := (V17.ext E18)
  obtain ⟨_, _, ⟨T20, L20, k20, n20⟩, -, X20, ⟨Lc20, hQ20, l20, y20, z20⟩, st20⟩ := X18.specialBack hx (y := (⟨site_130.cls, "<init>", "([B)V"⟩ : MethodName)) rfl hown (mvT hZ (hw _ (List.mem_of_getElem? (i := 8) rfl))) (mvT hZ (hw _ (List.mem_of_getElem? (i := 9) rfl))) (mvT hZ (hw _ (List.mem_of_getElem? (i := 10) rfl))) (by decide) (backOf (W := 1) (rmI l Z a0 hw [] b18 b7 cl19 (5 : Int32) h18 n0 (Nat.le_trans (Nat.le_trans (Nat.le_trans (Nat.le_trans (Nat.le_trans (Nat.le_trans (Nat.le_trans Z0 E7.1) (Keep.of_wr W9).1) (Keep.of_wr W11).1) (Keep.of_wr W13).1) (Keep.of_wr W15).1) (Keep.of_wr W17).1) E18.1) F18_bytes F18_position F18_end F18_field F18_wireType A18 g_b18 Ar19 S19 M19) hZ (hw _ (List.mem_of_getElem? (i := 10) rfl)) (hw _ (List.mem_of_getElem? (i := 7) rfl)) (by decide) (by decide)) (g := (mkF m 130 #[.val (.int p0), .val (.int p1), .val (.int p2), .val (.int p3), .val (.int p4), .val (.int fj_0), .val (.int ww), .val (.long tt), .second, .val (.ref b7), .unset, .unset, .unset, .unset, .unset, .unset, .unset] [(.ref b7), (.ref b18), (.ref b18)])) rfl (by rw [hml]; rfl) (Steps.refl _) (a := b18) (argsL := [(.ref b7)]) (rest := [(.ref b18)]) (lenOf pd_4 rfl) rfl (by show 2 * 0 + _ ≤ _; exact Nat.le_of_eq rfl) (hb hby at_130) (fun _ _ => ⟨rfl, e18, (by decide : 2 + 0 ≤ _), (by decide : 10 + 0 ≤ _)⟩)
  dsimp only [Pt.U, Pt.locs, Pt.cells, Pt.slots] at X20 l20 y20 z20 st20 hQ20
  subst l20 y20 z20
  obtain ⟨rfl, N20q, Kq20, Eq20, G0q20, G1q20, G2q20, G3q20, G4q20⟩ := hQ20
  have N20 := Fr.app N17 N20q
  have K20 : Keep h0 T20.heap [] := K18.trans Kq20 (allS (Or.inr sz_b18) all0)
  obtain ⟨cl21, Ar21, q21, S21, M21, H21, G21⟩ := ((V17.ext E18).keep Kq20 (ninS (Nat.ne_of_lt (Nat.lt_of_lt_of_le V17.lt (Nat.le_of_eq g18.symm))) nin0))
  have t0 : cl21.slots[0]? = some (.int b0) := H21 0 (by rw [S21]; decide)
  have t1 : cl21.slots[1]? = some (.int b1) := H21 1 (by rw [S21]; decide)
  have t2 : cl21.slots[2]? = some (.int b2) := H21 2 (by rw [S21]; decide)
  have t3 : cl21.slots[3]? = some (.int b3) := H21 3 (by rw [S21]; decide)
  have t4 : cl21.slots[4]? = some (.int b4) := H21 4 (by rw [S21]; decide)
  obtain ⟨u0, u1, u2, u3, u4, hvar⟩ := own_bytes htt'.1 htt'.2.1 hb0 hb1 hb2 hb3 hb4
  have hfw := own_fw bff bww htt'.2.2 htt'.1
  have hu : ¬ ((0 : Int32) < own_cmp ((own_var b0 b1 b2 b3 b4) + (-9223372036854775808 : Int64)) ((4294967295 : Int64) + (-9223372036854775808 : Int64))) := by rw [hvar]; exact own_u htt'.1 htt'.2.1
  have hf : ¬ (own_field (own_var b0 b1 b2 b3 b4) = (0 : Int32)) := by rw [hvar, hfw.1]; exact own_nz bff
  obtain ⟨cq22, kq22, q22a, q22b, q22c⟩ := isOf hZ rfl Eq20
  obtain ⟨_, _, ⟨T22, L22, k22, n22⟩, -, X22, ⟨Lc22, hQ22, l22, y22, z22⟩, st22⟩ := X20.virtualBack hx (y := (⟨site_130.cls, "next", "()Z"⟩ : MethodName)) (z := (⟨site_130.cls, "next", "()Z"⟩ : MethodName)) hown (mvT hZ (hw _ (List.mem_of_getElem? (i := 23) rfl))) (mvT hZ (hw _ (List.mem_of_getElem? (i := 24) rfl))) (notFace_of_selects (args := #[]) (mvT hZ (hw _ (List.mem_of_getElem? (i := 26) rfl)))) (mvT hZ (hw _ (List.mem_of_getElem? (i := 26) rfl))) (mvT hZ (hw _ (List.mem_of_getElem? (i := 25) rfl))) (by decide) (backOf (W := 0) (rmN l Z a0 hw [] b18 b7 cl21 b0 b1 b2 b3 b4 T20.heap n0 (Nat.le_trans (Nat.le_trans (Nat.le_trans (Nat.le_trans (Nat.le_trans (Nat.le_trans (Nat.le_trans (Nat.le_trans Z0 E7.1) (Keep.of_wr W9).1) (Keep.of_wr W11).1) (Keep.of_wr W13).1) (Keep.of_wr W15).1) (Keep.of_wr W17).1) E18.1) Kq20.1) G0q20 G1q20 G2q20 G3q20 G4q20 Eq20 g_b18 Ar21 S21 (Nat.ne_of_lt (Nat.lt_of_lt_of_le V17.lt (Nat.le_of_eq g18.symm))) t0 t1 t2 t3 t4 u0 u1 u2 u3 u4 hu hf) hZ (hw _ (List.mem_of_getElem? (i := 27) rfl)) (hw _ (List.mem_of_getElem? (i := 7) rfl)) (by decide) (by decide)) q22a q22c (g := (mkF m 137 #[.val (.int p0), .val (.int p1), .val (.int p2), .val (.int p3), .val (.int p4), .val (.int fj_0), .val (.int ww), .val (.long tt), .second, .val (.ref b7), .val (.ref b18), .unset, .unset, .unset, .unset, .unset, .unset] [(.ref b18)])) rfl (by rw [hml]; rfl) (Steps.refl _) (argsL := []) (rest := []) (lenOf pd_5 rfl) rfl (by show 2 * 0 + _ ≤ _; exact Nat.le_of_eq rfl) (hb hby at_137) (fun _ _ => ⟨rfl, rfl, (by decide : 2 + 0 ≤ _), (by decide : 10 + 0 ≤ _)⟩)
  dsimp only [Pt.U, Pt.locs, Pt.cells, Pt.slots] at X22 l22 y22 z22 st22 hQ22
  subst l22 y22 z22
  obtain ⟨rfl, N22q, Kq22, Eq22, G3q22, G4q22⟩ := hQ22
  have N22 := Fr.app N20 N22q
  have K22 : Keep h0 T22.heap [] := K20.trans Kq22 (allS (Or.inr sz_b18) all0)
  rw [hvar, hfw.1] at G3q22
  rw [hvar, hfw.2] at G4q22
  have pre23 : ∀ t, Steps p.tables e below (T22.setTop (mkF m 153 #[.val (.int p0), .val (.int p1), .val (.int p2), .val (.int p3), .val (.int p4), .val (.int fj_0), .val (.int ww), .val (.long tt), .second, .val (.ref b7), .val (.ref b18), .val (.int (1 : Int32)), .unset, .unset, .unset, .unset, .unset] [(.int (p4 &&& (1 : Int32)))])) t → Steps p.tables e below (s₁.setTop (entryFrame m #[(.int p0), (.int p1), (.int p2), (.int p3), (.int p4)] maxLocals)) t := by
    intro t k
    refine pre6 t ?_
    show Steps p.tables e below (s₁.setTop (mkF m 29 #[.val (.int p0), .val (.int p1), .val (.int p2), .val (.int p3), .val (.int p4), .val (.int fj_0), .val (.int ww), .unset, .unset, .unset, .unset, .unset, .unset, .unset, .unset, .unset, .unset] [(.long tt)])) _
    refine XS.lstore X0.here hx rfl (hb hby at_29) rfl (l' := #[.val (.int p0), .val (.int p1), .val (.int p2), .val (.int p3), .val (.int p4), .val (.int fj_0), .val (.int ww), .val (.long tt), .second, .unset, .unset, .unset, .unset, .unset, .unset, .unset, .unset]) rfl ?_
    show Steps p.tables e below (s₁.setTop (mkF m 31 #[.val (.int p0), .val (.int p1), .val (.int p2), .val (.int p3), .val (.int p4), .val (.int fj_0), .val (.int ww), .val (.long tt), .second, .unset, .unset, .unset, .unset, .unset, .unset, .unset, .unset] [])) _
    refine XS.iconst X0.here hx rfl (hb hby at_31) ?_
    show Steps p.tables e below (s₁.setTop (mkF m 32 #[.val (.int p0), .val (.int p1), .val (.int p2), .val (.int p3), .val (.int p4), .val (.int fj_0), .val (.int ww), .val (.long tt), .second, .unset, .unset, .unset, .unset, .unset, .unset, .unset, .unset] [(.int (5 : Int32))])) _
    refine st7 _ ?_
    show Steps p.tables e below (T7.setTop (mkF m 34 #[.val (.int p0), .val (.int p1), .val (.int p2), .val (.int p3), .val (.int p4), .val (.int fj_0), .val (.int ww), .val (.long tt), .second, .unset, .unset, .unset, .unset, .unset, .unset, .unset, .unset] [(.ref b7)])) _
    refine XS.astore X7.here hx rfl (hb hby at_34) rfl (rfl) (l' := #[.val (.int p0), .val (.int p1), .val (.int p2), .val (.int p3), .val (.int p4), .val (.int fj_0), .val (.int ww), .val (.long tt), .second, .val (.ref b7), .unset, .unset, .unset, .unset, .unset, .unset, .unset]) rfl ?_
    show Steps p.tables e below (T7.setTop (mkF m 36 #[.val (.int p0), .val (.int p1), .val (.int p2), .val (.int p3), .val (.int p4), .val (.int fj_0), .val (.int ww), .val (.long tt), .second, .val (.ref b7), .unset, .unset, .unset, .unset, .unset, .unset, .unset] [])) _
    refine XS.aload X7.here hx rfl (hb hby at_36) rfl (rfl) ?_
    show Steps p.tables e below (T7.setTop (mkF m 38 #[.val (.int p0), .val (.int p1), .val (.int p2), .val (.int p3), .val (.int p4), .val (.int fj_0), .val (.int ww), .val (.long tt), .second, .val (.ref b7), .unset, .unset, .unset, .unset, .unset, .unset, .unset] [(.ref b7)])) _
    refine XS.iconst X7.here hx rfl (hb hby at_38) ?_
    show Steps p.tables e below (T7.setTop (mkF m 39 #[.val (.int p0), .val (.int p1), .val (.int p2), .val (.int p3), .val (.int p4), .val (.int fj_0), .val (.int ww), .val (.long tt), .second, .val (.ref b7), .unset, .unset, .unset, .unset, .unset, .unset, .unset] [(.int (0 : Int32)), (.ref b7)])) _
    refine XS.lload X7.here hx rfl (hb hby at_39) rfl ?_
    show Steps p.tables e below (T7.setTop (mkF m 41 #[.val (.int p0), .val (.int p1), .val (.int p2), .val (.int p3), .val (.int p4), .val (.int fj_0), .val (.int ww), .val (.long tt), .second, .val (.ref b7), .unset, .unset, .unset, .unset, .unset, .unset, .unset] [(.long tt), (.int (0 : Int32)), (.ref b7)])) _
    refine X7.ldc2Long hx hown (mvT hZ (hw _ (List.mem_of_getElem? (i := 2) rfl))) (g := (mkF m 41 #[.val (.int p0), .val (.int p1), .val (.int p2), .val (.int p3), .val (.int p4), .val (.int fj_0), .val (.int ww), .val (.long tt), .second, .val (.ref b7), .unset, .unset, .unset, .unset, .unset, .unset, .unset] [(.long tt), (.int (0 : Int32)), (.ref b7)])) rfl (hb hby at_41) _ ?_
    show Steps p.tables e below (T7.setTop (mkF m 44 #[.val (.int p0), .val (.int p1), .val (.int p2), .val (.int p3), .val (.int p4), .val (.int fj_0), .val (.int ww), .val (.long tt), .second, .val (.ref b7), .unset, .unset, .unset, .unset, .unset, .unset, .unset] [(.long (127 : Int64)), (.long tt), (.int (0 : Int32)), (.ref b7)])) _
    refine XS.land X7.here hx rfl (hb hby at_44) rfl ?_
    show Steps p.tables e below (T7.setTop (mkF m 45 #[.val (.int p0), .val (.int p1), .val (.int p2), .val (.int p3), .val (.int p4), .val (.int fj_0), .val (.int ww), .val (.long tt), .second, .val (.ref b7), .unset, .unset, .unset, .unset, .unset, .unset, .unset] [(.long (tt &&& (127 : Int64))), (.int (0 : Int32)), (.ref b7)])) _
    refine X7.ldc2Long hx hown (mvT hZ (hw _ (List.mem_of_getElem? (i := 3) rfl))) (g := (mkF m 45 #[.val (.int p0), .val (.int p1), .val (.int p2), .val (.int p3), .val (.int p4), .val (.int fj_0), .val (.int ww), .val (.long tt), .second, .val (.ref b7), .unset, .unset, .unset, .unset, .unset, .unset, .unset] [(.long (tt &&& (127 : Int64))), (.int (0 : Int32)), (.ref b7)])) rfl (hb hby at_45) _ ?_
    show Steps p.tables e below (T7.setTop (mkF m 48 #[.val (.int p0), .val (.int p1), .val (.int p2), .val (.int p3), .val (.int p4), .val (.int fj_0), .val (.int ww), .val (.long tt), .second, .val (.ref b7), .unset, .unset, .unset, .unset, .unset, .unset, .unset] [(.long (128 : Int64)), (.long (tt &&& (127 : Int64))), (.int (0 : Int32)), (.ref b7)])) _
    refine XS.lor X7.here hx rfl (hb hby at_48) rfl ?_
    show Steps p.tables e below (T7.setTop (mkF m 49 #[.val (.int p0), .val (.int p1), .val (.int p2), .val (.int p3), .val (.int p4), .val (.int fj_0), .val (.int ww), .val (.long tt), .second, .val (.ref b7), .unset, .unset, .unset, .unset, .unset, .unset, .unset] [(.long ((tt &&& (127 : Int64)) ||| (128 : Int64))), (.int (0 : Int32)), (.ref b7)])) _
    refine XS.l2i X7.here hx rfl (hb hby at_49) rfl ?_
    show Steps p.tables e below (T7.setTop (mkF m 50 #[.val (.int p0), .val (.int p1), .val (.int p2), .val (.int p3), .val (.int p4), .val (.int fj_0), .val (.int ww), .val (.long tt), .second, .val (.ref b7), .unset, .unset, .unset, .unset, .unset, .unset, .unset] [(.int (((tt &&& (127 : Int64)) ||| (128 : Int64)).toInt32)), (.int (0 : Int32)), (.ref b7)])) _
    refine XS.i2b X7.here hx rfl (hb hby at_50) rfl ?_
    show Steps p.tables e below (T7.setTop (mkF m 51 #[.val (.int p0), .val (.int p1), .val (.int p2), .val (.int p3), .val (.int p4), .val (.int fj_0), .val (.int ww), .val (.long tt), .second, .val (.ref b7), .unset, .unset, .unset, .unset, .unset, .unset, .unset] [(.int ((((tt &&& (127 : Int64)) ||| (128 : Int64)).toInt32).toInt8.toInt32)), (.int (0 : Int32)), (.ref b7)])) _
    refine st9 _ ?_
    show Steps p.tables e below (T9.setTop (mkF m 52 #[.val (.int p0), .val (.int p1), .val (.int p2), .val (.int p3), .val (.int p4), .val (.int fj_0), .val (.int ww), .val (.long tt), .second, .val (.ref b7), .unset, .unset, .unset, .unset, .unset, .unset, .unset] [])) _
    refine XS.aload X9.here hx rfl (hb hby at_52) rfl (rfl) ?_
    show Steps p.tables e below (T9.setTop (mkF m 54 #[.val (.int p0), .val (.int p1), .val (.int p2), .val (.int p3), .val (.int p4), .val (.int fj_0), .val (.int ww), .val (.long tt), .second, .val (.ref b7), .unset, .unset, .unset, .unset, .unset, .unset, .unset] [(.ref b7)])) _
    refine XS.iconst X9.here hx rfl (hb hby at_54) ?_
    show Steps p.tables e below (T9.setTop (mkF m 55 #[.val (.int p0), .val (.int p1), .val (.int p2), .val (.int p3), .val (.int p4), .val (.int fj_0), .val (.int ww), .val (.long tt), .second, .val (.ref b7), .unset, .unset, .unset, .unset, .unset, .unset, .unset] [(.int (1 : Int32)), (.ref b7)])) _
    refine XS.lload X9.here hx rfl (hb hby at_55) rfl ?_
    show Steps p.tables e below (T9.setTop (mkF m 57 #[.val (.int p0), .val (.int p1), .val (.int p2), .val (.int p3), .val (.int p4), .val (.int fj_0), .val (.int ww), .val (.long tt), .second, .val (.ref b7), .unset, .unset, .unset, .unset, .unset, .unset, .unset] [(.long tt), (.int (1 : Int32)), (.ref b7)])) _
    refine XS.bipush X9.here hx rfl (hb hby at_57) ?_
    show Steps p.tables e below (T9.setTop (mkF m 59 #[.val (.int p0), .val (.int p1), .val (.int p2), .val (.int p3), .val (.int p4), .val (.int fj_0), .val (.int ww), .val (.long tt), .second, .val (.ref b7), .unset, .unset, .unset, .unset, .unset, .unset, .unset] [(.int (7 : Int32)), (.long tt), (.int (1 : Int32)), (.ref b7)])) _
    refine XS.lushr X9.here hx rfl (hb hby at_59) rfl ?_
    show Steps p.tables e below (T9.setTop (mkF m 60 #[.val (.int p0), .val (.int p1), .val (.int p2), .val (.int p3), .val (.int p4), .val (.int fj_0), .val (.int ww), .val (.long tt), .second, .val (.ref b7), .unset, .unset, .unset, .unset, .unset, .unset, .unset] [(.long ((tt.toUInt64 >>> ((7 : Int32) &&& 0x3f).toInt64.toUInt64).toInt64)), (.int (1 : Int32)), (.ref b7)])) _
    refine X9.ldc2Long hx hown (mvT hZ (hw _ (List.mem_of_getElem? (i := 2) rfl))) (g := (mkF m 60 #[.val (.int p0), .val (.int p1), .val (.int p2), .val (.int p3), .val (.int p4), .val (.int fj_0), .val (.int ww), .val (.long tt), .second, .val (.ref b7), .unset, .unset, .unset, .unset, .unset, .unset, .unset] [(.long ((tt.toUInt64 >>> ((7 : Int32) &&& 0x3f).toInt64.toUInt64).toInt64)), (.int (1 : Int32)), (.ref b7)])) rfl (hb hby at_60) _ ?_
    show Steps p.tables e below (T9.setTop (mkF m 63 #[.val (.int p0), .val (.int p1), .val (.int p2), .val (.int p3), .val (.int p4), .val (.int fj_0), .val (.int ww), .val (.long tt), .second, .val (.ref b7), .unset, .unset, .unset, .unset, .unset, .unset, .unset] [(.long (127 : Int64)), (.long ((tt.toUInt64 >>> ((7 : Int32) &&& 0x3f).toInt64.toUInt64).toInt64)), (.int (1 : Int32)), (.ref b7)])) _
    refine XS.land X9.here hx rfl (hb hby at_63) rfl ?_
    show Steps p.tables e below (T9.setTop (mkF m 64 #[.val (.int p0), .val (.int p1), .val (.int p2), .val (.int p3), .val (.int p4), .val (.int fj_0), .val (.int ww), .val (.long tt), .second, .val (.ref b7), .unset, .unset, .unset, .unset, .unset, .unset, .unset] [(.long (((tt.toUInt64 >>> ((7 : Int32) &&& 0x3f).toInt64.toUInt64).toInt64) &&& (127 : Int64))), (.int (1 : Int32)), (.ref b7)])) _
    refine X9.ldc2Long hx hown (mvT hZ (hw _ (List.mem_of_getElem? (i := 3) rfl))) (g := (mkF m 64 #[.val (.int p0), .val (.int p1), .val (.int p2), .val (.int p3), .val (.int p4), .val (.int fj_0), .val (.int ww), .val (.long tt), .second, .val (.ref b7), .unset, .unset, .unset, .unset, .unset, .unset, .unset] [(.long (((tt.toUInt64 >>> ((7 : Int32) &&& 0x3f).toInt64.toUInt64).toInt64) &&& (127 : Int64))), (.int (1 : Int32)), (.ref b7)])) rfl (hb hby at_64) _ ?_
    show Steps p.tables e below (T9.setTop (mkF m 67 #[.val (.int p0), .val (.int p1), .val (.int p2), .val (.int p3), .val (.int p4), .val (.int fj_0), .val (.int ww), .val (.long tt), .second, .val (.ref b7), .unset, .unset, .unset, .unset, .unset, .unset, .unset] [(.long (128 : Int64)), (.long (((tt.toUInt64 >>> ((7 : Int32) &&& 0x3f).toInt64.toUInt64).toInt64) &&& (127 : Int64))), (.int (1 : Int32)), (.ref b7)])) _
    refine XS.lor X9.here hx rfl (hb hby at_67) rfl ?_
    show Steps p.tables e below (T9.setTop (mkF m 68 #[.val (.int p0), .val (.int p1), .val (.int p2), .val (.int p3), .val (.int p4), .val (.int fj_0), .val (.int ww), .val (.long tt), .second, .val (.ref b7), .unset, .unset, .unset, .unset, .unset, .unset, .unset] [(.long ((((tt.toUInt64 >>> ((7 : Int32) &&& 0x3f).toInt64.toUInt64).toInt64) &&& (127 : Int64)) ||| (128 : Int64))), (.int (1 : Int32)), (.ref b7)])) _
    refine XS.l2i X9.here hx rfl (hb hby at_68) rfl ?_
    show Steps p.tables e below (T9.setTop (mkF m 69 #[.val (.int p0), .val (.int p1), .val (.int p2), .val (.int p3), .val (.int p4), .val (.int fj_0), .val (.int ww), .val (.long tt), .second, .val (.ref b7), .unset, .unset, .unset, .unset, .unset, .unset, .unset] [(.int (((((tt.toUInt64 >>> ((7 : Int32) &&& 0x3f).toInt64.toUInt64).toInt64) &&& (127 : Int64)) ||| (128 : Int64)).toInt32)), (.int (1 : Int32)), (.ref b7)])) _
    refine XS.i2b X9.here hx rfl (hb hby at_69) rfl ?_
    show Steps p.tables e below (T9.setTop (mkF m 70 #[.val (.int p0), .val (.int p1), .val (.int p2), .val (.int p3), .val (.int p4), .val (.int fj_0), .val (.int ww), .val (.long tt), .second, .val (.ref b7), .unset, .unset, .unset, .unset, .unset, .unset, .unset] [(.int ((((((tt.toUInt64 >>> ((7 : Int32) &&& 0x3f).toInt64.toUInt64).toInt64) &&& (127 : Int64)) ||| (128 : Int64)).toInt32).toInt8.toInt32)), (.int (1 : Int32)), (.ref b7)])) _
    refine st11 _ ?_
    show Steps p.tables e below (T11.setTop (mkF m 71 #[.val (.int p0), .val (.int p1), .val (.int p2), .val (.int p3), .val (.int p4), .val (.int fj_0), .val (.int ww), .val (.long tt), .second, .val (.ref b7), .unset, .unset, .unset, .unset, .unset, .unset, .unset] [])) _
    refine XS.aload X11.here hx rfl (hb hby at_71) rfl (rfl) ?_
    show Steps p.tables e below (T11.setTop (mkF m 73 #[.val (.int p0), .val (.int p1), .val (.int p2), .val (.int p3), .val (.int p4), .val (.int fj_0), .val (.int ww), .val (.long tt), .second, .val (.ref b7), .unset, .unset, .unset, .unset, .unset, .unset, .unset] [(.ref b7)])) _
    refine XS.iconst X11.here hx rfl (hb hby at_73) ?_
    show Steps p.tables e below (T11.setTop (mkF m 74 #[.val (.int p0), .val (.int p1), .val (.int p2), .val (.int p3), .val (.int p4), .val (.int fj_0), .val (.int ww), .val (.long tt), .second, .val (.ref b7), .unset, .unset, .unset, .unset, .unset, .unset, .unset] [(.int (2 : Int32)), (.ref b7)])) _
    refine XS.lload X11.here hx rfl (hb hby at_74) rfl ?_
    show Steps p.tables e below (T11.setTop (mkF m 76 #[.val (.int p0), .val (.int p1), .val (.int p2), .val (.int p3), .val (.int p4), .val (.int fj_0), .val (.int ww), .val (.long tt), .second, .val (.ref b7), .unset, .unset, .unset, .unset, .unset, .unset, .unset] [(.long tt), (.int (2 : Int32)), (.ref b7)])) _
    refine XS.bipush X11.here hx rfl (hb hby at_76) ?_
    show Steps p.tables e below (T11.setTop (mkF m 78 #[.val (.int p0), .val (.int p1), .val (.int p2), .val (.int p3), .val (.int p4), .val (.int fj_0), .val (.int ww), .val (.long tt), .second, .val (.ref b7), .unset, .unset, .unset, .unset, .unset, .unset, .unset] [(.int (14 : Int32)), (.long tt), (.int (2 : Int32)), (.ref b7)])) _
    refine XS.lushr X11.here hx rfl (hb hby at_78) rfl ?_
    show Steps p.tables e below (T11.setTop (mkF m 79 #[.val (.int p0), .val (.int p1), .val (.int p2), .val (.int p3), .val (.int p4), .val (.int fj_0), .val (.int ww), .val (.long tt), .second, .val (.ref b7), .unset, .unset, .unset, .unset, .unset, .unset, .unset] [(.long ((tt.toUInt64 >>> ((14 : Int32) &&& 0x3f).toInt64.toUInt64).toInt64)), (.int (2 : Int32)), (.ref b7)])) _
    refine X11.ldc2Long hx hown (mvT hZ (hw _ (List.mem_of_getElem? (i := 2) rfl))) (g := (mkF m 79 #[.val (.int p0), .val (.int p1), .val (.int p2), .val (.int p3), .val (.int p4), .val (.int fj_0), .val (.int ww), .val (.long tt), .second, .val (.ref b7), .unset, .unset, .unset, .unset, .unset, .unset, .unset] [(.long ((tt.toUInt64 >>> ((14 : Int32) &&& 0x3f).toInt64.toUInt64).toInt64)), (.int (2 : Int32)), (.ref b7)])) rfl (hb hby at_79) _ ?_
    show Steps p.tables e below (T11.setTop (mkF m 82 #[.val (.int p0), .val (.int p1), .val (.int p2), .val (.int p3), .val (.int p4), .val (.int fj_0), .val (.int ww), .val (.long tt), .second, .val (.ref b7), .unset, .unset, .unset, .unset, .unset, .unset, .unset] [(.long (127 : Int64)), (.long ((tt.toUInt64 >>> ((14 : Int32) &&& 0x3f).toInt64.toUInt64).toInt64)), (.int (2 : Int32)), (.ref b7)])) _
    refine XS.land X11.here hx rfl (hb hby at_82) rfl ?_
    show Steps p.tables e below (T11.setTop (mkF m 83 #[.val (.int p0), .val (.int p1), .val (.int p2), .val (.int p3), .val (.int p4), .val (.int fj_0), .val (.int ww), .val (.long tt), .second, .val (.ref b7), .unset, .unset, .unset, .unset, .unset, .unset, .unset] [(.long (((tt.toUInt64 >>> ((14 : Int32) &&& 0x3f).toInt64.toUInt64).toInt64) &&& (127 : Int64))), (.int (2 : Int32)), (.ref b7)])) _
    refine X11.ldc2Long hx hown (mvT hZ (hw _ (List.mem_of_getElem? (i := 3) rfl))) (g := (mkF m 83 #[.val (.int p0), .val (.int p1), .val (.int p2), .val (.int p3), .val (.int p4), .val (.int fj_0), .val (.int ww), .val (.long tt), .second, .val (.ref b7), .unset, .unset, .unset, .unset, .unset, .unset, .unset] [(.long (((tt.toUInt64 >>> ((14 : Int32) &&& 0x3f).toInt64.toUInt64).toInt64) &&& (127 : Int64))), (.int (2 : Int32)), (.ref b7)])) rfl (hb hby at_83) _ ?_
    show Steps p.tables e below (T11.setTop (mkF m 86 #[.val (.int p0), .val (.int p1), .val (.int p2), .val (.int p3), .val (.int p4), .val (.int fj_0), .val (.int ww), .val (.long tt), .second, .val (.ref b7), .unset, .unset, .unset, .unset, .unset, .unset, .unset] [(.long (128 : Int64)), (.long (((tt.toUInt64 >>> ((14 : Int32) &&& 0x3f).toInt64.toUInt64).toInt64) &&& (127 : Int64))), (.int (2 : Int32)), (.ref b7)])) _
    refine XS.lor X11.here hx rfl (hb hby at_86) rfl ?_
    show Steps p.tables e below (T11.setTop (mkF m 87 #[.val (.int p0), .val (.int p1), .val (.int p2), .val (.int p3), .val (.int p4), .val (.int fj_0), .val (.int ww), .val (.long tt), .second, .val (.ref b7), .unset, .unset, .unset, .unset, .unset, .unset, .unset] [(.long ((((tt.toUInt64 >>> ((14 : Int32) &&& 0x3f).toInt64.toUInt64).toInt64) &&& (127 : Int64)) ||| (128 : Int64))), (.int (2 : Int32)), (.ref b7)])) _
    refine XS.l2i X11.here hx rfl (hb hby at_87) rfl ?_
    show Steps p.tables e below (T11.setTop (mkF m 88 #[.val (.int p0), .val (.int p1), .val (.int p2), .val (.int p3), .val (.int p4), .val (.int fj_0), .val (.int ww), .val (.long tt), .second, .val (.ref b7), .unset, .unset, .unset, .unset, .unset, .unset, .unset] [(.int (((((tt.toUInt64 >>> ((14 : Int32) &&& 0x3f).toInt64.toUInt64).toInt64) &&& (127 : Int64)) ||| (128 : Int64)).toInt32)), (.int (2 : Int32)), (.ref b7)])) _
    refine XS.i2b X11.here hx rfl (hb hby at_88) rfl ?_
    show Steps p.tables e below (T11.setTop (mkF m 89 #[.val (.int p0), .val (.int p1), .val (.int p2), .val (.int p3), .val (.int p4), .val (.int fj_0), .val (.int ww), .val (.long tt), .second, .val (.ref b7), .unset, .unset, .unset, .unset, .unset, .unset, .unset] [(.int ((((((tt.toUInt64 >>> ((14 : Int32) &&& 0x3f).toInt64.toUInt64).toInt64) &&& (127 : Int64)) ||| (128 : Int64)).toInt32).toInt8.toInt32)), (.int (2 : Int32)), (.ref b7)])) _
    refine st13 _ ?_
    show Steps p.tables e below (T13.setTop (mkF m 90 #[.val (.int p0), .val (.int p1), .val (.int p2), .val (.int p3), .val (.int p4), .val (.int fj_0), .val (.int ww), .val (.long tt), .second, .val (.ref b7), .unset, .unset, .unset, .unset, .unset, .unset, .unset] [])) _
    refine XS.aload X13.here hx rfl (hb hby at_90) rfl (rfl) ?_
    show Steps p.tables e below (T13.setTop (mkF m 92 #[.val (.int p0), .val (.int p1), .val (.int p2), .val (.int p3), .val (.int p4), .val (.int fj_0), .val (.int ww), .val (.long tt), .second, .val (.ref b7), .unset, .unset, .unset, .unset, .unset, .unset, .unset] [(.ref b7)])) _
    refine XS.iconst X13.here hx rfl (hb hby at_92) ?_
    show Steps p.tables e below (T13.setTop (mkF m 93 #[.val (.int p0), .val (.int p1), .val (.int p2), .val (.int p3), .val (.int p4), .val (.int fj_0), .val (.int ww), .val (.long tt), .second, .val (.ref b7), .unset, .unset, .unset, .unset, .unset, .unset, .unset] [(.int (3 : Int32)), (.ref b7)])) _
    refine XS.lload X13.here hx rfl (hb hby at_93) rfl ?_
    show Steps p.tables e below (T13.setTop (mkF m 95 #[.val (.int p0), .val (.int p1), .val (.int p2), .val (.int p3), .val (.int p4), .val (.int fj_0), .val (.int ww), .val (.long tt), .second, .val (.ref b7), .unset, .unset, .unset, .unset, .unset, .unset, .unset] [(.long tt), (.int (3 : Int32)), (.ref b7)])) _
    refine XS.bipush X13.here hx rfl (hb hby at_95) ?_
    show Steps p.tables e below (T13.setTop (mkF m 97 #[.val (.int p0), .val (.int p1), .val (.int p2), .val (.int p3), .val (.int p4), .val (.int fj_0), .val (.int ww), .val (.long tt), .second, .val (.ref b7), .unset, .unset, .unset, .unset, .unset, .unset, .unset] [(.int (21 : Int32)), (.long tt), (.int (3 : Int32)), (.ref b7)])) _
    refine XS.lushr X13.here hx rfl (hb hby at_97) rfl ?_
    show Steps p.tables e below (T13.setTop (mkF m 98 #[.val (.int p0), .val (.int p1), .val (.int p2), .val (.int p3), .val (.int p4), .val (.int fj_0), .val (.int ww), .val (.long tt), .second, .val (.ref b7), .unset, .unset, .unset, .unset, .unset, .unset, .unset] [(.long ((tt.toUInt64 >>> ((21 : Int32) &&& 0x3f).toInt64.toUInt64).toInt64)), (.int (3 : Int32)), (.ref b7)])) _
    refine X13.ldc2Long hx hown (mvT hZ (hw _ (List.mem_of_getElem? (i := 2) rfl))) (g := (mkF m 98 #[.val (.int p0), .val (.int p1), .val (.int p2), .val (.int p3), .val (.int p4), .val (.int fj_0), .val (.int ww), .val (.long tt), .second, .val (.ref b7), .unset, .unset, .unset, .unset, .unset, .unset, .unset] [(.long ((tt.toUInt64 >>> ((21 : Int32) &&& 0x3f).toInt64.toUInt64).toInt64)), (.int (3 : Int32)), (.ref b7)])) rfl (hb hby at_98) _ ?_
    show Steps p.tables e below (T13.setTop (mkF m 101 #[.val (.int p0), .val (.int p1), .val (.int p2), .val (.int p3), .val (.int p4), .val (.int fj_0), .val (.int ww), .val (.long tt), .second, .val (.ref b7), .unset, .unset, .unset, .unset, .unset, .unset, .unset] [(.long (127 : Int64)), (.long ((tt.toUInt64 >>> ((21 : Int32) &&& 0x3f).toInt64.toUInt64).toInt64)), (.int (3 : Int32)), (.ref b7)])) _
    refine XS.land X13.here hx rfl (hb hby at_101) rfl ?_
    show Steps p.tables e below (T13.setTop (mkF m 102 #[.val (.int p0), .val (.int p1), .val (.int p2), .val (.int p3), .val (.int p4), .val (.int fj_0), .val (.int ww), .val (.long tt), .second, .val (.ref b7), .unset, .unset, .unset, .unset, .unset, .unset, .unset] [(.long (((tt.toUInt64 >>> ((21 : Int32) &&& 0x3f).toInt64.toUInt64).toInt64) &&& (127 : Int64))), (.int (3 : Int32)), (.ref b7)])) _
    refine X13.ldc2Long hx hown (mvT hZ (hw _ (List.mem_of_getElem? (i := 3) rfl))) (g := (mkF m 102 #[.val (.int p0), .val (.int p1), .val (.int p2), .val (.int p3), .val (.int p4), .val (.int fj_0), .val (.int ww), .val (.long tt), .second, .val (.ref b7), .unset, .unset, .unset, .unset, .unset, .unset, .unset] [(.long (((tt.toUInt64 >>> ((21 : Int32) &&& 0x3f).toInt64.toUInt64).toInt64) &&& (127 : Int64))), (.int (3 : Int32)), (.ref b7)])) rfl (hb hby at_102) _ ?_
    show Steps p.tables e below (T13.setTop (mkF m 105 #[.val (.int p0), .val (.int p1), .val (.int p2), .val (.int p3), .val (.int p4), .val (.int fj_0), .val (.int ww), .val (.long tt), .second, .val (.ref b7), .unset, .unset, .unset, .unset, .unset, .unset, .unset] [(.long (128 : Int64)), (.long (((tt.toUInt64 >>> ((21 : Int32) &&& 0x3f).toInt64.toUInt64).toInt64) &&& (127 : Int64))), (.int (3 : Int32)), (.ref b7)])) _
    refine XS.lor X13.here hx rfl (hb hby at_105) rfl ?_
    show Steps p.tables e below (T13.setTop (mkF m 106 #[.val (.int p0), .val (.int p1), .val (.int p2), .val (.int p3), .val (.int p4), .val (.int fj_0), .val (.int ww), .val (.long tt), .second, .val (.ref b7), .unset, .unset, .unset, .unset, .unset, .unset, .unset] [(.long ((((tt.toUInt64 >>> ((21 : Int32) &&& 0x3f).toInt64.toUInt64).toInt64) &&& (127 : Int64)) ||| (128 : Int64))), (.int (3 : Int32)), (.ref b7)])) _
    refine XS.l2i X13.here hx rfl (hb hby at_106) rfl ?_
    show Steps p.tables e below (T13.setTop (mkF m 107 #[.val (.int p0), .val (.int p1), .val (.int p2), .val (.int p3), .val (.int p4), .val (.int fj_0), .val (.int ww), .val (.long tt), .second, .val (.ref b7), .unset, .unset, .unset, .unset, .unset, .unset, .unset] [(.int (((((tt.toUInt64 >>> ((21 : Int32) &&& 0x3f).toInt64.toUInt64).toInt64) &&& (127 : Int64)) ||| (128 : Int64)).toInt32)), (.int (3 : Int32)), (.ref b7)])) _
    refine XS.i2b X13.here hx rfl (hb hby at_107) rfl ?_
    show Steps p.tables e below (T13.setTop (mkF m 108 #[.val (.int p0), .val (.int p1), .val (.int p2), .val (.int p3), .val (.int p4), .val (.int fj_0), .val (.int ww), .val (.long tt), .second, .val (.ref b7), .unset, .unset, .unset, .unset, .unset, .unset, .unset] [(.int ((((((tt.toUInt64 >>> ((21 : Int32) &&& 0x3f).toInt64.toUInt64).toInt64) &&& (127 : Int64)) ||| (128 : Int64)).toInt32).toInt8.toInt32)), (.int (3 : Int32)), (.ref b7)])) _
    refine st15 _ ?_
    show Steps p.tables e below (T15.setTop (mkF m 109 #[.val (.int p0), .val (.int p1), .val (.int p2), .val (.int p3), .val (.int p4), .val (.int fj_0), .val (.int ww), .val (.long tt), .second, .val (.ref b7), .unset, .unset, .unset, .unset, .unset, .unset, .unset] [])) _
    refine XS.aload X15.here hx rfl (hb hby at_109) rfl (rfl) ?_
    show Steps p.tables e below (T15.setTop (mkF m 111 #[.val (.int p0), .val (.int p1), .val (.int p2), .val (.int p3), .val (.int p4), .val (.int fj_0), .val (.int ww), .val (.long tt), .second, .val (.ref b7), .unset, .unset, .unset, .unset, .unset, .unset, .unset] [(.ref b7)])) _
    refine XS.iconst X15.here hx rfl (hb hby at_111) ?_
    show Steps p.tables e below (T15.setTop (mkF m 112 #[.val (.int p0), .val (.int p1), .val (.int p2), .val (.int p3), .val (.int p4), .val (.int fj_0), .val (.int ww), .val (.long tt), .second, .val (.ref b7), .unset, .unset, .unset, .unset, .unset, .unset, .unset] [(.int (4 : Int32)), (.ref b7)])) _
    refine XS.lload X15.here hx rfl (hb hby at_112) rfl ?_
    show Steps p.tables e below (T15.setTop (mkF m 114 #[.val (.int p0), .val (.int p1), .val (.int p2), .val (.int p3), .val (.int p4), .val (.int fj_0), .val (.int ww), .val (.long tt), .second, .val (.ref b7), .unset, .unset, .unset, .unset, .unset, .unset, .unset] [(.long tt), (.int (4 : Int32)), (.ref b7)])) _
    refine XS.bipush X15.here hx rfl (hb hby at_114) ?_
    show Steps p.tables e below (T15.setTop (mkF m 116 #[.val (.int p0), .val (.int p1), .val (.int p2), .val (.int p3), .val (.int p4), .val (.int fj_0), .val (.int ww), .val (.long tt), .second, .val (.ref b7), .unset, .unset, .unset, .unset, .unset, .unset, .unset] [(.int (28 : Int32)), (.long tt), (.int (4 : Int32)), (.ref b7)])) _
    refine XS.lushr X15.here hx rfl (hb hby at_116) rfl ?_
    show Steps p.tables e below (T15.setTop (mkF m 117 #[.val (.int p0), .val (.int p1), .val (.int p2), .val (.int p3), .val (.int p4), .val (.int fj_0), .val (.int ww), .val (.long tt), .second, .val (.ref b7), .unset, .unset, .unset, .unset, .unset, .unset, .unset] [(.long ((tt.toUInt64 >>> ((28 : Int32) &&& 0x3f).toInt64.toUInt64).toInt64)), (.int (4 : Int32)), (.ref b7)])) _
    refine X15.ldc2Long hx hown (mvT hZ (hw _ (List.mem_of_getElem? (i := 4) rfl))) (g := (mkF m 117 #[.val (.int p0), .val (.int p1), .val (.int p2), .val (.int p3), .val (.int p4), .val (.int fj_0), .val (.int ww), .val (.long tt), .second, .val (.ref b7), .unset, .unset, .unset, .unset, .unset, .unset, .unset] [(.long ((tt.toUInt64 >>> ((28 : Int32) &&& 0x3f).toInt64.toUInt64).toInt64)), (.int (4 : Int32)), (.ref b7)])) rfl (hb hby at_117) _ ?_
    show Steps p.tables e below (T15.setTop (mkF m 120 #[.val (.int p0), .val (.int p1), .val (.int p2), .val (.int p3), .val (.int p4), .val (.int fj_0), .val (.int ww), .val (.long tt), .second, .val (.ref b7), .unset, .unset, .unset, .unset, .unset, .unset, .unset] [(.long (15 : Int64)), (.long ((tt.toUInt64 >>> ((28 : Int32) &&& 0x3f).toInt64.toUInt64).toInt64)), (.int (4 : Int32)), (.ref b7)])) _
    refine XS.land X15.here hx rfl (hb hby at_120) rfl ?_
    show Steps p.tables e below (T15.setTop (mkF m 121 #[.val (.int p0), .val (.int p1), .val (.int p2), .val (.int p3), .val (.int p4), .val (.int fj_0), .val (.int ww), .val (.long tt), .second, .val (.ref b7), .unset, .unset, .unset, .unset, .unset, .unset, .unset] [(.long (((tt.toUInt64 >>> ((28 : Int32) &&& 0x3f).toInt64.toUInt64).toInt64) &&& (15 : Int64))), (.int (4 : Int32)), (.ref b7)])) _
    refine XS.l2i X15.here hx rfl (hb hby at_121) rfl ?_
    show Steps p.tables e below (T15.setTop (mkF m 122 #[.val (.int p0), .val (.int p1), .val (.int p2), .val (.int p3), .val (.int p4), .val (.int fj_0), .val (.int ww), .val (.long tt), .second, .val (.ref b7), .unset, .unset, .unset, .unset, .unset, .unset, .unset] [(.int ((((tt.toUInt64 >>> ((28 : Int32) &&& 0x3f).toInt64.toUInt64).toInt64) &&& (15 : Int64)).toInt32)), (.int (4 : Int32)), (.ref b7)])) _
    refine XS.i2b X15.here hx rfl (hb hby at_122) rfl ?_
    show Steps p.tables e below (T15.setTop (mkF m 123 #[.val (.int p0), .val (.int p1), .val (.int p2), .val (.int p3), .val (.int p4), .val (.int fj_0), .val (.int ww), .val (.long tt), .second, .val (.ref b7), .unset, .unset, .unset, .unset, .unset, .unset, .unset] [(.int (((((tt.toUInt64 >>> ((28 : Int32) &&& 0x3f).toInt64.toUInt64).toInt64) &&& (15 : Int64)).toInt32).toInt8.toInt32)), (.int (4 : Int32)), (.ref b7)])) _
    refine st17 _ ?_
    show Steps p.tables e below (T17.setTop (mkF m 124 #[.val (.int p0), .val (.int p1), .val (.int p2), .val (.int p3), .val (.int p4), .val (.int fj_0), .val (.int ww), .val (.long tt), .second, .val (.ref b7), .unset, .unset, .unset, .unset, .unset, .unset, .unset] [])) _
    refine st18 _ ?_
    show Steps p.tables e below (T18.setTop (mkF m 127 #[.val (.int p0), .val (.int p1), .val (.int p2), .val (.int p3), .val (.int p4), .val (.int fj_0), .val (.int ww), .val (.long tt), .second, .val (.ref b7), .unset, .unset, .unset, .unset, .unset, .unset, .unset] [(.ref b18)])) _
    refine XS.dup X18.here hx rfl (hb hby at_127) rfl rfl ?_
    show Steps p.tables e below (T18.setTop (mkF m 128 #[.val (.int p0), .val (.int p1), .val (.int p2), .val (.int p3), .val (.int p4), .val (.int fj_0), .val (.int ww), .val (.long tt), .second, .val (.ref b7), .unset, .unset, .unset, .unset, .unset, .unset, .unset] [(.ref b18), (.ref b18)])) _
    refine XS.aload X18.here hx rfl (hb hby at_128) rfl (rfl) ?_
    show Steps p.tables e below (T18.setTop (mkF m 130 #[.val (.int p0), .val (.int p1), .val (.int p2), .val (.int p3), .val (.int p4), .val (.int fj_0), .val (.int ww), .val (.long tt), .second, .val (.ref b7), .unset, .unset, .unset, .unset, .unset, .unset, .unset] [(.ref b7), (.ref b18), (.ref b18)])) _
    refine st20.trans ?_
    show Steps p.tables e below (T20.setTop (mkF m 133 #[.val (.int p0), .val (.int p1), .val (.int p2), .val (.int p3), .val (.int p4), .val (.int fj_0), .val (.int ww), .val (.long tt), .second, .val (.ref b7), .unset, .unset, .unset, .unset, .unset, .unset, .unset] [(.ref b18)])) _
    refine XS.astore X20.here hx rfl (hb hby at_133) rfl (rfl) (l' := #[.val (.int p0), .val (.int p1), .val (.int p2), .val (.int p3), .val (.int p4), .val (.int fj_0), .val (.int ww), .val (.long tt), .second, .val (.ref b7), .val (.ref b18), .unset, .unset, .unset, .unset, .unset, .unset]) rfl ?_
    show Steps p.tables e below (T20.setTop (mkF m 135 #[.val (.int p0), .val (.int p1), .val (.int p2), .val (.int p3), .val (.int p4), .val (.int fj_0), .val (.int ww), .val (.long tt), .second, .val (.ref b7), .val (.ref b18), .unset, .unset, .unset, .unset, .unset, .unset] [])) _
    refine XS.aload X20.here hx rfl (hb hby at_135) rfl (rfl) ?_
    show Steps p.tables e below (T20.setTop (mkF m 137 #[.val (.int p0), .val (.int p1), .val (.int p2), .val (.int p3), .val (.int p4), .val (.int fj_0), .val (.int ww), .val (.long tt), .second, .val (.ref b7), .val (.ref b18), .unset, .unset, .unset, .unset, .unset, .unset] [(.ref b18)])) _
    refine st22.trans ?_
    show Steps p.tables e below (T22.setTop (mkF m 140 #[.val (.int p0), .val (.int p1), .val (.int p2), .val (.int p3), .val (.int p4), .val (.int fj_0), .val (.int ww), .val (.long tt), .second, .val (.ref b7), .val (.ref b18), .unset, .unset, .unset, .unset, .unset, .unset] [(.int (1 : Int32))])) _
    refine XS.istore X22.here hx rfl (hb hby at_140) rfl (l' := #[.val (.int p0), .val (.int p1), .val (.int p2), .val (.int p3), .val (.int p4), .val (.int fj_0), .val (.int ww), .val (.long tt), .second, .val (.ref b7), .val (.ref b18), .val (.int (1 : Int32)), .unset, .unset, .unset, .unset, .unset]) rfl ?_
    show Steps p.tables e below (T22.setTop (mkF m 142 #[.val (.int p0), .val (.int p1), .val (.int p2), .val (.int p3), .val (.int p4), .val (.int fj_0), .val (.int ww), .val (.long tt), .second, .val (.ref b7), .val (.ref b18), .val (.int (1 : Int32)), .unset, .unset, .unset, .unset, .unset] [])) _
    refine XS.iload X22.here hx rfl (hb hby at_142) rfl ?_
    show Steps p.tables e below (T22.setTop (mkF m 144 #[.val (.int p0), .val (.int p1), .val (.int p2), .val (.int p3), .val (.int p4), .val (.int fj_0), .val (.int ww), .val (.long tt), .second, .val (.ref b7), .val (.ref b18), .val (.int (1 : Int32)), .unset, .unset, .unset, .unset, .unset] [(.int (1 : Int32))])) _
    refine XS.ifYes X22.here hx rfl (pc0 := 144) (pc' := 149) rfl (hb hby at_144) rfl ((if0 _ _).trans (feq (by decide : ¬ ((1 : Int32) = (0 : Int32)))).2) (by decide) (by decide) ?_
    show Steps p.tables e below (T22.setTop (mkF m 149 #[.val (.int p0), .val (.int p1), .val (.int p2), .val (.int p3), .val (.int p4), .val (.int fj_0), .val (.int ww), .val (.long tt), .second, .val (.ref b7), .val (.ref b18), .val (.int (1 : Int32)), .unset, .unset, .unset, .unset, .unset] [])) _
    refine XS.iload X22.here hx rfl (hb hby at_149) rfl ?_
    show Steps p.tables e below (T22.setTop (mkF m 151 #[.val (.int p0), .val (.int p1), .val (.int p2), .val (.int p3), .val (.int p4), .val (.int fj_0), .val (.int ww), .val (.long tt), .second, .val (.ref b7), .val (.ref b18), .val (.int (1 : Int32)), .unset, .unset, .unset, .unset, .unset] [(.int p4)])) _
    refine XS.iconst X22.here hx rfl (hb hby at_151) ?_
    show Steps p.tables e below (T22.setTop (mkF m 152 #[.val (.int p0), .val (.int p1), .val (.int p2), .val (.int p3), .val (.int p4), .val (.int fj_0), .val (.int ww), .val (.long tt), .second, .val (.ref b7), .val (.ref b18), .val (.int (1 : Int32)), .unset, .unset, .unset, .unset, .unset] [(.int (1 : Int32)), (.int p4)])) _
    refine XS.iand X22.here hx rfl (hb hby at_152) rfl ?_
    show Steps p.tables e below (T22.setTop (mkF m 153 #[.val (.int p0), .val (.int p1), .val (.int p2), .val (.int p3), .val (.int p4), .val (.int fj_0), .val (.int ww), .val (.long tt), .second, .val (.ref b7), .val (.ref b18), .val (.int (1 : Int32)), .unset, .unset, .unset, .unset, .unset] [(.int (p4 &&& (1 : Int32)))])) _
    exact k
  obtain ⟨qf_0, hqf_0, prejqf⟩ : ∃ (qf_0 : Int32), (qf_0 = if (p4 &&& (1 : Int32)) = (0 : Int32) then (fj_0 ^^^ p2) else fj_0) ∧ (∀ t, Steps p.tables e below (T22.setTop (mkF m 165 #[.val (.int p0), .val (.int p1), .val (.int p2), .val (.int p3), .val (.int p4), .val (.int fj_0), .val (.int ww), .val (.long tt), .second, .val (.ref b7), .val (.ref b18), .val (.int (1 : Int32)), .unset, .unset, .unset, .unset, .unset] [(.int qf_0)])) t → Steps p.tables e below (s₁.setTop (entryFrame m #[(.int p0), (.int p1), (.int p2), (.int p3), (.int p4)] maxLocals)) t) := by
    by_cases hjqf : (p4 &&& (1 : Int32)) = (0 : Int32)
    · skip
      have pre24 : ∀ t, Steps p.tables e below (T22.setTop (mkF m 165 #[.val (.int p0), .val (.int p1), .val (.int p2), .val (.int p3), .val (.int p4), .val (.int fj_0), .val (.int ww), .val (.long tt), .second, .val (.ref b7), .val (.ref b18), .val (.int (1 : Int32)), .unset, .unset, .unset, .unset, .unset] [(.int (fj_0 ^^^ p2))])) t → Steps p.tables e below (s₁.setTop (entryFrame m #[(.int p0), (.int p1), (.int p2), (.int p3), (.int p4)] maxLocals)) t := by
        intro t k
        refine pre23 t ?_
        refine XS.ifYes X22.here hx rfl (pc0 := 153) (pc' := 161) rfl (hb hby at_153) rfl ((if0 _ _).trans (teq hjqf).1) (by decide) (by decide) ?_
        show Steps p.tables e below (T22.setTop (mkF m 161 #[.val (.int p0), .val (.int p1), .val (.int p2), .val (.int p3), .val (.int p4), .val (.int fj_0), .val (.int ww), .val (.long tt), .second, .val (.ref b7), .val (.ref b18), .val (.int (1 : Int32)), .unset, .unset, .unset, .unset, .unset] [])) _
        refine XS.iload X22.here hx rfl (hb hby at_161) rfl ?_
        show Steps p.tables e below (T22.setTop (mkF m 163 #[.val (.int p0), .val (.int p1), .val (.int p2), .val (.int p3), .val (.int p4), .val (.int fj_0), .val (.int ww), .val (.long tt), .second, .val (.ref b7), .val (.ref b18), .val (.int (1 : Int32)), .unset, .unset, .unset, .unset, .unset] [(.int fj_0)])) _
        refine XS.iloadN X22.here hx rfl (hb hby at_163) rfl ?_
        show Steps p.tables e below (T22.setTop (mkF m 164 #[.val (.int p0), .val (.int p1), .val (.int p2), .val (.int p3), .val (.int p4), .val (.int fj_0), .val (.int ww), .val (.long tt), .second, .val (.ref b7), .val (.ref b18), .val (.int (1 : Int32)), .unset, .unset, .unset, .unset, .unset] [(.int p2), (.int fj_0)])) _
        refine XS.ixor X22.here hx rfl (hb hby at_164) rfl ?_
        show Steps p.tables e below (T22.setTop (mkF m 165 #[.val (.int p0), .val (.int p1), .val (.int p2), .val (.int p3), .val (.int p4), .val (.int fj_0), .val (.int ww), .val (.long tt), .second, .val (.ref b7), .val (.ref b18), .val (.int (1 : Int32)), .unset, .unset, .unset, .unset, .unset] [(.int (fj_0 ^^^ p2))])) _
        exact k
      exact ⟨(fj_0 ^^^ p2), by simp [hjqf], pre24⟩
    · skip
      have pre25 : ∀ t, Steps p.tables e below (T22.setTop (mkF m 165 #[.val (.int p0), .val (.int p1), .val (.int p2), .val (.int p3), .val (.int p4), .val (.int fj_0), .val (.int ww), .val (.long tt), .second, .val (.ref b7), .val (.ref b18), .val (.int (1 : Int32)), .unset, .unset, .unset, .unset, .unset] [(.int fj_0)])) t → Steps p.tables e below (s₁.setTop (entryFrame m #[(.int p0), (.int p1), (.int p2), (.int p3), (.int p4)] maxLocals)) t := by
        intro t k
        refine pre23 t ?_
        refine XS.ifNo X22.here hx rfl (hb hby at_153) rfl ((if0 _ _).trans (feq hjqf).1) ?_
        show Steps p.tables e below (T22.setTop (mkF m 156 #[.val (.int p0), .val (.int p1), .val (.int p2), .val (.int p3), .val (.int p4), .val (.int fj_0), .val (.int ww), .val (.long tt), .second, .val (.ref b7), .val (.ref b18), .val (.int (1 : Int32)), .unset, .unset, .unset, .unset, .unset] [])) _
        refine XS.iload X22.here hx rfl (hb hby at_156) rfl ?_
        show Steps p.tables e below (T22.setTop (mkF m 158 #[.val (.int p0), .val (.int p1), .val (.int p2), .val (.int p3), .val (.int p4), .val (.int fj_0), .val (.int ww), .val (.long tt), .second, .val (.ref b7), .val (.ref b18), .val (.int (1 : Int32)), .unset, .unset, .unset, .unset, .unset] [(.int fj_0)])) _
        refine XS.goto X22.here hx rfl (pc0 := 158) (pc' := 165) rfl (hb hby at_158) (by decide) (by decide) ?_
        show Steps p.tables e below (T22.setTop (mkF m 165 #[.val (.int p0), .val (.int p1), .val (.int p2), .val (.int p3), .val (.int p4), .val (.int fj_0), .val (.int ww), .val (.long tt), .second, .val (.ref b7), .val (.ref b18), .val (.int (1 : Int32)), .unset, .unset, .unset, .unset, .unset] [(.int fj_0)])) _
        exact k
      exact ⟨fj_0, by simp [hjqf], pre25⟩
  have pre26 : ∀ t, Steps p.tables e below (T22.setTop (mkF m 171 #[.val (.int p0), .val (.int p1), .val (.int p2), .val (.int p3), .val (.int p4), .val (.int fj_0), .val (.int ww), .val (.long tt), .second, .val (.ref b7), .val (.ref b18), .val (.int (1 : Int32)), .val (.int qf_0), .unset, .unset, .unset, .unset] [(.int (p4 &&& (2 : Int32)))])) t → Steps p.tables e below (s₁.setTop (entryFrame m #[(.int p0), (.int p1), (.int p2), (.int p3), (.int p4)] maxLocals)) t := by
    intro t k
    refine prejqf t ?_
    show Steps p.tables e below (T22.setTop (mkF m 165 #[.val (.int p0), .val (.int p1), .val (.int p2), .val (.int p3), .val (.int p4), .val (.int fj_0), .val (.int ww), .val (.long tt), .second, .val (.ref b7), .val (.ref b18), .val (.int (1 : Int32)), .unset, .unset, .unset, .unset, .unset] [(.int qf_0)])) _
    refine XS.istore X22.here hx rfl (hb hby at_165) rfl (l' := #[.val (.int p0), .val (.int p1), .val (.int p2), .val (.int p3), .val (.int p4), .val (.int fj_0), .val (.int ww), .val (.long tt), .second, .val (.ref b7), .val (.ref b18), .val (.int (1 : Int32)), .val (.int qf_0), .unset, .unset, .unset, .unset]) rfl ?_
    show Steps p.tables e below (T22.setTop (mkF m 167 #[.val (.int p0), .val (.int p1), .val (.int p2), .val (.int p3), .val (.int p4), .val (.int fj_0), .val (.int ww), .val (.long tt), .second, .val (.ref b7), .val (.ref b18), .val (.int (1 : Int32)), .val (.int qf_0), .unset, .unset, .unset, .unset] [])) _
    refine XS.iload X22.here hx rfl (hb hby at_167) rfl ?_
    show Steps p.tables e below (T22.setTop (mkF m 169 #[.val (.int p0), .val (.int p1), .val (.int p2), .val (.int p3), .val (.int p4), .val (.int fj_0), .val (.int ww), .val (.long tt), .second, .val (.ref b7), .val (.ref b18), .val (.int (1 : Int32)), .val (.int qf_0), .unset, .unset, .unset, .unset] [(.int p4)])) _
    refine XS.iconst X22.here hx rfl (hb hby at_169) ?_
    show Steps p.tables e below (T22.setTop (mkF m 170 #[.val (.int p0), .val (.int p1), .val (.int p2), .val (.int p3), .val (.int p4), .val (.int fj_0), .val (.int ww), .val (.long tt), .second, .val (.ref b7), .val (.ref b18), .val (.int (1 : Int32)), .val (.int qf_0), .unset, .unset, .unset, .unset] [(.int (2 : Int32)), (.int p4)])) _
    refine XS.iand X22.here hx rfl (hb hby at_170) rfl ?_
    show Steps p.tables e below (T22.setTop (mkF m 171 #[.val (.int p0), .val (.int p1), .val (.int p2), .val (.int p3), .val (.int p4), .val (.int fj_0), .val (.int ww), .val (.long tt), .second, .val (.ref b7), .val (.ref b18), .val (.int (1 : Int32)), .val (.int qf_0), .unset, .unset, .unset, .unset] [(.int (p4 &&& (2 : Int32)))])) _
    exact k
  obtain ⟨qw_0, hqw_0, prejqw⟩ : ∃ (qw_0 : Int32), (qw_0 = if (p4 &&& (2 : Int32)) = (0 : Int32) then (ww ^^^ p3) else ww) ∧ (∀ t, Steps p.tables e below (T22.setTop (mkF m 183 #[.val (.int p0), .val (.int p1), .val (.int p2), .val (.int p3), .val (.int p4), .val (.int fj_0), .val (.int ww), .val (.long tt), .second, .val (.ref b7), .val (.ref b18), .val (.int (1 : Int32)), .val (.int qf_0), .unset, .unset, .unset, .unset] [(.int qw_0)])) t → Steps p.tables e below (s₁.setTop (entryFrame m #[(.int p0), (.int p1), (.int p2), (.int p3), (.int p4)] maxLocals)) t) := by
    by_cases hjqw : (p4 &&& (2 : Int32)) = (0 : Int32)
    · skip
      have pre27 : ∀ t, Steps p.tables e below (T22.setTop (mkF m 183 #[.val (.int p0), .val (.int p1), .val (.int p2), .val (.int p3), .val (.int p4), .val (.int fj_0), .val (.int ww), .val (.long tt), .second, .val (.ref b7), .val (.ref b18), .val (.int (1 : Int32)), .val (.int qf_0), .unset, .unset, .unset, .unset] [(.int (ww ^^^ p3))])) t → Steps p.tables e below (s₁.setTop (entryFrame m #[(.int p0), (.int p1), (.int p2), (.int p3), (.int p4)] maxLocals)) t := by
        intro t k
        refine pre26 t ?_
        refine XS.ifYes X22.here hx rfl (pc0 := 171) (pc' := 179) rfl (hb hby at_171) rfl ((if0 _ _).trans (teq hjqw).1) (by decide) (by decide) ?_
        show Steps p.tables e below (T22.setTop (mkF m 179 #[.val (.int p0), .val (.int p1), .val (.int p2), .val (.int p3), .val (.int p4), .val (.int fj_0), .val (.int ww), .val (.long tt), .second, .val (.ref b7), .val (.ref b18), .val (.int (1 : Int32)), .val (.int qf_0), .unset, .unset, .unset, .unset] [])) _
        refine XS.iload X22.here hx rfl (hb hby at_179) rfl ?_
        show Steps p.tables e below (T22.setTop (mkF m 181 #[.val (.int p0), .val (.int p1), .val (.int p2), .val (.int p3), .val (.int p4), .val (.int fj_0), .val (.int ww), .val (.long tt), .second, .val (.ref b7), .val (.ref b18), .val (.int (1 : Int32)), .val (.int qf_0), .unset, .unset, .unset, .unset] [(.int ww)])) _
        refine XS.iloadN X22.here hx rfl (hb hby at_181) rfl ?_
        show Steps p.tables e below (T22.setTop (mkF m 182 #[.val (.int p0), .val (.int p1), .val (.int p2), .val (.int p3), .val (.int p4), .val (.int fj_0), .val (.int ww), .val (.long tt), .second, .val (.ref b7), .val (.ref b18), .val (.int (1 : Int32)), .val (.int qf_0), .unset, .unset, .unset, .unset] [(.int p3), (.int ww)])) _
        refine XS.ixor X22.here hx rfl (hb hby at_182) rfl ?_
        show Steps p.tables e below (T22.setTop (mkF m 183 #[.val (.int p0), .val (.int p1), .val (.int p2), .val (.int p3), .val (.int p4), .val (.int fj_0), .val (.int ww), .val (.long tt), .second, .val (.ref b7), .val (.ref b18), .val (.int (1 : Int32)), .val (.int qf_0), .unset, .unset, .unset, .unset] [(.int (ww ^^^ p3))])) _
        exact k
      exact ⟨(ww ^^^ p3), by simp [hjqw], pre27⟩
    · skip
      have pre28 : ∀ t, Steps p.tables e below (T22.setTop (mkF m 183 #[.val (.int p0), .val (.int p1), .val (.int p2), .val (.int p3), .val (.int p4), .val (.int fj_0), .val (.int ww), .val (.long tt), .second, .val (.ref b7), .val (.ref b18), .val (.int (1 : Int32)), .val (.int qf_0), .unset, .unset, .unset, .unset] [(.int ww)])) t → Steps p.tables e below (s₁.setTop (entryFrame m #[(.int p0), (.int p1), (.int p2), (.int p3), (.int p4)] maxLocals)) t := by
        intro t k
        refine pre26 t ?_
        refine XS.ifNo X22.here hx rfl (hb hby at_171) rfl ((if0 _ _).trans (feq hjqw).1) ?_
        show Steps p.tables e below (T22.setTop (mkF m 174 #[.val (.int p0), .val (.int p1), .val (.int p2), .val (.int p3), .val (.int p4), .val (.int fj_0), .val (.int ww), .val (.long tt), .second, .val (.ref b7), .val (.ref b18), .val (.int (1 : Int32)), .val (.int qf_0), .unset, .unset, .unset, .unset] [])) _
        refine XS.iload X22.here hx rfl (hb hby at_174) rfl ?_
        show Steps p.tables e below (T22.setTop (mkF m 176 #[.val (.int p0), .val (.int p1), .val (.int p2), .val (.int p3), .val (.int p4), .val (.int fj_0), .val (.int ww), .val (.long tt), .second, .val (.ref b7), .val (.ref b18), .val (.int (1 : Int32)), .val (.int qf_0), .unset, .unset, .unset, .unset] [(.int ww)])) _
        refine XS.goto X22.here hx rfl (pc0 := 176) (pc' := 183) rfl (hb hby at_176) (by decide) (by decide) ?_
        show Steps p.tables e below (T22.setTop (mkF m 183 #[.val (.int p0), .val (.int p1), .val (.int p2), .val (.int p3), .val (.int p4), .val (.int fj_0), .val (.int ww), .val (.long tt), .second, .val (.ref b7), .val (.ref b18), .val (.int (1 : Int32)), .val (.int qf_0), .unset, .unset, .unset, .unset] [(.int ww)])) _
        exact k
      exact ⟨ww, by simp [hjqw], pre28⟩
  have pre29 : ∀ t, Steps p.tables e below (T22.setTop (mkF m 189 #[.val (.int p0), .val (.int p1), .val (.int p2), .val (.int p3), .val (.int p4), .val (.int fj_0), .val (.int ww), .val (.long tt), .second, .val (.ref b7), .val (.ref b18), .val (.int (1 : Int32)), .val (.int qf_0), .val (.int qw_0), .unset, .unset, .unset] [(.int fj_0), (.int qf_0)])) t → Steps p.tables e below (s₁.setTop (entryFrame m #[(.int p0), (.int p1), (.int p2), (.int p3), (.int p4)] maxLocals)) t := by
    intro t k
    refine prejqw t ?_
    show Steps p.tables e below (T22.setTop (mkF m 183 #[.val (.int p0), .val (.int p1), .val (.int p2), .val (.int p3), .val (.int p4), .val (.int fj_0), .val (.int ww), .val (.long tt), .second, .val (.ref b7), .val (.ref b18), .val (.int (1 : Int32)), .val (.int qf_0), .unset, .unset, .unset, .unset] [(.int qw_0)])) _
    refine XS.istore X22.here hx rfl (hb hby at_183) rfl (l' := #[.val (.int p0), .val (.int p1), .val (.int p2), .val (.int p3), .val (.int p4), .val (.int fj_0), .val (.int ww), .val (.long tt), .second, .val (.ref b7), .val (.ref b18), .val (.int (1 : Int32)), .val (.int qf_0), .val (.int qw_0), .unset, .unset, .unset]) rfl ?_
    show Steps p.tables e below (T22.setTop (mkF m 185 #[.val (.int p0), .val (.int p1), .val (.int p2), .val (.int p3), .val (.int p4), .val (.int fj_0), .val (.int ww), .val (.long tt), .second, .val (.ref b7), .val (.ref b18), .val (.int (1 : Int32)), .val (.int qf_0), .val (.int qw_0), .unset, .unset, .unset] [])) _
    refine XS.iload X22.here hx rfl (hb hby at_185) rfl ?_
    show Steps p.tables e below (T22.setTop (mkF m 187 #[.val (.int p0), .val (.int p1), .val (.int p2), .val (.int p3), .val (.int p4), .val (.int fj_0), .val (.int ww), .val (.long tt), .second, .val (.ref b7), .val (.ref b18), .val (.int (1 : Int32)), .val (.int qf_0), .val (.int qw_0), .unset, .unset, .unset] [(.int qf_0)])) _
    refine XS.iload X22.here hx rfl (hb hby at_187) rfl ?_
    show Steps p.tables e below (T22.setTop (mkF m 189 #[.val (.int p0), .val (.int p1), .val (.int p2), .val (.int p3), .val (.int p4), .val (.int fj_0), .val (.int ww), .val (.long tt), .second, .val (.ref b7), .val (.ref b18), .val (.int (1 : Int32)), .val (.int qf_0), .val (.int qw_0), .unset, .unset, .unset] [(.int fj_0), (.int qf_0)])) _
    exact k
  by_cases h189 : qf_0 = fj_0
  · skip
    have pre30 : ∀ t, Steps p.tables e below (T22.setTop (mkF m 196 #[.val (.int p0), .val (.int p1), .val (.int p2), .val (.int p3), .val (.int p4), .val (.int fj_0), .val (.int ww), .val (.long tt), .second, .val (.ref b7), .val (.ref b18), .val (.int (1 : Int32)), .val (.int qf_0), .val (.int qw_0), .unset, .unset, .unset] [(.int ww), (.int qw_0)])) t → Steps p.tables e below (s₁.setTop (entryFrame m #[(.int p0), (.int p1), (.int p2), (.int p3), (.int p4)] maxLocals)) t := by
      intro t k
      refine pre29 t ?_
      refine XS.icmpNo X22.here hx rfl (hb hby at_189) rfl (teq h189).2 ?_
      show Steps p.tables e below (T22.setTop (mkF m 192 #[.val (.int p0), .val (.int p1), .val (.int p2), .val (.int p3), .val (.int p4), .val (.int fj_0), .val (.int ww), .val (.long tt), .second, .val (.ref b7), .val (.ref b18), .val (.int (1 : Int32)), .val (.int qf_0), .val (.int qw_0), .unset, .unset, .unset] [])) _
      refine XS.iload X22.here hx rfl (hb hby at_192) rfl ?_
      show Steps p.tables e below (T22.setTop (mkF m 194 #[.val (.int p0), .val (.int p1), .val (.int p2), .val (.int p3), .val (.int p4), .val (.int fj_0), .val (.int ww), .val (.long tt), .second, .val (.ref b7), .val (.ref b18), .val (.int (1 : Int32)), .val (.int qf_0), .val (.int qw_0), .unset, .unset, .unset] [(.int qw_0)])) _
      refine XS.iload X22.here hx rfl (hb hby at_194) rfl ?_
      show Steps p.tables e below (T22.setTop (mkF m 196 #[.val (.int p0), .val (.int p1), .val (.int p2), .val (.int p3), .val (.int p4), .val (.int fj_0), .val (.int ww), .val (.long tt), .second, .val (.ref b7), .val (.ref b18), .val (.int (1 : Int32)), .val (.int qf_0), .val (.int qw_0), .unset, .unset, .unset] [(.int ww), (.int qw_0)])) _
      exact k
    by_cases h196 : qw_0 = ww
    · skip
      obtain ⟨cq31, kq31, q31a, q31b, q31c⟩ := isOf hZ rfl Eq22
      obtain ⟨_, _, ⟨T31, L31, k31, n31⟩, -, X31, ⟨Lc31, hQ31, l31, y31, z31⟩, st31⟩ := X22.virtualBack hx (y := (⟨site_130.cls, "at", "(II)Z"⟩ : MethodName)) (z := (⟨site_130.cls, "at", "(II)Z"⟩ : MethodName)) hown (mvT hZ (hw _ (List.mem_of_getElem? (i := 57) rfl))) (mvT hZ (hw _ (List.mem_of_getElem? (i := 58) rfl))) (notFace_of_selects (args := #[]) (mvT hZ (hw _ (List.mem_of_getElem? (i := 60) rfl)))) (mvT hZ (hw _ (List.mem_of_getElem? (i := 60) rfl))) (mvT hZ (hw _ (List.mem_of_getElem? (i := 59) rfl))) (by decide) (backOf (W := 0) (rmA l Z a0 hw [] b18 qf_0 qw_0 fj_0 ww T22.heap n0 (Nat.le_trans (Nat.le_trans (Nat.le_trans (Nat.le_trans (Nat.le_trans (Nat.le_trans (Nat.le_trans (Nat.le_trans (Nat.le_trans Z0 E7.1) (Keep.of_wr W9).1) (Keep.of_wr W11).1) (Keep.of_wr W13).1) (Keep.of_wr W15).1) (Keep.of_wr W17).1) E18.1) Kq20.1) Kq22.1) G3q22 G4q22) hZ (hw _ (List.mem_of_getElem? (i := 61) rfl)) (hw _ (List.mem_of_getElem? (i := 7) rfl)) (by decide) (by decide)) q31a q31c (g := (mkF m 212 #[.val (.int p0), .val (.int p1), .val (.int p2), .val (.int p3), .val (.int p4), .val (.int fj_0), .val (.int ww), .val (.long tt), .second, .val (.ref b7), .val (.ref b18), .val (.int (1 : Int32)), .val (.int qf_0), .val (.int qw_0), .val (.int (1 : Int32)), .unset, .unset] [(.int qw_0), (.int qf_0), (.ref b18)])) rfl (by rw [hml]; rfl) (Steps.refl _) (argsL := [(.int qf_0), (.int qw_0)]) (rest := []) (lenOf pd_6 rfl) rfl (by show 2 * 0 + _ ≤ _; exact Nat.le_of_eq rfl) (hb hby at_212) (fun _ _ => ⟨rfl, rfl, (by decide : 2 + 0 ≤ _), (by decide : 10 + 0 ≤ _)⟩)
      dsimp only [Pt.U, Pt.locs, Pt.cells, Pt.slots] at X31 l31 y31 z31 st31 hQ31
      subst l31 y31 z31
      obtain ⟨rfl, N31q, hq31⟩ := hQ31
      have N31 := Fr.app N22 N31q
      obtain ⟨cq32, kq32, q32a, q32b, q32c⟩ := isOf hZ hq31 Eq22
      obtain ⟨_, _, ⟨T32, L32, k32, n32⟩, -, X32, ⟨Lc32, hQ32, l32, y32, z32⟩, st32⟩ := X31.virtualBack hx (y := (⟨site_130.cls, "at", "(II)Z"⟩ : MethodName)) (z := (⟨site_130.cls, "at", "(II)Z"⟩ : MethodName)) hown (mvT hZ (hw _ (List.mem_of_getElem? (i := 57) rfl))) (mvT hZ (hw _ (List.mem_of_getElem? (i := 58) rfl))) (notFace_of_selects (args := #[]) (mvT hZ (hw _ (List.mem_of_getElem? (i := 60) rfl)))) (mvT hZ (hw _ (List.mem_of_getElem? (i := 60) rfl))) (mvT hZ (hw _ (List.mem_of_getElem? (i := 59) rfl))) (by decide) (backOf (W := 0) (rmA l Z a0 hw [] b18 fj_0 ww fj_0 ww T22.heap n0 (Nat.le_trans (Nat.le_trans (Nat.le_trans (Nat.le_trans (Nat.le_trans (Nat.le_trans (Nat.le_trans (Nat.le_trans (Nat.le_trans Z0 E7.1) (Keep.of_wr W9).1) (Keep.of_wr W11).1) (Keep.of_wr W13).1) (Keep.of_wr W15).1) (Keep.of_wr W17).1) E18.1) Kq20.1) Kq22.1) G3q22 G4q22) hZ (hw _ (List.mem_of_getElem? (i := 61) rfl)) (hw _ (List.mem_of_getElem? (i := 7) rfl)) (by decide) (by decide)) q32a q32c (g := (mkF m 223 #[.val (.int p0), .val (.int p1), .val (.int p2), .val (.int p3), .val (.int p4), .val (.int fj_0), .val (.int ww), .val (.long tt), .second, .val (.ref b7), .val (.ref b18), .val (.int (1 : Int32)), .val (.int qf_0), .val (.int qw_0), .val (.int (1 : Int32)), .val (.int (own_at fj_0 ww qf_0 qw_0)), .unset] [(.int ww), (.int fj_0), (.ref b18)])) rfl (by rw [hml]; rfl) (Steps.refl _) (argsL := [(.int fj_0), (.int ww)]) (rest := []) (lenOf pd_6 rfl) rfl (by show 2 * 0 + _ ≤ _; exact Nat.le_of_eq rfl) (hb hby at_223) (fun _ _ => ⟨rfl, hq31, (by decide : 2 + 0 ≤ _), (by decide : 10 + 0 ≤ _)⟩)
      dsimp only [Pt.U, Pt.locs, Pt.cells, Pt.slots] at X32 l32 y32 z32 st32 hQ32
      subst l32 y32 z32
      obtain ⟨rfl, N32q, hq32⟩ := hQ32
      have N32 := Fr.app N31 N32q
      have pre33 : ∀ t, Steps p.tables e below (T32.setTop (mkF m 245 #[.val (.int p0), .val (.int p1), .val (.int p2), .val (.int p3), .val (.int p4), .val (.int fj_0), .val (.int ww), .val (.long tt), .second, .val (.ref b7), .val (.ref b18), .val (.int (1 : Int32)), .val (.int qf_0), .val (.int qw_0), .val (.int (1 : Int32)), .val (.int (own_at fj_0 ww qf_0 qw_0)), .val (.int (own_at fj_0 ww fj_0 ww))] [(.int (1 : Int32))])) t → Steps p.tables e below (s₁.setTop (entryFrame m #[(.int p0), (.int p1), (.int p2), (.int p3), (.int p4)] maxLocals)) t := by
        intro t k
        refine pre30 t ?_
        refine XS.icmpNo X22.here hx rfl (hb hby at_196) rfl (teq h196).2 ?_
        show Steps p.tables e below (T22.setTop (mkF m 199 #[.val (.int p0), .val (.int p1), .val (.int p2), .val (.int p3), .val (.int p4), .val (.int fj_0), .val (.int ww), .val (.long tt), .second, .val (.ref b7), .val (.ref b18), .val (.int (1 : Int32)), .val (.int qf_0), .val (.int qw_0), .unset, .unset, .unset] [])) _
        refine XS.iconst X22.here hx rfl (hb hby at_199) ?_
        show Steps p.tables e below (T22.setTop (mkF m 200 #[.val (.int p0), .val (.int p1), .val (.int p2), .val (.int p3), .val (.int p4), .val (.int fj_0), .val (.int ww), .val (.long tt), .second, .val (.ref b7), .val (.ref b18), .val (.int (1 : Int32)), .val (.int qf_0), .val (.int qw_0), .unset, .unset, .unset] [(.int (1 : Int32))])) _
        refine XS.goto X22.here hx rfl (pc0 := 200) (pc' := 204) rfl (hb hby at_200) (by decide) (by decide) ?_
        show Steps p.tables e below (T22.setTop (mkF m 204 #[.val (.int p0), .val (.int p1), .val (.int p2), .val (.int p3), .val (.int p4), .val (.int fj_0), .val (.int ww), .val (.long tt), .second, .val (.ref b7), .val (.ref b18), .val (.int (1 : Int32)), .val (.int qf_0), .val (.int qw_0), .unset, .unset, .unset] [(.int (1 : Int32))])) _
        refine XS.istore X22.here hx rfl (hb hby at_204) rfl (l' := #[.val (.int p0), .val (.int p1), .val (.int p2), .val (.int p3), .val (.int p4), .val (.int fj_0), .val (.int ww), .val (.long tt), .second, .val (.ref b7), .val (.ref b18), .val (.int (1 : Int32)), .val (.int qf_0), .val (.int qw_0), .val (.int (1 : Int32)), .unset, .unset]) rfl ?_
        show Steps p.tables e below (T22.setTop (mkF m 206 #[.val (.int p0), .val (.int p1), .val (.int p2), .val (.int p3), .val (.int p4), .val (.int fj_0), .val (.int ww), .val (.long tt), .second, .val (.ref b7), .val (.ref b18), .val (.int (1 : Int32)), .val (.int qf_0), .val (.int qw_0), .val (.int (1 : Int32)), .unset, .unset] [])) _
        refine XS.aload X22.here hx rfl (hb hby at_206) rfl (rfl) ?_
        show Steps p.tables e below (T22.setTop (mkF m 208 #[.val (.int p0), .val (.int p1), .val (.int p2), .val (.int p3), .val (.int p4), .val (.int fj_0), .val (.int ww), .val (.long tt), .second, .val (.ref b7), .val (.ref b18), .val (.int (1 : Int32)), .val (.int qf_0), .val (.int qw_0), .val (.int (1 : Int32)), .unset, .unset] [(.ref b18)])) _
        refine XS.iload X22.here hx rfl (hb hby at_208) rfl ?_
        show Steps p.tables e below (T22.setTop (mkF m 210 #[.val (.int p0), .val (.int p1), .val (.int p2), .val (.int p3), .val (.int p4), .val (.int fj_0), .val (.int ww), .val (.long tt), .second, .val (.ref b7), .val (.ref b18), .val (.int (1 : Int32)), .val (.int qf_0), .val (.int qw_0), .val (.int (1 : Int32)), .unset, .unset] [(.int qf_0), (.ref b18)])) _
        refine XS.iload X22.here hx rfl (hb hby at_210) rfl ?_
        show Steps p.tables e below (T22.setTop (mkF m 212 #[.val (.int p0), .val (.int p1), .val (.int p2), .val (.int p3), .val (.int p4), .val (.int fj_0), .val (.int ww), .val (.long tt), .second, .val (.ref b7), .val (.ref b18), .val (.int (1 : Int32)), .val (.int qf_0), .val (.int qw_0), .val (.int (1 : Int32)), .unset, .unset] [(.int qw_0), (.int qf_0), (.ref b18)])) _
        refine st31.trans ?_
        show Steps p.tables e below (T31.setTop (mkF m 215 #[.val (.int p0), .val (.int p1), .val (.int p2), .val (.int p3), .val (.int p4), .val (.int fj_0), .val (.int ww), .val (.long tt), .second, .val (.ref b7), .val (.ref b18), .val (.int (1 : Int32)), .val (.int qf_0), .val (.int qw_0), .val (.int (1 : Int32)), .unset, .unset] [(.int (own_at fj_0 ww qf_0 qw_0))])) _
        refine XS.istore X31.here hx rfl (hb hby at_215) rfl (l' := #[.val (.int p0), .val (.int p1), .val (.int p2), .val (.int p3), .val (.int p4), .val (.int fj_0), .val (.int ww), .val (.long tt), .second, .val (.ref b7), .val (.ref b18), .val (.int (1 : Int32)), .val (.int qf_0), .val (.int qw_0), .val (.int (1 : Int32)), .val (.int (own_at fj_0 ww qf_0 qw_0)), .unset]) rfl ?_
        show Steps p.tables e below (T31.setTop (mkF m 217 #[.val (.int p0), .val (.int p1), .val (.int p2), .val (.int p3), .val (.int p4), .val (.int fj_0), .val (.int ww), .val (.long tt), .second, .val (.ref b7), .val (.ref b18), .val (.int (1 : Int32)), .val (.int qf_0), .val (.int qw_0), .val (.int (1 : Int32)), .val (.int (own_at fj_0 ww qf_0 qw_0)), .unset] [])) _
        refine XS.aload X31.here hx rfl (hb hby at_217) rfl (rfl) ?_
        show Steps p.tables e below (T31.setTop (mkF m 219 #[.val (.int p0), .val (.int p1), .val (.int p2), .val (.int p3), .val (.int p4), .val (.int fj_0), .val (.int ww), .val (.long tt), .second, .val (.ref b7), .val (.ref b18), .val (.int (1 : Int32)), .val (.int qf_0), .val (.int qw_0), .val (.int (1 : Int32)), .val (.int (own_at fj_0 ww qf_0 qw_0)), .unset] [(.ref b18)])) _
        refine XS.iload X31.here hx rfl (hb hby at_219) rfl ?_
        show Steps p.tables e below (T31.setTop (mkF m 221 #[.val (.int p0), .val (.int p1), .val (.int p2), .val (.int p3), .val (.int p4), .val (.int fj_0), .val (.int ww), .val (.long tt), .second, .val (.ref b7), .val (.ref b18), .val (.int (1 : Int32)), .val (.int qf_0), .val (.int qw_0), .val (.int (1 : Int32)), .val (.int (own_at fj_0 ww qf_0 qw_0)), .unset] [(.int fj_0), (.ref b18)])) _
        refine XS.iload X31.here hx rfl (hb hby at_221) rfl ?_
        show Steps p.tables e below (T31.setTop (mkF m 223 #[.val (.int p0), .val (.int p1), .val (.int p2), .val (.int p3), .val (.int p4), .val (.int fj_0), .val (.int ww), .val (.long tt), .second, .val (.ref b7), .val (.ref b18), .val (.int (1 : Int32)), .val (.int qf_0), .val (.int qw_0), .val (.int (1 : Int32)), .val (.int (own_at fj_0 ww qf_0 qw_0)), .unset] [(.int ww), (.int fj_0), (.ref b18)])) _
        refine st32.trans ?_
        show Steps p.tables e below (T32.setTop (mkF m 226 #[.val (.int p0), .val (.int p1), .val (.int p2), .val (.int p3), .val (.int p4), .val (.int fj_0), .val (.int ww), .val (.long tt), .second, .val (.ref b7), .val (.ref b18), .val (.int (1 : Int32)), .val (.int qf_0), .val (.int qw_0), .val (.int (1 : Int32)), .val (.int (own_at fj_0 ww qf_0 qw_0)), .unset] [(.int (own_at fj_0 ww fj_0 ww))])) _
        refine XS.istore X32.here hx rfl (hb hby at_226) rfl (l' := #[.val (.int p0), .val (.int p1), .val (.int p2), .val (.int p3), .val (.int p4), .val (.int fj_0), .val (.int ww), .val (.long tt), .second, .val (.ref b7), .val (.ref b18), .val (.int (1 : Int32)), .val (.int qf_0), .val (.int qw_0), .val (.int (1 : Int32)), .val (.int (own_at fj_0 ww qf_0 qw_0)), .val (.int (own_at fj_0 ww fj_0 ww))]) rfl ?_
        show Steps p.tables e below (T32.setTop (mkF m 228 #[.val (.int p0), .val (.int p1), .val (.int p2), .val (.int p3), .val (.int p4), .val (.int fj_0), .val (.int ww), .val (.long tt), .second, .val (.ref b7), .val (.ref b18), .val (.int (1 : Int32)), .val (.int qf_0), .val (.int qw_0), .val (.int (1 : Int32)), .val (.int (own_at fj_0 ww qf_0 qw_0)), .val (.int (own_at fj_0 ww fj_0 ww))] [])) _
        refine XS.iload X32.here hx rfl (hb hby at_228) rfl ?_
        show Steps p.tables e below (T32.setTop (mkF m 230 #[.val (.int p0), .val (.int p1), .val (.int p2), .val (.int p3), .val (.int p4), .val (.int fj_0), .val (.int ww), .val (.long tt), .second, .val (.ref b7), .val (.ref b18), .val (.int (1 : Int32)), .val (.int qf_0), .val (.int qw_0), .val (.int (1 : Int32)), .val (.int (own_at fj_0 ww qf_0 qw_0)), .val (.int (own_at fj_0 ww fj_0 ww))] [(.int (own_at fj_0 ww qf_0 qw_0))])) _
        refine XS.iload X32.here hx rfl (hb hby at_230) rfl ?_
        show Steps p.tables e below (T32.setTop (mkF m 232 #[.val (.int p0), .val (.int p1), .val (.int p2), .val (.int p3), .val (.int p4), .val (.int fj_0), .val (.int ww), .val (.long tt), .second, .val (.ref b7), .val (.ref b18), .val (.int (1 : Int32)), .val (.int qf_0), .val (.int qw_0), .val (.int (1 : Int32)), .val (.int (own_at fj_0 ww qf_0 qw_0)), .val (.int (own_at fj_0 ww fj_0 ww))] [(.int (1 : Int32)), (.int (own_at fj_0 ww qf_0 qw_0))])) _
        refine XS.icmpNo X32.here hx rfl (hb hby at_232) rfl (teq (by simp [own_at, h189, h196] : own_at fj_0 ww qf_0 qw_0 = (1 : Int32))).2 ?_
        show Steps p.tables e below (T32.setTop (mkF m 235 #[.val (.int p0), .val (.int p1), .val (.int p2), .val (.int p3), .val (.int p4), .val (.int fj_0), .val (.int ww), .val (.long tt), .second, .val (.ref b7), .val (.ref b18), .val (.int (1 : Int32)), .val (.int qf_0), .val (.int qw_0), .val (.int (1 : Int32)), .val (.int (own_at fj_0 ww qf_0 qw_0)), .val (.int (own_at fj_0 ww fj_0 ww))] [])) _
        refine XS.iload X32.here hx rfl (hb hby at_235) rfl ?_
        show Steps p.tables e below (T32.setTop (mkF m 237 #[.val (.int p0), .val (.int p1), .val (.int p2), .val (.int p3), .val (.int p4), .val (.int fj_0), .val (.int ww), .val (.long tt), .second, .val (.ref b7), .val (.ref b18), .val (.int (1 : Int32)), .val (.int qf_0), .val (.int qw_0), .val (.int (1 : Int32)), .val (.int (own_at fj_0 ww qf_0 qw_0)), .val (.int (own_at fj_0 ww fj_0 ww))] [(.int (own_at fj_0 ww fj_0 ww))])) _
        refine XS.ifNo X32.here hx rfl (hb hby at_237) rfl ((if0 _ _).trans (feq (by simp [own_at] : ¬ (own_at fj_0 ww fj_0 ww = (0 : Int32)))).1) ?_
        show Steps p.tables e below (T32.setTop (mkF m 240 #[.val (.int p0), .val (.int p1), .val (.int p2), .val (.int p3), .val (.int p4), .val (.int fj_0), .val (.int ww), .val (.long tt), .second, .val (.ref b7), .val (.ref b18), .val (.int (1 : Int32)), .val (.int qf_0), .val (.int qw_0), .val (.int (1 : Int32)), .val (.int (own_at fj_0 ww qf_0 qw_0)), .val (.int (own_at fj_0 ww fj_0 ww))] [])) _
        refine XS.iconst X32.here hx rfl (hb hby at_240) ?_
        show Steps p.tables e below (T32.setTop (mkF m 241 #[.val (.int p0), .val (.int p1), .val (.int p2), .val (.int p3), .val (.int p4), .val (.int fj_0), .val (.int ww), .val (.long tt), .second, .val (.ref b7), .val (.ref b18), .val (.int (1 : Int32)), .val (.int qf_0), .val (.int qw_0), .val (.int (1 : Int32)), .val (.int (own_at fj_0 ww qf_0 qw_0)), .val (.int (own_at fj_0 ww fj_0 ww))] [(.int (1 : Int32))])) _
        refine XS.goto X32.here hx rfl (pc0 := 241) (pc' := 245) rfl (hb hby at_241) (by decide) (by decide) ?_
        show Steps p.tables e below (T32.setTop (mkF m 245 #[.val (.int p0), .val (.int p1), .val (.int p2), .val (.int p3), .val (.int p4), .val (.int fj_0), .val (.int ww), .val (.long tt), .second, .val (.ref b7), .val (.ref b18), .val (.int (1 : Int32)), .val (.int qf_0), .val (.int qw_0), .val (.int (1 : Int32)), .val (.int (own_at fj_0 ww qf_0 qw_0)), .val (.int (own_at fj_0 ww fj_0 ww))] [(.int (1 : Int32))])) _
        exact k
      obtain ⟨fs, hr, hrun, hended, hW, hsame⟩ := X32.leave (v := some (.int (1 : Int32))) (fun h => by rw [Bd.returns] at h; cases h)
      refine ⟨_, _, pre33 _ ?_, hrun, hended, _, _, rfl, ?_, ⟨_, rfl⟩, hW, hsame.mono (by decide) (by decide)⟩
      · exact retN X32 hx (t := .boolean) Bd.returns (by simp) (hb hby at_245) hr
      · show Q_rm0 Z p0 p1 p2 p3 p4 h0 n0 _ T32.heap _
        rw [hq32]
        exact ⟨rfl, N32⟩
    · skip
      obtain ⟨cq34, kq34, q34a, q34b, q34c⟩ := isOf hZ rfl Eq22
      obtain ⟨_, _, ⟨T34, L34, k34, n34⟩, -, X34, ⟨Lc34, hQ34, l34, y34, z34⟩, st34⟩ := X22.virtualBack hx (y := (⟨site_130.cls, "at", "(II)Z"⟩ : MethodName)) (z := (⟨site_130.cls, "at", "(II)Z"⟩ : MethodName)) hown (mvT hZ (hw _ (List.mem_of_getElem? (i := 57) rfl))) (mvT hZ (hw _ (List.mem_of_getElem? (i := 58) rfl))) (notFace_of_selects (args := #[]) (mvT hZ (hw _ (List.mem_of_getElem? (i := 60) rfl)))) (mvT hZ (hw _ (List.mem_of_getElem? (i := 60) rfl))) (mvT hZ (hw _ (List.mem_of_getElem? (i := 59) rfl))) (by decide) (backOf (W := 0) (rmA l Z a0 hw [] b18 qf_0 qw_0 fj_0 ww T22.heap n0 (Nat.le_trans (Nat.le_trans (Nat.le_trans (Nat.le_trans (Nat.le_trans (Nat.le_trans (Nat.le_trans (Nat.le_trans (Nat.le_trans Z0 E7.1) (Keep.of_wr W9).1) (Keep.of_wr W11).1) (Keep.of_wr W13).1) (Keep.of_wr W15).1) (Keep.of_wr W17).1) E18.1) Kq20.1) Kq22.1) G3q22 G4q22) hZ (hw _ (List.mem_of_getElem? (i := 61) rfl)) (hw _ (List.mem_of_getElem? (i := 7) rfl)) (by decide) (by decide)) q34a q34c (g := (mkF m 212 #[.val (.int p0), .val (.int p1), .val (.int p2), .val (.int p3), .val (.int p4), .val (.int fj_0), .val (.int ww), .val (.long tt), .second, .val (.ref b7), .val (.ref b18), .val (.int (1 : Int32)), .val (.int qf_0), .val (.int qw_0), .val (.int (0 : Int32)), .unset, .unset] [(.int qw_0), (.int qf_0), (.ref b18)])) rfl (by rw [hml]; rfl) (Steps.refl _) (argsL := [(.int qf_0), (.int qw_0)]) (rest := []) (lenOf pd_6 rfl) rfl (by show 2 * 0 + _ ≤ _; exact Nat.le_of_eq rfl) (hb hby at_212) (fun _ _ => ⟨rfl, rfl, (by decide : 2 + 0 ≤ _), (by decide : 10 + 0 ≤ _)⟩)
      dsimp only [Pt.U, Pt.locs, Pt.cells, Pt.slots] at X34 l34 y34 z34 st34 hQ34
      subst l34 y34 z34
      obtain ⟨rfl, N34q, hq34⟩ := hQ34
      have N34 := Fr.app N22 N34q
      obtain ⟨cq35, kq35, q35a, q35b, q35c⟩ := isOf hZ hq34 Eq22
      obtain ⟨_, _, ⟨T35, L35, k35, n35⟩, -, X35, ⟨Lc35, hQ35, l35, y35, z35⟩, st35⟩ := X34.virtualBack hx (y := (⟨site_130.cls, "at", "(II)Z"⟩ : MethodName)) (z := (⟨site_130.cls, "at", "(II)Z"⟩ : MethodName)) hown (mvT hZ (hw _ (List.mem_of_getElem? (i := 57) rfl))) (mvT hZ (hw _ (List.mem_of_getElem? (i := 58) rfl))) (notFace_of_selects (args := #[]) (mvT hZ (hw _ (List.mem_of_getElem? (i := 60) rfl)))) (mvT hZ (hw _ (List.mem_of_getElem? (i := 60) rfl))) (mvT hZ (hw _ (List.mem_of_getElem? (i := 59) rfl))) (by decide) (backOf (W := 0) (rmA l Z a0 hw [] b18 fj_0 ww fj_0 ww T22.heap n0 (Nat.le_trans (Nat.le_trans (Nat.le_trans (Nat.le_trans (Nat.le_trans (Nat.le_trans (Nat.le_trans (Nat.le_trans (Nat.le_trans Z0 E7.1) (Keep.of_wr W9).1) (Keep.of_wr W11).1) (Keep.of_wr W13).1) (Keep.of_wr W15).1) (Keep.of_wr W17).1) E18.1) Kq20.1) Kq22.1) G3q22 G4q22) hZ (hw _ (List.mem_of_getElem? (i := 61) rfl)) (hw _ (List.mem_of_getElem? (i := 7) rfl)) (by decide) (by decide)) q35a q35c (g := (mkF m 223 #[.val (.int p0), .val (.int p1), .val (.int p2), .val (.int p3), .val (.int p4), .val (.int fj_0), .val (.int ww), .val (.long tt), .second, .val (.ref b7), .val (.ref b18), .val (.int (1 : Int32)), .val (.int qf_0), .val (.int qw_0), .val (.int (0 : Int32)), .val (.int (own_at fj_0 ww qf_0 qw_0)), .unset] [(.int ww), (.int fj_0), (.ref b18)])) rfl (by rw [hml]; rfl) (Steps.refl _) (argsL := [(.int fj_0), (.int ww)]) (rest := []) (lenOf pd_6 rfl) rfl (by show 2 * 0 + _ ≤ _; exact Nat.le_of_eq rfl) (hb hby at_223) (fun _ _ => ⟨rfl, hq34, (by decide : 2 + 0 ≤ _), (by decide : 10 + 0 ≤ _)⟩)
      dsimp only [Pt.U, Pt.locs, Pt.cells, Pt.slots] at X35 l35 y35 z35 st35 hQ35
      subst l35 y35 z35
      obtain ⟨rfl, N35q, hq35⟩ := hQ35
      have N35 := Fr.app N34 N35q
      have pre36 : ∀ t, Steps p.tables e below (T35.setTop (mkF m 245 #[.val (.int p0), .val (.int p1), .val (.int p2), .val (.int p3), .val (.int p4), .val (.int fj_0), .val (.int ww), .val (.long tt), .second, .val (.ref b7), .val (.ref b18), .val (.int (1 : Int32)), .val (.int qf_0), .val (.int qw_0), .val (.int (0 : Int32)), .val (.int (own_at fj_0 ww qf_0 qw_0)), .val (.int (own_at fj_0 ww fj_0 ww))] [(.int (1 : Int32))])) t → Steps p.tables e below (s₁.setTop (entryFrame m #[(.int p0), (.int p1), (.int p2), (.int p3), (.int p4)] maxLocals)) t := by
        intro t k
        refine pre30 t ?_
        refine XS.icmpYes X22.here hx rfl (pc0 := 196) (pc' := 203) rfl (hb hby at_196) rfl (feq h196).2 (by decide) (by decide) ?_
        show Steps p.tables e below (T22.setTop (mkF m 203 #[.val (.int p0), .val (.int p1), .val (.int p2), .val (.int p3), .val (.int p4), .val (.int fj_0), .val (.int ww), .val (.long tt), .second, .val (.ref b7), .val (.ref b18), .val (.int (1 : Int32)), .val (.int qf_0), .val (.int qw_0), .unset, .unset, .unset] [])) _
        refine XS.iconst X22.here hx rfl (hb hby at_203) ?_
        show Steps p.tables e below (T22.setTop (mkF m 204 #[.val (.int p0), .val (.int p1), .val (.int p2), .val (.int p3), .val (.int p4), .val (.int fj_0), .val (.int ww), .val (.long tt), .second, .val (.ref b7), .val (.ref b18), .val (.int (1 : Int32)), .val (.int qf_0), .val (.int qw_0), .unset, .unset, .unset] [(.int (0 : Int32))])) _
        refine XS.istore X22.here hx rfl (hb hby at_204) rfl (l' := #[.val (.int p0), .val (.int p1), .val (.int p2), .val (.int p3), .val (.int p4), .val (.int fj_0), .val (.int ww), .val (.long tt), .second, .val (.ref b7), .val (.ref b18), .val (.int (1 : Int32)), .val (.int qf_0), .val (.int qw_0), .val (.int (0 : Int32)), .unset, .unset]) rfl ?_
        show Steps p.tables e below (T22.setTop (mkF m 206 #[.val (.int p0), .val (.int p1), .val (.int p2), .val (.int p3), .val (.int p4), .val (.int fj_0), .val (.int ww), .val (.long tt), .second, .val (.ref b7), .val (.ref b18), .val (.int (1 : Int32)), .val (.int qf_0), .val (.int qw_0), .val (.int (0 : Int32)), .unset, .unset] [])) _
        refine XS.aload X22.here hx rfl (hb hby at_206) rfl (rfl) ?_
        show Steps p.tables e below (T22.setTop (mkF m 208 #[.val (.int p0), .val (.int p1), .val (.int p2), .val (.int p3), .val (.int p4), .val (.int fj_0), .val (.int ww), .val (.long tt), .second, .val (.ref b7), .val (.ref b18), .val (.int (1 : Int32)), .val (.int qf_0), .val (.int qw_0), .val (.int (0 : Int32)), .unset, .unset] [(.ref b18)])) _
        refine XS.iload X22.here hx rfl (hb hby at_208) rfl ?_
        show Steps p.tables e below (T22.setTop (mkF m 210 #[.val (.int p0), .val (.int p1), .val (.int p2), .val (.int p3), .val (.int p4), .val (.int fj_0), .val (.int ww), .val (.long tt), .second, .val (.ref b7), .val (.ref b18), .val (.int (1 : Int32)), .val (.int qf_0), .val (.int qw_0), .val (.int (0 : Int32)), .unset, .unset] [(.int qf_0), (.ref b18)])) _
        refine XS.iload X22.here hx rfl (hb hby at_210) rfl ?_
        show Steps p.tables e below (T22.setTop (mkF m 212 #[.val (.int p0), .val (.int p1), .val (.int p2), .val (.int p3), .val (.int p4), .val (.int fj_0), .val (.int ww), .val (.long tt), .second, .val (.ref b7), .val (.ref b18), .val (.int (1 : Int32)), .val (.int qf_0), .val (.int qw_0), .val (.int (0 : Int32)), .unset, .unset] [(.int qw_0), (.int qf_0), (.ref b18)])) _
        refine st34.trans ?_
        show Steps p.tables e below (T34.setTop (mkF m 215 #[.val (.int p0), .val (.int p1), .val (.int p2), .val (.int p3), .val (.int p4), .val (.int fj_0), .val (.int ww), .val (.long tt), .second, .val (.ref b7), .val (.ref b18), .val (.int (1 : Int32)), .val (.int qf_0), .val (.int qw_0), .val (.int (0 : Int32)), .unset, .unset] [(.int (own_at fj_0 ww qf_0 qw_0))])) _
        refine XS.istore X34.here hx rfl (hb hby at_215) rfl (l' := #[.val (.int p0), .val (.int p1), .val (.int p2), .val (.int p3), .val (.int p4), .val (.int fj_0), .val (.int ww), .val (.long tt), .second, .val (.ref b7), .val (.ref b18), .val (.int (1 : Int32)), .val (.int qf_0), .val (.int qw_0), .val (.int (0 : Int32)), .val (.int (own_at fj_0 ww qf_0 qw_0)), .unset]) rfl ?_
        show Steps p.tables e below (T34.setTop (mkF m 217 #[.val (.int p0), .val (.int p1), .val (.int p2), .val (.int p3), .val (.int p4), .val (.int fj_0), .val (.int ww), .val (.long tt), .second, .val (.ref b7), .val (.ref b18), .val (.int (1 : Int32)), .val (.int qf_0), .val (.int qw_0), .val (.int (0 : Int32)), .val (.int (own_at fj_0 ww qf_0 qw_0)), .unset] [])) _
        refine XS.aload X34.here hx rfl (hb hby at_217) rfl (rfl) ?_
        show Steps p.tables e below (T34.setTop (mkF m 219 #[.val (.int p0), .val (.int p1), .val (.int p2), .val (.int p3), .val (.int p4), .val (.int fj_0), .val (.int ww), .val (.long tt), .second, .val (.ref b7), .val (.ref b18), .val (.int (1 : Int32)), .val (.int qf_0), .val (.int qw_0), .val (.int (0 : Int32)), .val (.int (own_at fj_0 ww qf_0 qw_0)), .unset] [(.ref b18)])) _
        refine XS.iload X34.here hx rfl (hb hby at_219) rfl ?_
        show Steps p.tables e below (T34.setTop (mkF m 221 #[.val (.int p0), .val (.int p1), .val (.int p2), .val (.int p3), .val (.int p4), .val (.int fj_0), .val (.int ww), .val (.long tt), .second, .val (.ref b7), .val (.ref b18), .val (.int (1 : Int32)), .val (.int qf_0), .val (.int qw_0), .val (.int (0 : Int32)), .val (.int (own_at fj_0 ww qf_0 qw_0)), .unset] [(.int fj_0), (.ref b18)])) _
        refine XS.iload X34.here hx rfl (hb hby at_221) rfl ?_
        show Steps p.tables e below (T34.setTop (mkF m 223 #[.val (.int p0), .val (.int p1), .val (.int p2), .val (.int p3), .val (.int p4), .val (.int fj_0), .val (.int ww), .val (.long tt), .second, .val (.ref b7), .val (.ref b18), .val (.int (1 : Int32)), .val (.int qf_0), .val (.int qw_0), .val (.int (0 : Int32)), .val (.int (own_at fj_0 ww qf_0 qw_0)), .unset] [(.int ww), (.int fj_0), (.ref b18)])) _
        refine st35.trans ?_
        show Steps p.tables e below (T35.setTop (mkF m 226 #[.val (.int p0), .val (.int p1), .val (.int p2), .val (.int p3), .val (.int p4), .val (.int fj_0), .val (.int ww), .val (.long tt), .second, .val (.ref b7), .val (.ref b18), .val (.int (1 : Int32)), .val (.int qf_0), .val (.int qw_0), .val (.int (0 : Int32)), .val (.int (own_at fj_0 ww qf_0 qw_0)), .unset] [(.int (own_at fj_0 ww fj_0 ww))])) _
        refine XS.istore X35.here hx rfl (hb hby at_226) rfl (l' := #[.val (.int p0), .val (.int p1), .val (.int p2), .val (.int p3), .val (.int p4), .val (.int fj_0), .val (.int ww), .val (.long tt), .second, .val (.ref b7), .val (.ref b18), .val (.int (1 : Int32)), .val (.int qf_0), .val (.int qw_0), .val (.int (0 : Int32)), .val (.int (own_at fj_0 ww qf_0 qw_0)), .val (.int (own_at fj_0 ww fj_0 ww))]) rfl ?_
        show Steps p.tables e below (T35.setTop (mkF m 228 #[.val (.int p0), .val (.int p1), .val (.int p2), .val (.int p3), .val (.int p4), .val (.int fj_0), .val (.int ww), .val (.long tt), .second, .val (.ref b7), .val (.ref b18), .val (.int (1 : Int32)), .val (.int qf_0), .val (.int qw_0), .val (.int (0 : Int32)), .val (.int (own_at fj_0 ww qf_0 qw_0)), .val (.int (own_at fj_0 ww fj_0 ww))] [])) _
        refine XS.iload X35.here hx rfl (hb hby at_228) rfl ?_
        show Steps p.tables e below (T35.setTop (mkF m 230 #[.val (.int p0), .val (.int p1), .val (.int p2), .val (.int p3), .val (.int p4), .val (.int fj_0), .val (.int ww), .val (.long tt), .second, .val (.ref b7), .val (.ref b18), .val (.int (1 : Int32)), .val (.int qf_0), .val (.int qw_0), .val (.int (0 : Int32)), .val (.int (own_at fj_0 ww qf_0 qw_0)), .val (.int (own_at fj_0 ww fj_0 ww))] [(.int (own_at fj_0 ww qf_0 qw_0))])) _
        refine XS.iload X35.here hx rfl (hb hby at_230) rfl ?_
        show Steps p.tables e below (T35.setTop (mkF m 232 #[.val (.int p0), .val (.int p1), .val (.int p2), .val (.int p3), .val (.int p4), .val (.int fj_0), .val (.int ww), .val (.long tt), .second, .val (.ref b7), .val (.ref b18), .val (.int (1 : Int32)), .val (.int qf_0), .val (.int qw_0), .val (.int (0 : Int32)), .val (.int (own_at fj_0 ww qf_0 qw_0)), .val (.int (own_at fj_0 ww fj_0 ww))] [(.int (0 : Int32)), (.int (own_at fj_0 ww qf_0 qw_0))])) _
        refine XS.icmpNo X35.here hx rfl (hb hby at_232) rfl (teq (by simp [own_at, h189, Ne.symm h196] : own_at fj_0 ww qf_0 qw_0 = (0 : Int32))).2 ?_
        show Steps p.tables e below (T35.setTop (mkF m 235 #[.val (.int p0), .val (.int p1), .val (.int p2), .val (.int p3), .val (.int p4), .val (.int fj_0), .val (.int ww), .val (.long tt), .second, .val (.ref b7), .val (.ref b18), .val (.int (1 : Int32)), .val (.int qf_0), .val (.int qw_0), .val (.int (0 : Int32)), .val (.int (own_at fj_0 ww qf_0 qw_0)), .val (.int (own_at fj_0 ww fj_0 ww))] [])) _
        refine XS.iload X35.here hx rfl (hb hby at_235) rfl ?_
        show Steps p.tables e below (T35.setTop (mkF m 237 #[.val (.int p0), .val (.int p1), .val (.int p2), .val (.int p3), .val (.int p4), .val (.int fj_0), .val (.int ww), .val (.long tt), .second, .val (.ref b7), .val (.ref b18), .val (.int (1 : Int32)), .val (.int qf_0), .val (.int qw_0), .val (.int (0 : Int32)), .val (.int (own_at fj_0 ww qf_0 qw_0)), .val (.int (own_at fj_0 ww fj_0 ww))] [(.int (own_at fj_0 ww fj_0 ww))])) _
        refine XS.ifNo X35.here hx rfl (hb hby at_237) rfl ((if0 _ _).trans (feq (by simp [own_at] : ¬ (own_at fj_0 ww fj_0 ww = (0 : Int32)))).1) ?_
        show Steps p.tables e below (T35.setTop (mkF m 240 #[.val (.int p0), .val (.int p1), .val (.int p2), .val (.int p3), .val (.int p4), .val (.int fj_0), .val (.int ww), .val (.long tt), .second, .val (.ref b7), .val (.ref b18), .val (.int (1 : Int32)), .val (.int qf_0), .val (.int qw_0), .val (.int (0 : Int32)), .val (.int (own_at fj_0 ww qf_0 qw_0)), .val (.int (own_at fj_0 ww fj_0 ww))] [])) _
        refine XS.iconst X35.here hx rfl (hb hby at_240) ?_
        show Steps p.tables e below (T35.setTop (mkF m 241 #[.val (.int p0), .val (.int p1), .val (.int p2), .val (.int p3), .val (.int p4), .val (.int fj_0), .val (.int ww), .val (.long tt), .second, .val (.ref b7), .val (.ref b18), .val (.int (1 : Int32)), .val (.int qf_0), .val (.int qw_0), .val (.int (0 : Int32)), .val (.int (own_at fj_0 ww qf_0 qw_0)), .val (.int (own_at fj_0 ww fj_0 ww))] [(.int (1 : Int32))])) _
        refine XS.goto X35.here hx rfl (pc0 := 241) (pc' := 245) rfl (hb hby at_241) (by decide) (by decide) ?_
        show Steps p.tables e below (T35.setTop (mkF m 245 #[.val (.int p0), .val (.int p1), .val (.int p2), .val (.int p3), .val (.int p4), .val (.int fj_0), .val (.int ww), .val (.long tt), .second, .val (.ref b7), .val (.ref b18), .val (.int (1 : Int32)), .val (.int qf_0), .val (.int qw_0), .val (.int (0 : Int32)), .val (.int (own_at fj_0 ww qf_0 qw_0)), .val (.int (own_at fj_0 ww fj_0 ww))] [(.int (1 : Int32))])) _
        exact k
      obtain ⟨fs, hr, hrun, hended, hW, hsame⟩ := X35.leave (v := some (.int (1 : Int32))) (fun h => by rw [Bd.returns] at h; cases h)
      refine ⟨_, _, pre36 _ ?_, hrun, hended, _, _, rfl, ?_, ⟨_, rfl⟩, hW, hsame.mono (by decide) (by decide)⟩
      · exact retN X35 hx (t := .boolean) Bd.returns (by simp) (hb hby at_245) hr
      · show Q_rm0 Z p0 p1 p2 p3 p4 h0 n0 _ T35.heap _
        rw [hq35]
        exact ⟨rfl, N35⟩
  · skip
    obtain ⟨cq37, kq37, q37a, q37b, q37c⟩ := isOf hZ rfl Eq22
    obtain ⟨_, _, ⟨T37, L37, k37, n37⟩, -, X37, ⟨Lc37, hQ37, l37, y37, z37⟩, st37⟩ := X22.virtualBack hx (y := (⟨site_130.cls, "at", "(II)Z"⟩ : MethodName)) (z := (⟨site_130.cls, "at", "(II)Z"⟩ : MethodName)) hown (mvT hZ (hw _ (List.mem_of_getElem? (i := 57) rfl))) (mvT hZ (hw _ (List.mem_of_getElem? (i := 58) rfl))) (notFace_of_selects (args := #[]) (mvT hZ (hw _ (List.mem_of_getElem? (i := 60) rfl)))) (mvT hZ (hw _ (List.mem_of_getElem? (i := 60) rfl))) (mvT hZ (hw _ (List.mem_of_getElem? (i := 59) rfl))) (by decide) (backOf (W := 0) (rmA l Z a0 hw [] b18 qf_0 qw_0 fj_0 ww T22.heap n0 (Nat.le_trans (Nat.le_trans (Nat.le_trans (Nat.le_trans (Nat.le_trans (Nat.le_trans (Nat.le_trans (Nat.le_trans (Nat.le_trans Z0 E7.1) (Keep.of_wr W9).1) (Keep.of_wr W11).1) (Keep.of_wr W13).1) (Keep.of_wr W15).1) (Keep.of_wr W17).1) E18.1) Kq20.1) Kq22.1) G3q22 G4q22) hZ (hw _ (List.mem_of_getElem? (i := 61) rfl)) (hw _ (List.mem_of_getElem? (i := 7) rfl)) (by decide) (by decide)) q37a q37c (g := (mkF m 212 #[.val (.int p0), .val (.int p1), .val (.int p2), .val (.int p3), .val (.int p4), .val (.int fj_0), .val (.int ww), .val (.long tt), .second, .val (.ref b7), .val (.ref b18), .val (.int (1 : Int32)), .val (.int qf_0), .val (.int qw_0), .val (.int (0 : Int32)), .unset, .unset] [(.int qw_0), (.int qf_0), (.ref b18)])) rfl (by rw [hml]; rfl) (Steps.refl _) (argsL := [(.int qf_0), (.int qw_0)]) (rest := []) (lenOf pd_6 rfl) rfl (by show 2 * 0 + _ ≤ _; exact Nat.le_of_eq rfl) (hb hby at_212) (fun _ _ => ⟨rfl, rfl, (by decide : 2 + 0 ≤ _), (by decide : 10 + 0 ≤ _)⟩)
    dsimp only [Pt.U, Pt.locs, Pt.cells, Pt.slots] at X37 l37 y37 z37 st37 hQ37
    subst l37 y37 z37
    obtain ⟨rfl, N37q, hq37⟩ := hQ37
    have N37 := Fr.app N22 N37q
    obtain ⟨cq38, kq38, q38a, q38b, q38c⟩ := isOf hZ hq37 Eq22
    obtain ⟨_, _, ⟨T38, L38, k38, n38⟩, -, X38, ⟨Lc38, hQ38, l38, y38, z38⟩, st38⟩ := X37.virtualBack hx (y := (⟨site_130.cls, "at", "(II)Z"⟩ : MethodName)) (z := (⟨site_130.cls, "at", "(II)Z"⟩ : MethodName)) hown (mvT hZ (hw _ (List.mem_of_getElem? (i := 57) rfl))) (mvT hZ (hw _ (List.mem_of_getElem? (i := 58) rfl))) (notFace_of_selects (args := #[]) (mvT hZ (hw _ (List.mem_of_getElem? (i := 60) rfl)))) (mvT hZ (hw _ (List.mem_of_getElem? (i := 60) rfl))) (mvT hZ (hw _ (List.mem_of_getElem? (i := 59) rfl))) (by decide) (backOf (W := 0) (rmA l Z a0 hw [] b18 fj_0 ww fj_0 ww T22.heap n0 (Nat.le_trans (Nat.le_trans (Nat.le_trans (Nat.le_trans (Nat.le_trans (Nat.le_trans (Nat.le_trans (Nat.le_trans (Nat.le_trans Z0 E7.1) (Keep.of_wr W9).1) (Keep.of_wr W11).1) (Keep.of_wr W13).1) (Keep.of_wr W15).1) (Keep.of_wr W17).1) E18.1) Kq20.1) Kq22.1) G3q22 G4q22) hZ (hw _ (List.mem_of_getElem? (i := 61) rfl)) (hw _ (List.mem_of_getElem? (i := 7) rfl)) (by decide) (by decide)) q38a q38c (g := (mkF m 223 #[.val (.int p0), .val (.int p1), .val (.int p2), .val (.int p3), .val (.int p4), .val (.int fj_0), .val (.int ww), .val (.long tt), .second, .val (.ref b7), .val (.ref b18), .val (.int (1 : Int32)), .val (.int qf_0), .val (.int qw_0), .val (.int (0 : Int32)), .val (.int (own_at fj_0 ww qf_0 qw_0)), .unset] [(.int ww), (.int fj_0), (.ref b18)])) rfl (by rw [hml]; rfl) (Steps.refl _) (argsL := [(.int fj_0), (.int ww)]) (rest := []) (lenOf pd_6 rfl) rfl (by show 2 * 0 + _ ≤ _; exact Nat.le_of_eq rfl) (hb hby at_223) (fun _ _ => ⟨rfl, hq37, (by decide : 2 + 0 ≤ _), (by decide : 10 + 0 ≤ _)⟩)
    dsimp only [Pt.U, Pt.locs, Pt.cells, Pt.slots] at X38 l38 y38 z38 st38 hQ38
    subst l38 y38 z38
    obtain ⟨rfl, N38q, hq38⟩ := hQ38
    have N38 := Fr.app N37 N38q
    have pre39 : ∀ t, Steps p.tables e below (T38.setTop (mkF m 245 #[.val (.int p0), .val (.int p1), .val (.int p2), .val (.int p3), .val (.int p4), .val (.int fj_0), .val (.int ww), .val (.long tt), .second, .val (.ref b7), .val (.ref b18), .val (.int (1 : Int32)), .val (.int qf_0), .val (.int qw_0), .val (.int (0 : Int32)), .val (.int (own_at fj_0 ww qf_0 qw_0)), .val (.int (own_at fj_0 ww fj_0 ww))] [(.int (1 : Int32))])) t → Steps p.tables e below (s₁.setTop (entryFrame m #[(.int p0), (.int p1), (.int p2), (.int p3), (.int p4)] maxLocals)) t := by
      intro t k
      refine pre29 t ?_
      refine XS.icmpYes X22.here hx rfl (pc0 := 189) (pc' := 203) rfl (hb hby at_189) rfl (feq h189).2 (by decide) (by decide) ?_
      show Steps p.tables e below (T22.setTop (mkF m 203 #[.val (.int p0), .val (.int p1), .val (.int p2), .val (.int p3), .val (.int p4), .val (.int fj_0), .val (.int ww), .val (.long tt), .second, .val (.ref b7), .val (.ref b18), .val (.int (1 : Int32)), .val (.int qf_0), .val (.int qw_0), .unset, .unset, .unset] [])) _
      refine XS.iconst X22.here hx rfl (hb hby at_203) ?_
      show Steps p.tables e below (T22.setTop (mkF m 204 #[.val (.int p0), .val (.int p1), .val (.int p2), .val (.int p3), .val (.int p4), .val (.int fj_0), .val (.int ww), .val (.long tt), .second, .val (.ref b7), .val (.ref b18), .val (.int (1 : Int32)), .val (.int qf_0), .val (.int qw_0), .unset, .unset, .unset] [(.int (0 : Int32))])) _
      refine XS.istore X22.here hx rfl (hb hby at_204) rfl (l' := #[.val (.int p0), .val (.int p1), .val (.int p2), .val (.int p3), .val (.int p4), .val (.int fj_0), .val (.int ww), .val (.long tt), .second, .val (.ref b7), .val (.ref b18), .val (.int (1 : Int32)), .val (.int qf_0), .val (.int qw_0), .val (.int (0 : Int32)), .unset, .unset]) rfl ?_
      show Steps p.tables e below (T22.setTop (mkF m 206 #[.val (.int p0), .val (.int p1), .val (.int p2), .val (.int p3), .val (.int p4), .val (.int fj_0), .val (.int ww), .val (.long tt), .second, .val (.ref b7), .val (.ref b18), .val (.int (1 : Int32)), .val (.int qf_0), .val (.int qw_0), .val (.int (0 : Int32)), .unset, .unset] [])) _
      refine XS.aload X22.here hx rfl (hb hby at_206) rfl (rfl) ?_
      show Steps p.tables e below (T22.setTop (mkF m 208 #[.val (.int p0), .val (.int p1), .val (.int p2), .val (.int p3), .val (.int p4), .val (.int fj_0), .val (.int ww), .val (.long tt), .second, .val (.ref b7), .val (.ref b18), .val (.int (1 : Int32)), .val (.int qf_0), .val (.int qw_0), .val (.int (0 : Int32)), .unset, .unset] [(.ref b18)])) _
      refine XS.iload X22.here hx rfl (hb hby at_208) rfl ?_
      show Steps p.tables e below (T22.setTop (mkF m 210 #[.val (.int p0), .val (.int p1), .val (.int p2), .val (.int p3), .val (.int p4), .val (.int fj_0), .val (.int ww), .val (.long tt), .second, .val (.ref b7), .val (.ref b18), .val (.int (1 : Int32)), .val (.int qf_0), .val (.int qw_0), .val (.int (0 : Int32)), .unset, .unset] [(.int qf_0), (.ref b18)])) _
      refine XS.iload X22.here hx rfl (hb hby at_210) rfl ?_
      show Steps p.tables e below (T22.setTop (mkF m 212 #[.val (.int p0), .val (.int p1), .val (.int p2), .val (.int p3), .val (.int p4), .val (.int fj_0), .val (.int ww), .val (.long tt), .second, .val (.ref b7), .val (.ref b18), .val (.int (1 : Int32)), .val (.int qf_0), .val (.int qw_0), .val (.int (0 : Int32)), .unset, .unset] [(.int qw_0), (.int qf_0), (.ref b18)])) _
      refine st37.trans ?_
      show Steps p.tables e below (T37.setTop (mkF m 215 #[.val (.int p0), .val (.int p1), .val (.int p2), .val (.int p3), .val (.int p4), .val (.int fj_0), .val (.int ww), .val (.long tt), .second, .val (.ref b7), .val (.ref b18), .val (.int (1 : Int32)), .val (.int qf_0), .val (.int qw_0), .val (.int (0 : Int32)), .unset, .unset] [(.int (own_at fj_0 ww qf_0 qw_0))])) _
      refine XS.istore X37.here hx rfl (hb hby at_215) rfl (l' := #[.val (.int p0), .val (.int p1), .val (.int p2), .val (.int p3), .val (.int p4), .val (.int fj_0), .val (.int ww), .val (.long tt), .second, .val (.ref b7), .val (.ref b18), .val (.int (1 : Int32)), .val (.int qf_0), .val (.int qw_0), .val (.int (0 : Int32)), .val (.int (own_at fj_0 ww qf_0 qw_0)), .unset]) rfl ?_
      show Steps p.tables e below (T37.setTop (mkF m 217 #[.val (.int p0), .val (.int p1), .val (.int p2), .val (.int p3), .val (.int p4), .val (.int fj_0), .val (.int ww), .val (.long tt), .second, .val (.ref b7), .val (.ref b18), .val (.int (1 : Int32)), .val (.int qf_0), .val (.int qw_0), .val (.int (0 : Int32)), .val (.int (own_at fj_0 ww qf_0 qw_0)), .unset] [])) _
      refine XS.aload X37.here hx rfl (hb hby at_217) rfl (rfl) ?_
      show Steps p.tables e below (T37.setTop (mkF m 219 #[.val (.int p0), .val (.int p1), .val (.int p2), .val (.int p3), .val (.int p4), .val (.int fj_0), .val (.int ww), .val (.long tt), .second, .val (.ref b7), .val (.ref b18), .val (.int (1 : Int32)), .val (.int qf_0), .val (.int qw_0), .val (.int (0 : Int32)), .val (.int (own_at fj_0 ww qf_0 qw_0)), .unset] [(.ref b18)])) _
      refine XS.iload X37.here hx rfl (hb hby at_219) rfl ?_
      show Steps p.tables e below (T37.setTop (mkF m 221 #[.val (.int p0), .val (.int p1), .val (.int p2), .val (.int p3), .val (.int p4), .val (.int fj_0), .val (.int ww), .val (.long tt), .second, .val (.ref b7), .val (.ref b18), .val (.int (1 : Int32)), .val (.int qf_0), .val (.int qw_0), .val (.int (0 : Int32)), .val (.int (own_at fj_0 ww qf_0 qw_0)), .unset] [(.int fj_0), (.ref b18)])) _
      refine XS.iload X37.here hx rfl (hb hby at_221) rfl ?_
      show Steps p.tables e below (T37.setTop (mkF m 223 #[.val (.int p0), .val (.int p1), .val (.int p2), .val (.int p3), .val (.int p4), .val (.int fj_0), .val (.int ww), .val (.long tt), .second, .val (.ref b7), .val (.ref b18), .val (.int (1 : Int32)), .val (.int qf_0), .val (.int qw_0), .val (.int (0 : Int32)), .val (.int (own_at fj_0 ww qf_0 qw_0)), .unset] [(.int ww), (.int fj_0), (.ref b18)])) _
      refine st38.trans ?_
      show Steps p.tables e below (T38.setTop (mkF m 226 #[.val (.int p0), .val (.int p1), .val (.int p2), .val (.int p3), .val (.int p4), .val (.int fj_0), .val (.int ww), .val (.long tt), .second, .val (.ref b7), .val (.ref b18), .val (.int (1 : Int32)), .val (.int qf_0), .val (.int qw_0), .val (.int (0 : Int32)), .val (.int (own_at fj_0 ww qf_0 qw_0)), .unset] [(.int (own_at fj_0 ww fj_0 ww))])) _
      refine XS.istore X38.here hx rfl (hb hby at_226) rfl (l' := #[.val (.int p0), .val (.int p1), .val (.int p2), .val (.int p3), .val (.int p4), .val (.int fj_0), .val (.int ww), .val (.long tt), .second, .val (.ref b7), .val (.ref b18), .val (.int (1 : Int32)), .val (.int qf_0), .val (.int qw_0), .val (.int (0 : Int32)), .val (.int (own_at fj_0 ww qf_0 qw_0)), .val (.int (own_at fj_0 ww fj_0 ww))]) rfl ?_
      show Steps p.tables e below (T38.setTop (mkF m 228 #[.val (.int p0), .val (.int p1), .val (.int p2), .val (.int p3), .val (.int p4), .val (.int fj_0), .val (.int ww), .val (.long tt), .second, .val (.ref b7), .val (.ref b18), .val (.int (1 : Int32)), .val (.int qf_0), .val (.int qw_0), .val (.int (0 : Int32)), .val (.int (own_at fj_0 ww qf_0 qw_0)), .val (.int (own_at fj_0 ww fj_0 ww))] [])) _
      refine XS.iload X38.here hx rfl (hb hby at_228) rfl ?_
      show Steps p.tables e below (T38.setTop (mkF m 230 #[.val (.int p0), .val (.int p1), .val (.int p2), .val (.int p3), .val (.int p4), .val (.int fj_0), .val (.int ww), .val (.long tt), .second, .val (.ref b7), .val (.ref b18), .val (.int (1 : Int32)), .val (.int qf_0), .val (.int qw_0), .val (.int (0 : Int32)), .val (.int (own_at fj_0 ww qf_0 qw_0)), .val (.int (own_at fj_0 ww fj_0 ww))] [(.int (own_at fj_0 ww qf_0 qw_0))])) _
      refine XS.iload X38.here hx rfl (hb hby at_230) rfl ?_
      show Steps p.tables e below (T38.setTop (mkF m 232 #[.val (.int p0), .val (.int p1), .val (.int p2), .val (.int p3), .val (.int p4), .val (.int fj_0), .val (.int ww), .val (.long tt), .second, .val (.ref b7), .val (.ref b18), .val (.int (1 : Int32)), .val (.int qf_0), .val (.int qw_0), .val (.int (0 : Int32)), .val (.int (own_at fj_0 ww qf_0 qw_0)), .val (.int (own_at fj_0 ww fj_0 ww))] [(.int (0 : Int32)), (.int (own_at fj_0 ww qf_0 qw_0))])) _
      refine XS.icmpNo X38.here hx rfl (hb hby at_232) rfl (teq (by simp [own_at, Ne.symm h189] : own_at fj_0 ww qf_0 qw_0 = (0 : Int32))).2 ?_
      show Steps p.tables e below (T38.setTop (mkF m 235 #[.val (.int p0), .val (.int p1), .val (.int p2), .val (.int p3), .val (.int p4), .val (.int fj_0), .val (.int ww), .val (.long tt), .second, .val (.ref b7), .val (.ref b18), .val (.int (1 : Int32)), .val (.int qf_0), .val (.int qw_0), .val (.int (0 : Int32)), .val (.int (own_at fj_0 ww qf_0 qw_0)), .val (.int (own_at fj_0 ww fj_0 ww))] [])) _
      refine XS.iload X38.here hx rfl (hb hby at_235) rfl ?_
      show Steps p.tables e below (T38.setTop (mkF m 237 #[.val (.int p0), .val (.int p1), .val (.int p2), .val (.int p3), .val (.int p4), .val (.int fj_0), .val (.int ww), .val (.long tt), .second, .val (.ref b7), .val (.ref b18), .val (.int (1 : Int32)), .val (.int qf_0), .val (.int qw_0), .val (.int (0 : Int32)), .val (.int (own_at fj_0 ww qf_0 qw_0)), .val (.int (own_at fj_0 ww fj_0 ww))] [(.int (own_at fj_0 ww fj_0 ww))])) _
      refine XS.ifNo X38.here hx rfl (hb hby at_237) rfl ((if0 _ _).trans (feq (by simp [own_at] : ¬ (own_at fj_0 ww fj_0 ww = (0 : Int32)))).1) ?_
      show Steps p.tables e below (T38.setTop (mkF m 240 #[.val (.int p0), .val (.int p1), .val (.int p2), .val (.int p3), .val (.int p4), .val (.int fj_0), .val (.int ww), .val (.long tt), .second, .val (.ref b7), .val (.ref b18), .val (.int (1 : Int32)), .val (.int qf_0), .val (.int qw_0), .val (.int (0 : Int32)), .val (.int (own_at fj_0 ww qf_0 qw_0)), .val (.int (own_at fj_0 ww fj_0 ww))] [])) _
      refine XS.iconst X38.here hx rfl (hb hby at_240) ?_
      show Steps p.tables e below (T38.setTop (mkF m 241 #[.val (.int p0), .val (.int p1), .val (.int p2), .val (.int p3), .val (.int p4), .val (.int fj_0), .val (.int ww), .val (.long tt), .second, .val (.ref b7), .val (.ref b18), .val (.int (1 : Int32)), .val (.int qf_0), .val (.int qw_0), .val (.int (0 : Int32)), .val (.int (own_at fj_0 ww qf_0 qw_0)), .val (.int (own_at fj_0 ww fj_0 ww))] [(.int (1 : Int32))])) _
      refine XS.goto X38.here hx rfl (pc0 := 241) (pc' := 245) rfl (hb hby at_241) (by decide) (by decide) ?_
      show Steps p.tables e below (T38.setTop (mkF m 245 #[.val (.int p0), .val (.int p1), .val (.int p2), .val (.int p3), .val (.int p4), .val (.int fj_0), .val (.int ww), .val (.long tt), .second, .val (.ref b7), .val (.ref b18), .val (.int (1 : Int32)), .val (.int qf_0), .val (.int qw_0), .val (.int (0 : Int32)), .val (.int (own_at fj_0 ww qf_0 qw_0)), .val (.int (own_at fj_0 ww fj_0 ww))] [(.int (1 : Int32))])) _
      exact k
    obtain ⟨fs, hr, hrun, hended, hW, hsame⟩ := X38.leave (v := some (.int (1 : Int32))) (fun h => by rw [Bd.returns] at h; cases h)
    refine ⟨_, _, pre39 _ ?_, hrun, hended, _, _, rfl, ?_, ⟨_, rfl⟩, hW, hsame.mono (by decide) (by decide)⟩
    · exact retN X38 hx (t := .boolean) Bd.returns (by simp) (hb hby at_245) hr
    · show Q_rm0 Z p0 p1 p2 p3 p4 h0 n0 _ T38.heap _
      rw [hq38]
      exact ⟨rfl, N38⟩
set_option maxRecDepth 65536 in
set_option maxHeartbeats 40000000 in
theorem comes_1 {Post : Tables → Env → Array Value → State → Outcome → State → Prop} (hpost : ∀ tb e args s v u, (limb_1_1.after args s (.returned v) u = true ∧ limb_1_2.after args s (.returned v) u = true ∧ True) → FrameEnd s (.returned v) u (Jvm.fieldLocs frame_1_writes args s ++ Jvm.arrayLocs frame_1_arrays args s ++ Jvm.staticLocs frame_1_statics s) 16 128 → Post tb e args s (.returned v) u) :
    ArmFor flags0 classFile x code maxLocals ret World_1 tables_1 room_1 Calls_1 rest_1 Pre_1 Post := by
  intro l hfl _ _ p e ha hc hk s m args below hf hA hF happ hP
  obtain ⟨hcalls, hrest, hpre⟩ := hP
  obtain ⟨-, -, -, hnamed, -, -, -, hat⟩ := (Spec.applies_iff hf).mp happ
  obtain ⟨hg, hn⟩ := and_e (Cond.before_iff.mp (show (Jvm.Cond.and given_1 narrow_1).before args s = true from hpre))
  obtain ⟨g1, g2⟩ := and_e hg
  obtain ⟨g3, g4⟩ := and_e g2
  obtain ⟨g5, g6⟩ := and_e g4
  obtain ⟨g7, g8⟩ := and_e g6
  obtain ⟨g9, g10⟩ := and_e g8
  obtain ⟨w0, w1, w2, w3, w4, rfl⟩ : ∃ w0 w1 w2 w3 w4 : Value, args = #[w0, w1, w2, w3, w4] := by
    have hs : args.size = 5 := by simpa [Cond.value, given_1] using g1
    obtain ⟨L⟩ := args
    match L, hs with
    | [w0, w1, w2, w3, w4], _ => exact ⟨w0, w1, w2, w3, w4, rfl⟩
  have hw := fun d (hd : d ∈ tables_1) => atoms_spec (ws := Jvm.Cond.code x code maxLocals ret :: tables_1) hat d (List.mem_cons_of_mem _ hd)
  obtain ⟨i0, ei0⟩ := is_v g3
  obtain rfl : w0 = (.int i0) := Option.some.inj ei0
  obtain ⟨i1, ei1⟩ := is_v g5
  obtain rfl : w1 = (.int i1) := Option.some.inj ei1
  obtain ⟨i2, ei2⟩ := is_v g7
  obtain rfl : w2 = (.int i2) := Option.some.inj ei2
  obtain ⟨i3, ei3⟩ := is_v g9
  obtain rfl : w3 = (.int i3) := Option.some.inj ei3
  obtain ⟨i4, ei4⟩ := is_v g10
  obtain rfl : w4 = (.int i4) := Option.some.inj ei4
  obtain ⟨n, o, h1, h2, h3, _, L, rfl, ⟨rfl, N⟩, hq⟩ := rm0 l s _ hw tables_1 i0 i1 i2 i3 i4 s.heap s.heap.size (Nat.le_refl _)  p e ha hc hk s m _ below hf ((Spec.applies_iff_loose hf).mp happ).1 ⟨rfl, State.Warmed39.refl s, rfl⟩ trivial
  refine ⟨n, _, h1, h2, h3, hpost _ _ _ _ _ _ ⟨Cond.after_iff.mpr rfl, Cond.after_iff.mpr (eq_i res_at (Term.int_eval (1)) rfl), trivial⟩ ⟨hq.1, hq.2.1, (hq.2.2.sift fun y hy => Or.inr (N y hy)).mono (by decide) (by decide)⟩⟩
theorem main_1_1 : Claimed_1_1 := comes_1 fun _ _ _ _ _ _ h hF => ⟨h.1, hF⟩
theorem main_1_2 : Claimed_1_2 := comes_1 fun _ _ _ _ _ _ h hF => ⟨h.2.1, hF⟩
end Jvm.Pilot.@@N@@
namespace Jvm.Pilot.@@N@@
open Jvm Jvm.ClassFile Sem Op Lib Jvm.Free Jvm.Stand Jvm.Pilot.@@N@@.Jvm.D
/-! MADE BY PROGRAM (witnessworld.py) out of the Statement's table words and the real class files: 15 classes; the members and pool entries that the words name. The judged class is class 1, her method 1. -/
namespace start1
open Jvm.ClassFile
def u (s : String) : CpInfo := .utf8 (stringToUtf16 s)
def gap : Nat → List CpInfo → List CpInfo
  | 0, r => r
  | n + 1, r => .unusable :: gap n r
def poolList (es : List (Nat × CpInfo)) (last : Nat) : List CpInfo := es.foldr (fun e r => gap e.1 (e.2 :: r)) (gap last [])
def pool (es : List (Nat × CpInfo)) (last : Nat) : Array CpInfo := ⟨poolList es last⟩
def fileOf (pool : Array CpInfo) (this : Nat) (attrs : Array Attribute := #[]) (ms : Array MethodInfo := #[]) (fl : Nat := 33) (sup : Nat := 0) (ifs : Array Nat := #[]) (fds : Array FieldInfo := #[]) : ClassFile where
  minorVersion := 0
  majorVersion := 65
  constantPool := pool
  accessFlags := fl
  thisClass := this
  superClass := sup
  interfaces := ifs
  fields := fds
  methods := ms
  attributes := attrs
def plain (name : String) (sup : Option ClassId) : Class where
  name := name
  kind := .ordinary
  loader := none
  accessFlags := 33
  super := sup
  interfaces := #[]
  cf := none
  fields := #[]
  methods := #[]
  instanceTypes := #[]
  staticTypes := #[]
  resolved := #[]
  callSites := []
  init := .initialized
  statics := none
  mirror := none

def pool0 : Array CpInfo := pool [(5, u "<init>"), (0, u "()V"), (1, .class_ 10), (1, u "java/lang/Object")] 113

def k0c0 : Code := { maxStack := 0, maxLocals := 1, code := object_method_1_code, exceptionTable := #[], attributes := #[] }
def k0m0 : Method := { name := "<init>", desc := "()V", sig := { parameters := [], returnType := none }, accessFlags := 1, code := some k0c0 }
def k0 : Class := { plain "java/lang/Object" none with
  accessFlags := 33
  interfaces := #[]
  cf := some (fileOf pool0 8 #[] #[{ accessFlags := 1, nameIndex := 5, descriptorIndex := 6, attributes := #[] }] 33 0 #[] #[])
  fields := #[]
  methods := #[k0m0]
  instanceTypes := #[]
  staticTypes := #[]
  resolved := Array.replicate 124 none
  statics := none }

def pool1 : Array CpInfo := pool [(2, .class_ 4), (1, u "java/lang/Object"), (0, u "<init>"), (0, u "()V"), (0, .integer 536870911), (0, .long 127), (1, .long 128), (1, .long 15), (1, .class_ 15), (0, u site_130.cls), (0, .methodref 14 17), (0, .nameAndType 5 18), (0, u "([B)V"), (0, .methodref 14 20), (0, .nameAndType 21 22), (0, u "next"), (0, u "()Z"), (0, .methodref 14 24), (0, .nameAndType 25 26), (0, u "at"), (0, u "(II)Z"), (0, .class_ 28), (0, u x.cls), (2, u "law"), (0, u "(IIIII)Z")] 5

def k1m0 : Method := { name := "<init>", desc := "()V", sig := { parameters := [], returnType := none }, accessFlags := 1, code := none }
def k1c1 : Code := { maxStack := 6, maxLocals := 17, code := code, exceptionTable := #[], attributes := #[] }
def k1m1 : Method := { name := "law", desc := "(IIIII)Z", sig := { parameters := [.int, .int, .int, .int, .int], returnType := some .boolean }, accessFlags := 9, code := some k1c1 }
def k1 : Class := { plain x.cls (some 0) with
  accessFlags := 49
  interfaces := #[]
  cf := some (fileOf pool1 27 #[] #[{ accessFlags := 1, nameIndex := 5, descriptorIndex := 6, attributes := #[] }, { accessFlags := 9, nameIndex := 31, descriptorIndex := 32, attributes := #[] }] 49 2 #[] #[])
  fields := #[]
  methods := #[k1m0, k1m1]
  instanceTypes := #[]
  staticTypes := #[]
  resolved := Array.replicate 38 none
  statics := none }

def pool2 : Array CpInfo := pool [(1, .methodref 2 3), (0, .class_ 4), (0, .nameAndType 5 6), (0, u site_130.cls), (0, u "<init>"), (0, u "([BII)V"), (0, .methodref 8 9), (0, .class_ 10), (0, .nameAndType 5 11), (0, u "java/lang/Object"), (0, u "()V"), (0, .fieldref 2 13), (0, .nameAndType 14 15), (0, u "bytes"), (0, u "[B"), (0, .fieldref 2 17), (0, .nameAndType 18 19), (0, u "position"), (0, u "I"), (0, .fieldref 2 21), (0, .nameAndType 22 19), (0, u "end"), (0, .methodref 2 24), (0, .nameAndType 25 26), (0, u "readRawVarint"), (0, u "()J"), (0, .long 4294967295), (1, .methodref 30 31), (0, .class_ 32), (0, .nameAndType 33 34), (0, u "java/lang/Long"), (0, u "compareUnsigned"), (0, u "(JJ)I"), (0, .methodref 36 37), (0, .class_ 38), (0, .nameAndType 39 40), (0, u own_W), (0, u "field"), (0, u "(J)I"), (13, .fieldref 2 55), (0, .nameAndType 39 19), (0, .methodref 36 57), (0, .nameAndType 58 40), (0, u "wireType"), (0, .fieldref 2 60), (0, .nameAndType 58 19), (28, .methodref 2 90), (0, .nameAndType 91 40), (0, u "requireRoom"), (7, u "MAX_VARINT_BYTES"), (2, u "MAX_TENTH_VARINT_BYTE"), (1, u "MAX_TAG"), (0, u "J"), (0, u "([B)V"), (2, u "next"), (0, u "()Z"), (1, u "at"), (0, u "(II)Z")] 31

def k2c0 : Code := { maxStack := 4, maxLocals := 2, code := prog_13_method_1_code, exceptionTable := #[], attributes := #[] }
def k2m0 : Method := { name := "<init>", desc := "([B)V", sig := { parameters := [(.array .byte)], returnType := none }, accessFlags := 0, code := some k2c0 }
def k2c1 : Code := { maxStack := 2, maxLocals := 4, code := prog_13_method_2_code, exceptionTable := #[], attributes := #[] }
def k2m1 : Method := { name := "<init>", desc := "([BII)V", sig := { parameters := [(.array .byte), .int, .int], returnType := none }, accessFlags := 2, code := some k2c1 }
def k2c2 : Code := { maxStack := 4, maxLocals := 3, code := prog_13_method_3_code, exceptionTable := #[], attributes := #[] }
def k2m2 : Method := { name := "next", desc := "()Z", sig := { parameters := [], returnType := some .boolean }, accessFlags := 0, code := some k2c2 }
def k2c3 : Code := { maxStack := 2, maxLocals := 3, code := prog_13_method_4_code, exceptionTable := #[], attributes := #[] }
def k2m3 : Method := { name := "at", desc := "(II)Z", sig := { parameters := [.int, .int], returnType := some .boolean }, accessFlags := 0, code := some k2c3 }
def k2c4 : Code := { maxStack := 6, maxLocals := 5, code := prog_13_method_9_code, exceptionTable := #[], attributes := #[] }
def k2m4 : Method := { name := "readRawVarint", desc := "()J", sig := { parameters := [], returnType := some .long }, accessFlags := 2, code := some k2c4 }
def k2c5 : Code := { maxStack := 5, maxLocals := 3, code := prog_13_method_12_code, exceptionTable := #[], attributes := #[] }
def k2m5 : Method := { name := "requireRoom", desc := "(J)I", sig := { parameters := [.long], returnType := some .int }, accessFlags := 2, code := some k2c5 }
def k2 : Class := { plain site_130.cls (some 0) with
  accessFlags := 48
  interfaces := #[]
  cf := some (fileOf pool2 2 #[] #[{ accessFlags := 0, nameIndex := 5, descriptorIndex := 106, attributes := #[] }, { accessFlags := 2, nameIndex := 5, descriptorIndex := 6, attributes := #[] }, { accessFlags := 0, nameIndex := 109, descriptorIndex := 110, attributes := #[] }, { accessFlags := 0, nameIndex := 112, descriptorIndex := 113, attributes := #[] }, { accessFlags := 2, nameIndex := 25, descriptorIndex := 26, attributes := #[] }, { accessFlags := 2, nameIndex := 91, descriptorIndex := 40, attributes := #[] }] 48 8 #[] #[{ accessFlags := 26, nameIndex := 99, descriptorIndex := 19, attributes := #[] }, { accessFlags := 26, nameIndex := 102, descriptorIndex := 19, attributes := #[] }, { accessFlags := 26, nameIndex := 104, descriptorIndex := 105, attributes := #[] }, { accessFlags := 18, nameIndex := 14, descriptorIndex := 15, attributes := #[] }, { accessFlags := 18, nameIndex := 22, descriptorIndex := 19, attributes := #[] }, { accessFlags := 2, nameIndex := 18, descriptorIndex := 19, attributes := #[] }, { accessFlags := 2, nameIndex := 39, descriptorIndex := 19, attributes := #[] }, { accessFlags := 2, nameIndex := 58, descriptorIndex := 19, attributes := #[] }])
  fields := #[{ name := "MAX_VARINT_BYTES", type := .int, accessFlags := 26, slot := 0, constantValue := 0 }, { name := "MAX_TENTH_VARINT_BYTE", type := .int, accessFlags := 26, slot := 1, constantValue := 0 }, { name := "MAX_TAG", type := .long, accessFlags := 26, slot := 2, constantValue := 0 }, { name := "bytes", type := (.array .byte), accessFlags := 18, slot := 0, constantValue := 0 }, { name := "end", type := .int, accessFlags := 18, slot := 1, constantValue := 0 }, { name := "position", type := .int, accessFlags := 2, slot := 2, constantValue := 0 }, { name := "field", type := .int, accessFlags := 2, slot := 3, constantValue := 0 }, { name := "wireType", type := .int, accessFlags := 2, slot := 4, constantValue := 0 }]
  methods := #[k2m0, k2m1, k2m2, k2m3, k2m4, k2m5]
  instanceTypes := #[(.array .byte), .int, .int, .int, .int]
  staticTypes := #[.int, .int, .long]
  resolved := Array.replicate 145 none
  statics := none }

def pool3 : Array CpInfo := pool [(1, .class_ 2), (0, u "java/io/Serializable"), (0, .class_ 4), (0, u "java/lang/Object")] 2

def k3 : Class := { plain "java/io/Serializable" (some 0) with
  accessFlags := 1537
  interfaces := #[]
  cf := some (fileOf pool3 1 #[] #[] 1537 3 #[] #[])
  fields := #[]
  methods := #[]
  instanceTypes := #[]
  staticTypes := #[]
  resolved := Array.replicate 7 none
  statics := none }

def pool4 : Array CpInfo := pool [(2, .class_ 4), (1, u "java/lang/Object"), (0, u "<init>"), (0, u "()V"), (1, .class_ 10), (1, u "java/lang/Number"), (2, .class_ 14), (0, u "java/io/Serializable"), (0, u "serialVersionUID"), (0, u "J")] 20

def k4m0 : Method := { name := "<init>", desc := "()V", sig := { parameters := [], returnType := none }, accessFlags := 1, code := none }
def k4 : Class := { plain "java/lang/Number" (some 0) with
  accessFlags := 1057
  interfaces := #[3]
  cf := some (fileOf pool4 8 #[] #[{ accessFlags := 1, nameIndex := 5, descriptorIndex := 6, attributes := #[] }] 1057 2 #[13] #[{ accessFlags := 26, nameIndex := 15, descriptorIndex := 16, attributes := #[] }])
  fields := #[{ name := "serialVersionUID", type := .long, accessFlags := 26, slot := 0, constantValue := 0 }]
  methods := #[k4m0]
  instanceTypes := #[]
  staticTypes := #[.long]
  resolved := Array.replicate 37 none
  statics := none }

def pool5 : Array CpInfo := pool [(1, .class_ 2), (0, u "java/lang/Comparable"), (0, .class_ 4), (0, u "java/lang/Object")] 7

def k5 : Class := { plain "java/lang/Comparable" (some 0) with
  accessFlags := 1537
  interfaces := #[]
  cf := some (fileOf pool5 1 #[] #[] 1537 3 #[] #[])
  fields := #[]
  methods := #[]
  instanceTypes := #[]
  staticTypes := #[]
  resolved := Array.replicate 12 none
  statics := none }

def pool6 : Array CpInfo := pool [(1, .class_ 2), (0, u "java/lang/constant/Constable"), (0, .class_ 4), (0, u "java/lang/Object")] 6

def k6 : Class := { plain "java/lang/constant/Constable" (some 0) with
  accessFlags := 1537
  interfaces := #[]
  cf := some (fileOf pool6 1 #[] #[] 1537 3 #[] #[])
  fields := #[]
  methods := #[]
  instanceTypes := #[]
  staticTypes := #[]
  resolved := Array.replicate 11 none
  statics := none }

def pool7 : Array CpInfo := pool [(1, .class_ 2), (0, u "java/lang/constant/ConstantDesc"), (0, .class_ 4), (0, u "java/lang/Object")] 32

def k7 : Class := { plain "java/lang/constant/ConstantDesc" (some 0) with
  accessFlags := 1537
  interfaces := #[]
  cf := some (fileOf pool7 1 #[] #[] 1537 3 #[] #[])
  fields := #[]
  methods := #[]
  instanceTypes := #[]
  staticTypes := #[]
  resolved := Array.replicate 37 none
  statics := none }

def pool8 : Array CpInfo := pool [(1, .class_ 2), (0, u "java/lang/Long"), (165, .long 9223372036854775808), (66, .class_ 237), (1, u "java/lang/Long$LongCache"), (33, .class_ 272), (0, u "java/lang/Number"), (2, u "value"), (0, u "J"), (25, .methodref 1 303), (0, .nameAndType 304 305), (0, u "compare"), (0, u "(JJ)I"), (55, u "TYPE"), (0, u "Ljava/lang/Class;"), (0, .class_ 364), (0, u "java/lang/Comparable"), (0, .class_ 366), (0, u "java/lang/constant/Constable"), (0, .class_ 368), (0, u "java/lang/constant/ConstantDesc"), (0, u "MIN_VALUE"), (1, u "MAX_VALUE"), (4, u "SIZE"), (0, u "I"), (1, u "BYTES"), (1, u "serialVersionUID"), (87, u "compareUnsigned")] 54

def k8c0 : Code := { maxStack := 4, maxLocals := 4, code := jdk_35_method_42_code, exceptionTable := #[], attributes := #[] }
def k8m0 : Method := { name := "compare", desc := "(JJ)I", sig := { parameters := [.long, .long], returnType := some .int }, accessFlags := 9, code := some k8c0 }
def k8c1 : Code := { maxStack := 6, maxLocals := 4, code := jdk_35_method_43_code, exceptionTable := #[], attributes := #[] }
def k8m1 : Method := { name := "compareUnsigned", desc := "(JJ)I", sig := { parameters := [.long, .long], returnType := some .int }, accessFlags := 9, code := some k8c1 }
def k8 : Class := { plain "java/lang/Long" (some 4) with
  accessFlags := 49
  interfaces := #[5, 6, 7]
  cf := some (fileOf pool8 1 #[.nestMembers #[235]] #[{ accessFlags := 9, nameIndex := 304, descriptorIndex := 305, attributes := #[] }, { accessFlags := 9, nameIndex := 469, descriptorIndex := 305, attributes := #[] }] 49 271 #[363, 365, 367] #[{ accessFlags := 25, nameIndex := 369, descriptorIndex := 276, attributes := #[] }, { accessFlags := 25, nameIndex := 371, descriptorIndex := 276, attributes := #[] }, { accessFlags := 25, nameIndex := 361, descriptorIndex := 362, attributes := #[] }, { accessFlags := 18, nameIndex := 275, descriptorIndex := 276, attributes := #[] }, { accessFlags := 25, nameIndex := 376, descriptorIndex := 377, attributes := #[] }, { accessFlags := 25, nameIndex := 379, descriptorIndex := 377, attributes := #[] }, { accessFlags := 26, nameIndex := 381, descriptorIndex := 276, attributes := #[] }])
  fields := #[{ name := "MIN_VALUE", type := .long, accessFlags := 25, slot := 0, constantValue := 0 }, { name := "MAX_VALUE", type := .long, accessFlags := 25, slot := 1, constantValue := 0 }, { name := "TYPE", type := (.object "java/lang/Class"), accessFlags := 25, slot := 2, constantValue := 0 }, { name := "value", type := .long, accessFlags := 18, slot := 0, constantValue := 0 }, { name := "SIZE", type := .int, accessFlags := 25, slot := 3, constantValue := 0 }, { name := "BYTES", type := .int, accessFlags := 25, slot := 4, constantValue := 0 }, { name := "serialVersionUID", type := .long, accessFlags := 26, slot := 5, constantValue := 0 }]
  methods := #[k8m0, k8m1]
  instanceTypes := #[.long]
  staticTypes := #[.long, .long, (.object "java/lang/Class"), .int, .int, .long]
  resolved := Array.replicate 524 none
  statics := none }

def pool9 : Array CpInfo := pool [(1, .class_ 2), (0, u own_W), (1, .class_ 6), (1, u "java/lang/Object"), (0, u "<init>"), (0, u "()V"), (0, .long 7), (1, u "VARINT"), (0, u "I"), (2, u "FIXED64"), (1, u "LENGTH_DELIMITED"), (1, u "FIXED32"), (1, u "WIRE_TYPE_BITS"), (1, u "WIRE_TYPE_MASK"), (5, u "field"), (0, u "(J)I"), (0, u "wireType")] 2

def k9m0 : Method := { name := "<init>", desc := "()V", sig := { parameters := [], returnType := none }, accessFlags := 2, code := none }
def k9c1 : Code := { maxStack := 3, maxLocals := 2, code := prog_15_method_3_code, exceptionTable := #[], attributes := #[] }
def k9m1 : Method := { name := "field", desc := "(J)I", sig := { parameters := [.long], returnType := some .int }, accessFlags := 8, code := some k9c1 }
def k9c2 : Code := { maxStack := 4, maxLocals := 2, code := prog_15_method_4_code, exceptionTable := #[], attributes := #[] }
def k9m2 : Method := { name := "wireType", desc := "(J)I", sig := { parameters := [.long], returnType := some .int }, accessFlags := 8, code := some k9c2 }
def k9 : Class := { plain own_W (some 0) with
  accessFlags := 48
  interfaces := #[]
  cf := some (fileOf pool9 1 #[] #[{ accessFlags := 2, nameIndex := 7, descriptorIndex := 8, attributes := #[] }, { accessFlags := 8, nameIndex := 29, descriptorIndex := 30, attributes := #[] }, { accessFlags := 8, nameIndex := 31, descriptorIndex := 30, attributes := #[] }] 48 4 #[] #[{ accessFlags := 24, nameIndex := 11, descriptorIndex := 12, attributes := #[] }, { accessFlags := 24, nameIndex := 15, descriptorIndex := 12, attributes := #[] }, { accessFlags := 24, nameIndex := 17, descriptorIndex := 12, attributes := #[] }, { accessFlags := 24, nameIndex := 19, descriptorIndex := 12, attributes := #[] }, { accessFlags := 26, nameIndex := 21, descriptorIndex := 12, attributes := #[] }, { accessFlags := 26, nameIndex := 23, descriptorIndex := 12, attributes := #[] }])
  fields := #[{ name := "VARINT", type := .int, accessFlags := 24, slot := 0, constantValue := 0 }, { name := "FIXED64", type := .int, accessFlags := 24, slot := 1, constantValue := 0 }, { name := "LENGTH_DELIMITED", type := .int, accessFlags := 24, slot := 2, constantValue := 0 }, { name := "FIXED32", type := .int, accessFlags := 24, slot := 3, constantValue := 0 }, { name := "WIRE_TYPE_BITS", type := .int, accessFlags := 26, slot := 4, constantValue := 0 }, { name := "WIRE_TYPE_MASK", type := .int, accessFlags := 26, slot := 5, constantValue := 0 }]
  methods := #[k9m0, k9m1, k9m2]
  instanceTypes := #[]
  staticTypes := #[.int, .int, .int, .int, .int, .int]
  resolved := Array.replicate 34 none
  statics := none }

def pool10 : Array CpInfo := pool [(1, u "java/lang/Cloneable"), (0, .class_ 1), (0, u "java/lang/Object"), (0, .class_ 3)] 3

def k10 : Class := { plain "java/lang/Cloneable" (some 0) with
  accessFlags := 1537
  interfaces := #[]
  cf := some (fileOf pool10 2 #[] #[] 1537 4 #[] #[])
  fields := #[]
  methods := #[]
  instanceTypes := #[]
  staticTypes := #[]
  resolved := Array.replicate 8 none
  statics := none }

def k11 : Class := { plain "byte" none with kind := .primitive 'B', accessFlags := 0x411 }
def k12 : Class := { plain "[B" (some 0) with kind := .array 11 .byte, interfaces := #[10, 3], accessFlags := 1041 }

def k13 : Class := { plain "int" none with kind := .primitive 'I', accessFlags := 0x411 }
def k14 : Class := { plain "[I" (some 0) with kind := .array 13 .int, interfaces := #[10, 3], accessFlags := 1041 }

def heap : Heap := #[]
def classes : Array Class := #[k0, k1, k2, k3, k4, k5, k6, k7, k8, k9, k10, k11, k12, k13, k14]
def interned : List (Array UInt16 × Addr) := []
def slotsUsed : Nat := 0
def theMethod : MethodId := ⟨1, 1⟩
def args0 : Array Value := #[.int 77, .int 5, .int 3, .int 2, .int 1]
def aboutOver (below : List Frame) : State where
  vm := { classes := classes, interned := interned.toArray }
  heap := heap
  slotsUsed := slotsUsed
  threads := #[{ frames := .invoking theMethod args0 :: below }]
def below0 : List Frame := [.native { method := ⟨0, 0⟩, args := #[] }]
def about1 : State := aboutOver below0
def p0 : Program := .bare "" "" ""
def e0 : Env := launch0.env 0 0 0
theorem w_frames : about1.frames = Frame.invoking theMethod args0 :: below0 := rfl
set_option maxRecDepth 65536 in
theorem w_args : argsFit about1.vm theMethod args0 = true := by decide +kernel
set_option maxRecDepth 65536 in
theorem w_heap : heapFits about1 = true := by decide +kernel
set_option maxRecDepth 65536 in
theorem w_runnable : about1.curStatus? = some .runnable := by decide +kernel
set_option maxRecDepth 65536 in
theorem w_alone : about1.alone = true := by decide +kernel
set_option maxRecDepth 65536 in
theorem w_named : about1.methodNamed? x = some theMethod := by decide +kernel
set_option maxRecDepth 65536 in
theorem w_hears : about1.hears theMethod below0 = true := by decide +kernel
set_option maxRecDepth 65536 in
theorem w_ripe : about1.ripe theMethod args0 below0 = true := by decide +kernel
theorem w_running : about1.status = .running := rfl
set_option maxRecDepth 65536 in
theorem w_room : about1.hasRoom e0.platform room_1 = true :=
  launch0.hasRoom_least _ room_1 (by decide +kernel) (by decide +kernel) (by decide +kernel) (by decide +kernel) (by decide +kernel) (by decide +kernel)
theorem allAtoms_all (ts : List Jvm.Cond) (a : Array Jvm.Value) (st : Jvm.State) : (allAtoms ts).before a st = ts.all (fun c => c.before a st) := by
  induction ts with
  | nil => rfl
  | cons c t ih =>
    show (Jvm.Cond.and c (allAtoms t)).before a st = _
    rw [Jvm.Cond.before_and, ih, List.all_cons]
def words1 : List Jvm.Cond := Jvm.Cond.code x code maxLocals ret :: tables_1
theorem code_word {y : MethodName} {bytes : ByteArray} {mx : Nat} {rt : Option FieldType} {a : Array Value} {s : State} {m : MethodId} {meth : Method} {c : Code} (h1 : s.methodNamed? y = some m) (h2 : s.vm.method? m = some meth) (h3 : meth.code = some c) (h4 : c.code = bytes)
    (h5 : (c.maxLocals == mx && c.exceptionTable.isEmpty && decide (c.maxStack ≤ mostOperands) && decide (meth.sig.returnType = rt) && !meth.locks && decide (parseMethodDescriptor y.desc = some meth.sig)) = true) : (Jvm.Cond.code y bytes mx rt).before a s = true := by
  simp only [Bool.and_eq_true, beq_iff_eq, Bool.not_eq_true', decide_eq_true_eq] at h5
  obtain ⟨⟨⟨⟨⟨g1, g2⟩, g3⟩, g4⟩, g5⟩, g6⟩ := h5
  simp [Cond.before, Cond.holds, Cond.value, h1, h2, h3, h4, g1, g2, g3, g4, g5, g6]
def isCode : Jvm.Cond → Bool
  | .code _ _ _ _ => true
  | _ => false
theorem all_split {L : List Jvm.Cond} {P : Jvm.Cond → Bool} (h1 : L.all (fun c => isCode c || P c) = true) (h2 : ∀ c ∈ L.filter isCode, P c = true) : L.all P = true := by
  refine List.all_eq_true.mpr fun c hc => ?_
  have h := List.all_eq_true.mp h1 c hc
  rcases Bool.eq_false_or_eq_true (isCode c) with hi | hi
  · exact h2 c (List.mem_filter.mpr ⟨hc, hi⟩)
  · simpa [hi] using h
set_option maxRecDepth 65536 in
theorem w_c0 : (Jvm.Cond.code x code maxLocals ret).before args0 about1 = true := code_word (m := ⟨1, 1⟩) (meth := k1m1) (c := k1c1) (by decide +kernel) rfl rfl rfl (by decide +kernel)
set_option maxRecDepth 65536 in
theorem w_c1 : (Jvm.Cond.code ({ cls := site_130.cls, name := "<init>", desc := "([B)V" } : Jvm.MethodName) prog_13_method_1_code (2 : Nat) (Option.none : Option Jvm.ClassFile.FieldType)).before args0 about1 = true := code_word (m := ⟨2, 0⟩) (meth := k2m0) (c := k2c0) (by decide +kernel) rfl rfl rfl (by decide +kernel)
set_option maxRecDepth 65536 in
theorem w_c2 : (Jvm.Cond.code ({ cls := site_130.cls, name := "<init>", desc := "([BII)V" } : Jvm.MethodName) prog_13_method_2_code (4 : Nat) (Option.none : Option Jvm.ClassFile.FieldType)).before args0 about1 = true := code_word (m := ⟨2, 1⟩) (meth := k2m1) (c := k2c1) (by decide +kernel) rfl rfl rfl (by decide +kernel)
set_option maxRecDepth 65536 in
theorem w_c3 : (Jvm.Cond.code ({ cls := "java/lang/Object", name := "<init>", desc := "()V" } : Jvm.MethodName) object_method_1_code (1 : Nat) (Option.none : Option Jvm.ClassFile.FieldType)).before args0 about1 = true := code_word (m := ⟨0, 0⟩) (meth := k0m0) (c := k0c0) (by decide +kernel) rfl rfl rfl (by decide +kernel)
set_option maxRecDepth 65536 in
theorem w_c4 : (Jvm.Cond.code ({ cls := site_130.cls, name := "next", desc := "()Z" } : Jvm.MethodName) prog_13_method_3_code (3 : Nat) (Option.some Jvm.ClassFile.FieldType.boolean)).before args0 about1 = true := code_word (m := ⟨2, 2⟩) (meth := k2m2) (c := k2c2) (by decide +kernel) rfl rfl rfl (by decide +kernel)
set_option maxRecDepth 65536 in
theorem w_c5 : (Jvm.Cond.code ({ cls := site_130.cls, name := "readRawVarint", desc := "()J" } : Jvm.MethodName) prog_13_method_9_code (5 : Nat) (Option.some Jvm.ClassFile.FieldType.long)).before args0 about1 = true := code_word (m := ⟨2, 4⟩) (meth := k2m4) (c := k2c4) (by decide +kernel) rfl rfl rfl (by decide +kernel)
set_option maxRecDepth 65536 in
theorem w_c6 : (Jvm.Cond.code ({ cls := site_130.cls, name := "requireRoom", desc := "(J)I" } : Jvm.MethodName) prog_13_method_12_code (3 : Nat) (Option.some Jvm.ClassFile.FieldType.int)).before args0 about1 = true := code_word (m := ⟨2, 5⟩) (meth := k2m5) (c := k2c5) (by decide +kernel) rfl rfl rfl (by decide +kernel)
set_option maxRecDepth 65536 in
theorem w_c7 : (Jvm.Cond.code ({ cls := "java/lang/Long", name := "compareUnsigned", desc := "(JJ)I" } : Jvm.MethodName) jdk_35_method_43_code (4 : Nat) (Option.some Jvm.ClassFile.FieldType.int)).before args0 about1 = true := code_word (m := ⟨8, 1⟩) (meth := k8m1) (c := k8c1) (by decide +kernel) rfl rfl rfl (by decide +kernel)
set_option maxRecDepth 65536 in
theorem w_c8 : (Jvm.Cond.code ({ cls := "java/lang/Long", name := "compare", desc := "(JJ)I" } : Jvm.MethodName) jdk_35_method_42_code (4 : Nat) (Option.some Jvm.ClassFile.FieldType.int)).before args0 about1 = true := code_word (m := ⟨8, 0⟩) (meth := k8m0) (c := k8c0) (by decide +kernel) rfl rfl rfl (by decide +kernel)
set_option maxRecDepth 65536 in
theorem w_c9 : (Jvm.Cond.code ({ cls := own_W, name := "field", desc := "(J)I" } : Jvm.MethodName) prog_15_method_3_code (2 : Nat) (Option.some Jvm.ClassFile.FieldType.int)).before args0 about1 = true := code_word (m := ⟨9, 1⟩) (meth := k9m1) (c := k9c1) (by decide +kernel) rfl rfl rfl (by decide +kernel)
set_option maxRecDepth 65536 in
theorem w_c10 : (Jvm.Cond.code ({ cls := own_W, name := "wireType", desc := "(J)I" } : Jvm.MethodName) prog_15_method_4_code (2 : Nat) (Option.some Jvm.ClassFile.FieldType.int)).before args0 about1 = true := code_word (m := ⟨9, 2⟩) (meth := k9m2) (c := k9c2) (by decide +kernel) rfl rfl rfl (by decide +kernel)
set_option maxRecDepth 65536 in
theorem w_c11 : (Jvm.Cond.code ({ cls := site_130.cls, name := "at", desc := "(II)Z" } : Jvm.MethodName) prog_13_method_4_code (3 : Nat) (Option.some Jvm.ClassFile.FieldType.boolean)).before args0 about1 = true := code_word (m := ⟨2, 3⟩) (meth := k2m3) (c := k2c3) (by decide +kernel) rfl rfl rfl (by decide +kernel)
def codes1 : List Jvm.Cond := [Jvm.Cond.code x code maxLocals ret, Jvm.Cond.code ({ cls := site_130.cls, name := "<init>", desc := "([B)V" } : Jvm.MethodName) prog_13_method_1_code (2 : Nat) (Option.none : Option Jvm.ClassFile.FieldType), Jvm.Cond.code ({ cls := site_130.cls, name := "<init>", desc := "([BII)V" } : Jvm.MethodName) prog_13_method_2_code (4 : Nat) (Option.none : Option Jvm.ClassFile.FieldType), Jvm.Cond.code ({ cls := "java/lang/Object", name := "<init>", desc := "()V" } : Jvm.MethodName) object_method_1_code (1 : Nat) (Option.none : Option Jvm.ClassFile.FieldType), Jvm.Cond.code ({ cls := site_130.cls, name := "next", desc := "()Z" } : Jvm.MethodName) prog_13_method_3_code (3 : Nat) (Option.some Jvm.ClassFile.FieldType.boolean), Jvm.Cond.code ({ cls := site_130.cls, name := "readRawVarint", desc := "()J" } : Jvm.MethodName) prog_13_method_9_code (5 : Nat) (Option.some Jvm.ClassFile.FieldType.long), Jvm.Cond.code ({ cls := site_130.cls, name := "requireRoom", desc := "(J)I" } : Jvm.MethodName) prog_13_method_12_code (3 : Nat) (Option.some Jvm.ClassFile.FieldType.int), Jvm.Cond.code ({ cls := "java/lang/Long", name := "compareUnsigned", desc := "(JJ)I" } : Jvm.MethodName) jdk_35_method_43_code (4 : Nat) (Option.some Jvm.ClassFile.FieldType.int), Jvm.Cond.code ({ cls := "java/lang/Long", name := "compare", desc := "(JJ)I" } : Jvm.MethodName) jdk_35_method_42_code (4 : Nat) (Option.some Jvm.ClassFile.FieldType.int), Jvm.Cond.code ({ cls := own_W, name := "field", desc := "(J)I" } : Jvm.MethodName) prog_15_method_3_code (2 : Nat) (Option.some Jvm.ClassFile.FieldType.int), Jvm.Cond.code ({ cls := own_W, name := "wireType", desc := "(J)I" } : Jvm.MethodName) prog_15_method_4_code (2 : Nat) (Option.some Jvm.ClassFile.FieldType.int), Jvm.Cond.code ({ cls := site_130.cls, name := "at", desc := "(II)Z" } : Jvm.MethodName) prog_13_method_4_code (3 : Nat) (Option.some Jvm.ClassFile.FieldType.boolean)]
set_option maxRecDepth 65536 in
theorem codes_eq : words1.filter isCode = codes1 := rfl
theorem w_codes : ∀ c ∈ words1.filter isCode, c.before args0 about1 = true := by
  rw [codes_eq]
  intro c hc
  simp only [codes1, List.mem_cons, List.not_mem_nil, or_false] at hc
  rcases hc with rfl | rfl | rfl | rfl | rfl | rfl | rfl | rfl | rfl | rfl | rfl | rfl
  · exact w_c0
  · exact w_c1
  · exact w_c2
  · exact w_c3
  · exact w_c4
  · exact w_c5
  · exact w_c6
  · exact w_c7
  · exact w_c8
  · exact w_c9
  · exact w_c10
  · exact w_c11
set_option maxRecDepth 65536 in
theorem w_t1 : (words1.take 24).all (fun c => isCode c || c.before args0 about1) = true := by decide +kernel
set_option maxRecDepth 65536 in
theorem w_t2 : ((words1.drop 24).take 24).all (fun c => isCode c || c.before args0 about1) = true := by decide +kernel
set_option maxRecDepth 65536 in
theorem w_t3 : ((words1.drop 24).drop 24).all (fun c => isCode c || c.before args0 about1) = true := by decide +kernel
theorem w_tables : (allAtoms (Jvm.Cond.code x code maxLocals ret :: tables_1)).before args0 about1 = true := by
  rw [allAtoms_all]
  show words1.all (fun c => c.before args0 about1) = true
  refine all_split ?_ w_codes
  rw [← List.take_append_drop 24 words1, List.all_append, w_t1, ← List.take_append_drop 24 (words1.drop 24), List.all_append, w_t2, w_t3]
  rfl
set_option maxRecDepth 65536 in
theorem w_case : (Jvm.Cond.and given_1 narrow_1).before args0 about1 = true := by decide +kernel
theorem w_applies : (headSpec (Jvm.Cond.code x code maxLocals ret :: tables_1) room_1).applies x e0.platform about1 = true :=
  (Spec.applies_iff w_frames).mpr ⟨w_running, w_runnable, w_alone, w_named, w_hears, w_ripe, w_room, w_tables⟩
theorem atStart : AtStart classFile x code maxLocals ret World_1 tables_1 room_1 Calls_1 rest_1 Pre_1 launch0 p0 e0 about1 theMethod args0 below0 :=
  ⟨lists_1, trivial, launch0.admits_env _ _ _, launch0.least_env, fairChoices_fair.cas, fairChoices_fair.clock, w_frames, w_args, w_heap, w_applies, trivial, trivial, w_case⟩
end start1
theorem witness_1 : WitnessClaimed_1 := ⟨start1.p0, start1.e0, start1.about1, start1.theMethod, start1.args0, start1.below0, start1.atStart⟩
end Jvm.Pilot.@@N@@
