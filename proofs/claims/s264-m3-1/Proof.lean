import JvmDerived
import JvmDerived.Pilot.@@N@@Statement
import JvmDerived.Pilot.@@N@@Code
set_option linter.unusedVariables false
set_option linter.unusedSimpArgs false
@@BLOCK:NumsL.lean.txt@@
namespace Jvm.Pilot.@@N@@
open Jvm Jvm.ClassFile Sem Op Lib Jvm.Free Jvm.Stand Jvm.LawKit Jvm.RoadKit Bundle Jvm.Pilot.@@N@@.Jvm.D

theorem ef_rm1a (m : MethodId) (x0 : Addr) : entryFrame m #[(.ref x0)] 1 = mkF m 0 #[.val (.ref x0)] [] := by first | (simp [entryFrame, mkF, argsToLocals, Value.category]; done) | rfl
theorem pn_0 : plainName "com/example/names_to_queries/namestoqueries/ldap/PagedSearch$Start" = true := by first | (simp [plainName, overriddenIn]; done) | decide +kernel
theorem d1_0 : decode prog_49_method_4_code 0 = .ok (.aload_n 0, 1) := by decide +kernel
theorem d1_1 : decode prog_49_method_4_code 1 = .ok (.getfield 35, 3) := by decide +kernel
theorem d1_4 : decode prog_49_method_4_code 4 = .ok (.ifCond .eq 9, 3) := by decide +kernel
theorem d1_13 : decode prog_49_method_4_code 13 = .ok (.getstatic 10, 3) := by decide +kernel
theorem d1_16 : decode prog_49_method_4_code 16 = .ok (.areturn, 1) := by decide +kernel
def Q_rm1a (Z : State) (a1 : Addr) (a2 : Addr) (h0 : Heap) (n0 : Nat) (v : Option Value) (h : Heap) (L : List Loc) : Prop := v = some (.ref a2) ∧ Fr n0 L ∧ h = h0
set_option maxRecDepth 65536 in
set_option maxHeartbeats 40000000 in
theorem rm1a (l : Launch) (Z : State) (a0 : Array Value) (hw : ∀ d ∈ tables_1, d.before a0 Z = true) (ws : List Jvm.Cond) (a1 : Addr) (a2 : Addr) (h0 : Heap) (n0 : Nat) (Z0 : n0 ≤ h0.size) (F1 : Fld Z h0 a1 "com/example/names_to_queries/namestoqueries/ldap/PagedSearch$Start" "growing" "Z" (.int (0 : Int32))) (S2 : Sta Z h0 "com/example/names_to_queries/namestoqueries/ldap/PagedSearch$Start" "PAGED" "Lcom/example/names_to_queries/namestoqueries/ldap/PagedSearch$Start;" (.ref a2)) :
    MetFree l (⟨"com/example/names_to_queries/namestoqueries/ldap/PagedSearch$Start", "paged", "()Lcom/example/names_to_queries/namestoqueries/ldap/PagedSearch$Start;"⟩ : MethodName) (head1 (Jvm.Cond.code (⟨"com/example/names_to_queries/namestoqueries/ldap/PagedSearch$Start", "paged", "()Lcom/example/names_to_queries/namestoqueries/ldap/PagedSearch$Start;"⟩ : MethodName) prog_49_method_4_code 1 (some (.object "com/example/names_to_queries/namestoqueries/ldap/PagedSearch$Start")) :: ws) ({ frames := 0, cells := 0, slots := 0, locals := 0 } : Room)) (fun a U => a = #[(.ref a1)] ∧ Z.Warmed39 U.vm ∧ U.heap = h0) (fun _ _ _ _ _ => True) (fun _ U o U' => ∃ v L, o = .returned v ∧ Q_rm1a Z a1 a2 h0 n0 v U'.heap L ∧ FrameEnd U o U' L ({ frames := 0, cells := 0, slots := 0, locals := 0 } : Room).cells ({ frames := 0, cells := 0, slots := 0, locals := 0 } : Room).slots) := by
  refine MetFree.of_bodySF (plainFor_of_name pn_0) hisR ?_
  intro p e s m args below meth c s₁ Bd hml0 hP hK
  obtain ⟨rfl, hZ, hh⟩ := hP
  have hx := Bd.exec
  have hby := Bd.bytes
  have hml : c.maxLocals = 1 := hml0
  have hown : s.vm.findClass "com/example/names_to_queries/namestoqueries/ldap/PagedSearch$Start" = some m.cls := findClass_of_methodNamed Bd.named
  have hnm := (name_of_methodNamed Bd.named Bd.method).1
  have X0 : Stand p l e ({ frames := 0, cells := 0, slots := 0, locals := 0 } : Room) s m #[(.ref a1)] below meth c s₁ [] 0 0 := Stand.of_body Bd
  have e0 : s₁.heap = h0 := by rw [← hh, Bd.state]; rfl
  have N0 := Fr.nil n0
  have pre0 : ∀ t, Steps p.tables e below (s₁.setTop (mkF m 0 #[.val (.ref a1)] [])) t → Steps p.tables e below (s₁.setTop (entryFrame m #[(.ref a1)] 1)) t := fun t k => castTop (ef_rm1a m a1) k
  obtain ⟨T1, X1, e1, st1⟩ := getF X0 hx hZ hown (host := "") (Or.inl (hw _ (List.mem_of_getElem? (i := 10) rfl))) Via.refl e0 F1 (g := (mkF m 1 #[.val (.ref a1)] [(.ref a1)])) rfl rfl (hb hby d1_1)
  obtain ⟨T2, X2, e2, st2⟩ := getS2 X1 hx hZ hown (host := "") (Or.inl (hw _ (List.mem_of_getElem? (i := 12) rfl))) Via.refl e1 S2 (g := (mkF m 13 #[.val (.ref a1)] [])) rfl (hb hby d1_13)
  have pre3 : ∀ t, Steps p.tables e below (T2.setTop (mkF m 16 #[.val (.ref a1)] [(.ref a2)])) t → Steps p.tables e below (s₁.setTop (entryFrame m #[(.ref a1)] 1)) t := by
    intro t k
    refine pre0 t ?_
    show Steps p.tables e below (s₁.setTop (mkF m 0 #[.val (.ref a1)] [])) _
    refine XS.aloadN X0.here hx rfl (hb hby d1_0) rfl (rfl) ?_
    show Steps p.tables e below (s₁.setTop (mkF m 1 #[.val (.ref a1)] [(.ref a1)])) _
    refine st1 _ ?_
    show Steps p.tables e below (T1.setTop (mkF m 4 #[.val (.ref a1)] [(.int (0 : Int32))])) _
    refine XS.ifYes X1.here hx rfl (pc0 := 4) (pc' := 13) rfl (hb hby d1_4) rfl ((if0 _ _).trans (teq rfl).1) (by decide) (by decide) ?_
    show Steps p.tables e below (T1.setTop (mkF m 13 #[.val (.ref a1)] [])) _
    refine st2 _ ?_
    show Steps p.tables e below (T2.setTop (mkF m 16 #[.val (.ref a1)] [(.ref a2)])) _
    exact k
  obtain ⟨fs, hr, hrun, hended, hW, hsame⟩ := X2.leave (v := some (.ref a2)) (fun h => by rw [Bd.returns] at h; cases h)
  refine ⟨_, _, pre3 _ ?_, hrun, hended, _, _, rfl, ?_, ⟨_, rfl⟩, hW, hsame.mono (by decide) (by decide)⟩
  · exact retOut X2 hx Bd.returns (by first | rfl | simp [narrow]) (Or.inr (Or.inr (Or.inr (Or.inr ⟨rfl, rfl, rfl⟩)))) (hb hby d1_16) hr
  · show Q_rm1a Z a1 a2 h0 n0 _ T2.heap _
    rw [e2]
    exact ⟨rfl, N0, rfl⟩
theorem ef_rm1b (m : MethodId) (x0 : Addr) : entryFrame m #[(.ref x0)] 1 = mkF m 0 #[.val (.ref x0)] [] := by first | (simp [entryFrame, mkF, argsToLocals, Value.category]; done) | rfl
theorem d1_7 : decode prog_49_method_4_code 7 = .ok (.getstatic 13, 3) := by decide +kernel
theorem d1_10 : decode prog_49_method_4_code 10 = .ok (.goto 6, 3) := by decide +kernel
def Q_rm1b (Z : State) (a1 : Addr) (a2 : Addr) (h0 : Heap) (n0 : Nat) (v : Option Value) (h : Heap) (L : List Loc) : Prop := v = some (.ref a2) ∧ Fr n0 L ∧ h = h0
set_option maxRecDepth 65536 in
set_option maxHeartbeats 40000000 in
theorem rm1b (l : Launch) (Z : State) (a0 : Array Value) (hw : ∀ d ∈ tables_1, d.before a0 Z = true) (ws : List Jvm.Cond) (a1 : Addr) (a2 : Addr) (h0 : Heap) (n0 : Nat) (Z0 : n0 ≤ h0.size) (F1 : Fld Z h0 a1 "com/example/names_to_queries/namestoqueries/ldap/PagedSearch$Start" "growing" "Z" (.int (1 : Int32))) (S2 : Sta Z h0 "com/example/names_to_queries/namestoqueries/ldap/PagedSearch$Start" "PAGED_GROWING" "Lcom/example/names_to_queries/namestoqueries/ldap/PagedSearch$Start;" (.ref a2)) :
    MetFree l (⟨"com/example/names_to_queries/namestoqueries/ldap/PagedSearch$Start", "paged", "()Lcom/example/names_to_queries/namestoqueries/ldap/PagedSearch$Start;"⟩ : MethodName) (head1 (Jvm.Cond.code (⟨"com/example/names_to_queries/namestoqueries/ldap/PagedSearch$Start", "paged", "()Lcom/example/names_to_queries/namestoqueries/ldap/PagedSearch$Start;"⟩ : MethodName) prog_49_method_4_code 1 (some (.object "com/example/names_to_queries/namestoqueries/ldap/PagedSearch$Start")) :: ws) ({ frames := 0, cells := 0, slots := 0, locals := 0 } : Room)) (fun a U => a = #[(.ref a1)] ∧ Z.Warmed39 U.vm ∧ U.heap = h0) (fun _ _ _ _ _ => True) (fun _ U o U' => ∃ v L, o = .returned v ∧ Q_rm1b Z a1 a2 h0 n0 v U'.heap L ∧ FrameEnd U o U' L ({ frames := 0, cells := 0, slots := 0, locals := 0 } : Room).cells ({ frames := 0, cells := 0, slots := 0, locals := 0 } : Room).slots) := by
  refine MetFree.of_bodySF (plainFor_of_name pn_0) hisR ?_
  intro p e s m args below meth c s₁ Bd hml0 hP hK
  obtain ⟨rfl, hZ, hh⟩ := hP
  have hx := Bd.exec
  have hby := Bd.bytes
  have hml : c.maxLocals = 1 := hml0
  have hown : s.vm.findClass "com/example/names_to_queries/namestoqueries/ldap/PagedSearch$Start" = some m.cls := findClass_of_methodNamed Bd.named
  have hnm := (name_of_methodNamed Bd.named Bd.method).1
  have X0 : Stand p l e ({ frames := 0, cells := 0, slots := 0, locals := 0 } : Room) s m #[(.ref a1)] below meth c s₁ [] 0 0 := Stand.of_body Bd
  have e0 : s₁.heap = h0 := by rw [← hh, Bd.state]; rfl
  have N0 := Fr.nil n0
  have pre0 : ∀ t, Steps p.tables e below (s₁.setTop (mkF m 0 #[.val (.ref a1)] [])) t → Steps p.tables e below (s₁.setTop (entryFrame m #[(.ref a1)] 1)) t := fun t k => castTop (ef_rm1b m a1) k
  obtain ⟨T1, X1, e1, st1⟩ := getF X0 hx hZ hown (host := "") (Or.inl (hw _ (List.mem_of_getElem? (i := 10) rfl))) Via.refl e0 F1 (g := (mkF m 1 #[.val (.ref a1)] [(.ref a1)])) rfl rfl (hb hby d1_1)
  obtain ⟨T2, X2, e2, st2⟩ := getS2 X1 hx hZ hown (host := "") (Or.inl (hw _ (List.mem_of_getElem? (i := 15) rfl))) Via.refl e1 S2 (g := (mkF m 7 #[.val (.ref a1)] [])) rfl (hb hby d1_7)
  have pre3 : ∀ t, Steps p.tables e below (T2.setTop (mkF m 16 #[.val (.ref a1)] [(.ref a2)])) t → Steps p.tables e below (s₁.setTop (entryFrame m #[(.ref a1)] 1)) t := by
    intro t k
    refine pre0 t ?_
    show Steps p.tables e below (s₁.setTop (mkF m 0 #[.val (.ref a1)] [])) _
    refine XS.aloadN X0.here hx rfl (hb hby d1_0) rfl (rfl) ?_
    show Steps p.tables e below (s₁.setTop (mkF m 1 #[.val (.ref a1)] [(.ref a1)])) _
    refine st1 _ ?_
    show Steps p.tables e below (T1.setTop (mkF m 4 #[.val (.ref a1)] [(.int (1 : Int32))])) _
    refine XS.ifNo X1.here hx rfl (hb hby d1_4) rfl ((if0 _ _).trans (feq (by decide)).1) ?_
    show Steps p.tables e below (T1.setTop (mkF m 7 #[.val (.ref a1)] [])) _
    refine st2 _ ?_
    show Steps p.tables e below (T2.setTop (mkF m 10 #[.val (.ref a1)] [(.ref a2)])) _
    refine XS.goto X2.here hx rfl (pc0 := 10) (pc' := 16) rfl (hb hby d1_10) (by decide) (by decide) ?_
    show Steps p.tables e below (T2.setTop (mkF m 16 #[.val (.ref a1)] [(.ref a2)])) _
    exact k
  obtain ⟨fs, hr, hrun, hended, hW, hsame⟩ := X2.leave (v := some (.ref a2)) (fun h => by rw [Bd.returns] at h; cases h)
  refine ⟨_, _, pre3 _ ?_, hrun, hended, _, _, rfl, ?_, ⟨_, rfl⟩, hW, hsame.mono (by decide) (by decide)⟩
  · exact retOut X2 hx Bd.returns (by first | rfl | simp [narrow]) (Or.inr (Or.inr (Or.inr (Or.inr ⟨rfl, rfl, rfl⟩)))) (hb hby d1_16) hr
  · show Q_rm1b Z a1 a2 h0 n0 _ T2.heap _
    rw [e2]
    exact ⟨rfl, N0, rfl⟩
theorem ef_rm0 (m : MethodId) (x0 : Int32) : entryFrame m #[(.int x0)] maxLocals = mkF m 0 #[.val (.int x0), .unset, .unset, .unset, .unset] [] := by first | (simp [entryFrame, mkF, argsToLocals, Value.category, maxLocals]; done) | rfl
theorem pn_1 : plainName "com/example/names_to_queries/namestoqueries/ldap/StartPagedPinLaw" = true := by first | (simp [plainName, overriddenIn]; done) | decide +kernel
theorem pd_0 : parseMethodDescriptor "()Lcom/example/names_to_queries/namestoqueries/ldap/PagedSearch$Start;" = some ⟨[], some (.object "com/example/names_to_queries/namestoqueries/ldap/PagedSearch$Start")⟩ := by decide +kernel
def Q_rm0 (Z : State) (p1 : Int32) (aO : Addr) (aP : Addr) (aG : Addr) (aW : Addr) (h0 : Heap) (n0 : Nat) (v : Option Value) (h : Heap) (L : List Loc) : Prop := v = some (.int 1) ∧ Fr n0 L
set_option maxRecDepth 65536 in
set_option maxHeartbeats 40000000 in
theorem rm0 (l : Launch) (Z : State) (a0 : Array Value) (hw : ∀ d ∈ tables_1, d.before a0 Z = true) (ws : List Jvm.Cond) (p1 : Int32) (aO : Addr) (aP : Addr) (aG : Addr) (aW : Addr) (h0 : Heap) (n0 : Nat) (Z0 : n0 ≤ h0.size) (E_aO : Exa Z h0 aO "com/example/names_to_queries/namestoqueries/ldap/PagedSearch$Start") (S_aO : Sta Z h0 "com/example/names_to_queries/namestoqueries/ldap/PagedSearch$Start" "ORDINARY" "Lcom/example/names_to_queries/namestoqueries/ldap/PagedSearch$Start;" (.ref aO)) (F_aO : Fld Z h0 aO "com/example/names_to_queries/namestoqueries/ldap/PagedSearch$Start" "growing" "Z" (.int (0 : Int32))) (E_aP : Exa Z h0 aP "com/example/names_to_queries/namestoqueries/ldap/PagedSearch$Start") (S_aP : Sta Z h0 "com/example/names_to_queries/namestoqueries/ldap/PagedSearch$Start" "PAGED" "Lcom/example/names_to_queries/namestoqueries/ldap/PagedSearch$Start;" (.ref aP)) (F_aP : Fld Z h0 aP "com/example/names_to_queries/namestoqueries/ldap/PagedSearch$Start" "growing" "Z" (.int (0 : Int32))) (E_aG : Exa Z h0 aG "com/example/names_to_queries/namestoqueries/ldap/PagedSearch$Start") (S_aG : Sta Z h0 "com/example/names_to_queries/namestoqueries/ldap/PagedSearch$Start" "PAGED_GROWING" "Lcom/example/names_to_queries/namestoqueries/ldap/PagedSearch$Start;" (.ref aG)) (F_aG : Fld Z h0 aG "com/example/names_to_queries/namestoqueries/ldap/PagedSearch$Start" "growing" "Z" (.int (1 : Int32))) (E_aW : Exa Z h0 aW "com/example/names_to_queries/namestoqueries/ldap/PagedSearch$Start") (S_aW : Sta Z h0 "com/example/names_to_queries/namestoqueries/ldap/PagedSearch$Start" "ORDINARY_WITHIN_A_PAGE" "Lcom/example/names_to_queries/namestoqueries/ldap/PagedSearch$Start;" (.ref aW)) (F_aW : Fld Z h0 aW "com/example/names_to_queries/namestoqueries/ldap/PagedSearch$Start" "growing" "Z" (.int (1 : Int32))) :
    MetFree l x (head1 (Jvm.Cond.code x code maxLocals ret :: ws) room_1) (fun a U => a = #[(.int p1)] ∧ Z.Warmed39 U.vm ∧ U.heap = h0) (fun _ _ _ _ _ => True) (fun _ U o U' => ∃ v L, o = .returned v ∧ Q_rm0 Z p1 aO aP aG aW h0 n0 v U'.heap L ∧ FrameEnd U o U' L room_1.cells room_1.slots) := by
  refine MetFree.of_bodySF (plainFor_of_name pn_1) hisR ?_
  intro p e s m args below meth c s₁ Bd hml0 hP hK
  obtain ⟨rfl, hZ, hh⟩ := hP
  have hx := Bd.exec
  have hby := Bd.bytes
  have hml : c.maxLocals = 5 := hml0
  have hown : s.vm.findClass "com/example/names_to_queries/namestoqueries/ldap/StartPagedPinLaw" = some m.cls := findClass_of_methodNamed Bd.named
  have hnm := (name_of_methodNamed Bd.named Bd.method).1
  have X0 : Stand p l e room_1 s m #[(.int p1)] below meth c s₁ [] 0 0 := Stand.of_body Bd
  have e0 : s₁.heap = h0 := by rw [← hh, Bd.state]; rfl
  have N0 := Fr.nil n0
  have pre0 : ∀ t, Steps p.tables e below (s₁.setTop (mkF m 0 #[.val (.int p1), .unset, .unset, .unset, .unset] [])) t → Steps p.tables e below (s₁.setTop (entryFrame m #[(.int p1)] maxLocals)) t := fun t k => castTop (ef_rm0 m p1) k
  have pre1 : ∀ t, Steps p.tables e below (s₁.setTop (mkF m 5 #[.val (.int p1), .val (.int (p1 &&& (3 : Int32))), .unset, .unset, .unset] [(.int (p1 &&& (3 : Int32)))])) t → Steps p.tables e below (s₁.setTop (entryFrame m #[(.int p1)] maxLocals)) t := by
    intro t k
    refine pre0 t ?_
    show Steps p.tables e below (s₁.setTop (mkF m 0 #[.val (.int p1), .unset, .unset, .unset, .unset] [])) _
    refine XS.iloadN X0.here hx rfl (hb hby at_0) rfl ?_
    show Steps p.tables e below (s₁.setTop (mkF m 1 #[.val (.int p1), .unset, .unset, .unset, .unset] [(.int p1)])) _
    refine XS.iconst X0.here hx rfl (hb hby at_1) ?_
    show Steps p.tables e below (s₁.setTop (mkF m 2 #[.val (.int p1), .unset, .unset, .unset, .unset] [(.int (3 : Int32)), (.int p1)])) _
    refine XS.iand X0.here hx rfl (hb hby at_2) rfl ?_
    show Steps p.tables e below (s₁.setTop (mkF m 3 #[.val (.int p1), .unset, .unset, .unset, .unset] [(.int (p1 &&& (3 : Int32)))])) _
    refine XS.istoreN X0.here hx rfl (hb hby at_3) rfl (l' := #[.val (.int p1), .val (.int (p1 &&& (3 : Int32))), .unset, .unset, .unset]) rfl ?_
    show Steps p.tables e below (s₁.setTop (mkF m 4 #[.val (.int p1), .val (.int (p1 &&& (3 : Int32))), .unset, .unset, .unset] [])) _
    refine XS.iloadN X0.here hx rfl (hb hby at_4) rfl ?_
    show Steps p.tables e below (s₁.setTop (mkF m 5 #[.val (.int p1), .val (.int (p1 &&& (3 : Int32))), .unset, .unset, .unset] [(.int (p1 &&& (3 : Int32)))])) _
    exact k
  by_cases h5 : (p1 &&& (3 : Int32)) = (0 : Int32)
  · skip
    obtain ⟨T2, X2, e2, st2⟩ := getS2 X0 hx hZ hown (host := "") (Or.inl (hw _ (List.mem_of_getElem? (i := 0) rfl))) Via.refl e0 S_aO (g := (mkF m 8 #[.val (.int p1), .val (.int (p1 &&& (3 : Int32))), .unset, .unset, .unset] [])) rfl (hb hby at_8)
    obtain ⟨T3, X3, e3, st3⟩ := getS2 X2 hx hZ hown (host := "") (Or.inl (hw _ (List.mem_of_getElem? (i := 3) rfl))) Via.refl e2 S_aP (g := (mkF m 12 #[.val (.int p1), .val (.int (p1 &&& (3 : Int32))), .val (.ref aO), .unset, .unset] [])) rfl (hb hby at_12)
    obtain ⟨cq4, kq4, q4a, q4b, q4c⟩ := isOf hZ e3 E_aO
    obtain ⟨_, _, ⟨T4, L4, k4, n4⟩, -, X4, ⟨Lc4, hQ4, l4, y4, z4⟩, st4⟩ := X3.virtualBack hx (y := (⟨"com/example/names_to_queries/namestoqueries/ldap/PagedSearch$Start", "paged", "()Lcom/example/names_to_queries/namestoqueries/ldap/PagedSearch$Start;"⟩ : MethodName)) (z := (⟨"com/example/names_to_queries/namestoqueries/ldap/PagedSearch$Start", "paged", "()Lcom/example/names_to_queries/namestoqueries/ldap/PagedSearch$Start;"⟩ : MethodName)) hown (mvT hZ (hw _ (List.mem_of_getElem? (i := 5) rfl))) (mvT hZ (hw _ (List.mem_of_getElem? (i := 6) rfl))) (notFace_of_selects (args := #[]) (mvT hZ (hw _ (List.mem_of_getElem? (i := 8) rfl)))) (mvT hZ (hw _ (List.mem_of_getElem? (i := 8) rfl))) (mvT hZ (hw _ (List.mem_of_getElem? (i := 7) rfl))) (by decide) (backOf (W := 0) (rm1a l Z a0 hw [] aO aP h0 n0 Z0 F_aO S_aP) hZ (hw _ (List.mem_of_getElem? (i := 9) rfl)) (hw _ (List.mem_of_getElem? (i := 1) rfl)) (by decide) (by decide)) q4a q4c (g := (mkF m 60 #[.val (.int p1), .val (.int (p1 &&& (3 : Int32))), .val (.ref aO), .val (.ref aP), .unset] [(.ref aO)])) rfl (by rw [hml]; rfl) (Steps.refl _) (argsL := []) (rest := []) (lenOf pd_0 rfl) rfl (by show 2 * 0 + _ ≤ _; exact Nat.le_of_eq rfl) (hb hby at_60) (fun _ _ => ⟨rfl, e3, (by decide : 0 + 0 ≤ _), (by decide : 0 + 0 ≤ _)⟩)
    dsimp only [Pt.U, Pt.locs, Pt.cells, Pt.slots] at X4 l4 y4 z4 st4 hQ4
    subst l4 y4 z4
    obtain ⟨rfl, N4q, hq4⟩ := hQ4
    have N4 := Fr.app N0 N4q
    obtain ⟨cq5, kq5, q5a, q5b, q5c⟩ := isOf hZ hq4 E_aP
    obtain ⟨_, _, ⟨T5, L5, k5, n5⟩, -, X5, ⟨Lc5, hQ5, l5, y5, z5⟩, st5⟩ := X4.virtualBack hx (y := (⟨"com/example/names_to_queries/namestoqueries/ldap/PagedSearch$Start", "paged", "()Lcom/example/names_to_queries/namestoqueries/ldap/PagedSearch$Start;"⟩ : MethodName)) (z := (⟨"com/example/names_to_queries/namestoqueries/ldap/PagedSearch$Start", "paged", "()Lcom/example/names_to_queries/namestoqueries/ldap/PagedSearch$Start;"⟩ : MethodName)) hown (mvT hZ (hw _ (List.mem_of_getElem? (i := 5) rfl))) (mvT hZ (hw _ (List.mem_of_getElem? (i := 6) rfl))) (notFace_of_selects (args := #[]) (mvT hZ (hw _ (List.mem_of_getElem? (i := 8) rfl)))) (mvT hZ (hw _ (List.mem_of_getElem? (i := 8) rfl))) (mvT hZ (hw _ (List.mem_of_getElem? (i := 7) rfl))) (by decide) (backOf (W := 0) (rm1a l Z a0 hw [] aP aP h0 n0 Z0 F_aP S_aP) hZ (hw _ (List.mem_of_getElem? (i := 9) rfl)) (hw _ (List.mem_of_getElem? (i := 1) rfl)) (by decide) (by decide)) q5a q5c (g := (mkF m 73 #[.val (.int p1), .val (.int (p1 &&& (3 : Int32))), .val (.ref aO), .val (.ref aP), .val (.ref aP)] [(.ref aP)])) rfl (by rw [hml]; rfl) (Steps.refl _) (argsL := []) (rest := []) (lenOf pd_0 rfl) rfl (by show 2 * 0 + _ ≤ _; exact Nat.le_of_eq rfl) (hb hby at_73) (fun _ _ => ⟨rfl, hq4, (by decide : 0 + 0 ≤ _), (by decide : 0 + 0 ≤ _)⟩)
    dsimp only [Pt.U, Pt.locs, Pt.cells, Pt.slots] at X5 l5 y5 z5 st5 hQ5
    subst l5 y5 z5
    obtain ⟨rfl, N5q, hq5⟩ := hQ5
    have N5 := Fr.app N4 N5q
    have pre6 : ∀ t, Steps p.tables e below (T5.setTop (mkF m 86 #[.val (.int p1), .val (.int (p1 &&& (3 : Int32))), .val (.ref aO), .val (.ref aP), .val (.ref aP)] [(.int (1 : Int32))])) t → Steps p.tables e below (s₁.setTop (entryFrame m #[(.int p1)] maxLocals)) t := by
      intro t k
      refine pre1 t ?_
      refine XS.ifNo X0.here hx rfl (hb hby at_5) rfl ((if0 _ _).trans (teq h5).2) ?_
      show Steps p.tables e below (s₁.setTop (mkF m 8 #[.val (.int p1), .val (.int (p1 &&& (3 : Int32))), .unset, .unset, .unset] [])) _
      refine st2 _ ?_
      show Steps p.tables e below (T2.setTop (mkF m 11 #[.val (.int p1), .val (.int (p1 &&& (3 : Int32))), .unset, .unset, .unset] [(.ref aO)])) _
      refine XS.astoreN X2.here hx rfl (hb hby at_11) rfl (rfl) (l' := #[.val (.int p1), .val (.int (p1 &&& (3 : Int32))), .val (.ref aO), .unset, .unset]) rfl ?_
      show Steps p.tables e below (T2.setTop (mkF m 12 #[.val (.int p1), .val (.int (p1 &&& (3 : Int32))), .val (.ref aO), .unset, .unset] [])) _
      refine st3 _ ?_
      show Steps p.tables e below (T3.setTop (mkF m 15 #[.val (.int p1), .val (.int (p1 &&& (3 : Int32))), .val (.ref aO), .unset, .unset] [(.ref aP)])) _
      refine XS.astoreN X3.here hx rfl (hb hby at_15) rfl (rfl) (l' := #[.val (.int p1), .val (.int (p1 &&& (3 : Int32))), .val (.ref aO), .val (.ref aP), .unset]) rfl ?_
      show Steps p.tables e below (T3.setTop (mkF m 16 #[.val (.int p1), .val (.int (p1 &&& (3 : Int32))), .val (.ref aO), .val (.ref aP), .unset] [])) _
      refine XS.goto X3.here hx rfl (pc0 := 16) (pc' := 59) rfl (hb hby at_16) (by decide) (by decide) ?_
      show Steps p.tables e below (T3.setTop (mkF m 59 #[.val (.int p1), .val (.int (p1 &&& (3 : Int32))), .val (.ref aO), .val (.ref aP), .unset] [])) _
      refine XS.aloadN X3.here hx rfl (hb hby at_59) rfl (rfl) ?_
      show Steps p.tables e below (T3.setTop (mkF m 60 #[.val (.int p1), .val (.int (p1 &&& (3 : Int32))), .val (.ref aO), .val (.ref aP), .unset] [(.ref aO)])) _
      refine st4.trans ?_
      show Steps p.tables e below (T4.setTop (mkF m 63 #[.val (.int p1), .val (.int (p1 &&& (3 : Int32))), .val (.ref aO), .val (.ref aP), .unset] [(.ref aP)])) _
      refine XS.astore X4.here hx rfl (hb hby at_63) rfl (rfl) (l' := #[.val (.int p1), .val (.int (p1 &&& (3 : Int32))), .val (.ref aO), .val (.ref aP), .val (.ref aP)]) rfl ?_
      show Steps p.tables e below (T4.setTop (mkF m 65 #[.val (.int p1), .val (.int (p1 &&& (3 : Int32))), .val (.ref aO), .val (.ref aP), .val (.ref aP)] [])) _
      refine XS.aload X4.here hx rfl (hb hby at_65) rfl (rfl) ?_
      show Steps p.tables e below (T4.setTop (mkF m 67 #[.val (.int p1), .val (.int (p1 &&& (3 : Int32))), .val (.ref aO), .val (.ref aP), .val (.ref aP)] [(.ref aP)])) _
      refine XS.aloadN X4.here hx rfl (hb hby at_67) rfl (rfl) ?_
      show Steps p.tables e below (T4.setTop (mkF m 68 #[.val (.int p1), .val (.int (p1 &&& (3 : Int32))), .val (.ref aO), .val (.ref aP), .val (.ref aP)] [(.ref aP), (.ref aP)])) _
      refine Jvm.RoadKit.acmp (g := (mkF m 68 #[.val (.int p1), .val (.int (p1 &&& (3 : Int32))), .val (.ref aO), .val (.ref aP), .val (.ref aP)] [(.ref aP), (.ref aP)])) X4 hx rfl rfl rfl (pc0 := 68) (pc' := 71) (same := true) rfl (hb hby at_68) rfl (decide_eq_true rfl) (by decide) (by decide) ?_
      show Steps p.tables e below (T4.setTop (mkF m 71 #[.val (.int p1), .val (.int (p1 &&& (3 : Int32))), .val (.ref aO), .val (.ref aP), .val (.ref aP)] [])) _
      refine XS.aload X4.here hx rfl (hb hby at_71) rfl (rfl) ?_
      show Steps p.tables e below (T4.setTop (mkF m 73 #[.val (.int p1), .val (.int (p1 &&& (3 : Int32))), .val (.ref aO), .val (.ref aP), .val (.ref aP)] [(.ref aP)])) _
      refine st5.trans ?_
      show Steps p.tables e below (T5.setTop (mkF m 76 #[.val (.int p1), .val (.int (p1 &&& (3 : Int32))), .val (.ref aO), .val (.ref aP), .val (.ref aP)] [(.ref aP)])) _
      refine XS.aload X5.here hx rfl (hb hby at_76) rfl (rfl) ?_
      show Steps p.tables e below (T5.setTop (mkF m 78 #[.val (.int p1), .val (.int (p1 &&& (3 : Int32))), .val (.ref aO), .val (.ref aP), .val (.ref aP)] [(.ref aP), (.ref aP)])) _
      refine Jvm.RoadKit.acmp (g := (mkF m 78 #[.val (.int p1), .val (.int (p1 &&& (3 : Int32))), .val (.ref aO), .val (.ref aP), .val (.ref aP)] [(.ref aP), (.ref aP)])) X5 hx rfl rfl rfl (pc0 := 78) (pc' := 81) (same := true) rfl (hb hby at_78) rfl (decide_eq_true rfl) (by decide) (by decide) ?_
      show Steps p.tables e below (T5.setTop (mkF m 81 #[.val (.int p1), .val (.int (p1 &&& (3 : Int32))), .val (.ref aO), .val (.ref aP), .val (.ref aP)] [])) _
      refine XS.iconst X5.here hx rfl (hb hby at_81) ?_
      show Steps p.tables e below (T5.setTop (mkF m 82 #[.val (.int p1), .val (.int (p1 &&& (3 : Int32))), .val (.ref aO), .val (.ref aP), .val (.ref aP)] [(.int (1 : Int32))])) _
      refine XS.goto X5.here hx rfl (pc0 := 82) (pc' := 86) rfl (hb hby at_82) (by decide) (by decide) ?_
      show Steps p.tables e below (T5.setTop (mkF m 86 #[.val (.int p1), .val (.int (p1 &&& (3 : Int32))), .val (.ref aO), .val (.ref aP), .val (.ref aP)] [(.int (1 : Int32))])) _
      exact k
    obtain ⟨fs, hr, hrun, hended, hW, hsame⟩ := X5.leave (v := some (.int (1 : Int32))) (fun h => by rw [Bd.returns] at h; cases h)
    refine ⟨_, _, pre6 _ ?_, hrun, hended, _, _, rfl, ?_, ⟨_, rfl⟩, hW, hsame.mono (by decide) (by decide)⟩
    · exact retN X5 hx (t := .boolean) Bd.returns (by simp) (hb hby at_86) hr
    · show Q_rm0 Z p1 aO aP aG aW h0 n0 _ T5.heap _
      rw [hq5]
      exact ⟨rfl, N5⟩
  · skip
    have pre7 : ∀ t, Steps p.tables e below (s₁.setTop (mkF m 21 #[.val (.int p1), .val (.int (p1 &&& (3 : Int32))), .unset, .unset, .unset] [(.int (1 : Int32)), (.int (p1 &&& (3 : Int32)))])) t → Steps p.tables e below (s₁.setTop (entryFrame m #[(.int p1)] maxLocals)) t := by
      intro t k
      refine pre1 t ?_
      refine XS.ifYes X0.here hx rfl (pc0 := 5) (pc' := 19) rfl (hb hby at_5) rfl ((if0 _ _).trans (feq h5).2) (by decide) (by decide) ?_
      show Steps p.tables e below (s₁.setTop (mkF m 19 #[.val (.int p1), .val (.int (p1 &&& (3 : Int32))), .unset, .unset, .unset] [])) _
      refine XS.iloadN X0.here hx rfl (hb hby at_19) rfl ?_
      show Steps p.tables e below (s₁.setTop (mkF m 20 #[.val (.int p1), .val (.int (p1 &&& (3 : Int32))), .unset, .unset, .unset] [(.int (p1 &&& (3 : Int32)))])) _
      refine XS.iconst X0.here hx rfl (hb hby at_20) ?_
      show Steps p.tables e below (s₁.setTop (mkF m 21 #[.val (.int p1), .val (.int (p1 &&& (3 : Int32))), .unset, .unset, .unset] [(.int (1 : Int32)), (.int (p1 &&& (3 : Int32)))])) _
      exact k
    by_cases h21 : (p1 &&& (3 : Int32)) = (1 : Int32)
    · skip
      obtain ⟨T8, X8, e8, st8⟩ := getS2 X0 hx hZ hown (host := "") (Or.inl (hw _ (List.mem_of_getElem? (i := 16) rfl))) Via.refl e0 S_aW (g := (mkF m 24 #[.val (.int p1), .val (.int (p1 &&& (3 : Int32))), .unset, .unset, .unset] [])) rfl (hb hby at_24)
      obtain ⟨T9, X9, e9, st9⟩ := getS2 X8 hx hZ hown (host := "") (Or.inl (hw _ (List.mem_of_getElem? (i := 13) rfl))) Via.refl e8 S_aG (g := (mkF m 28 #[.val (.int p1), .val (.int (p1 &&& (3 : Int32))), .val (.ref aW), .unset, .unset] [])) rfl (hb hby at_28)
      obtain ⟨cq10, kq10, q10a, q10b, q10c⟩ := isOf hZ e9 E_aW
      obtain ⟨_, _, ⟨T10, L10, k10, n10⟩, -, X10, ⟨Lc10, hQ10, l10, y10, z10⟩, st10⟩ := X9.virtualBack hx (y := (⟨"com/example/names_to_queries/namestoqueries/ldap/PagedSearch$Start", "paged", "()Lcom/example/names_to_queries/namestoqueries/ldap/PagedSearch$Start;"⟩ : MethodName)) (z := (⟨"com/example/names_to_queries/namestoqueries/ldap/PagedSearch$Start", "paged", "()Lcom/example/names_to_queries/namestoqueries/ldap/PagedSearch$Start;"⟩ : MethodName)) hown (mvT hZ (hw _ (List.mem_of_getElem? (i := 5) rfl))) (mvT hZ (hw _ (List.mem_of_getElem? (i := 6) rfl))) (notFace_of_selects (args := #[]) (mvT hZ (hw _ (List.mem_of_getElem? (i := 8) rfl)))) (mvT hZ (hw _ (List.mem_of_getElem? (i := 8) rfl))) (mvT hZ (hw _ (List.mem_of_getElem? (i := 7) rfl))) (by decide) (backOf (W := 0) (rm1b l Z a0 hw [] aW aG h0 n0 Z0 F_aW S_aG) hZ (hw _ (List.mem_of_getElem? (i := 9) rfl)) (hw _ (List.mem_of_getElem? (i := 1) rfl)) (by decide) (by decide)) q10a q10c (g := (mkF m 60 #[.val (.int p1), .val (.int (p1 &&& (3 : Int32))), .val (.ref aW), .val (.ref aG), .unset] [(.ref aW)])) rfl (by rw [hml]; rfl) (Steps.refl _) (argsL := []) (rest := []) (lenOf pd_0 rfl) rfl (by show 2 * 0 + _ ≤ _; exact Nat.le_of_eq rfl) (hb hby at_60) (fun _ _ => ⟨rfl, e9, (by decide : 0 + 0 ≤ _), (by decide : 0 + 0 ≤ _)⟩)
      dsimp only [Pt.U, Pt.locs, Pt.cells, Pt.slots] at X10 l10 y10 z10 st10 hQ10
      subst l10 y10 z10
      obtain ⟨rfl, N10q, hq10⟩ := hQ10
      have N10 := Fr.app N0 N10q
      obtain ⟨cq11, kq11, q11a, q11b, q11c⟩ := isOf hZ hq10 E_aG
      obtain ⟨_, _, ⟨T11, L11, k11, n11⟩, -, X11, ⟨Lc11, hQ11, l11, y11, z11⟩, st11⟩ := X10.virtualBack hx (y := (⟨"com/example/names_to_queries/namestoqueries/ldap/PagedSearch$Start", "paged", "()Lcom/example/names_to_queries/namestoqueries/ldap/PagedSearch$Start;"⟩ : MethodName)) (z := (⟨"com/example/names_to_queries/namestoqueries/ldap/PagedSearch$Start", "paged", "()Lcom/example/names_to_queries/namestoqueries/ldap/PagedSearch$Start;"⟩ : MethodName)) hown (mvT hZ (hw _ (List.mem_of_getElem? (i := 5) rfl))) (mvT hZ (hw _ (List.mem_of_getElem? (i := 6) rfl))) (notFace_of_selects (args := #[]) (mvT hZ (hw _ (List.mem_of_getElem? (i := 8) rfl)))) (mvT hZ (hw _ (List.mem_of_getElem? (i := 8) rfl))) (mvT hZ (hw _ (List.mem_of_getElem? (i := 7) rfl))) (by decide) (backOf (W := 0) (rm1b l Z a0 hw [] aG aG h0 n0 Z0 F_aG S_aG) hZ (hw _ (List.mem_of_getElem? (i := 9) rfl)) (hw _ (List.mem_of_getElem? (i := 1) rfl)) (by decide) (by decide)) q11a q11c (g := (mkF m 73 #[.val (.int p1), .val (.int (p1 &&& (3 : Int32))), .val (.ref aW), .val (.ref aG), .val (.ref aG)] [(.ref aG)])) rfl (by rw [hml]; rfl) (Steps.refl _) (argsL := []) (rest := []) (lenOf pd_0 rfl) rfl (by show 2 * 0 + _ ≤ _; exact Nat.le_of_eq rfl) (hb hby at_73) (fun _ _ => ⟨rfl, hq10, (by decide : 0 + 0 ≤ _), (by decide : 0 + 0 ≤ _)⟩)
      dsimp only [Pt.U, Pt.locs, Pt.cells, Pt.slots] at X11 l11 y11 z11 st11 hQ11
      subst l11 y11 z11
      obtain ⟨rfl, N11q, hq11⟩ := hQ11
      have N11 := Fr.app N10 N11q
      have pre12 : ∀ t, Steps p.tables e below (T11.setTop (mkF m 86 #[.val (.int p1), .val (.int (p1 &&& (3 : Int32))), .val (.ref aW), .val (.ref aG), .val (.ref aG)] [(.int (1 : Int32))])) t → Steps p.tables e below (s₁.setTop (entryFrame m #[(.int p1)] maxLocals)) t := by
        intro t k
        refine pre7 t ?_
        refine XS.icmpNo X0.here hx rfl (hb hby at_21) rfl (teq h21).2 ?_
        show Steps p.tables e below (s₁.setTop (mkF m 24 #[.val (.int p1), .val (.int (p1 &&& (3 : Int32))), .unset, .unset, .unset] [])) _
        refine st8 _ ?_
        show Steps p.tables e below (T8.setTop (mkF m 27 #[.val (.int p1), .val (.int (p1 &&& (3 : Int32))), .unset, .unset, .unset] [(.ref aW)])) _
        refine XS.astoreN X8.here hx rfl (hb hby at_27) rfl (rfl) (l' := #[.val (.int p1), .val (.int (p1 &&& (3 : Int32))), .val (.ref aW), .unset, .unset]) rfl ?_
        show Steps p.tables e below (T8.setTop (mkF m 28 #[.val (.int p1), .val (.int (p1 &&& (3 : Int32))), .val (.ref aW), .unset, .unset] [])) _
        refine st9 _ ?_
        show Steps p.tables e below (T9.setTop (mkF m 31 #[.val (.int p1), .val (.int (p1 &&& (3 : Int32))), .val (.ref aW), .unset, .unset] [(.ref aG)])) _
        refine XS.astoreN X9.here hx rfl (hb hby at_31) rfl (rfl) (l' := #[.val (.int p1), .val (.int (p1 &&& (3 : Int32))), .val (.ref aW), .val (.ref aG), .unset]) rfl ?_
        show Steps p.tables e below (T9.setTop (mkF m 32 #[.val (.int p1), .val (.int (p1 &&& (3 : Int32))), .val (.ref aW), .val (.ref aG), .unset] [])) _
        refine XS.goto X9.here hx rfl (pc0 := 32) (pc' := 59) rfl (hb hby at_32) (by decide) (by decide) ?_
        show Steps p.tables e below (T9.setTop (mkF m 59 #[.val (.int p1), .val (.int (p1 &&& (3 : Int32))), .val (.ref aW), .val (.ref aG), .unset] [])) _
        refine XS.aloadN X9.here hx rfl (hb hby at_59) rfl (rfl) ?_
        show Steps p.tables e below (T9.setTop (mkF m 60 #[.val (.int p1), .val (.int (p1 &&& (3 : Int32))), .val (.ref aW), .val (.ref aG), .unset] [(.ref aW)])) _
        refine st10.trans ?_
        show Steps p.tables e below (T10.setTop (mkF m 63 #[.val (.int p1), .val (.int (p1 &&& (3 : Int32))), .val (.ref aW), .val (.ref aG), .unset] [(.ref aG)])) _
        refine XS.astore X10.here hx rfl (hb hby at_63) rfl (rfl) (l' := #[.val (.int p1), .val (.int (p1 &&& (3 : Int32))), .val (.ref aW), .val (.ref aG), .val (.ref aG)]) rfl ?_
        show Steps p.tables e below (T10.setTop (mkF m 65 #[.val (.int p1), .val (.int (p1 &&& (3 : Int32))), .val (.ref aW), .val (.ref aG), .val (.ref aG)] [])) _
        refine XS.aload X10.here hx rfl (hb hby at_65) rfl (rfl) ?_
        show Steps p.tables e below (T10.setTop (mkF m 67 #[.val (.int p1), .val (.int (p1 &&& (3 : Int32))), .val (.ref aW), .val (.ref aG), .val (.ref aG)] [(.ref aG)])) _
        refine XS.aloadN X10.here hx rfl (hb hby at_67) rfl (rfl) ?_
        show Steps p.tables e below (T10.setTop (mkF m 68 #[.val (.int p1), .val (.int (p1 &&& (3 : Int32))), .val (.ref aW), .val (.ref aG), .val (.ref aG)] [(.ref aG), (.ref aG)])) _
        refine Jvm.RoadKit.acmp (g := (mkF m 68 #[.val (.int p1), .val (.int (p1 &&& (3 : Int32))), .val (.ref aW), .val (.ref aG), .val (.ref aG)] [(.ref aG), (.ref aG)])) X10 hx rfl rfl rfl (pc0 := 68) (pc' := 71) (same := true) rfl (hb hby at_68) rfl (decide_eq_true rfl) (by decide) (by decide) ?_
        show Steps p.tables e below (T10.setTop (mkF m 71 #[.val (.int p1), .val (.int (p1 &&& (3 : Int32))), .val (.ref aW), .val (.ref aG), .val (.ref aG)] [])) _
        refine XS.aload X10.here hx rfl (hb hby at_71) rfl (rfl) ?_
        show Steps p.tables e below (T10.setTop (mkF m 73 #[.val (.int p1), .val (.int (p1 &&& (3 : Int32))), .val (.ref aW), .val (.ref aG), .val (.ref aG)] [(.ref aG)])) _
        refine st11.trans ?_
        show Steps p.tables e below (T11.setTop (mkF m 76 #[.val (.int p1), .val (.int (p1 &&& (3 : Int32))), .val (.ref aW), .val (.ref aG), .val (.ref aG)] [(.ref aG)])) _
        refine XS.aload X11.here hx rfl (hb hby at_76) rfl (rfl) ?_
        show Steps p.tables e below (T11.setTop (mkF m 78 #[.val (.int p1), .val (.int (p1 &&& (3 : Int32))), .val (.ref aW), .val (.ref aG), .val (.ref aG)] [(.ref aG), (.ref aG)])) _
        refine Jvm.RoadKit.acmp (g := (mkF m 78 #[.val (.int p1), .val (.int (p1 &&& (3 : Int32))), .val (.ref aW), .val (.ref aG), .val (.ref aG)] [(.ref aG), (.ref aG)])) X11 hx rfl rfl rfl (pc0 := 78) (pc' := 81) (same := true) rfl (hb hby at_78) rfl (decide_eq_true rfl) (by decide) (by decide) ?_
        show Steps p.tables e below (T11.setTop (mkF m 81 #[.val (.int p1), .val (.int (p1 &&& (3 : Int32))), .val (.ref aW), .val (.ref aG), .val (.ref aG)] [])) _
        refine XS.iconst X11.here hx rfl (hb hby at_81) ?_
        show Steps p.tables e below (T11.setTop (mkF m 82 #[.val (.int p1), .val (.int (p1 &&& (3 : Int32))), .val (.ref aW), .val (.ref aG), .val (.ref aG)] [(.int (1 : Int32))])) _
        refine XS.goto X11.here hx rfl (pc0 := 82) (pc' := 86) rfl (hb hby at_82) (by decide) (by decide) ?_
        show Steps p.tables e below (T11.setTop (mkF m 86 #[.val (.int p1), .val (.int (p1 &&& (3 : Int32))), .val (.ref aW), .val (.ref aG), .val (.ref aG)] [(.int (1 : Int32))])) _
        exact k
      obtain ⟨fs, hr, hrun, hended, hW, hsame⟩ := X11.leave (v := some (.int (1 : Int32))) (fun h => by rw [Bd.returns] at h; cases h)
      refine ⟨_, _, pre12 _ ?_, hrun, hended, _, _, rfl, ?_, ⟨_, rfl⟩, hW, hsame.mono (by decide) (by decide)⟩
      · exact retN X11 hx (t := .boolean) Bd.returns (by simp) (hb hby at_86) hr
      · show Q_rm0 Z p1 aO aP aG aW h0 n0 _ T11.heap _
        rw [hq11]
        exact ⟨rfl, N11⟩
    · skip
      have pre13 : ∀ t, Steps p.tables e below (s₁.setTop (mkF m 37 #[.val (.int p1), .val (.int (p1 &&& (3 : Int32))), .unset, .unset, .unset] [(.int (2 : Int32)), (.int (p1 &&& (3 : Int32)))])) t → Steps p.tables e below (s₁.setTop (entryFrame m #[(.int p1)] maxLocals)) t := by
        intro t k
        refine pre7 t ?_
        refine XS.icmpYes X0.here hx rfl (pc0 := 21) (pc' := 35) rfl (hb hby at_21) rfl (feq h21).2 (by decide) (by decide) ?_
        show Steps p.tables e below (s₁.setTop (mkF m 35 #[.val (.int p1), .val (.int (p1 &&& (3 : Int32))), .unset, .unset, .unset] [])) _
        refine XS.iloadN X0.here hx rfl (hb hby at_35) rfl ?_
        show Steps p.tables e below (s₁.setTop (mkF m 36 #[.val (.int p1), .val (.int (p1 &&& (3 : Int32))), .unset, .unset, .unset] [(.int (p1 &&& (3 : Int32)))])) _
        refine XS.iconst X0.here hx rfl (hb hby at_36) ?_
        show Steps p.tables e below (s₁.setTop (mkF m 37 #[.val (.int p1), .val (.int (p1 &&& (3 : Int32))), .unset, .unset, .unset] [(.int (2 : Int32)), (.int (p1 &&& (3 : Int32)))])) _
        exact k
      by_cases h37 : (p1 &&& (3 : Int32)) = (2 : Int32)
      · skip
        obtain ⟨T14, X14, e14, st14⟩ := getS2 X0 hx hZ hown (host := "") (Or.inl (hw _ (List.mem_of_getElem? (i := 3) rfl))) Via.refl e0 S_aP (g := (mkF m 40 #[.val (.int p1), .val (.int (p1 &&& (3 : Int32))), .unset, .unset, .unset] [])) rfl (hb hby at_40)
        obtain ⟨T15, X15, e15, st15⟩ := getS2 X14 hx hZ hown (host := "") (Or.inl (hw _ (List.mem_of_getElem? (i := 3) rfl))) Via.refl e14 S_aP (g := (mkF m 44 #[.val (.int p1), .val (.int (p1 &&& (3 : Int32))), .val (.ref aP), .unset, .unset] [])) rfl (hb hby at_44)
        obtain ⟨cq16, kq16, q16a, q16b, q16c⟩ := isOf hZ e15 E_aP
        obtain ⟨_, _, ⟨T16, L16, k16, n16⟩, -, X16, ⟨Lc16, hQ16, l16, y16, z16⟩, st16⟩ := X15.virtualBack hx (y := (⟨"com/example/names_to_queries/namestoqueries/ldap/PagedSearch$Start", "paged", "()Lcom/example/names_to_queries/namestoqueries/ldap/PagedSearch$Start;"⟩ : MethodName)) (z := (⟨"com/example/names_to_queries/namestoqueries/ldap/PagedSearch$Start", "paged", "()Lcom/example/names_to_queries/namestoqueries/ldap/PagedSearch$Start;"⟩ : MethodName)) hown (mvT hZ (hw _ (List.mem_of_getElem? (i := 5) rfl))) (mvT hZ (hw _ (List.mem_of_getElem? (i := 6) rfl))) (notFace_of_selects (args := #[]) (mvT hZ (hw _ (List.mem_of_getElem? (i := 8) rfl)))) (mvT hZ (hw _ (List.mem_of_getElem? (i := 8) rfl))) (mvT hZ (hw _ (List.mem_of_getElem? (i := 7) rfl))) (by decide) (backOf (W := 0) (rm1a l Z a0 hw [] aP aP h0 n0 Z0 F_aP S_aP) hZ (hw _ (List.mem_of_getElem? (i := 9) rfl)) (hw _ (List.mem_of_getElem? (i := 1) rfl)) (by decide) (by decide)) q16a q16c (g := (mkF m 60 #[.val (.int p1), .val (.int (p1 &&& (3 : Int32))), .val (.ref aP), .val (.ref aP), .unset] [(.ref aP)])) rfl (by rw [hml]; rfl) (Steps.refl _) (argsL := []) (rest := []) (lenOf pd_0 rfl) rfl (by show 2 * 0 + _ ≤ _; exact Nat.le_of_eq rfl) (hb hby at_60) (fun _ _ => ⟨rfl, e15, (by decide : 0 + 0 ≤ _), (by decide : 0 + 0 ≤ _)⟩)
        dsimp only [Pt.U, Pt.locs, Pt.cells, Pt.slots] at X16 l16 y16 z16 st16 hQ16
        subst l16 y16 z16
        obtain ⟨rfl, N16q, hq16⟩ := hQ16
        have N16 := Fr.app N0 N16q
        obtain ⟨cq17, kq17, q17a, q17b, q17c⟩ := isOf hZ hq16 E_aP
        obtain ⟨_, _, ⟨T17, L17, k17, n17⟩, -, X17, ⟨Lc17, hQ17, l17, y17, z17⟩, st17⟩ := X16.virtualBack hx (y := (⟨"com/example/names_to_queries/namestoqueries/ldap/PagedSearch$Start", "paged", "()Lcom/example/names_to_queries/namestoqueries/ldap/PagedSearch$Start;"⟩ : MethodName)) (z := (⟨"com/example/names_to_queries/namestoqueries/ldap/PagedSearch$Start", "paged", "()Lcom/example/names_to_queries/namestoqueries/ldap/PagedSearch$Start;"⟩ : MethodName)) hown (mvT hZ (hw _ (List.mem_of_getElem? (i := 5) rfl))) (mvT hZ (hw _ (List.mem_of_getElem? (i := 6) rfl))) (notFace_of_selects (args := #[]) (mvT hZ (hw _ (List.mem_of_getElem? (i := 8) rfl)))) (mvT hZ (hw _ (List.mem_of_getElem? (i := 8) rfl))) (mvT hZ (hw _ (List.mem_of_getElem? (i := 7) rfl))) (by decide) (backOf (W := 0) (rm1a l Z a0 hw [] aP aP h0 n0 Z0 F_aP S_aP) hZ (hw _ (List.mem_of_getElem? (i := 9) rfl)) (hw _ (List.mem_of_getElem? (i := 1) rfl)) (by decide) (by decide)) q17a q17c (g := (mkF m 73 #[.val (.int p1), .val (.int (p1 &&& (3 : Int32))), .val (.ref aP), .val (.ref aP), .val (.ref aP)] [(.ref aP)])) rfl (by rw [hml]; rfl) (Steps.refl _) (argsL := []) (rest := []) (lenOf pd_0 rfl) rfl (by show 2 * 0 + _ ≤ _; exact Nat.le_of_eq rfl) (hb hby at_73) (fun _ _ => ⟨rfl, hq16, (by decide : 0 + 0 ≤ _), (by decide : 0 + 0 ≤ _)⟩)
        dsimp only [Pt.U, Pt.locs, Pt.cells, Pt.slots] at X17 l17 y17 z17 st17 hQ17
        subst l17 y17 z17
        obtain ⟨rfl, N17q, hq17⟩ := hQ17
        have N17 := Fr.app N16 N17q
        have pre18 : ∀ t, Steps p.tables e below (T17.setTop (mkF m 86 #[.val (.int p1), .val (.int (p1 &&& (3 : Int32))), .val (.ref aP), .val (.ref aP), .val (.ref aP)] [(.int (1 : Int32))])) t → Steps p.tables e below (s₁.setTop (entryFrame m #[(.int p1)] maxLocals)) t := by
          intro t k
          refine pre13 t ?_
          refine XS.icmpNo X0.here hx rfl (hb hby at_37) rfl (teq h37).2 ?_
          show Steps p.tables e below (s₁.setTop (mkF m 40 #[.val (.int p1), .val (.int (p1 &&& (3 : Int32))), .unset, .unset, .unset] [])) _
          refine st14 _ ?_
          show Steps p.tables e below (T14.setTop (mkF m 43 #[.val (.int p1), .val (.int (p1 &&& (3 : Int32))), .unset, .unset, .unset] [(.ref aP)])) _
          refine XS.astoreN X14.here hx rfl (hb hby at_43) rfl (rfl) (l' := #[.val (.int p1), .val (.int (p1 &&& (3 : Int32))), .val (.ref aP), .unset, .unset]) rfl ?_
          show Steps p.tables e below (T14.setTop (mkF m 44 #[.val (.int p1), .val (.int (p1 &&& (3 : Int32))), .val (.ref aP), .unset, .unset] [])) _
          refine st15 _ ?_
          show Steps p.tables e below (T15.setTop (mkF m 47 #[.val (.int p1), .val (.int (p1 &&& (3 : Int32))), .val (.ref aP), .unset, .unset] [(.ref aP)])) _
          refine XS.astoreN X15.here hx rfl (hb hby at_47) rfl (rfl) (l' := #[.val (.int p1), .val (.int (p1 &&& (3 : Int32))), .val (.ref aP), .val (.ref aP), .unset]) rfl ?_
          show Steps p.tables e below (T15.setTop (mkF m 48 #[.val (.int p1), .val (.int (p1 &&& (3 : Int32))), .val (.ref aP), .val (.ref aP), .unset] [])) _
          refine XS.goto X15.here hx rfl (pc0 := 48) (pc' := 59) rfl (hb hby at_48) (by decide) (by decide) ?_
          show Steps p.tables e below (T15.setTop (mkF m 59 #[.val (.int p1), .val (.int (p1 &&& (3 : Int32))), .val (.ref aP), .val (.ref aP), .unset] [])) _
          refine XS.aloadN X15.here hx rfl (hb hby at_59) rfl (rfl) ?_
          show Steps p.tables e below (T15.setTop (mkF m 60 #[.val (.int p1), .val (.int (p1 &&& (3 : Int32))), .val (.ref aP), .val (.ref aP), .unset] [(.ref aP)])) _
          refine st16.trans ?_
          show Steps p.tables e below (T16.setTop (mkF m 63 #[.val (.int p1), .val (.int (p1 &&& (3 : Int32))), .val (.ref aP), .val (.ref aP), .unset] [(.ref aP)])) _
          refine XS.astore X16.here hx rfl (hb hby at_63) rfl (rfl) (l' := #[.val (.int p1), .val (.int (p1 &&& (3 : Int32))), .val (.ref aP), .val (.ref aP), .val (.ref aP)]) rfl ?_
          show Steps p.tables e below (T16.setTop (mkF m 65 #[.val (.int p1), .val (.int (p1 &&& (3 : Int32))), .val (.ref aP), .val (.ref aP), .val (.ref aP)] [])) _
          refine XS.aload X16.here hx rfl (hb hby at_65) rfl (rfl) ?_
          show Steps p.tables e below (T16.setTop (mkF m 67 #[.val (.int p1), .val (.int (p1 &&& (3 : Int32))), .val (.ref aP), .val (.ref aP), .val (.ref aP)] [(.ref aP)])) _
          refine XS.aloadN X16.here hx rfl (hb hby at_67) rfl (rfl) ?_
          show Steps p.tables e below (T16.setTop (mkF m 68 #[.val (.int p1), .val (.int (p1 &&& (3 : Int32))), .val (.ref aP), .val (.ref aP), .val (.ref aP)] [(.ref aP), (.ref aP)])) _
          refine Jvm.RoadKit.acmp (g := (mkF m 68 #[.val (.int p1), .val (.int (p1 &&& (3 : Int32))), .val (.ref aP), .val (.ref aP), .val (.ref aP)] [(.ref aP), (.ref aP)])) X16 hx rfl rfl rfl (pc0 := 68) (pc' := 71) (same := true) rfl (hb hby at_68) rfl (decide_eq_true rfl) (by decide) (by decide) ?_
          show Steps p.tables e below (T16.setTop (mkF m 71 #[.val (.int p1), .val (.int (p1 &&& (3 : Int32))), .val (.ref aP), .val (.ref aP), .val (.ref aP)] [])) _
          refine XS.aload X16.here hx rfl (hb hby at_71) rfl (rfl) ?_
          show Steps p.tables e below (T16.setTop (mkF m 73 #[.val (.int p1), .val (.int (p1 &&& (3 : Int32))), .val (.ref aP), .val (.ref aP), .val (.ref aP)] [(.ref aP)])) _
          refine st17.trans ?_
          show Steps p.tables e below (T17.setTop (mkF m 76 #[.val (.int p1), .val (.int (p1 &&& (3 : Int32))), .val (.ref aP), .val (.ref aP), .val (.ref aP)] [(.ref aP)])) _
          refine XS.aload X17.here hx rfl (hb hby at_76) rfl (rfl) ?_
          show Steps p.tables e below (T17.setTop (mkF m 78 #[.val (.int p1), .val (.int (p1 &&& (3 : Int32))), .val (.ref aP), .val (.ref aP), .val (.ref aP)] [(.ref aP), (.ref aP)])) _
          refine Jvm.RoadKit.acmp (g := (mkF m 78 #[.val (.int p1), .val (.int (p1 &&& (3 : Int32))), .val (.ref aP), .val (.ref aP), .val (.ref aP)] [(.ref aP), (.ref aP)])) X17 hx rfl rfl rfl (pc0 := 78) (pc' := 81) (same := true) rfl (hb hby at_78) rfl (decide_eq_true rfl) (by decide) (by decide) ?_
          show Steps p.tables e below (T17.setTop (mkF m 81 #[.val (.int p1), .val (.int (p1 &&& (3 : Int32))), .val (.ref aP), .val (.ref aP), .val (.ref aP)] [])) _
          refine XS.iconst X17.here hx rfl (hb hby at_81) ?_
          show Steps p.tables e below (T17.setTop (mkF m 82 #[.val (.int p1), .val (.int (p1 &&& (3 : Int32))), .val (.ref aP), .val (.ref aP), .val (.ref aP)] [(.int (1 : Int32))])) _
          refine XS.goto X17.here hx rfl (pc0 := 82) (pc' := 86) rfl (hb hby at_82) (by decide) (by decide) ?_
          show Steps p.tables e below (T17.setTop (mkF m 86 #[.val (.int p1), .val (.int (p1 &&& (3 : Int32))), .val (.ref aP), .val (.ref aP), .val (.ref aP)] [(.int (1 : Int32))])) _
          exact k
        obtain ⟨fs, hr, hrun, hended, hW, hsame⟩ := X17.leave (v := some (.int (1 : Int32))) (fun h => by rw [Bd.returns] at h; cases h)
        refine ⟨_, _, pre18 _ ?_, hrun, hended, _, _, rfl, ?_, ⟨_, rfl⟩, hW, hsame.mono (by decide) (by decide)⟩
        · exact retN X17 hx (t := .boolean) Bd.returns (by simp) (hb hby at_86) hr
        · show Q_rm0 Z p1 aO aP aG aW h0 n0 _ T17.heap _
          rw [hq17]
          exact ⟨rfl, N17⟩
      · skip
        obtain ⟨T19, X19, e19, st19⟩ := getS2 X0 hx hZ hown (host := "") (Or.inl (hw _ (List.mem_of_getElem? (i := 13) rfl))) Via.refl e0 S_aG (g := (mkF m 51 #[.val (.int p1), .val (.int (p1 &&& (3 : Int32))), .unset, .unset, .unset] [])) rfl (hb hby at_51)
        obtain ⟨T20, X20, e20, st20⟩ := getS2 X19 hx hZ hown (host := "") (Or.inl (hw _ (List.mem_of_getElem? (i := 13) rfl))) Via.refl e19 S_aG (g := (mkF m 55 #[.val (.int p1), .val (.int (p1 &&& (3 : Int32))), .val (.ref aG), .unset, .unset] [])) rfl (hb hby at_55)
        obtain ⟨cq21, kq21, q21a, q21b, q21c⟩ := isOf hZ e20 E_aG
        obtain ⟨_, _, ⟨T21, L21, k21, n21⟩, -, X21, ⟨Lc21, hQ21, l21, y21, z21⟩, st21⟩ := X20.virtualBack hx (y := (⟨"com/example/names_to_queries/namestoqueries/ldap/PagedSearch$Start", "paged", "()Lcom/example/names_to_queries/namestoqueries/ldap/PagedSearch$Start;"⟩ : MethodName)) (z := (⟨"com/example/names_to_queries/namestoqueries/ldap/PagedSearch$Start", "paged", "()Lcom/example/names_to_queries/namestoqueries/ldap/PagedSearch$Start;"⟩ : MethodName)) hown (mvT hZ (hw _ (List.mem_of_getElem? (i := 5) rfl))) (mvT hZ (hw _ (List.mem_of_getElem? (i := 6) rfl))) (notFace_of_selects (args := #[]) (mvT hZ (hw _ (List.mem_of_getElem? (i := 8) rfl)))) (mvT hZ (hw _ (List.mem_of_getElem? (i := 8) rfl))) (mvT hZ (hw _ (List.mem_of_getElem? (i := 7) rfl))) (by decide) (backOf (W := 0) (rm1b l Z a0 hw [] aG aG h0 n0 Z0 F_aG S_aG) hZ (hw _ (List.mem_of_getElem? (i := 9) rfl)) (hw _ (List.mem_of_getElem? (i := 1) rfl)) (by decide) (by decide)) q21a q21c (g := (mkF m 60 #[.val (.int p1), .val (.int (p1 &&& (3 : Int32))), .val (.ref aG), .val (.ref aG), .unset] [(.ref aG)])) rfl (by rw [hml]; rfl) (Steps.refl _) (argsL := []) (rest := []) (lenOf pd_0 rfl) rfl (by show 2 * 0 + _ ≤ _; exact Nat.le_of_eq rfl) (hb hby at_60) (fun _ _ => ⟨rfl, e20, (by decide : 0 + 0 ≤ _), (by decide : 0 + 0 ≤ _)⟩)
        dsimp only [Pt.U, Pt.locs, Pt.cells, Pt.slots] at X21 l21 y21 z21 st21 hQ21
        subst l21 y21 z21
        obtain ⟨rfl, N21q, hq21⟩ := hQ21
        have N21 := Fr.app N0 N21q
        obtain ⟨cq22, kq22, q22a, q22b, q22c⟩ := isOf hZ hq21 E_aG
        obtain ⟨_, _, ⟨T22, L22, k22, n22⟩, -, X22, ⟨Lc22, hQ22, l22, y22, z22⟩, st22⟩ := X21.virtualBack hx (y := (⟨"com/example/names_to_queries/namestoqueries/ldap/PagedSearch$Start", "paged", "()Lcom/example/names_to_queries/namestoqueries/ldap/PagedSearch$Start;"⟩ : MethodName)) (z := (⟨"com/example/names_to_queries/namestoqueries/ldap/PagedSearch$Start", "paged", "()Lcom/example/names_to_queries/namestoqueries/ldap/PagedSearch$Start;"⟩ : MethodName)) hown (mvT hZ (hw _ (List.mem_of_getElem? (i := 5) rfl))) (mvT hZ (hw _ (List.mem_of_getElem? (i := 6) rfl))) (notFace_of_selects (args := #[]) (mvT hZ (hw _ (List.mem_of_getElem? (i := 8) rfl)))) (mvT hZ (hw _ (List.mem_of_getElem? (i := 8) rfl))) (mvT hZ (hw _ (List.mem_of_getElem? (i := 7) rfl))) (by decide) (backOf (W := 0) (rm1b l Z a0 hw [] aG aG h0 n0 Z0 F_aG S_aG) hZ (hw _ (List.mem_of_getElem? (i := 9) rfl)) (hw _ (List.mem_of_getElem? (i := 1) rfl)) (by decide) (by decide)) q22a q22c (g := (mkF m 73 #[.val (.int p1), .val (.int (p1 &&& (3 : Int32))), .val (.ref aG), .val (.ref aG), .val (.ref aG)] [(.ref aG)])) rfl (by rw [hml]; rfl) (Steps.refl _) (argsL := []) (rest := []) (lenOf pd_0 rfl) rfl (by show 2 * 0 + _ ≤ _; exact Nat.le_of_eq rfl) (hb hby at_73) (fun _ _ => ⟨rfl, hq21, (by decide : 0 + 0 ≤ _), (by decide : 0 + 0 ≤ _)⟩)
        dsimp only [Pt.U, Pt.locs, Pt.cells, Pt.slots] at X22 l22 y22 z22 st22 hQ22
        subst l22 y22 z22
        obtain ⟨rfl, N22q, hq22⟩ := hQ22
        have N22 := Fr.app N21 N22q
        have pre23 : ∀ t, Steps p.tables e below (T22.setTop (mkF m 86 #[.val (.int p1), .val (.int (p1 &&& (3 : Int32))), .val (.ref aG), .val (.ref aG), .val (.ref aG)] [(.int (1 : Int32))])) t → Steps p.tables e below (s₁.setTop (entryFrame m #[(.int p1)] maxLocals)) t := by
          intro t k
          refine pre13 t ?_
          refine XS.icmpYes X0.here hx rfl (pc0 := 37) (pc' := 51) rfl (hb hby at_37) rfl (feq h37).2 (by decide) (by decide) ?_
          show Steps p.tables e below (s₁.setTop (mkF m 51 #[.val (.int p1), .val (.int (p1 &&& (3 : Int32))), .unset, .unset, .unset] [])) _
          refine st19 _ ?_
          show Steps p.tables e below (T19.setTop (mkF m 54 #[.val (.int p1), .val (.int (p1 &&& (3 : Int32))), .unset, .unset, .unset] [(.ref aG)])) _
          refine XS.astoreN X19.here hx rfl (hb hby at_54) rfl (rfl) (l' := #[.val (.int p1), .val (.int (p1 &&& (3 : Int32))), .val (.ref aG), .unset, .unset]) rfl ?_
          show Steps p.tables e below (T19.setTop (mkF m 55 #[.val (.int p1), .val (.int (p1 &&& (3 : Int32))), .val (.ref aG), .unset, .unset] [])) _
          refine st20 _ ?_
          show Steps p.tables e below (T20.setTop (mkF m 58 #[.val (.int p1), .val (.int (p1 &&& (3 : Int32))), .val (.ref aG), .unset, .unset] [(.ref aG)])) _
          refine XS.astoreN X20.here hx rfl (hb hby at_58) rfl (rfl) (l' := #[.val (.int p1), .val (.int (p1 &&& (3 : Int32))), .val (.ref aG), .val (.ref aG), .unset]) rfl ?_
          show Steps p.tables e below (T20.setTop (mkF m 59 #[.val (.int p1), .val (.int (p1 &&& (3 : Int32))), .val (.ref aG), .val (.ref aG), .unset] [])) _
          refine XS.aloadN X20.here hx rfl (hb hby at_59) rfl (rfl) ?_
          show Steps p.tables e below (T20.setTop (mkF m 60 #[.val (.int p1), .val (.int (p1 &&& (3 : Int32))), .val (.ref aG), .val (.ref aG), .unset] [(.ref aG)])) _
          refine st21.trans ?_
          show Steps p.tables e below (T21.setTop (mkF m 63 #[.val (.int p1), .val (.int (p1 &&& (3 : Int32))), .val (.ref aG), .val (.ref aG), .unset] [(.ref aG)])) _
          refine XS.astore X21.here hx rfl (hb hby at_63) rfl (rfl) (l' := #[.val (.int p1), .val (.int (p1 &&& (3 : Int32))), .val (.ref aG), .val (.ref aG), .val (.ref aG)]) rfl ?_
          show Steps p.tables e below (T21.setTop (mkF m 65 #[.val (.int p1), .val (.int (p1 &&& (3 : Int32))), .val (.ref aG), .val (.ref aG), .val (.ref aG)] [])) _
          refine XS.aload X21.here hx rfl (hb hby at_65) rfl (rfl) ?_
          show Steps p.tables e below (T21.setTop (mkF m 67 #[.val (.int p1), .val (.int (p1 &&& (3 : Int32))), .val (.ref aG), .val (.ref aG), .val (.ref aG)] [(.ref aG)])) _
          refine XS.aloadN X21.here hx rfl (hb hby at_67) rfl (rfl) ?_
          show Steps p.tables e below (T21.setTop (mkF m 68 #[.val (.int p1), .val (.int (p1 &&& (3 : Int32))), .val (.ref aG), .val (.ref aG), .val (.ref aG)] [(.ref aG), (.ref aG)])) _
          refine Jvm.RoadKit.acmp (g := (mkF m 68 #[.val (.int p1), .val (.int (p1 &&& (3 : Int32))), .val (.ref aG), .val (.ref aG), .val (.ref aG)] [(.ref aG), (.ref aG)])) X21 hx rfl rfl rfl (pc0 := 68) (pc' := 71) (same := true) rfl (hb hby at_68) rfl (decide_eq_true rfl) (by decide) (by decide) ?_
          show Steps p.tables e below (T21.setTop (mkF m 71 #[.val (.int p1), .val (.int (p1 &&& (3 : Int32))), .val (.ref aG), .val (.ref aG), .val (.ref aG)] [])) _
          refine XS.aload X21.here hx rfl (hb hby at_71) rfl (rfl) ?_
          show Steps p.tables e below (T21.setTop (mkF m 73 #[.val (.int p1), .val (.int (p1 &&& (3 : Int32))), .val (.ref aG), .val (.ref aG), .val (.ref aG)] [(.ref aG)])) _
          refine st22.trans ?_
          show Steps p.tables e below (T22.setTop (mkF m 76 #[.val (.int p1), .val (.int (p1 &&& (3 : Int32))), .val (.ref aG), .val (.ref aG), .val (.ref aG)] [(.ref aG)])) _
          refine XS.aload X22.here hx rfl (hb hby at_76) rfl (rfl) ?_
          show Steps p.tables e below (T22.setTop (mkF m 78 #[.val (.int p1), .val (.int (p1 &&& (3 : Int32))), .val (.ref aG), .val (.ref aG), .val (.ref aG)] [(.ref aG), (.ref aG)])) _
          refine Jvm.RoadKit.acmp (g := (mkF m 78 #[.val (.int p1), .val (.int (p1 &&& (3 : Int32))), .val (.ref aG), .val (.ref aG), .val (.ref aG)] [(.ref aG), (.ref aG)])) X22 hx rfl rfl rfl (pc0 := 78) (pc' := 81) (same := true) rfl (hb hby at_78) rfl (decide_eq_true rfl) (by decide) (by decide) ?_
          show Steps p.tables e below (T22.setTop (mkF m 81 #[.val (.int p1), .val (.int (p1 &&& (3 : Int32))), .val (.ref aG), .val (.ref aG), .val (.ref aG)] [])) _
          refine XS.iconst X22.here hx rfl (hb hby at_81) ?_
          show Steps p.tables e below (T22.setTop (mkF m 82 #[.val (.int p1), .val (.int (p1 &&& (3 : Int32))), .val (.ref aG), .val (.ref aG), .val (.ref aG)] [(.int (1 : Int32))])) _
          refine XS.goto X22.here hx rfl (pc0 := 82) (pc' := 86) rfl (hb hby at_82) (by decide) (by decide) ?_
          show Steps p.tables e below (T22.setTop (mkF m 86 #[.val (.int p1), .val (.int (p1 &&& (3 : Int32))), .val (.ref aG), .val (.ref aG), .val (.ref aG)] [(.int (1 : Int32))])) _
          exact k
        obtain ⟨fs, hr, hrun, hended, hW, hsame⟩ := X22.leave (v := some (.int (1 : Int32))) (fun h => by rw [Bd.returns] at h; cases h)
        refine ⟨_, _, pre23 _ ?_, hrun, hended, _, _, rfl, ?_, ⟨_, rfl⟩, hW, hsame.mono (by decide) (by decide)⟩
        · exact retN X22 hx (t := .boolean) Bd.returns (by simp) (hb hby at_86) hr
        · show Q_rm0 Z p1 aO aP aG aW h0 n0 _ T22.heap _
          rw [hq22]
          exact ⟨rfl, N22⟩
theorem own_eqI {t : Term} {k : Int32} {args : Array Value} {s : State} (h : (Jvm.Cond.eq t (.int k)).value args s none s [] = some true) : t.eval args s none [] s = some (.int k) := by
  simp only [Cond.value, Term.eval] at h
  cases ht : t.eval args s none [] s with
  | none => simp [ht] at h
  | some x => cases x <;> simp [ht] at h ⊢; exact h
theorem own_eqJ {t : Term} {k : Int64} {args : Array Value} {s : State} (h : (Jvm.Cond.eq t (.long k)).value args s none s [] = some true) : t.eval args s none [] s = some (.long k) := by
  simp only [Cond.value, Term.eval] at h
  cases ht : t.eval args s none [] s with
  | none => simp [ht] at h
  | some x => cases x <;> simp [ht] at h ⊢; exact h
set_option maxRecDepth 65536 in
set_option maxHeartbeats 40000000 in
theorem comes_1 {Post : Tables → Env → Array Value → State → Outcome → State → Prop} (hpost : ∀ tb e args s v u, (limb_1_1.after args s (.returned v) u = true ∧ limb_1_2.after args s (.returned v) u = true ∧ True) → FrameEnd s (.returned v) u (Jvm.fieldLocs frame_1_writes args s ++ Jvm.arrayLocs frame_1_arrays args s ++ Jvm.staticLocs frame_1_statics s) 0 0 → Post tb e args s (.returned v) u) :
    ArmFor flags0 classFile x code maxLocals ret World_1 tables_1 room_1 Calls_1 rest_1 Pre_1 Post := by
  intro l hfl _ _ p e ha hc hk s m args below hf hA hF happ hP
  obtain ⟨hcalls, hrest, hpre⟩ := hP
  obtain ⟨-, -, -, hnamed, -, -, -, hat⟩ := (Spec.applies_iff hf).mp happ
  obtain ⟨hg, hn⟩ := and_e (Cond.before_iff.mp (show (Jvm.Cond.and given_1 narrow_1).before args s = true from hpre))
  obtain ⟨g1, g2⟩ := and_e hg
  obtain ⟨g3, g4⟩ := and_e hn
  obtain ⟨g5, g6⟩ := and_e g4
  obtain ⟨g7, g8⟩ := and_e g6
  obtain ⟨g9, g10⟩ := and_e g8
  obtain ⟨g11, g12⟩ := and_e g10
  obtain ⟨g13, g14⟩ := and_e g12
  obtain ⟨g15, g16⟩ := and_e g14
  obtain ⟨w0, rfl⟩ : ∃ w0 : Value, args = #[w0] := by
    have hs : args.size = 1 := by simpa [Cond.value, given_1] using g1
    obtain ⟨L⟩ := args
    match L, hs with
    | [w0], _ => exact ⟨w0, rfl⟩
  have hw := fun d (hd : d ∈ tables_1) => atoms_spec (ws := Jvm.Cond.code x code maxLocals ret :: tables_1) hat d (List.mem_cons_of_mem _ hd)
  obtain ⟨i0, ei0⟩ := is_v g2
  obtain rfl : w0 = (.int i0) := Option.some.inj ei0
  obtain ⟨a_ORDINARY, ev_ORDINARY⟩ := exa_v g3
  have Ex_ORDINARY := Exa.start ev_ORDINARY g3
  have St_ORDINARY := Sta.start ev_ORDINARY (Or.inr ⟨(hw _ (List.mem_of_getElem? (i := 1) rfl)), (hw _ (List.mem_of_getElem? (i := 2) rfl))⟩)
  obtain ⟨a_PAGED, ev_PAGED⟩ := exa_v g5
  have Ex_PAGED := Exa.start ev_PAGED g5
  have St_PAGED := Sta.start ev_PAGED (Or.inr ⟨(hw _ (List.mem_of_getElem? (i := 1) rfl)), (hw _ (List.mem_of_getElem? (i := 4) rfl))⟩)
  obtain ⟨a_PAGED_GROWING, ev_PAGED_GROWING⟩ := exa_v g11
  have Ex_PAGED_GROWING := Exa.start ev_PAGED_GROWING g11
  have St_PAGED_GROWING := Sta.start ev_PAGED_GROWING (Or.inr ⟨(hw _ (List.mem_of_getElem? (i := 1) rfl)), (hw _ (List.mem_of_getElem? (i := 14) rfl))⟩)
  obtain ⟨a_ORDINARY_WITHIN_A_PAGE, ev_ORDINARY_WITHIN_A_PAGE⟩ := exa_v g15
  have Ex_ORDINARY_WITHIN_A_PAGE := Exa.start ev_ORDINARY_WITHIN_A_PAGE g15
  have St_ORDINARY_WITHIN_A_PAGE := Sta.start ev_ORDINARY_WITHIN_A_PAGE (Or.inr ⟨(hw _ (List.mem_of_getElem? (i := 1) rfl)), (hw _ (List.mem_of_getElem? (i := 17) rfl))⟩)
  have F_ORDINARY_growing := Fld.start ((fld_at ev_ORDINARY).symm.trans (own_eqI g7))
  have F_PAGED_growing := Fld.start ((fld_at ev_PAGED).symm.trans (own_eqI g9))
  have F_PAGED_GROWING_growing := Fld.start ((fld_at ev_PAGED_GROWING).symm.trans (own_eqI g13))
  have F_ORDINARY_WITHIN_A_PAGE_growing := Fld.start ((fld_at ev_ORDINARY_WITHIN_A_PAGE).symm.trans (own_eqI g16))
  obtain ⟨n, o, h1, h2, h3, _, L, rfl, ⟨rfl, N⟩, hq⟩ := rm0 l s _ hw tables_1 i0 a_ORDINARY a_PAGED a_PAGED_GROWING a_ORDINARY_WITHIN_A_PAGE s.heap s.heap.size (Nat.le_refl _) Ex_ORDINARY St_ORDINARY F_ORDINARY_growing Ex_PAGED St_PAGED F_PAGED_growing Ex_PAGED_GROWING St_PAGED_GROWING F_PAGED_GROWING_growing Ex_ORDINARY_WITHIN_A_PAGE St_ORDINARY_WITHIN_A_PAGE F_ORDINARY_WITHIN_A_PAGE_growing p e ha hc hk s m _ below hf ((Spec.applies_iff_loose hf).mp happ).1 ⟨rfl, State.Warmed39.refl s, rfl⟩ trivial
  refine ⟨n, _, h1, h2, h3, hpost _ _ _ _ _ _ ⟨Cond.after_iff.mpr rfl, Cond.after_iff.mpr (eq_i res_at (Term.int_eval (1)) rfl), trivial⟩ ⟨hq.1, hq.2.1, (hq.2.2.sift fun y hy => Or.inr (N y hy)).mono (by decide) (by decide)⟩⟩
theorem main_1_1 : Claimed_1_1 := comes_1 fun _ _ _ _ _ _ h hF => ⟨h.1, hF⟩
theorem main_1_2 : Claimed_1_2 := comes_1 fun _ _ _ _ _ _ h hF => ⟨h.2.1, hF⟩
end Jvm.Pilot.@@N@@
namespace Jvm.Pilot.@@N@@
open Jvm Jvm.ClassFile Sem Op Lib Jvm.Free Jvm.Stand Jvm.Pilot.@@N@@.Jvm.D
/-! MADE BY PROGRAM (witnessworld.py) out of the Statement's table words and the real class files: 12 classes; the members and pool entries that the words name. The judged class is class 1, her method 1. -/
namespace start1
open Jvm.ClassFile
def u (s : String) : CpInfo := .utf8 (stringToUtf16 s)
/-- a pool by its gaps: so many unusable entries, then the entry; so many at the end -/
def gap : Nat → List CpInfo → List CpInfo
  | 0, r => r
  | n + 1, r => .unusable :: gap n r
def poolList (es : List (Nat × CpInfo)) (last : Nat) : List CpInfo := es.foldr (fun e r => gap e.1 (e.2 :: r)) (gap last [])
def pool (es : List (Nat × CpInfo)) (last : Nat) : Array CpInfo := ⟨poolList es last⟩
def fileOf (pool : Array CpInfo) (this : Nat) (attrs : Array Attribute := #[]) (ms : Array MethodInfo := #[]) (fl : Nat := 33) (sup : Nat := 0) (ifs : Array Nat := #[]) (fds : Array FieldInfo := #[]) : ClassFile where
  minorVersion := 0
  majorVersion := 65
  constantPool := pool
  accessFlags := fl
  thisClass := this
  superClass := sup
  interfaces := ifs
  fields := fds
  methods := ms
  attributes := attrs
def plain (name : String) (sup : Option ClassId) : Class where
  name := name
  kind := .ordinary
  loader := none
  accessFlags := 33
  super := sup
  interfaces := #[]
  cf := none
  fields := #[]
  methods := #[]
  instanceTypes := #[]
  staticTypes := #[]
  resolved := #[]
  callSites := []
  init := .initialized
  statics := none
  mirror := none

def pool0 : Array CpInfo := pool [(5, u "<init>"), (0, u "()V"), (1, .class_ 10), (1, u "java/lang/Object")] 113

def k0m0 : Method := { name := "<init>", desc := "()V", sig := { parameters := [], returnType := none }, accessFlags := 1, code := none }
/-- java/lang/Object -/
def k0 : Class := { plain "java/lang/Object" none with
  accessFlags := 33
  interfaces := #[]
  cf := some (fileOf pool0 8 #[] #[{ accessFlags := 1, nameIndex := 5, descriptorIndex := 6, attributes := #[] }] 33 0 #[] #[])
  fields := #[]
  methods := #[k0m0]
  instanceTypes := #[]
  staticTypes := #[]
  resolved := Array.replicate 124 none
  statics := none }

def pool1 : Array CpInfo := pool [(2, .class_ 4), (1, u "java/lang/Object"), (0, u "<init>"), (0, u "()V"), (0, .fieldref 8 9), (0, .class_ 10), (0, .nameAndType 11 12), (0, u "com/example/names_to_queries/namestoqueries/ldap/PagedSearch$Start"), (0, u "ORDINARY"), (0, u "Lcom/example/names_to_queries/namestoqueries/ldap/PagedSearch$Start;"), (0, .fieldref 8 14), (0, .nameAndType 15 12), (0, u "PAGED"), (0, .fieldref 8 17), (0, .nameAndType 18 12), (0, u "ORDINARY_WITHIN_A_PAGE"), (0, .fieldref 8 20), (0, .nameAndType 21 12), (0, u "PAGED_GROWING"), (0, .methodref 8 23), (0, .nameAndType 24 25), (0, u "paged"), (0, u "()Lcom/example/names_to_queries/namestoqueries/ldap/PagedSearch$Start;"), (0, .class_ 27), (0, u "com/example/names_to_queries/namestoqueries/ldap/StartPagedPinLaw"), (2, u "law"), (0, u "(I)Z")] 7

def k1m0 : Method := { name := "<init>", desc := "()V", sig := { parameters := [], returnType := none }, accessFlags := 1, code := none }
def k1c1 : Code := { maxStack := 2, maxLocals := 5, code := code, exceptionTable := #[], attributes := #[] }
def k1m1 : Method := { name := "law", desc := "(I)Z", sig := { parameters := [.int], returnType := some .boolean }, accessFlags := 9, code := some k1c1 }
/-- com/example/names_to_queries/namestoqueries/ldap/StartPagedPinLaw -/
def k1 : Class := { plain "com/example/names_to_queries/namestoqueries/ldap/StartPagedPinLaw" (some 0) with
  accessFlags := 49
  interfaces := #[]
  cf := some (fileOf pool1 26 #[] #[{ accessFlags := 1, nameIndex := 5, descriptorIndex := 6, attributes := #[] }, { accessFlags := 9, nameIndex := 30, descriptorIndex := 31, attributes := #[] }] 49 2 #[] #[])
  fields := #[]
  methods := #[k1m0, k1m1]
  instanceTypes := #[]
  staticTypes := #[]
  resolved := Array.replicate 39 none
  statics := none }

def pool2 : Array CpInfo := pool [(1, .class_ 2), (0, u "java/lang/constant/Constable"), (0, .class_ 4), (0, u "java/lang/Object")] 6

/-- java/lang/constant/Constable -/
def k2 : Class := { plain "java/lang/constant/Constable" (some 0) with
  accessFlags := 1537
  interfaces := #[]
  cf := some (fileOf pool2 1 #[] #[] 1537 3 #[] #[])
  fields := #[]
  methods := #[]
  instanceTypes := #[]
  staticTypes := #[]
  resolved := Array.replicate 11 none
  statics := none }

def pool3 : Array CpInfo := pool [(1, .class_ 2), (0, u "java/lang/Comparable"), (0, .class_ 4), (0, u "java/lang/Object")] 7

/-- java/lang/Comparable -/
def k3 : Class := { plain "java/lang/Comparable" (some 0) with
  accessFlags := 1537
  interfaces := #[]
  cf := some (fileOf pool3 1 #[] #[] 1537 3 #[] #[])
  fields := #[]
  methods := #[]
  instanceTypes := #[]
  staticTypes := #[]
  resolved := Array.replicate 12 none
  statics := none }

def pool4 : Array CpInfo := pool [(1, .class_ 2), (0, u "java/io/Serializable"), (0, .class_ 4), (0, u "java/lang/Object")] 2

/-- java/io/Serializable -/
def k4 : Class := { plain "java/io/Serializable" (some 0) with
  accessFlags := 1537
  interfaces := #[]
  cf := some (fileOf pool4 1 #[] #[] 1537 3 #[] #[])
  fields := #[]
  methods := #[]
  instanceTypes := #[]
  staticTypes := #[]
  resolved := Array.replicate 7 none
  statics := none }

def pool5 : Array CpInfo := pool [(2, .class_ 4), (1, u "java/lang/Enum"), (0, u "name"), (0, u "Ljava/lang/String;"), (2, u "ordinal"), (0, u "I"), (1, .class_ 14), (1, u "java/lang/Object"), (4, u "hash"), (86, .class_ 108), (1, u "java/lang/Enum$EnumDesc"), (2, .class_ 112), (0, u "java/lang/constant/Constable"), (0, .class_ 114), (0, u "java/lang/Comparable"), (0, .class_ 116), (0, u "java/io/Serializable")] 87

/-- java/lang/Enum -/
def k5 : Class := { plain "java/lang/Enum" (some 0) with
  accessFlags := 1057
  interfaces := #[2, 3, 4]
  cf := some (fileOf pool5 2 #[.nestMembers #[106]] #[] 1057 12 #[111, 113, 115] #[{ accessFlags := 18, nameIndex := 5, descriptorIndex := 6, attributes := #[] }, { accessFlags := 18, nameIndex := 9, descriptorIndex := 10, attributes := #[] }, { accessFlags := 2, nameIndex := 19, descriptorIndex := 10, attributes := #[] }])
  fields := #[{ name := "name", type := (.object "java/lang/String"), accessFlags := 18, slot := 0, constantValue := 0 }, { name := "ordinal", type := .int, accessFlags := 18, slot := 1, constantValue := 0 }, { name := "hash", type := .int, accessFlags := 2, slot := 2, constantValue := 0 }]
  methods := #[]
  instanceTypes := #[(.object "java/lang/String"), .int, .int]
  staticTypes := #[]
  resolved := Array.replicate 204 none
  statics := none }

def pool6 : Array CpInfo := pool [(1, .class_ 2), (0, u "com/example/names_to_queries/namestoqueries/ldap/PagedSearch$Start"), (2, u "ORDINARY"), (0, u "Lcom/example/names_to_queries/namestoqueries/ldap/PagedSearch$Start;"), (2, u "ORDINARY_WITHIN_A_PAGE"), (0, .fieldref 1 11), (0, .nameAndType 12 6), (0, u "PAGED"), (0, .fieldref 1 14), (0, .nameAndType 15 6), (0, u "PAGED_GROWING"), (2, u "$VALUES"), (0, u "[Lcom/example/names_to_queries/namestoqueries/ldap/PagedSearch$Start;"), (6, .class_ 28), (1, u "java/lang/Enum"), (6, .fieldref 1 36), (0, .nameAndType 37 38), (0, u "growing"), (0, u "Z"), (18, u "paged"), (0, u "()Lcom/example/names_to_queries/namestoqueries/ldap/PagedSearch$Start;"), (7, .class_ 67), (0, u "com/example/names_to_queries/namestoqueries/ldap/PagedSearch")] 2

def k6c0 : Code := { maxStack := 1, maxLocals := 1, code := prog_49_method_4_code, exceptionTable := #[], attributes := #[] }
def k6m0 : Method := { name := "paged", desc := "()Lcom/example/names_to_queries/namestoqueries/ldap/PagedSearch$Start;", sig := { parameters := [], returnType := some (.object "com/example/names_to_queries/namestoqueries/ldap/PagedSearch$Start") }, accessFlags := 0, code := some k6c0 }
/-- com/example/names_to_queries/namestoqueries/ldap/PagedSearch$Start -/
def k6 : Class := { plain "com/example/names_to_queries/namestoqueries/ldap/PagedSearch$Start" (some 5) with
  accessFlags := 16433
  interfaces := #[]
  cf := some (fileOf pool6 1 #[.nestHost 66] #[{ accessFlags := 0, nameIndex := 57, descriptorIndex := 58, attributes := #[] }] 16433 26 #[] #[{ accessFlags := 16409, nameIndex := 5, descriptorIndex := 6, attributes := #[] }, { accessFlags := 16409, nameIndex := 9, descriptorIndex := 6, attributes := #[] }, { accessFlags := 16409, nameIndex := 12, descriptorIndex := 6, attributes := #[] }, { accessFlags := 16409, nameIndex := 15, descriptorIndex := 6, attributes := #[] }, { accessFlags := 18, nameIndex := 37, descriptorIndex := 38, attributes := #[] }, { accessFlags := 4122, nameIndex := 18, descriptorIndex := 19, attributes := #[] }])
  fields := #[{ name := "ORDINARY", type := (.object "com/example/names_to_queries/namestoqueries/ldap/PagedSearch$Start"), accessFlags := 16409, slot := 0, constantValue := 0 }, { name := "ORDINARY_WITHIN_A_PAGE", type := (.object "com/example/names_to_queries/namestoqueries/ldap/PagedSearch$Start"), accessFlags := 16409, slot := 1, constantValue := 0 }, { name := "PAGED", type := (.object "com/example/names_to_queries/namestoqueries/ldap/PagedSearch$Start"), accessFlags := 16409, slot := 2, constantValue := 0 }, { name := "PAGED_GROWING", type := (.object "com/example/names_to_queries/namestoqueries/ldap/PagedSearch$Start"), accessFlags := 16409, slot := 3, constantValue := 0 }, { name := "growing", type := .boolean, accessFlags := 18, slot := 3, constantValue := 0 }, { name := "$VALUES", type := (.array (.object "com/example/names_to_queries/namestoqueries/ldap/PagedSearch$Start")), accessFlags := 4122, slot := 4, constantValue := 0 }]
  methods := #[k6m0]
  instanceTypes := #[(.object "java/lang/String"), .int, .int, .boolean]
  staticTypes := #[(.object "com/example/names_to_queries/namestoqueries/ldap/PagedSearch$Start"), (.object "com/example/names_to_queries/namestoqueries/ldap/PagedSearch$Start"), (.object "com/example/names_to_queries/namestoqueries/ldap/PagedSearch$Start"), (.object "com/example/names_to_queries/namestoqueries/ldap/PagedSearch$Start"), (.array (.object "com/example/names_to_queries/namestoqueries/ldap/PagedSearch$Start"))]
  resolved := Array.replicate 70 none
  statics := some 0 }

def pool7 : Array CpInfo := pool [(1, u "java/lang/Cloneable"), (0, .class_ 1), (0, u "java/lang/Object"), (0, .class_ 3)] 3

/-- java/lang/Cloneable -/
def k7 : Class := { plain "java/lang/Cloneable" (some 0) with
  accessFlags := 1537
  interfaces := #[]
  cf := some (fileOf pool7 2 #[] #[] 1537 4 #[] #[])
  fields := #[]
  methods := #[]
  instanceTypes := #[]
  staticTypes := #[]
  resolved := Array.replicate 8 none
  statics := none }

/-- the primitive byte -/
def k8 : Class := { plain "byte" none with kind := .primitive 'B', accessFlags := 0x411 }
/-- [B -/
def k9 : Class := { plain "[B" (some 0) with kind := .array 8 .byte, interfaces := #[7, 4], accessFlags := 1041 }

/-- the primitive int -/
def k10 : Class := { plain "int" none with kind := .primitive 'I', accessFlags := 0x411 }
/-- [I -/
def k11 : Class := { plain "[I" (some 0) with kind := .array 10 .int, interfaces := #[7, 4], accessFlags := 1041 }

def heap : Heap := #[{ cls := 6, slots := #[.ref 1, .ref 2, .ref 3, .ref 4, .null], vm := .statics 6 },
  { cls := 6, slots := #[.null, .int 0, .int 0, .int 0], vm := .none },
  { cls := 6, slots := #[.null, .int 1, .int 0, .int 1], vm := .none },
  { cls := 6, slots := #[.null, .int 2, .int 0, .int 0], vm := .none },
  { cls := 6, slots := #[.null, .int 3, .int 0, .int 1], vm := .none }]
def classes : Array Class := #[k0, k1, k2, k3, k4, k5, k6, k7, k8, k9, k10, k11]
def interned : List (Array UInt16 × Addr) := []
def slotsUsed : Nat := 21
def theMethod : MethodId := ⟨1, 1⟩
def args0 : Array Value := #[.int 6]
def aboutOver (below : List Frame) : State where
  vm := { classes := classes, interned := interned.toArray }
  heap := heap
  slotsUsed := slotsUsed
  threads := #[{ frames := .invoking theMethod args0 :: below }]
def below0 : List Frame := [.native { method := ⟨0, 0⟩, args := #[] }]
def about1 : State := aboutOver below0
def p0 : Program := .bare "" "" ""
def e0 : Env := launch0.env 0 0 0
theorem w_frames : about1.frames = Frame.invoking theMethod args0 :: below0 := rfl
set_option maxRecDepth 65536 in
theorem w_args : argsFit about1.vm theMethod args0 = true := by decide +kernel
set_option maxRecDepth 65536 in
theorem w_heap : heapFits about1 = true := by decide +kernel
set_option maxRecDepth 65536 in
theorem w_runnable : about1.curStatus? = some .runnable := by decide +kernel
set_option maxRecDepth 65536 in
theorem w_alone : about1.alone = true := by decide +kernel
set_option maxRecDepth 65536 in
theorem w_named : about1.methodNamed? x = some theMethod := by decide +kernel
set_option maxRecDepth 65536 in
theorem w_hears : about1.hears theMethod below0 = true := by decide +kernel
set_option maxRecDepth 65536 in
theorem w_ripe : about1.ripe theMethod args0 below0 = true := by decide +kernel
theorem w_running : about1.status = .running := rfl
set_option maxRecDepth 65536 in
theorem w_room : about1.hasRoom e0.platform room_1 = true :=
  launch0.hasRoom_least _ room_1 (by decide +kernel) (by decide +kernel) (by decide +kernel) (by decide +kernel) (by decide +kernel) (by decide +kernel)
theorem allAtoms_all (ts : List Jvm.Cond) (a : Array Jvm.Value) (st : Jvm.State) : (allAtoms ts).before a st = ts.all (fun c => c.before a st) := by
  induction ts with
  | nil => rfl
  | cons c t ih =>
    show (Jvm.Cond.and c (allAtoms t)).before a st = _
    rw [Jvm.Cond.before_and, ih, List.all_cons]
def words1 : List Jvm.Cond := Jvm.Cond.code x code maxLocals ret :: tables_1
/-- a 'code' word, met by the world's own term for the bytes: nothing is compared byte by byte -/
theorem code_word {y : MethodName} {bytes : ByteArray} {mx : Nat} {rt : Option FieldType} {a : Array Value} {s : State} {m : MethodId} {meth : Method} {c : Code} (h1 : s.methodNamed? y = some m) (h2 : s.vm.method? m = some meth) (h3 : meth.code = some c) (h4 : c.code = bytes)
    (h5 : (c.maxLocals == mx && c.exceptionTable.isEmpty && decide (c.maxStack ≤ mostOperands) && decide (meth.sig.returnType = rt) && !meth.locks && decide (parseMethodDescriptor y.desc = some meth.sig)) = true) : (Jvm.Cond.code y bytes mx rt).before a s = true := by
  simp only [Bool.and_eq_true, beq_iff_eq, Bool.not_eq_true', decide_eq_true_eq] at h5
  obtain ⟨⟨⟨⟨⟨g1, g2⟩, g3⟩, g4⟩, g5⟩, g6⟩ := h5
  simp [Cond.before, Cond.holds, Cond.value, h1, h2, h3, h4, g1, g2, g3, g4, g5, g6]
def isCode : Jvm.Cond → Bool
  | .code _ _ _ _ => true
  | _ => false
theorem all_split {L : List Jvm.Cond} {P : Jvm.Cond → Bool} (h1 : L.all (fun c => isCode c || P c) = true) (h2 : ∀ c ∈ L.filter isCode, P c = true) : L.all P = true := by
  refine List.all_eq_true.mpr fun c hc => ?_
  have h := List.all_eq_true.mp h1 c hc
  rcases Bool.eq_false_or_eq_true (isCode c) with hi | hi
  · exact h2 c (List.mem_filter.mpr ⟨hc, hi⟩)
  · simpa [hi] using h
set_option maxRecDepth 65536 in
theorem w_c0 : (Jvm.Cond.code x code maxLocals ret).before args0 about1 = true := code_word (m := ⟨1, 1⟩) (meth := k1m1) (c := k1c1) (by decide +kernel) rfl rfl rfl (by decide +kernel)
set_option maxRecDepth 65536 in
theorem w_c1 : (Jvm.Cond.code ({ cls := "com/example/names_to_queries/namestoqueries/ldap/PagedSearch$Start", name := "paged", desc := "()Lcom/example/names_to_queries/namestoqueries/ldap/PagedSearch$Start;" } : Jvm.MethodName) prog_49_method_4_code (1 : Nat) (Option.some (Jvm.ClassFile.FieldType.object "com/example/names_to_queries/namestoqueries/ldap/PagedSearch$Start"))).before args0 about1 = true := code_word (m := ⟨6, 0⟩) (meth := k6m0) (c := k6c0) (by decide +kernel) rfl rfl rfl (by decide +kernel)
def codes1 : List Jvm.Cond := [Jvm.Cond.code x code maxLocals ret, Jvm.Cond.code ({ cls := "com/example/names_to_queries/namestoqueries/ldap/PagedSearch$Start", name := "paged", desc := "()Lcom/example/names_to_queries/namestoqueries/ldap/PagedSearch$Start;" } : Jvm.MethodName) prog_49_method_4_code (1 : Nat) (Option.some (Jvm.ClassFile.FieldType.object "com/example/names_to_queries/namestoqueries/ldap/PagedSearch$Start"))]
set_option maxRecDepth 65536 in
theorem codes_eq : words1.filter isCode = codes1 := rfl
theorem w_codes : ∀ c ∈ words1.filter isCode, c.before args0 about1 = true := by
  rw [codes_eq]
  intro c hc
  simp only [codes1, List.mem_cons, List.not_mem_nil, or_false] at hc
  rcases hc with rfl | rfl
  · exact w_c0
  · exact w_c1
set_option maxRecDepth 65536 in
theorem w_t1 : words1.all (fun c => isCode c || c.before args0 about1) = true := by decide +kernel
theorem w_tables : (allAtoms (Jvm.Cond.code x code maxLocals ret :: tables_1)).before args0 about1 = true := by
  rw [allAtoms_all]
  show words1.all (fun c => c.before args0 about1) = true
  refine all_split ?_ w_codes
  rw [w_t1]
set_option maxRecDepth 65536 in
theorem w_case : (Jvm.Cond.and given_1 narrow_1).before args0 about1 = true := by decide +kernel
theorem w_applies : (headSpec (Jvm.Cond.code x code maxLocals ret :: tables_1) room_1).applies x e0.platform about1 = true :=
  (Spec.applies_iff w_frames).mpr ⟨w_running, w_runnable, w_alone, w_named, w_hears, w_ripe, w_room, w_tables⟩
theorem atStart : AtStart classFile x code maxLocals ret World_1 tables_1 room_1 Calls_1 rest_1 Pre_1 launch0 p0 e0 about1 theMethod args0 below0 :=
  ⟨lists_1, trivial, launch0.admits_env _ _ _, launch0.least_env, fairChoices_fair.cas, fairChoices_fair.clock, w_frames, w_args, w_heap, w_applies, trivial, trivial, w_case⟩
end start1
theorem witness_1 : WitnessClaimed_1 := ⟨start1.p0, start1.e0, start1.about1, start1.theMethod, start1.args0, start1.below0, start1.atStart⟩
end Jvm.Pilot.@@N@@
