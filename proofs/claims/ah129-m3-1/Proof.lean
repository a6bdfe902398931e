import JvmDerived
import JvmDerived.Pilot.@@N@@Statement
import JvmDerived.Pilot.@@N@@Code
set_option linter.unusedVariables false
set_option linter.unusedSimpArgs false
namespace Jvm.Pilot.@@N@@
open Jvm Jvm.ClassFile Sem Op Lib Jvm.Free Jvm.Stand Jvm.LawKit Jvm.RoadKit Bundle Jvm.Pilot.@@N@@.Jvm.D

theorem own_k8 {k x : Int32} (h : k = ((x &&& (2147483647 : Int32)) % (8 : Int32))) : k = (0 : Int32) ∨ k = (1 : Int32) ∨ k = (2 : Int32) ∨ k = (3 : Int32) ∨ k = (4 : Int32) ∨ k = (5 : Int32) ∨ k = (6 : Int32) ∨ k = (7 : Int32) := by
  have e := c_mask x 2147483647 31 (by decide) (by decide)
  have e2 := (c_irem (x &&& (2147483647 : Int32)) 8 8 (by decide)).1 (by omega); rw [← h] at e2
  simp only [← Int32.toInt_inj]
  have l0 : (0 : Int32).toInt = 0 := by decide
  have l1 : (1 : Int32).toInt = 1 := by decide
  have l2 : (2 : Int32).toInt = 2 := by decide
  have l3 : (3 : Int32).toInt = 3 := by decide
  have l4 : (4 : Int32).toInt = 4 := by decide
  have l5 : (5 : Int32).toInt = 5 := by decide
  have l6 : (6 : Int32).toInt = 6 := by decide
  have l7 : (7 : Int32).toInt = 7 := by decide
  omega
theorem dp0_0 : decode method_2_code 0 = .ok (.iload_n 0, 1) := by decide +kernel
theorem dp0_1 : decode method_2_code 1 = .ok (.ifCond .ne 7, 3) := by decide +kernel
theorem dp0_4 : decode method_2_code 4 = .ok (.getstatic 7, 3) := by decide +kernel
theorem dp0_7 : decode method_2_code 7 = .ok (.areturn, 1) := by decide +kernel
theorem pnp0 : plainName "com/example/millpact/millpact/TypeDayOffPinLaw" = true := by first | (simp [plainName, overriddenIn]; done) | decide +kernel
theorem efp0 (m : MethodId)  : entryFrame m #[(.int (0 : Int32))] 1 = mkF m 0 #[.val (.int (0 : Int32))] [] := by first | (simp [entryFrame, mkF, argsToLocals, Value.category]; done) | rfl
def Qp0 (Z : State)  (a_WORKED : Addr) (h0 : Heap) (n0 : Nat) (v : Option Value) (h : Heap) (L : List Loc) : Prop := v = some (.ref a_WORKED) ∧ Fr n0 L ∧ h = h0
set_option maxRecDepth 65536 in
set_option maxHeartbeats 40000000 in
theorem rmp0 (l : Launch) (Z : State) (a0 : Array Value) (hw : ∀ d ∈ tables_1, d.before a0 Z = true) (ws : List Jvm.Cond)  (a_WORKED : Addr) (h0 : Heap) (n0 : Nat) (Z0 : n0 ≤ h0.size) (S_WORKED : Sta Z h0 "com/example/millpact/millpact/TimeRecord$Type" "WORKED" "Lcom/example/millpact/millpact/TimeRecord$Type;" (.ref a_WORKED)) :
    MetFree l (⟨"com/example/millpact/millpact/TypeDayOffPinLaw", "pick", "(I)Lcom/example/millpact/millpact/TimeRecord$Type;"⟩ : MethodName) (head1 (Jvm.Cond.code (⟨"com/example/millpact/millpact/TypeDayOffPinLaw", "pick", "(I)Lcom/example/millpact/millpact/TimeRecord$Type;"⟩ : MethodName) method_2_code 1 (some (.object "com/example/millpact/millpact/TimeRecord$Type")) :: ws) ({ frames := 0, cells := 0, slots := 0, locals := 0 } : Room)) (fun a U => a = #[(.int (0 : Int32))] ∧ Z.Warmed39 U.vm ∧ U.heap = h0) (fun _ _ _ _ _ => True) (fun _ U o U' => ∃ v L, o = .returned v ∧ Qp0 Z a_WORKED h0 n0 v U'.heap L ∧ FrameEnd U o U' L ({ frames := 0, cells := 0, slots := 0, locals := 0 } : Room).cells ({ frames := 0, cells := 0, slots := 0, locals := 0 } : Room).slots) := by
  refine MetFree.of_bodySF (plainFor_of_name pnp0) hisR ?_
  intro p e s m args below meth c s₁ Bd hml0 hP hK
  obtain ⟨rfl, hZ, hh⟩ := hP
  have hx := Bd.exec
  have hby := Bd.bytes
  have hml : c.maxLocals = 1 := hml0
  have hown : s.vm.findClass "com/example/millpact/millpact/TypeDayOffPinLaw" = some m.cls := findClass_of_methodNamed Bd.named
  have hnm := (name_of_methodNamed Bd.named Bd.method).1
  have X0 : Stand p l e ({ frames := 0, cells := 0, slots := 0, locals := 0 } : Room) s m #[(.int (0 : Int32))] below meth c s₁ [] 0 0 := Stand.of_body Bd
  have e0 : s₁.heap = h0 := by rw [← hh, Bd.state]; rfl
  have N0 := Fr.nil n0
  have pre0 : ∀ t, Steps p.tables e below (s₁.setTop (mkF m 0 #[.val (.int (0 : Int32))] [])) t → Steps p.tables e below (s₁.setTop (entryFrame m #[(.int (0 : Int32))] 1)) t := fun t k => castTop (efp0 m ) k
  have p1 : ∀ t, Steps p.tables e below (s₁.setTop (mkF m 4 #[.val (.int (0 : Int32))] [])) t → Steps p.tables e below (s₁.setTop (entryFrame m #[(.int (0 : Int32))] 1)) t := fun t k => pre0 t (by
    show Steps p.tables e below (s₁.setTop (mkF m 0 #[.val (.int (0 : Int32))] [])) _
    refine XS.iloadN X0.here hx rfl (hb hby dp0_0) rfl ?_
    show Steps p.tables e below (s₁.setTop (mkF m 1 #[.val (.int (0 : Int32))] [(.int (0 : Int32))])) _
    refine XS.ifNo X0.here hx rfl (hb hby dp0_1) rfl ((if0 _ _).trans (teq (rfl)).2) ?_
    exact k)
  obtain ⟨T2, X2, e2, st2⟩ := getS2 X0 hx hZ hown (host := "") (Or.inl (hw _ (List.mem_of_getElem? (i := 5) rfl))) Via.refl e0 S_WORKED (g := (mkF m 4 #[.val (.int (0 : Int32))] [])) rfl (hb hby dp0_4)
  have p3 : ∀ t, Steps p.tables e below (T2.setTop (mkF m 7 #[.val (.int (0 : Int32))] [(.ref a_WORKED)])) t → Steps p.tables e below (s₁.setTop (entryFrame m #[(.int (0 : Int32))] 1)) t := fun t k => p1 t (st2 t k)
  obtain ⟨fs, hr, hrun, hended, hW, hsame⟩ := X2.leave (v := some (.ref a_WORKED)) (fun h => by rw [Bd.returns] at h; cases h)
  refine ⟨_, _, p3 _ ?_, hrun, hended, _, _, rfl, ?_, ⟨_, rfl⟩, hW, hsame.mono (by decide) (by decide)⟩
  · show Steps p.tables e below (T2.setTop (mkF m 7 #[.val (.int (0 : Int32))] [(.ref a_WORKED)])) _
    exact retOut X2 hx Bd.returns rfl (Or.inr (Or.inr (Or.inr (Or.inr ⟨rfl, rfl, rfl⟩)))) (hb hby dp0_7) hr
  · show Qp0 Z a_WORKED h0 n0 _ T2.heap _
    rw [e2]
    exact ⟨rfl, N0, rfl⟩
theorem dp1_0 : decode method_2_code 0 = .ok (.iload_n 0, 1) := by decide +kernel
theorem dp1_1 : decode method_2_code 1 = .ok (.ifCond .ne 7, 3) := by decide +kernel
theorem dp1_8 : decode method_2_code 8 = .ok (.iload_n 0, 1) := by decide +kernel
theorem dp1_9 : decode method_2_code 9 = .ok (.iconst 1, 1) := by decide +kernel
theorem dp1_10 : decode method_2_code 10 = .ok (.if_icmp .ne 7, 3) := by decide +kernel
theorem dp1_13 : decode method_2_code 13 = .ok (.getstatic 13, 3) := by decide +kernel
theorem dp1_16 : decode method_2_code 16 = .ok (.areturn, 1) := by decide +kernel
theorem pnp1 : plainName "com/example/millpact/millpact/TypeDayOffPinLaw" = true := by first | (simp [plainName, overriddenIn]; done) | decide +kernel
theorem efp1 (m : MethodId)  : entryFrame m #[(.int (1 : Int32))] 1 = mkF m 0 #[.val (.int (1 : Int32))] [] := by first | (simp [entryFrame, mkF, argsToLocals, Value.category]; done) | rfl
def Qp1 (Z : State)  (a_ABSENT : Addr) (h0 : Heap) (n0 : Nat) (v : Option Value) (h : Heap) (L : List Loc) : Prop := v = some (.ref a_ABSENT) ∧ Fr n0 L ∧ h = h0
set_option maxRecDepth 65536 in
set_option maxHeartbeats 40000000 in
theorem rmp1 (l : Launch) (Z : State) (a0 : Array Value) (hw : ∀ d ∈ tables_1, d.before a0 Z = true) (ws : List Jvm.Cond)  (a_ABSENT : Addr) (h0 : Heap) (n0 : Nat) (Z0 : n0 ≤ h0.size) (S_ABSENT : Sta Z h0 "com/example/millpact/millpact/TimeRecord$Type" "ABSENT" "Lcom/example/millpact/millpact/TimeRecord$Type;" (.ref a_ABSENT)) :
    MetFree l (⟨"com/example/millpact/millpact/TypeDayOffPinLaw", "pick", "(I)Lcom/example/millpact/millpact/TimeRecord$Type;"⟩ : MethodName) (head1 (Jvm.Cond.code (⟨"com/example/millpact/millpact/TypeDayOffPinLaw", "pick", "(I)Lcom/example/millpact/millpact/TimeRecord$Type;"⟩ : MethodName) method_2_code 1 (some (.object "com/example/millpact/millpact/TimeRecord$Type")) :: ws) ({ frames := 0, cells := 0, slots := 0, locals := 0 } : Room)) (fun a U => a = #[(.int (1 : Int32))] ∧ Z.Warmed39 U.vm ∧ U.heap = h0) (fun _ _ _ _ _ => True) (fun _ U o U' => ∃ v L, o = .returned v ∧ Qp1 Z a_ABSENT h0 n0 v U'.heap L ∧ FrameEnd U o U' L ({ frames := 0, cells := 0, slots := 0, locals := 0 } : Room).cells ({ frames := 0, cells := 0, slots := 0, locals := 0 } : Room).slots) := by
  refine MetFree.of_bodySF (plainFor_of_name pnp1) hisR ?_
  intro p e s m args below meth c s₁ Bd hml0 hP hK
  obtain ⟨rfl, hZ, hh⟩ := hP
  have hx := Bd.exec
  have hby := Bd.bytes
  have hml : c.maxLocals = 1 := hml0
  have hown : s.vm.findClass "com/example/millpact/millpact/TypeDayOffPinLaw" = some m.cls := findClass_of_methodNamed Bd.named
  have hnm := (name_of_methodNamed Bd.named Bd.method).1
  have X0 : Stand p l e ({ frames := 0, cells := 0, slots := 0, locals := 0 } : Room) s m #[(.int (1 : Int32))] below meth c s₁ [] 0 0 := Stand.of_body Bd
  have e0 : s₁.heap = h0 := by rw [← hh, Bd.state]; rfl
  have N0 := Fr.nil n0
  have pre0 : ∀ t, Steps p.tables e below (s₁.setTop (mkF m 0 #[.val (.int (1 : Int32))] [])) t → Steps p.tables e below (s₁.setTop (entryFrame m #[(.int (1 : Int32))] 1)) t := fun t k => castTop (efp1 m ) k
  have p1 : ∀ t, Steps p.tables e below (s₁.setTop (mkF m 13 #[.val (.int (1 : Int32))] [])) t → Steps p.tables e below (s₁.setTop (entryFrame m #[(.int (1 : Int32))] 1)) t := fun t k => pre0 t (by
    show Steps p.tables e below (s₁.setTop (mkF m 0 #[.val (.int (1 : Int32))] [])) _
    refine XS.iloadN X0.here hx rfl (hb hby dp1_0) rfl ?_
    show Steps p.tables e below (s₁.setTop (mkF m 1 #[.val (.int (1 : Int32))] [(.int (1 : Int32))])) _
    refine XS.ifYes X0.here hx rfl (pc0 := 1) (pc' := 8) rfl (hb hby dp1_1) rfl ((if0 _ _).trans (feq (by decide)).2) (by decide) (by decide) ?_
    show Steps p.tables e below (s₁.setTop (mkF m 8 #[.val (.int (1 : Int32))] [])) _
    refine XS.iloadN X0.here hx rfl (hb hby dp1_8) rfl ?_
    show Steps p.tables e below (s₁.setTop (mkF m 9 #[.val (.int (1 : Int32))] [(.int (1 : Int32))])) _
    refine XS.iconst X0.here hx rfl (hb hby dp1_9) ?_
    show Steps p.tables e below (s₁.setTop (mkF m 10 #[.val (.int (1 : Int32))] [(.int (1 : Int32)), (.int (1 : Int32))])) _
    refine XS.icmpNo X0.here hx rfl (hb hby dp1_10) rfl ((teq (rfl)).2) ?_
    exact k)
  obtain ⟨T2, X2, e2, st2⟩ := getS2 X0 hx hZ hown (host := "") (Or.inl (hw _ (List.mem_of_getElem? (i := 24) rfl))) Via.refl e0 S_ABSENT (g := (mkF m 13 #[.val (.int (1 : Int32))] [])) rfl (hb hby dp1_13)
  have p3 : ∀ t, Steps p.tables e below (T2.setTop (mkF m 16 #[.val (.int (1 : Int32))] [(.ref a_ABSENT)])) t → Steps p.tables e below (s₁.setTop (entryFrame m #[(.int (1 : Int32))] 1)) t := fun t k => p1 t (st2 t k)
  obtain ⟨fs, hr, hrun, hended, hW, hsame⟩ := X2.leave (v := some (.ref a_ABSENT)) (fun h => by rw [Bd.returns] at h; cases h)
  refine ⟨_, _, p3 _ ?_, hrun, hended, _, _, rfl, ?_, ⟨_, rfl⟩, hW, hsame.mono (by decide) (by decide)⟩
  · show Steps p.tables e below (T2.setTop (mkF m 16 #[.val (.int (1 : Int32))] [(.ref a_ABSENT)])) _
    exact retOut X2 hx Bd.returns rfl (Or.inr (Or.inr (Or.inr (Or.inr ⟨rfl, rfl, rfl⟩)))) (hb hby dp1_16) hr
  · show Qp1 Z a_ABSENT h0 n0 _ T2.heap _
    rw [e2]
    exact ⟨rfl, N0, rfl⟩
theorem dp2_0 : decode method_2_code 0 = .ok (.iload_n 0, 1) := by decide +kernel
theorem dp2_1 : decode method_2_code 1 = .ok (.ifCond .ne 7, 3) := by decide +kernel
theorem dp2_8 : decode method_2_code 8 = .ok (.iload_n 0, 1) := by decide +kernel
theorem dp2_9 : decode method_2_code 9 = .ok (.iconst 1, 1) := by decide +kernel
theorem dp2_10 : decode method_2_code 10 = .ok (.if_icmp .ne 7, 3) := by decide +kernel
theorem dp2_17 : decode method_2_code 17 = .ok (.iload_n 0, 1) := by decide +kernel
theorem dp2_18 : decode method_2_code 18 = .ok (.iconst 2, 1) := by decide +kernel
theorem dp2_19 : decode method_2_code 19 = .ok (.if_icmp .ne 7, 3) := by decide +kernel
theorem dp2_22 : decode method_2_code 22 = .ok (.getstatic 16, 3) := by decide +kernel
theorem dp2_25 : decode method_2_code 25 = .ok (.areturn, 1) := by decide +kernel
theorem pnp2 : plainName "com/example/millpact/millpact/TypeDayOffPinLaw" = true := by first | (simp [plainName, overriddenIn]; done) | decide +kernel
theorem efp2 (m : MethodId)  : entryFrame m #[(.int (2 : Int32))] 1 = mkF m 0 #[.val (.int (2 : Int32))] [] := by first | (simp [entryFrame, mkF, argsToLocals, Value.category]; done) | rfl
def Qp2 (Z : State)  (a_CALL_IN : Addr) (h0 : Heap) (n0 : Nat) (v : Option Value) (h : Heap) (L : List Loc) : Prop := v = some (.ref a_CALL_IN) ∧ Fr n0 L ∧ h = h0
set_option maxRecDepth 65536 in
set_option maxHeartbeats 40000000 in
theorem rmp2 (l : Launch) (Z : State) (a0 : Array Value) (hw : ∀ d ∈ tables_1, d.before a0 Z = true) (ws : List Jvm.Cond)  (a_CALL_IN : Addr) (h0 : Heap) (n0 : Nat) (Z0 : n0 ≤ h0.size) (S_CALL_IN : Sta Z h0 "com/example/millpact/millpact/TimeRecord$Type" "CALL_IN" "Lcom/example/millpact/millpact/TimeRecord$Type;" (.ref a_CALL_IN)) :
    MetFree l (⟨"com/example/millpact/millpact/TypeDayOffPinLaw", "pick", "(I)Lcom/example/millpact/millpact/TimeRecord$Type;"⟩ : MethodName) (head1 (Jvm.Cond.code (⟨"com/example/millpact/millpact/TypeDayOffPinLaw", "pick", "(I)Lcom/example/millpact/millpact/TimeRecord$Type;"⟩ : MethodName) method_2_code 1 (some (.object "com/example/millpact/millpact/TimeRecord$Type")) :: ws) ({ frames := 0, cells := 0, slots := 0, locals := 0 } : Room)) (fun a U => a = #[(.int (2 : Int32))] ∧ Z.Warmed39 U.vm ∧ U.heap = h0) (fun _ _ _ _ _ => True) (fun _ U o U' => ∃ v L, o = .returned v ∧ Qp2 Z a_CALL_IN h0 n0 v U'.heap L ∧ FrameEnd U o U' L ({ frames := 0, cells := 0, slots := 0, locals := 0 } : Room).cells ({ frames := 0, cells := 0, slots := 0, locals := 0 } : Room).slots) := by
  refine MetFree.of_bodySF (plainFor_of_name pnp2) hisR ?_
  intro p e s m args below meth c s₁ Bd hml0 hP hK
  obtain ⟨rfl, hZ, hh⟩ := hP
  have hx := Bd.exec
  have hby := Bd.bytes
  have hml : c.maxLocals = 1 := hml0
  have hown : s.vm.findClass "com/example/millpact/millpact/TypeDayOffPinLaw" = some m.cls := findClass_of_methodNamed Bd.named
  have hnm := (name_of_methodNamed Bd.named Bd.method).1
  have X0 : Stand p l e ({ frames := 0, cells := 0, slots := 0, locals := 0 } : Room) s m #[(.int (2 : Int32))] below meth c s₁ [] 0 0 := Stand.of_body Bd
  have e0 : s₁.heap = h0 := by rw [← hh, Bd.state]; rfl
  have N0 := Fr.nil n0
  have pre0 : ∀ t, Steps p.tables e below (s₁.setTop (mkF m 0 #[.val (.int (2 : Int32))] [])) t → Steps p.tables e below (s₁.setTop (entryFrame m #[(.int (2 : Int32))] 1)) t := fun t k => castTop (efp2 m ) k
  have p1 : ∀ t, Steps p.tables e below (s₁.setTop (mkF m 22 #[.val (.int (2 : Int32))] [])) t → Steps p.tables e below (s₁.setTop (entryFrame m #[(.int (2 : Int32))] 1)) t := fun t k => pre0 t (by
    show Steps p.tables e below (s₁.setTop (mkF m 0 #[.val (.int (2 : Int32))] [])) _
    refine XS.iloadN X0.here hx rfl (hb hby dp2_0) rfl ?_
    show Steps p.tables e below (s₁.setTop (mkF m 1 #[.val (.int (2 : Int32))] [(.int (2 : Int32))])) _
    refine XS.ifYes X0.here hx rfl (pc0 := 1) (pc' := 8) rfl (hb hby dp2_1) rfl ((if0 _ _).trans (feq (by decide)).2) (by decide) (by decide) ?_
    show Steps p.tables e below (s₁.setTop (mkF m 8 #[.val (.int (2 : Int32))] [])) _
    refine XS.iloadN X0.here hx rfl (hb hby dp2_8) rfl ?_
    show Steps p.tables e below (s₁.setTop (mkF m 9 #[.val (.int (2 : Int32))] [(.int (2 : Int32))])) _
    refine XS.iconst X0.here hx rfl (hb hby dp2_9) ?_
    show Steps p.tables e below (s₁.setTop (mkF m 10 #[.val (.int (2 : Int32))] [(.int (1 : Int32)), (.int (2 : Int32))])) _
    refine XS.icmpYes X0.here hx rfl (pc0 := 10) (pc' := 17) rfl (hb hby dp2_10) rfl ((feq (by decide)).2) (by decide) (by decide) ?_
    show Steps p.tables e below (s₁.setTop (mkF m 17 #[.val (.int (2 : Int32))] [])) _
    refine XS.iloadN X0.here hx rfl (hb hby dp2_17) rfl ?_
    show Steps p.tables e below (s₁.setTop (mkF m 18 #[.val (.int (2 : Int32))] [(.int (2 : Int32))])) _
    refine XS.iconst X0.here hx rfl (hb hby dp2_18) ?_
    show Steps p.tables e below (s₁.setTop (mkF m 19 #[.val (.int (2 : Int32))] [(.int (2 : Int32)), (.int (2 : Int32))])) _
    refine XS.icmpNo X0.here hx rfl (hb hby dp2_19) rfl ((teq (rfl)).2) ?_
    exact k)
  obtain ⟨T2, X2, e2, st2⟩ := getS2 X0 hx hZ hown (host := "") (Or.inl (hw _ (List.mem_of_getElem? (i := 22) rfl))) Via.refl e0 S_CALL_IN (g := (mkF m 22 #[.val (.int (2 : Int32))] [])) rfl (hb hby dp2_22)
  have p3 : ∀ t, Steps p.tables e below (T2.setTop (mkF m 25 #[.val (.int (2 : Int32))] [(.ref a_CALL_IN)])) t → Steps p.tables e below (s₁.setTop (entryFrame m #[(.int (2 : Int32))] 1)) t := fun t k => p1 t (st2 t k)
  obtain ⟨fs, hr, hrun, hended, hW, hsame⟩ := X2.leave (v := some (.ref a_CALL_IN)) (fun h => by rw [Bd.returns] at h; cases h)
  refine ⟨_, _, p3 _ ?_, hrun, hended, _, _, rfl, ?_, ⟨_, rfl⟩, hW, hsame.mono (by decide) (by decide)⟩
  · show Steps p.tables e below (T2.setTop (mkF m 25 #[.val (.int (2 : Int32))] [(.ref a_CALL_IN)])) _
    exact retOut X2 hx Bd.returns rfl (Or.inr (Or.inr (Or.inr (Or.inr ⟨rfl, rfl, rfl⟩)))) (hb hby dp2_25) hr
  · show Qp2 Z a_CALL_IN h0 n0 _ T2.heap _
    rw [e2]
    exact ⟨rfl, N0, rfl⟩
theorem dp3_0 : decode method_2_code 0 = .ok (.iload_n 0, 1) := by decide +kernel
theorem dp3_1 : decode method_2_code 1 = .ok (.ifCond .ne 7, 3) := by decide +kernel
theorem dp3_8 : decode method_2_code 8 = .ok (.iload_n 0, 1) := by decide +kernel
theorem dp3_9 : decode method_2_code 9 = .ok (.iconst 1, 1) := by decide +kernel
theorem dp3_10 : decode method_2_code 10 = .ok (.if_icmp .ne 7, 3) := by decide +kernel
theorem dp3_17 : decode method_2_code 17 = .ok (.iload_n 0, 1) := by decide +kernel
theorem dp3_18 : decode method_2_code 18 = .ok (.iconst 2, 1) := by decide +kernel
theorem dp3_19 : decode method_2_code 19 = .ok (.if_icmp .ne 7, 3) := by decide +kernel
theorem dp3_26 : decode method_2_code 26 = .ok (.iload_n 0, 1) := by decide +kernel
theorem dp3_27 : decode method_2_code 27 = .ok (.iconst 3, 1) := by decide +kernel
theorem dp3_28 : decode method_2_code 28 = .ok (.if_icmp .ne 7, 3) := by decide +kernel
theorem dp3_31 : decode method_2_code 31 = .ok (.getstatic 19, 3) := by decide +kernel
theorem dp3_34 : decode method_2_code 34 = .ok (.areturn, 1) := by decide +kernel
theorem pnp3 : plainName "com/example/millpact/millpact/TypeDayOffPinLaw" = true := by first | (simp [plainName, overriddenIn]; done) | decide +kernel
theorem efp3 (m : MethodId)  : entryFrame m #[(.int (3 : Int32))] 1 = mkF m 0 #[.val (.int (3 : Int32))] [] := by first | (simp [entryFrame, mkF, argsToLocals, Value.category]; done) | rfl
def Qp3 (Z : State)  (a_WIRE_CALL_IN : Addr) (h0 : Heap) (n0 : Nat) (v : Option Value) (h : Heap) (L : List Loc) : Prop := v = some (.ref a_WIRE_CALL_IN) ∧ Fr n0 L ∧ h = h0
set_option maxRecDepth 65536 in
set_option maxHeartbeats 40000000 in
theorem rmp3 (l : Launch) (Z : State) (a0 : Array Value) (hw : ∀ d ∈ tables_1, d.before a0 Z = true) (ws : List Jvm.Cond)  (a_WIRE_CALL_IN : Addr) (h0 : Heap) (n0 : Nat) (Z0 : n0 ≤ h0.size) (S_WIRE_CALL_IN : Sta Z h0 "com/example/millpact/millpact/TimeRecord$Type" "WIRE_CALL_IN" "Lcom/example/millpact/millpact/TimeRecord$Type;" (.ref a_WIRE_CALL_IN)) :
    MetFree l (⟨"com/example/millpact/millpact/TypeDayOffPinLaw", "pick", "(I)Lcom/example/millpact/millpact/TimeRecord$Type;"⟩ : MethodName) (head1 (Jvm.Cond.code (⟨"com/example/millpact/millpact/TypeDayOffPinLaw", "pick", "(I)Lcom/example/millpact/millpact/TimeRecord$Type;"⟩ : MethodName) method_2_code 1 (some (.object "com/example/millpact/millpact/TimeRecord$Type")) :: ws) ({ frames := 0, cells := 0, slots := 0, locals := 0 } : Room)) (fun a U => a = #[(.int (3 : Int32))] ∧ Z.Warmed39 U.vm ∧ U.heap = h0) (fun _ _ _ _ _ => True) (fun _ U o U' => ∃ v L, o = .returned v ∧ Qp3 Z a_WIRE_CALL_IN h0 n0 v U'.heap L ∧ FrameEnd U o U' L ({ frames := 0, cells := 0, slots := 0, locals := 0 } : Room).cells ({ frames := 0, cells := 0, slots := 0, locals := 0 } : Room).slots) := by
  refine MetFree.of_bodySF (plainFor_of_name pnp3) hisR ?_
  intro p e s m args below meth c s₁ Bd hml0 hP hK
  obtain ⟨rfl, hZ, hh⟩ := hP
  have hx := Bd.exec
  have hby := Bd.bytes
  have hml : c.maxLocals = 1 := hml0
  have hown : s.vm.findClass "com/example/millpact/millpact/TypeDayOffPinLaw" = some m.cls := findClass_of_methodNamed Bd.named
  have hnm := (name_of_methodNamed Bd.named Bd.method).1
  have X0 : Stand p l e ({ frames := 0, cells := 0, slots := 0, locals := 0 } : Room) s m #[(.int (3 : Int32))] below meth c s₁ [] 0 0 := Stand.of_body Bd
  have e0 : s₁.heap = h0 := by rw [← hh, Bd.state]; rfl
  have N0 := Fr.nil n0
  have pre0 : ∀ t, Steps p.tables e below (s₁.setTop (mkF m 0 #[.val (.int (3 : Int32))] [])) t → Steps p.tables e below (s₁.setTop (entryFrame m #[(.int (3 : Int32))] 1)) t := fun t k => castTop (efp3 m ) k
  have p1 : ∀ t, Steps p.tables e below (s₁.setTop (mkF m 31 #[.val (.int (3 : Int32))] [])) t → Steps p.tables e below (s₁.setTop (entryFrame m #[(.int (3 : Int32))] 1)) t := fun t k => pre0 t (by
    show Steps p.tables e below (s₁.setTop (mkF m 0 #[.val (.int (3 : Int32))] [])) _
    refine XS.iloadN X0.here hx rfl (hb hby dp3_0) rfl ?_
    show Steps p.tables e below (s₁.setTop (mkF m 1 #[.val (.int (3 : Int32))] [(.int (3 : Int32))])) _
    refine XS.ifYes X0.here hx rfl (pc0 := 1) (pc' := 8) rfl (hb hby dp3_1) rfl ((if0 _ _).trans (feq (by decide)).2) (by decide) (by decide) ?_
    show Steps p.tables e below (s₁.setTop (mkF m 8 #[.val (.int (3 : Int32))] [])) _
    refine XS.iloadN X0.here hx rfl (hb hby dp3_8) rfl ?_
    show Steps p.tables e below (s₁.setTop (mkF m 9 #[.val (.int (3 : Int32))] [(.int (3 : Int32))])) _
    refine XS.iconst X0.here hx rfl (hb hby dp3_9) ?_
    show Steps p.tables e below (s₁.setTop (mkF m 10 #[.val (.int (3 : Int32))] [(.int (1 : Int32)), (.int (3 : Int32))])) _
    refine XS.icmpYes X0.here hx rfl (pc0 := 10) (pc' := 17) rfl (hb hby dp3_10) rfl ((feq (by decide)).2) (by decide) (by decide) ?_
    show Steps p.tables e below (s₁.setTop (mkF m 17 #[.val (.int (3 : Int32))] [])) _
    refine XS.iloadN X0.here hx rfl (hb hby dp3_17) rfl ?_
    show Steps p.tables e below (s₁.setTop (mkF m 18 #[.val (.int (3 : Int32))] [(.int (3 : Int32))])) _
    refine XS.iconst X0.here hx rfl (hb hby dp3_18) ?_
    show Steps p.tables e below (s₁.setTop (mkF m 19 #[.val (.int (3 : Int32))] [(.int (2 : Int32)), (.int (3 : Int32))])) _
    refine XS.icmpYes X0.here hx rfl (pc0 := 19) (pc' := 26) rfl (hb hby dp3_19) rfl ((feq (by decide)).2) (by decide) (by decide) ?_
    show Steps p.tables e below (s₁.setTop (mkF m 26 #[.val (.int (3 : Int32))] [])) _
    refine XS.iloadN X0.here hx rfl (hb hby dp3_26) rfl ?_
    show Steps p.tables e below (s₁.setTop (mkF m 27 #[.val (.int (3 : Int32))] [(.int (3 : Int32))])) _
    refine XS.iconst X0.here hx rfl (hb hby dp3_27) ?_
    show Steps p.tables e below (s₁.setTop (mkF m 28 #[.val (.int (3 : Int32))] [(.int (3 : Int32)), (.int (3 : Int32))])) _
    refine XS.icmpNo X0.here hx rfl (hb hby dp3_28) rfl ((teq (rfl)).2) ?_
    exact k)
  obtain ⟨T2, X2, e2, st2⟩ := getS2 X0 hx hZ hown (host := "") (Or.inl (hw _ (List.mem_of_getElem? (i := 17) rfl))) Via.refl e0 S_WIRE_CALL_IN (g := (mkF m 31 #[.val (.int (3 : Int32))] [])) rfl (hb hby dp3_31)
  have p3 : ∀ t, Steps p.tables e below (T2.setTop (mkF m 34 #[.val (.int (3 : Int32))] [(.ref a_WIRE_CALL_IN)])) t → Steps p.tables e below (s₁.setTop (entryFrame m #[(.int (3 : Int32))] 1)) t := fun t k => p1 t (st2 t k)
  obtain ⟨fs, hr, hrun, hended, hW, hsame⟩ := X2.leave (v := some (.ref a_WIRE_CALL_IN)) (fun h => by rw [Bd.returns] at h; cases h)
  refine ⟨_, _, p3 _ ?_, hrun, hended, _, _, rfl, ?_, ⟨_, rfl⟩, hW, hsame.mono (by decide) (by decide)⟩
  · show Steps p.tables e below (T2.setTop (mkF m 34 #[.val (.int (3 : Int32))] [(.ref a_WIRE_CALL_IN)])) _
    exact retOut X2 hx Bd.returns rfl (Or.inr (Or.inr (Or.inr (Or.inr ⟨rfl, rfl, rfl⟩)))) (hb hby dp3_34) hr
  · show Qp3 Z a_WIRE_CALL_IN h0 n0 _ T2.heap _
    rw [e2]
    exact ⟨rfl, N0, rfl⟩
theorem dp4_0 : decode method_2_code 0 = .ok (.iload_n 0, 1) := by decide +kernel
theorem dp4_1 : decode method_2_code 1 = .ok (.ifCond .ne 7, 3) := by decide +kernel
theorem dp4_8 : decode method_2_code 8 = .ok (.iload_n 0, 1) := by decide +kernel
theorem dp4_9 : decode method_2_code 9 = .ok (.iconst 1, 1) := by decide +kernel
theorem dp4_10 : decode method_2_code 10 = .ok (.if_icmp .ne 7, 3) := by decide +kernel
theorem dp4_17 : decode method_2_code 17 = .ok (.iload_n 0, 1) := by decide +kernel
theorem dp4_18 : decode method_2_code 18 = .ok (.iconst 2, 1) := by decide +kernel
theorem dp4_19 : decode method_2_code 19 = .ok (.if_icmp .ne 7, 3) := by decide +kernel
theorem dp4_26 : decode method_2_code 26 = .ok (.iload_n 0, 1) := by decide +kernel
theorem dp4_27 : decode method_2_code 27 = .ok (.iconst 3, 1) := by decide +kernel
theorem dp4_28 : decode method_2_code 28 = .ok (.if_icmp .ne 7, 3) := by decide +kernel
theorem dp4_35 : decode method_2_code 35 = .ok (.iload_n 0, 1) := by decide +kernel
theorem dp4_36 : decode method_2_code 36 = .ok (.iconst 4, 1) := by decide +kernel
theorem dp4_37 : decode method_2_code 37 = .ok (.if_icmp .ne 7, 3) := by decide +kernel
theorem dp4_40 : decode method_2_code 40 = .ok (.getstatic 22, 3) := by decide +kernel
theorem dp4_43 : decode method_2_code 43 = .ok (.areturn, 1) := by decide +kernel
theorem pnp4 : plainName "com/example/millpact/millpact/TypeDayOffPinLaw" = true := by first | (simp [plainName, overriddenIn]; done) | decide +kernel
theorem efp4 (m : MethodId)  : entryFrame m #[(.int (4 : Int32))] 1 = mkF m 0 #[.val (.int (4 : Int32))] [] := by first | (simp [entryFrame, mkF, argsToLocals, Value.category]; done) | rfl
def Qp4 (Z : State)  (a_SENT_HOME : Addr) (h0 : Heap) (n0 : Nat) (v : Option Value) (h : Heap) (L : List Loc) : Prop := v = some (.ref a_SENT_HOME) ∧ Fr n0 L ∧ h = h0
set_option maxRecDepth 65536 in
set_option maxHeartbeats 40000000 in
theorem rmp4 (l : Launch) (Z : State) (a0 : Array Value) (hw : ∀ d ∈ tables_1, d.before a0 Z = true) (ws : List Jvm.Cond)  (a_SENT_HOME : Addr) (h0 : Heap) (n0 : Nat) (Z0 : n0 ≤ h0.size) (S_SENT_HOME : Sta Z h0 "com/example/millpact/millpact/TimeRecord$Type" "SENT_HOME" "Lcom/example/millpact/millpact/TimeRecord$Type;" (.ref a_SENT_HOME)) :
    MetFree l (⟨"com/example/millpact/millpact/TypeDayOffPinLaw", "pick", "(I)Lcom/example/millpact/millpact/TimeRecord$Type;"⟩ : MethodName) (head1 (Jvm.Cond.code (⟨"com/example/millpact/millpact/TypeDayOffPinLaw", "pick", "(I)Lcom/example/millpact/millpact/TimeRecord$Type;"⟩ : MethodName) method_2_code 1 (some (.object "com/example/millpact/millpact/TimeRecord$Type")) :: ws) ({ frames := 0, cells := 0, slots := 0, locals := 0 } : Room)) (fun a U => a = #[(.int (4 : Int32))] ∧ Z.Warmed39 U.vm ∧ U.heap = h0) (fun _ _ _ _ _ => True) (fun _ U o U' => ∃ v L, o = .returned v ∧ Qp4 Z a_SENT_HOME h0 n0 v U'.heap L ∧ FrameEnd U o U' L ({ frames := 0, cells := 0, slots := 0, locals := 0 } : Room).cells ({ frames := 0, cells := 0, slots := 0, locals := 0 } : Room).slots) := by
  refine MetFree.of_bodySF (plainFor_of_name pnp4) hisR ?_
  intro p e s m args below meth c s₁ Bd hml0 hP hK
  obtain ⟨rfl, hZ, hh⟩ := hP
  have hx := Bd.exec
  have hby := Bd.bytes
  have hml : c.maxLocals = 1 := hml0
  have hown : s.vm.findClass "com/example/millpact/millpact/TypeDayOffPinLaw" = some m.cls := findClass_of_methodNamed Bd.named
  have hnm := (name_of_methodNamed Bd.named Bd.method).1
  have X0 : Stand p l e ({ frames := 0, cells := 0, slots := 0, locals := 0 } : Room) s m #[(.int (4 : Int32))] below meth c s₁ [] 0 0 := Stand.of_body Bd
  have e0 : s₁.heap = h0 := by rw [← hh, Bd.state]; rfl
  have N0 := Fr.nil n0
  have pre0 : ∀ t, Steps p.tables e below (s₁.setTop (mkF m 0 #[.val (.int (4 : Int32))] [])) t → Steps p.tables e below (s₁.setTop (entryFrame m #[(.int (4 : Int32))] 1)) t := fun t k => castTop (efp4 m ) k
  have p1 : ∀ t, Steps p.tables e below (s₁.setTop (mkF m 40 #[.val (.int (4 : Int32))] [])) t → Steps p.tables e below (s₁.setTop (entryFrame m #[(.int (4 : Int32))] 1)) t := fun t k => pre0 t (by
    show Steps p.tables e below (s₁.setTop (mkF m 0 #[.val (.int (4 : Int32))] [])) _
    refine XS.iloadN X0.here hx rfl (hb hby dp4_0) rfl ?_
    show Steps p.tables e below (s₁.setTop (mkF m 1 #[.val (.int (4 : Int32))] [(.int (4 : Int32))])) _
    refine XS.ifYes X0.here hx rfl (pc0 := 1) (pc' := 8) rfl (hb hby dp4_1) rfl ((if0 _ _).trans (feq (by decide)).2) (by decide) (by decide) ?_
    show Steps p.tables e below (s₁.setTop (mkF m 8 #[.val (.int (4 : Int32))] [])) _
    refine XS.iloadN X0.here hx rfl (hb hby dp4_8) rfl ?_
    show Steps p.tables e below (s₁.setTop (mkF m 9 #[.val (.int (4 : Int32))] [(.int (4 : Int32))])) _
    refine XS.iconst X0.here hx rfl (hb hby dp4_9) ?_
    show Steps p.tables e below (s₁.setTop (mkF m 10 #[.val (.int (4 : Int32))] [(.int (1 : Int32)), (.int (4 : Int32))])) _
    refine XS.icmpYes X0.here hx rfl (pc0 := 10) (pc' := 17) rfl (hb hby dp4_10) rfl ((feq (by decide)).2) (by decide) (by decide) ?_
    show Steps p.tables e below (s₁.setTop (mkF m 17 #[.val (.int (4 : Int32))] [])) _
    refine XS.iloadN X0.here hx rfl (hb hby dp4_17) rfl ?_
    show Steps p.tables e below (s₁.setTop (mkF m 18 #[.val (.int (4 : Int32))] [(.int (4 : Int32))])) _
    refine XS.iconst X0.here hx rfl (hb hby dp4_18) ?_
    show Steps p.tables e below (s₁.setTop (mkF m 19 #[.val (.int (4 : Int32))] [(.int (2 : Int32)), (.int (4 : Int32))])) _
    refine XS.icmpYes X0.here hx rfl (pc0 := 19) (pc' := 26) rfl (hb hby dp4_19) rfl ((feq (by decide)).2) (by decide) (by decide) ?_
    show Steps p.tables e below (s₁.setTop (mkF m 26 #[.val (.int (4 : Int32))] [])) _
    refine XS.iloadN X0.here hx rfl (hb hby dp4_26) rfl ?_
    show Steps p.tables e below (s₁.setTop (mkF m 27 #[.val (.int (4 : Int32))] [(.int (4 : Int32))])) _
    refine XS.iconst X0.here hx rfl (hb hby dp4_27) ?_
    show Steps p.tables e below (s₁.setTop (mkF m 28 #[.val (.int (4 : Int32))] [(.int (3 : Int32)), (.int (4 : Int32))])) _
    refine XS.icmpYes X0.here hx rfl (pc0 := 28) (pc' := 35) rfl (hb hby dp4_28) rfl ((feq (by decide)).2) (by decide) (by decide) ?_
    show Steps p.tables e below (s₁.setTop (mkF m 35 #[.val (.int (4 : Int32))] [])) _
    refine XS.iloadN X0.here hx rfl (hb hby dp4_35) rfl ?_
    show Steps p.tables e below (s₁.setTop (mkF m 36 #[.val (.int (4 : Int32))] [(.int (4 : Int32))])) _
    refine XS.iconst X0.here hx rfl (hb hby dp4_36) ?_
    show Steps p.tables e below (s₁.setTop (mkF m 37 #[.val (.int (4 : Int32))] [(.int (4 : Int32)), (.int (4 : Int32))])) _
    refine XS.icmpNo X0.here hx rfl (hb hby dp4_37) rfl ((teq (rfl)).2) ?_
    exact k)
  obtain ⟨T2, X2, e2, st2⟩ := getS2 X0 hx hZ hown (host := "") (Or.inl (hw _ (List.mem_of_getElem? (i := 26) rfl))) Via.refl e0 S_SENT_HOME (g := (mkF m 40 #[.val (.int (4 : Int32))] [])) rfl (hb hby dp4_40)
  have p3 : ∀ t, Steps p.tables e below (T2.setTop (mkF m 43 #[.val (.int (4 : Int32))] [(.ref a_SENT_HOME)])) t → Steps p.tables e below (s₁.setTop (entryFrame m #[(.int (4 : Int32))] 1)) t := fun t k => p1 t (st2 t k)
  obtain ⟨fs, hr, hrun, hended, hW, hsame⟩ := X2.leave (v := some (.ref a_SENT_HOME)) (fun h => by rw [Bd.returns] at h; cases h)
  refine ⟨_, _, p3 _ ?_, hrun, hended, _, _, rfl, ?_, ⟨_, rfl⟩, hW, hsame.mono (by decide) (by decide)⟩
  · show Steps p.tables e below (T2.setTop (mkF m 43 #[.val (.int (4 : Int32))] [(.ref a_SENT_HOME)])) _
    exact retOut X2 hx Bd.returns rfl (Or.inr (Or.inr (Or.inr (Or.inr ⟨rfl, rfl, rfl⟩)))) (hb hby dp4_43) hr
  · show Qp4 Z a_SENT_HOME h0 n0 _ T2.heap _
    rw [e2]
    exact ⟨rfl, N0, rfl⟩
theorem dp5_0 : decode method_2_code 0 = .ok (.iload_n 0, 1) := by decide +kernel
theorem dp5_1 : decode method_2_code 1 = .ok (.ifCond .ne 7, 3) := by decide +kernel
theorem dp5_8 : decode method_2_code 8 = .ok (.iload_n 0, 1) := by decide +kernel
theorem dp5_9 : decode method_2_code 9 = .ok (.iconst 1, 1) := by decide +kernel
theorem dp5_10 : decode method_2_code 10 = .ok (.if_icmp .ne 7, 3) := by decide +kernel
theorem dp5_17 : decode method_2_code 17 = .ok (.iload_n 0, 1) := by decide +kernel
theorem dp5_18 : decode method_2_code 18 = .ok (.iconst 2, 1) := by decide +kernel
theorem dp5_19 : decode method_2_code 19 = .ok (.if_icmp .ne 7, 3) := by decide +kernel
theorem dp5_26 : decode method_2_code 26 = .ok (.iload_n 0, 1) := by decide +kernel
theorem dp5_27 : decode method_2_code 27 = .ok (.iconst 3, 1) := by decide +kernel
theorem dp5_28 : decode method_2_code 28 = .ok (.if_icmp .ne 7, 3) := by decide +kernel
theorem dp5_35 : decode method_2_code 35 = .ok (.iload_n 0, 1) := by decide +kernel
theorem dp5_36 : decode method_2_code 36 = .ok (.iconst 4, 1) := by decide +kernel
theorem dp5_37 : decode method_2_code 37 = .ok (.if_icmp .ne 7, 3) := by decide +kernel
theorem dp5_44 : decode method_2_code 44 = .ok (.iload_n 0, 1) := by decide +kernel
theorem dp5_45 : decode method_2_code 45 = .ok (.iconst 5, 1) := by decide +kernel
theorem dp5_46 : decode method_2_code 46 = .ok (.if_icmp .ne 7, 3) := by decide +kernel
theorem dp5_49 : decode method_2_code 49 = .ok (.getstatic 25, 3) := by decide +kernel
theorem dp5_52 : decode method_2_code 52 = .ok (.areturn, 1) := by decide +kernel
theorem pnp5 : plainName "com/example/millpact/millpact/TypeDayOffPinLaw" = true := by first | (simp [plainName, overriddenIn]; done) | decide +kernel
theorem efp5 (m : MethodId)  : entryFrame m #[(.int (5 : Int32))] 1 = mkF m 0 #[.val (.int (5 : Int32))] [] := by first | (simp [entryFrame, mkF, argsToLocals, Value.category]; done) | rfl
def Qp5 (Z : State)  (a_DAY_OFF : Addr) (h0 : Heap) (n0 : Nat) (v : Option Value) (h : Heap) (L : List Loc) : Prop := v = some (.ref a_DAY_OFF) ∧ Fr n0 L ∧ h = h0
set_option maxRecDepth 65536 in
set_option maxHeartbeats 40000000 in
theorem rmp5 (l : Launch) (Z : State) (a0 : Array Value) (hw : ∀ d ∈ tables_1, d.before a0 Z = true) (ws : List Jvm.Cond)  (a_DAY_OFF : Addr) (h0 : Heap) (n0 : Nat) (Z0 : n0 ≤ h0.size) (S_DAY_OFF : Sta Z h0 "com/example/millpact/millpact/TimeRecord$Type" "DAY_OFF" "Lcom/example/millpact/millpact/TimeRecord$Type;" (.ref a_DAY_OFF)) :
    MetFree l (⟨"com/example/millpact/millpact/TypeDayOffPinLaw", "pick", "(I)Lcom/example/millpact/millpact/TimeRecord$Type;"⟩ : MethodName) (head1 (Jvm.Cond.code (⟨"com/example/millpact/millpact/TypeDayOffPinLaw", "pick", "(I)Lcom/example/millpact/millpact/TimeRecord$Type;"⟩ : MethodName) method_2_code 1 (some (.object "com/example/millpact/millpact/TimeRecord$Type")) :: ws) ({ frames := 0, cells := 0, slots := 0, locals := 0 } : Room)) (fun a U => a = #[(.int (5 : Int32))] ∧ Z.Warmed39 U.vm ∧ U.heap = h0) (fun _ _ _ _ _ => True) (fun _ U o U' => ∃ v L, o = .returned v ∧ Qp5 Z a_DAY_OFF h0 n0 v U'.heap L ∧ FrameEnd U o U' L ({ frames := 0, cells := 0, slots := 0, locals := 0 } : Room).cells ({ frames := 0, cells := 0, slots := 0, locals := 0 } : Room).slots) := by
  refine MetFree.of_bodySF (plainFor_of_name pnp5) hisR ?_
  intro p e s m args below meth c s₁ Bd hml0 hP hK
  obtain ⟨rfl, hZ, hh⟩ := hP
  have hx := Bd.exec
  have hby := Bd.bytes
  have hml : c.maxLocals = 1 := hml0
  have hown : s.vm.findClass "com/example/millpact/millpact/TypeDayOffPinLaw" = some m.cls := findClass_of_methodNamed Bd.named
  have hnm := (name_of_methodNamed Bd.named Bd.method).1
  have X0 : Stand p l e ({ frames := 0, cells := 0, slots := 0, locals := 0 } : Room) s m #[(.int (5 : Int32))] below meth c s₁ [] 0 0 := Stand.of_body Bd
  have e0 : s₁.heap = h0 := by rw [← hh, Bd.state]; rfl
  have N0 := Fr.nil n0
  have pre0 : ∀ t, Steps p.tables e below (s₁.setTop (mkF m 0 #[.val (.int (5 : Int32))] [])) t → Steps p.tables e below (s₁.setTop (entryFrame m #[(.int (5 : Int32))] 1)) t := fun t k => castTop (efp5 m ) k
  have p1 : ∀ t, Steps p.tables e below (s₁.setTop (mkF m 49 #[.val (.int (5 : Int32))] [])) t → Steps p.tables e below (s₁.setTop (entryFrame m #[(.int (5 : Int32))] 1)) t := fun t k => pre0 t (by
    show Steps p.tables e below (s₁.setTop (mkF m 0 #[.val (.int (5 : Int32))] [])) _
    refine XS.iloadN X0.here hx rfl (hb hby dp5_0) rfl ?_
    show Steps p.tables e below (s₁.setTop (mkF m 1 #[.val (.int (5 : Int32))] [(.int (5 : Int32))])) _
    refine XS.ifYes X0.here hx rfl (pc0 := 1) (pc' := 8) rfl (hb hby dp5_1) rfl ((if0 _ _).trans (feq (by decide)).2) (by decide) (by decide) ?_
    show Steps p.tables e below (s₁.setTop (mkF m 8 #[.val (.int (5 : Int32))] [])) _
    refine XS.iloadN X0.here hx rfl (hb hby dp5_8) rfl ?_
    show Steps p.tables e below (s₁.setTop (mkF m 9 #[.val (.int (5 : Int32))] [(.int (5 : Int32))])) _
    refine XS.iconst X0.here hx rfl (hb hby dp5_9) ?_
    show Steps p.tables e below (s₁.setTop (mkF m 10 #[.val (.int (5 : Int32))] [(.int (1 : Int32)), (.int (5 : Int32))])) _
    refine XS.icmpYes X0.here hx rfl (pc0 := 10) (pc' := 17) rfl (hb hby dp5_10) rfl ((feq (by decide)).2) (by decide) (by decide) ?_
    show Steps p.tables e below (s₁.setTop (mkF m 17 #[.val (.int (5 : Int32))] [])) _
    refine XS.iloadN X0.here hx rfl (hb hby dp5_17) rfl ?_
    show Steps p.tables e below (s₁.setTop (mkF m 18 #[.val (.int (5 : Int32))] [(.int (5 : Int32))])) _
    refine XS.iconst X0.here hx rfl (hb hby dp5_18) ?_
    show Steps p.tables e below (s₁.setTop (mkF m 19 #[.val (.int (5 : Int32))] [(.int (2 : Int32)), (.int (5 : Int32))])) _
    refine XS.icmpYes X0.here hx rfl (pc0 := 19) (pc' := 26) rfl (hb hby dp5_19) rfl ((feq (by decide)).2) (by decide) (by decide) ?_
    show Steps p.tables e below (s₁.setTop (mkF m 26 #[.val (.int (5 : Int32))] [])) _
    refine XS.iloadN X0.here hx rfl (hb hby dp5_26) rfl ?_
    show Steps p.tables e below (s₁.setTop (mkF m 27 #[.val (.int (5 : Int32))] [(.int (5 : Int32))])) _
    refine XS.iconst X0.here hx rfl (hb hby dp5_27) ?_
    show Steps p.tables e below (s₁.setTop (mkF m 28 #[.val (.int (5 : Int32))] [(.int (3 : Int32)), (.int (5 : Int32))])) _
    refine XS.icmpYes X0.here hx rfl (pc0 := 28) (pc' := 35) rfl (hb hby dp5_28) rfl ((feq (by decide)).2) (by decide) (by decide) ?_
    show Steps p.tables e below (s₁.setTop (mkF m 35 #[.val (.int (5 : Int32))] [])) _
    refine XS.iloadN X0.here hx rfl (hb hby dp5_35) rfl ?_
    show Steps p.tables e below (s₁.setTop (mkF m 36 #[.val (.int (5 : Int32))] [(.int (5 : Int32))])) _
    refine XS.iconst X0.here hx rfl (hb hby dp5_36) ?_
    show Steps p.tables e below (s₁.setTop (mkF m 37 #[.val (.int (5 : Int32))] [(.int (4 : Int32)), (.int (5 : Int32))])) _
    refine XS.icmpYes X0.here hx rfl (pc0 := 37) (pc' := 44) rfl (hb hby dp5_37) rfl ((feq (by decide)).2) (by decide) (by decide) ?_
    show Steps p.tables e below (s₁.setTop (mkF m 44 #[.val (.int (5 : Int32))] [])) _
    refine XS.iloadN X0.here hx rfl (hb hby dp5_44) rfl ?_
    show Steps p.tables e below (s₁.setTop (mkF m 45 #[.val (.int (5 : Int32))] [(.int (5 : Int32))])) _
    refine XS.iconst X0.here hx rfl (hb hby dp5_45) ?_
    show Steps p.tables e below (s₁.setTop (mkF m 46 #[.val (.int (5 : Int32))] [(.int (5 : Int32)), (.int (5 : Int32))])) _
    refine XS.icmpNo X0.here hx rfl (hb hby dp5_46) rfl ((teq (rfl)).2) ?_
    exact k)
  obtain ⟨T2, X2, e2, st2⟩ := getS2 X0 hx hZ hown (host := "") (Or.inl (hw _ (List.mem_of_getElem? (i := 28) rfl))) Via.refl e0 S_DAY_OFF (g := (mkF m 49 #[.val (.int (5 : Int32))] [])) rfl (hb hby dp5_49)
  have p3 : ∀ t, Steps p.tables e below (T2.setTop (mkF m 52 #[.val (.int (5 : Int32))] [(.ref a_DAY_OFF)])) t → Steps p.tables e below (s₁.setTop (entryFrame m #[(.int (5 : Int32))] 1)) t := fun t k => p1 t (st2 t k)
  obtain ⟨fs, hr, hrun, hended, hW, hsame⟩ := X2.leave (v := some (.ref a_DAY_OFF)) (fun h => by rw [Bd.returns] at h; cases h)
  refine ⟨_, _, p3 _ ?_, hrun, hended, _, _, rfl, ?_, ⟨_, rfl⟩, hW, hsame.mono (by decide) (by decide)⟩
  · show Steps p.tables e below (T2.setTop (mkF m 52 #[.val (.int (5 : Int32))] [(.ref a_DAY_OFF)])) _
    exact retOut X2 hx Bd.returns rfl (Or.inr (Or.inr (Or.inr (Or.inr ⟨rfl, rfl, rfl⟩)))) (hb hby dp5_52) hr
  · show Qp5 Z a_DAY_OFF h0 n0 _ T2.heap _
    rw [e2]
    exact ⟨rfl, N0, rfl⟩
theorem dp6_0 : decode method_2_code 0 = .ok (.iload_n 0, 1) := by decide +kernel
theorem dp6_1 : decode method_2_code 1 = .ok (.ifCond .ne 7, 3) := by decide +kernel
theorem dp6_8 : decode method_2_code 8 = .ok (.iload_n 0, 1) := by decide +kernel
theorem dp6_9 : decode method_2_code 9 = .ok (.iconst 1, 1) := by decide +kernel
theorem dp6_10 : decode method_2_code 10 = .ok (.if_icmp .ne 7, 3) := by decide +kernel
theorem dp6_17 : decode method_2_code 17 = .ok (.iload_n 0, 1) := by decide +kernel
theorem dp6_18 : decode method_2_code 18 = .ok (.iconst 2, 1) := by decide +kernel
theorem dp6_19 : decode method_2_code 19 = .ok (.if_icmp .ne 7, 3) := by decide +kernel
theorem dp6_26 : decode method_2_code 26 = .ok (.iload_n 0, 1) := by decide +kernel
theorem dp6_27 : decode method_2_code 27 = .ok (.iconst 3, 1) := by decide +kernel
theorem dp6_28 : decode method_2_code 28 = .ok (.if_icmp .ne 7, 3) := by decide +kernel
theorem dp6_35 : decode method_2_code 35 = .ok (.iload_n 0, 1) := by decide +kernel
theorem dp6_36 : decode method_2_code 36 = .ok (.iconst 4, 1) := by decide +kernel
theorem dp6_37 : decode method_2_code 37 = .ok (.if_icmp .ne 7, 3) := by decide +kernel
theorem dp6_44 : decode method_2_code 44 = .ok (.iload_n 0, 1) := by decide +kernel
theorem dp6_45 : decode method_2_code 45 = .ok (.iconst 5, 1) := by decide +kernel
theorem dp6_46 : decode method_2_code 46 = .ok (.if_icmp .ne 7, 3) := by decide +kernel
theorem dp6_53 : decode method_2_code 53 = .ok (.iload_n 0, 1) := by decide +kernel
theorem dp6_54 : decode method_2_code 54 = .ok (.bipush 6, 2) := by decide +kernel
theorem dp6_56 : decode method_2_code 56 = .ok (.if_icmp .ne 7, 3) := by decide +kernel
theorem dp6_59 : decode method_2_code 59 = .ok (.getstatic 28, 3) := by decide +kernel
theorem dp6_62 : decode method_2_code 62 = .ok (.areturn, 1) := by decide +kernel
theorem pnp6 : plainName "com/example/millpact/millpact/TypeDayOffPinLaw" = true := by first | (simp [plainName, overriddenIn]; done) | decide +kernel
theorem efp6 (m : MethodId)  : entryFrame m #[(.int (6 : Int32))] 1 = mkF m 0 #[.val (.int (6 : Int32))] [] := by first | (simp [entryFrame, mkF, argsToLocals, Value.category]; done) | rfl
def Qp6 (Z : State)  (a_DAY_OFF_TRADED : Addr) (h0 : Heap) (n0 : Nat) (v : Option Value) (h : Heap) (L : List Loc) : Prop := v = some (.ref a_DAY_OFF_TRADED) ∧ Fr n0 L ∧ h = h0
set_option maxRecDepth 65536 in
set_option maxHeartbeats 40000000 in
theorem rmp6 (l : Launch) (Z : State) (a0 : Array Value) (hw : ∀ d ∈ tables_1, d.before a0 Z = true) (ws : List Jvm.Cond)  (a_DAY_OFF_TRADED : Addr) (h0 : Heap) (n0 : Nat) (Z0 : n0 ≤ h0.size) (S_DAY_OFF_TRADED : Sta Z h0 "com/example/millpact/millpact/TimeRecord$Type" "DAY_OFF_TRADED" "Lcom/example/millpact/millpact/TimeRecord$Type;" (.ref a_DAY_OFF_TRADED)) :
    MetFree l (⟨"com/example/millpact/millpact/TypeDayOffPinLaw", "pick", "(I)Lcom/example/millpact/millpact/TimeRecord$Type;"⟩ : MethodName) (head1 (Jvm.Cond.code (⟨"com/example/millpact/millpact/TypeDayOffPinLaw", "pick", "(I)Lcom/example/millpact/millpact/TimeRecord$Type;"⟩ : MethodName) method_2_code 1 (some (.object "com/example/millpact/millpact/TimeRecord$Type")) :: ws) ({ frames := 0, cells := 0, slots := 0, locals := 0 } : Room)) (fun a U => a = #[(.int (6 : Int32))] ∧ Z.Warmed39 U.vm ∧ U.heap = h0) (fun _ _ _ _ _ => True) (fun _ U o U' => ∃ v L, o = .returned v ∧ Qp6 Z a_DAY_OFF_TRADED h0 n0 v U'.heap L ∧ FrameEnd U o U' L ({ frames := 0, cells := 0, slots := 0, locals := 0 } : Room).cells ({ frames := 0, cells := 0, slots := 0, locals := 0 } : Room).slots) := by
  refine MetFree.of_bodySF (plainFor_of_name pnp6) hisR ?_
  intro p e s m args below meth c s₁ Bd hml0 hP hK
  obtain ⟨rfl, hZ, hh⟩ := hP
  have hx := Bd.exec
  have hby := Bd.bytes
  have hml : c.maxLocals = 1 := hml0
  have hown : s.vm.findClass "com/example/millpact/millpact/TypeDayOffPinLaw" = some m.cls := findClass_of_methodNamed Bd.named
  have hnm := (name_of_methodNamed Bd.named Bd.method).1
  have X0 : Stand p l e ({ frames := 0, cells := 0, slots := 0, locals := 0 } : Room) s m #[(.int (6 : Int32))] below meth c s₁ [] 0 0 := Stand.of_body Bd
  have e0 : s₁.heap = h0 := by rw [← hh, Bd.state]; rfl
  have N0 := Fr.nil n0
  have pre0 : ∀ t, Steps p.tables e below (s₁.setTop (mkF m 0 #[.val (.int (6 : Int32))] [])) t → Steps p.tables e below (s₁.setTop (entryFrame m #[(.int (6 : Int32))] 1)) t := fun t k => castTop (efp6 m ) k
  have p1 : ∀ t, Steps p.tables e below (s₁.setTop (mkF m 59 #[.val (.int (6 : Int32))] [])) t → Steps p.tables e below (s₁.setTop (entryFrame m #[(.int (6 : Int32))] 1)) t := fun t k => pre0 t (by
    show Steps p.tables e below (s₁.setTop (mkF m 0 #[.val (.int (6 : Int32))] [])) _
    refine XS.iloadN X0.here hx rfl (hb hby dp6_0) rfl ?_
    show Steps p.tables e below (s₁.setTop (mkF m 1 #[.val (.int (6 : Int32))] [(.int (6 : Int32))])) _
    refine XS.ifYes X0.here hx rfl (pc0 := 1) (pc' := 8) rfl (hb hby dp6_1) rfl ((if0 _ _).trans (feq (by decide)).2) (by decide) (by decide) ?_
    show Steps p.tables e below (s₁.setTop (mkF m 8 #[.val (.int (6 : Int32))] [])) _
    refine XS.iloadN X0.here hx rfl (hb hby dp6_8) rfl ?_
    show Steps p.tables e below (s₁.setTop (mkF m 9 #[.val (.int (6 : Int32))] [(.int (6 : Int32))])) _
    refine XS.iconst X0.here hx rfl (hb hby dp6_9) ?_
    show Steps p.tables e below (s₁.setTop (mkF m 10 #[.val (.int (6 : Int32))] [(.int (1 : Int32)), (.int (6 : Int32))])) _
    refine XS.icmpYes X0.here hx rfl (pc0 := 10) (pc' := 17) rfl (hb hby dp6_10) rfl ((feq (by decide)).2) (by decide) (by decide) ?_
    show Steps p.tables e below (s₁.setTop (mkF m 17 #[.val (.int (6 : Int32))] [])) _
    refine XS.iloadN X0.here hx rfl (hb hby dp6_17) rfl ?_
    show Steps p.tables e below (s₁.setTop (mkF m 18 #[.val (.int (6 : Int32))] [(.int (6 : Int32))])) _
    refine XS.iconst X0.here hx rfl (hb hby dp6_18) ?_
    show Steps p.tables e below (s₁.setTop (mkF m 19 #[.val (.int (6 : Int32))] [(.int (2 : Int32)), (.int (6 : Int32))])) _
    refine XS.icmpYes X0.here hx rfl (pc0 := 19) (pc' := 26) rfl (hb hby dp6_19) rfl ((feq (by decide)).2) (by decide) (by decide) ?_
    show Steps p.tables e below (s₁.setTop (mkF m 26 #[.val (.int (6 : Int32))] [])) _
    refine XS.iloadN X0.here hx rfl (hb hby dp6_26) rfl ?_
    show Steps p.tables e below (s₁.setTop (mkF m 27 #[.val (.int (6 : Int32))] [(.int (6 : Int32))])) _
    refine XS.iconst X0.here hx rfl (hb hby dp6_27) ?_
    show Steps p.tables e below (s₁.setTop (mkF m 28 #[.val (.int (6 : Int32))] [(.int (3 : Int32)), (.int (6 : Int32))])) _
    refine XS.icmpYes X0.here hx rfl (pc0 := 28) (pc' := 35) rfl (hb hby dp6_28) rfl ((feq (by decide)).2) (by decide) (by decide) ?_
    show Steps p.tables e below (s₁.setTop (mkF m 35 #[.val (.int (6 : Int32))] [])) _
    refine XS.iloadN X0.here hx rfl (hb hby dp6_35) rfl ?_
    show Steps p.tables e below (s₁.setTop (mkF m 36 #[.val (.int (6 : Int32))] [(.int (6 : Int32))])) _
    refine XS.iconst X0.here hx rfl (hb hby dp6_36) ?_
    show Steps p.tables e below (s₁.setTop (mkF m 37 #[.val (.int (6 : Int32))] [(.int (4 : Int32)), (.int (6 : Int32))])) _
    refine XS.icmpYes X0.here hx rfl (pc0 := 37) (pc' := 44) rfl (hb hby dp6_37) rfl ((feq (by decide)).2) (by decide) (by decide) ?_
    show Steps p.tables e below (s₁.setTop (mkF m 44 #[.val (.int (6 : Int32))] [])) _
    refine XS.iloadN X0.here hx rfl (hb hby dp6_44) rfl ?_
    show Steps p.tables e below (s₁.setTop (mkF m 45 #[.val (.int (6 : Int32))] [(.int (6 : Int32))])) _
    refine XS.iconst X0.here hx rfl (hb hby dp6_45) ?_
    show Steps p.tables e below (s₁.setTop (mkF m 46 #[.val (.int (6 : Int32))] [(.int (5 : Int32)), (.int (6 : Int32))])) _
    refine XS.icmpYes X0.here hx rfl (pc0 := 46) (pc' := 53) rfl (hb hby dp6_46) rfl ((feq (by decide)).2) (by decide) (by decide) ?_
    show Steps p.tables e below (s₁.setTop (mkF m 53 #[.val (.int (6 : Int32))] [])) _
    refine XS.iloadN X0.here hx rfl (hb hby dp6_53) rfl ?_
    show Steps p.tables e below (s₁.setTop (mkF m 54 #[.val (.int (6 : Int32))] [(.int (6 : Int32))])) _
    refine XS.bipush X0.here hx rfl (hb hby dp6_54) ?_
    show Steps p.tables e below (s₁.setTop (mkF m 56 #[.val (.int (6 : Int32))] [(.int (6 : Int32)), (.int (6 : Int32))])) _
    refine XS.icmpNo X0.here hx rfl (hb hby dp6_56) rfl ((teq (rfl)).2) ?_
    exact k)
  obtain ⟨T2, X2, e2, st2⟩ := getS2 X0 hx hZ hown (host := "") (Or.inl (hw _ (List.mem_of_getElem? (i := 19) rfl))) Via.refl e0 S_DAY_OFF_TRADED (g := (mkF m 59 #[.val (.int (6 : Int32))] [])) rfl (hb hby dp6_59)
  have p3 : ∀ t, Steps p.tables e below (T2.setTop (mkF m 62 #[.val (.int (6 : Int32))] [(.ref a_DAY_OFF_TRADED)])) t → Steps p.tables e below (s₁.setTop (entryFrame m #[(.int (6 : Int32))] 1)) t := fun t k => p1 t (st2 t k)
  obtain ⟨fs, hr, hrun, hended, hW, hsame⟩ := X2.leave (v := some (.ref a_DAY_OFF_TRADED)) (fun h => by rw [Bd.returns] at h; cases h)
  refine ⟨_, _, p3 _ ?_, hrun, hended, _, _, rfl, ?_, ⟨_, rfl⟩, hW, hsame.mono (by decide) (by decide)⟩
  · show Steps p.tables e below (T2.setTop (mkF m 62 #[.val (.int (6 : Int32))] [(.ref a_DAY_OFF_TRADED)])) _
    exact retOut X2 hx Bd.returns rfl (Or.inr (Or.inr (Or.inr (Or.inr ⟨rfl, rfl, rfl⟩)))) (hb hby dp6_62) hr
  · show Qp6 Z a_DAY_OFF_TRADED h0 n0 _ T2.heap _
    rw [e2]
    exact ⟨rfl, N0, rfl⟩
theorem dp7_0 : decode method_2_code 0 = .ok (.iload_n 0, 1) := by decide +kernel
theorem dp7_1 : decode method_2_code 1 = .ok (.ifCond .ne 7, 3) := by decide +kernel
theorem dp7_8 : decode method_2_code 8 = .ok (.iload_n 0, 1) := by decide +kernel
theorem dp7_9 : decode method_2_code 9 = .ok (.iconst 1, 1) := by decide +kernel
theorem dp7_10 : decode method_2_code 10 = .ok (.if_icmp .ne 7, 3) := by decide +kernel
theorem dp7_17 : decode method_2_code 17 = .ok (.iload_n 0, 1) := by decide +kernel
theorem dp7_18 : decode method_2_code 18 = .ok (.iconst 2, 1) := by decide +kernel
theorem dp7_19 : decode method_2_code 19 = .ok (.if_icmp .ne 7, 3) := by decide +kernel
theorem dp7_26 : decode method_2_code 26 = .ok (.iload_n 0, 1) := by decide +kernel
theorem dp7_27 : decode method_2_code 27 = .ok (.iconst 3, 1) := by decide +kernel
theorem dp7_28 : decode method_2_code 28 = .ok (.if_icmp .ne 7, 3) := by decide +kernel
theorem dp7_35 : decode method_2_code 35 = .ok (.iload_n 0, 1) := by decide +kernel
theorem dp7_36 : decode method_2_code 36 = .ok (.iconst 4, 1) := by decide +kernel
theorem dp7_37 : decode method_2_code 37 = .ok (.if_icmp .ne 7, 3) := by decide +kernel
theorem dp7_44 : decode method_2_code 44 = .ok (.iload_n 0, 1) := by decide +kernel
theorem dp7_45 : decode method_2_code 45 = .ok (.iconst 5, 1) := by decide +kernel
theorem dp7_46 : decode method_2_code 46 = .ok (.if_icmp .ne 7, 3) := by decide +kernel
theorem dp7_53 : decode method_2_code 53 = .ok (.iload_n 0, 1) := by decide +kernel
theorem dp7_54 : decode method_2_code 54 = .ok (.bipush 6, 2) := by decide +kernel
theorem dp7_56 : decode method_2_code 56 = .ok (.if_icmp .ne 7, 3) := by decide +kernel
theorem dp7_63 : decode method_2_code 63 = .ok (.getstatic 31, 3) := by decide +kernel
theorem dp7_66 : decode method_2_code 66 = .ok (.areturn, 1) := by decide +kernel
theorem pnp7 : plainName "com/example/millpact/millpact/TypeDayOffPinLaw" = true := by first | (simp [plainName, overriddenIn]; done) | decide +kernel
theorem efp7 (m : MethodId)  : entryFrame m #[(.int (7 : Int32))] 1 = mkF m 0 #[.val (.int (7 : Int32))] [] := by first | (simp [entryFrame, mkF, argsToLocals, Value.category]; done) | rfl
def Qp7 (Z : State)  (a_RECALL : Addr) (h0 : Heap) (n0 : Nat) (v : Option Value) (h : Heap) (L : List Loc) : Prop := v = some (.ref a_RECALL) ∧ Fr n0 L ∧ h = h0
set_option maxRecDepth 65536 in
set_option maxHeartbeats 40000000 in
theorem rmp7 (l : Launch) (Z : State) (a0 : Array Value) (hw : ∀ d ∈ tables_1, d.before a0 Z = true) (ws : List Jvm.Cond)  (a_RECALL : Addr) (h0 : Heap) (n0 : Nat) (Z0 : n0 ≤ h0.size) (S_RECALL : Sta Z h0 "com/example/millpact/millpact/TimeRecord$Type" "RECALL" "Lcom/example/millpact/millpact/TimeRecord$Type;" (.ref a_RECALL)) :
    MetFree l (⟨"com/example/millpact/millpact/TypeDayOffPinLaw", "pick", "(I)Lcom/example/millpact/millpact/TimeRecord$Type;"⟩ : MethodName) (head1 (Jvm.Cond.code (⟨"com/example/millpact/millpact/TypeDayOffPinLaw", "pick", "(I)Lcom/example/millpact/millpact/TimeRecord$Type;"⟩ : MethodName) method_2_code 1 (some (.object "com/example/millpact/millpact/TimeRecord$Type")) :: ws) ({ frames := 0, cells := 0, slots := 0, locals := 0 } : Room)) (fun a U => a = #[(.int (7 : Int32))] ∧ Z.Warmed39 U.vm ∧ U.heap = h0) (fun _ _ _ _ _ => True) (fun _ U o U' => ∃ v L, o = .returned v ∧ Qp7 Z a_RECALL h0 n0 v U'.heap L ∧ FrameEnd U o U' L ({ frames := 0, cells := 0, slots := 0, locals := 0 } : Room).cells ({ frames := 0, cells := 0, slots := 0, locals := 0 } : Room).slots) := by
  refine MetFree.of_bodySF (plainFor_of_name pnp7) hisR ?_
  intro p e s m args below meth c s₁ Bd hml0 hP hK
  obtain ⟨rfl, hZ, hh⟩ := hP
  have hx := Bd.exec
  have hby := Bd.bytes
  have hml : c.maxLocals = 1 := hml0
  have hown : s.vm.findClass "com/example/millpact/millpact/TypeDayOffPinLaw" = some m.cls := findClass_of_methodNamed Bd.named
  have hnm := (name_of_methodNamed Bd.named Bd.method).1
  have X0 : Stand p l e ({ frames := 0, cells := 0, slots := 0, locals := 0 } : Room) s m #[(.int (7 : Int32))] below meth c s₁ [] 0 0 := Stand.of_body Bd
  have e0 : s₁.heap = h0 := by rw [← hh, Bd.state]; rfl
  have N0 := Fr.nil n0
  have pre0 : ∀ t, Steps p.tables e below (s₁.setTop (mkF m 0 #[.val (.int (7 : Int32))] [])) t → Steps p.tables e below (s₁.setTop (entryFrame m #[(.int (7 : Int32))] 1)) t := fun t k => castTop (efp7 m ) k
  have p1 : ∀ t, Steps p.tables e below (s₁.setTop (mkF m 63 #[.val (.int (7 : Int32))] [])) t → Steps p.tables e below (s₁.setTop (entryFrame m #[(.int (7 : Int32))] 1)) t := fun t k => pre0 t (by
    show Steps p.tables e below (s₁.setTop (mkF m 0 #[.val (.int (7 : Int32))] [])) _
    refine XS.iloadN X0.here hx rfl (hb hby dp7_0) rfl ?_
    show Steps p.tables e below (s₁.setTop (mkF m 1 #[.val (.int (7 : Int32))] [(.int (7 : Int32))])) _
    refine XS.ifYes X0.here hx rfl (pc0 := 1) (pc' := 8) rfl (hb hby dp7_1) rfl ((if0 _ _).trans (feq (by decide)).2) (by decide) (by decide) ?_
    show Steps p.tables e below (s₁.setTop (mkF m 8 #[.val (.int (7 : Int32))] [])) _
    refine XS.iloadN X0.here hx rfl (hb hby dp7_8) rfl ?_
    show Steps p.tables e below (s₁.setTop (mkF m 9 #[.val (.int (7 : Int32))] [(.int (7 : Int32))])) _
    refine XS.iconst X0.here hx rfl (hb hby dp7_9) ?_
    show Steps p.tables e below (s₁.setTop (mkF m 10 #[.val (.int (7 : Int32))] [(.int (1 : Int32)), (.int (7 : Int32))])) _
    refine XS.icmpYes X0.here hx rfl (pc0 := 10) (pc' := 17) rfl (hb hby dp7_10) rfl ((feq (by decide)).2) (by decide) (by decide) ?_
    show Steps p.tables e below (s₁.setTop (mkF m 17 #[.val (.int (7 : Int32))] [])) _
    refine XS.iloadN X0.here hx rfl (hb hby dp7_17) rfl ?_
    show Steps p.tables e below (s₁.setTop (mkF m 18 #[.val (.int (7 : Int32))] [(.int (7 : Int32))])) _
    refine XS.iconst X0.here hx rfl (hb hby dp7_18) ?_
    show Steps p.tables e below (s₁.setTop (mkF m 19 #[.val (.int (7 : Int32))] [(.int (2 : Int32)), (.int (7 : Int32))])) _
    refine XS.icmpYes X0.here hx rfl (pc0 := 19) (pc' := 26) rfl (hb hby dp7_19) rfl ((feq (by decide)).2) (by decide) (by decide) ?_
    show Steps p.tables e below (s₁.setTop (mkF m 26 #[.val (.int (7 : Int32))] [])) _
    refine XS.iloadN X0.here hx rfl (hb hby dp7_26) rfl ?_
    show Steps p.tables e below (s₁.setTop (mkF m 27 #[.val (.int (7 : Int32))] [(.int (7 : Int32))])) _
    refine XS.iconst X0.here hx rfl (hb hby dp7_27) ?_
    show Steps p.tables e below (s₁.setTop (mkF m 28 #[.val (.int (7 : Int32))] [(.int (3 : Int32)), (.int (7 : Int32))])) _
    refine XS.icmpYes X0.here hx rfl (pc0 := 28) (pc' := 35) rfl (hb hby dp7_28) rfl ((feq (by decide)).2) (by decide) (by decide) ?_
    show Steps p.tables e below (s₁.setTop (mkF m 35 #[.val (.int (7 : Int32))] [])) _
    refine XS.iloadN X0.here hx rfl (hb hby dp7_35) rfl ?_
    show Steps p.tables e below (s₁.setTop (mkF m 36 #[.val (.int (7 : Int32))] [(.int (7 : Int32))])) _
    refine XS.iconst X0.here hx rfl (hb hby dp7_36) ?_
    show Steps p.tables e below (s₁.setTop (mkF m 37 #[.val (.int (7 : Int32))] [(.int (4 : Int32)), (.int (7 : Int32))])) _
    refine XS.icmpYes X0.here hx rfl (pc0 := 37) (pc' := 44) rfl (hb hby dp7_37) rfl ((feq (by decide)).2) (by decide) (by decide) ?_
    show Steps p.tables e below (s₁.setTop (mkF m 44 #[.val (.int (7 : Int32))] [])) _
    refine XS.iloadN X0.here hx rfl (hb hby dp7_44) rfl ?_
    show Steps p.tables e below (s₁.setTop (mkF m 45 #[.val (.int (7 : Int32))] [(.int (7 : Int32))])) _
    refine XS.iconst X0.here hx rfl (hb hby dp7_45) ?_
    show Steps p.tables e below (s₁.setTop (mkF m 46 #[.val (.int (7 : Int32))] [(.int (5 : Int32)), (.int (7 : Int32))])) _
    refine XS.icmpYes X0.here hx rfl (pc0 := 46) (pc' := 53) rfl (hb hby dp7_46) rfl ((feq (by decide)).2) (by decide) (by decide) ?_
    show Steps p.tables e below (s₁.setTop (mkF m 53 #[.val (.int (7 : Int32))] [])) _
    refine XS.iloadN X0.here hx rfl (hb hby dp7_53) rfl ?_
    show Steps p.tables e below (s₁.setTop (mkF m 54 #[.val (.int (7 : Int32))] [(.int (7 : Int32))])) _
    refine XS.bipush X0.here hx rfl (hb hby dp7_54) ?_
    show Steps p.tables e below (s₁.setTop (mkF m 56 #[.val (.int (7 : Int32))] [(.int (6 : Int32)), (.int (7 : Int32))])) _
    refine XS.icmpYes X0.here hx rfl (pc0 := 56) (pc' := 63) rfl (hb hby dp7_56) rfl ((feq (by decide)).2) (by decide) (by decide) ?_
    exact k)
  obtain ⟨T2, X2, e2, st2⟩ := getS2 X0 hx hZ hown (host := "") (Or.inl (hw _ (List.mem_of_getElem? (i := 20) rfl))) Via.refl e0 S_RECALL (g := (mkF m 63 #[.val (.int (7 : Int32))] [])) rfl (hb hby dp7_63)
  have p3 : ∀ t, Steps p.tables e below (T2.setTop (mkF m 66 #[.val (.int (7 : Int32))] [(.ref a_RECALL)])) t → Steps p.tables e below (s₁.setTop (entryFrame m #[(.int (7 : Int32))] 1)) t := fun t k => p1 t (st2 t k)
  obtain ⟨fs, hr, hrun, hended, hW, hsame⟩ := X2.leave (v := some (.ref a_RECALL)) (fun h => by rw [Bd.returns] at h; cases h)
  refine ⟨_, _, p3 _ ?_, hrun, hended, _, _, rfl, ?_, ⟨_, rfl⟩, hW, hsame.mono (by decide) (by decide)⟩
  · show Steps p.tables e below (T2.setTop (mkF m 66 #[.val (.int (7 : Int32))] [(.ref a_RECALL)])) _
    exact retOut X2 hx Bd.returns rfl (Or.inr (Or.inr (Or.inr (Or.inr ⟨rfl, rfl, rfl⟩)))) (hb hby dp7_66) hr
  · show Qp7 Z a_RECALL h0 n0 _ T2.heap _
    rw [e2]
    exact ⟨rfl, N0, rfl⟩
theorem dd1_0 : decode prog_90_method_6_code 0 = .ok (.aload_n 0, 1) := by decide +kernel
theorem dd1_1 : decode prog_90_method_6_code 1 = .ok (.getstatic 19, 3) := by decide +kernel
theorem dd1_4 : decode prog_90_method_6_code 4 = .ok (.if_acmp .eq 10, 3) := by decide +kernel
theorem dd1_14 : decode prog_90_method_6_code 14 = .ok (.iconst 1, 1) := by decide +kernel
theorem dd1_15 : decode prog_90_method_6_code 15 = .ok (.goto 4, 3) := by decide +kernel
theorem dd1_19 : decode prog_90_method_6_code 19 = .ok (.ireturn, 1) := by decide +kernel
theorem pnd1 : plainName "com/example/millpact/millpact/TimeRecord$Type" = true := by first | (simp [plainName, overriddenIn]; done) | decide +kernel
theorem efd1 (m : MethodId) (a_DAY_OFF : Addr) : entryFrame m #[(.ref a_DAY_OFF)] 1 = mkF m 0 #[.val (.ref a_DAY_OFF)] [] := by first | (simp [entryFrame, mkF, argsToLocals, Value.category]; done) | rfl
def Qd1 (Z : State) (a_DAY_OFF : Addr) (a_DAY_OFF_TRADED : Addr) (h0 : Heap) (n0 : Nat) (v : Option Value) (h : Heap) (L : List Loc) : Prop := v = some (.int (1 : Int32)) ∧ Fr n0 L ∧ h = h0
set_option maxRecDepth 65536 in
set_option maxHeartbeats 40000000 in
theorem rmd1 (l : Launch) (Z : State) (a0 : Array Value) (hw : ∀ d ∈ tables_1, d.before a0 Z = true) (ws : List Jvm.Cond) (a_DAY_OFF : Addr) (a_DAY_OFF_TRADED : Addr) (h0 : Heap) (n0 : Nat) (Z0 : n0 ≤ h0.size) (S_DAY_OFF : Sta Z h0 "com/example/millpact/millpact/TimeRecord$Type" "DAY_OFF" "Lcom/example/millpact/millpact/TimeRecord$Type;" (.ref a_DAY_OFF)) (S_DAY_OFF_TRADED : Sta Z h0 "com/example/millpact/millpact/TimeRecord$Type" "DAY_OFF_TRADED" "Lcom/example/millpact/millpact/TimeRecord$Type;" (.ref a_DAY_OFF_TRADED)) :
    MetFree l (⟨"com/example/millpact/millpact/TimeRecord$Type", "dayOff", "()Z"⟩ : MethodName) (head1 (Jvm.Cond.code (⟨"com/example/millpact/millpact/TimeRecord$Type", "dayOff", "()Z"⟩ : MethodName) prog_90_method_6_code 1 (some .boolean) :: ws) ({ frames := 0, cells := 0, slots := 0, locals := 0 } : Room)) (fun a U => a = #[(.ref a_DAY_OFF)] ∧ Z.Warmed39 U.vm ∧ U.heap = h0) (fun _ _ _ _ _ => True) (fun _ U o U' => ∃ v L, o = .returned v ∧ Qd1 Z a_DAY_OFF a_DAY_OFF_TRADED h0 n0 v U'.heap L ∧ FrameEnd U o U' L ({ frames := 0, cells := 0, slots := 0, locals := 0 } : Room).cells ({ frames := 0, cells := 0, slots := 0, locals := 0 } : Room).slots) := by
  refine MetFree.of_bodySF (plainFor_of_name pnd1) hisR ?_
  intro p e s m args below meth c s₁ Bd hml0 hP hK
  obtain ⟨rfl, hZ, hh⟩ := hP
  have hx := Bd.exec
  have hby := Bd.bytes
  have hml : c.maxLocals = 1 := hml0
  have hown : s.vm.findClass "com/example/millpact/millpact/TimeRecord$Type" = some m.cls := findClass_of_methodNamed Bd.named
  have hnm := (name_of_methodNamed Bd.named Bd.method).1
  have X0 : Stand p l e ({ frames := 0, cells := 0, slots := 0, locals := 0 } : Room) s m #[(.ref a_DAY_OFF)] below meth c s₁ [] 0 0 := Stand.of_body Bd
  have e0 : s₁.heap = h0 := by rw [← hh, Bd.state]; rfl
  have N0 := Fr.nil n0
  have pre0 : ∀ t, Steps p.tables e below (s₁.setTop (mkF m 0 #[.val (.ref a_DAY_OFF)] [])) t → Steps p.tables e below (s₁.setTop (entryFrame m #[(.ref a_DAY_OFF)] 1)) t := fun t k => castTop (efd1 m a_DAY_OFF) k
  have p1 : ∀ t, Steps p.tables e below (s₁.setTop (mkF m 1 #[.val (.ref a_DAY_OFF)] [(.ref a_DAY_OFF)])) t → Steps p.tables e below (s₁.setTop (entryFrame m #[(.ref a_DAY_OFF)] 1)) t := fun t k => pre0 t (by
    show Steps p.tables e below (s₁.setTop (mkF m 0 #[.val (.ref a_DAY_OFF)] [])) _
    refine XS.aloadN X0.here hx rfl (hb hby dd1_0) rfl rfl ?_
    exact k)
  obtain ⟨T2, X2, e2, st2⟩ := getS2 X0 hx hZ hown (host := "") (Or.inl (hw _ (List.mem_of_getElem? (i := 13) rfl))) Via.refl e0 S_DAY_OFF (g := (mkF m 1 #[.val (.ref a_DAY_OFF)] [(.ref a_DAY_OFF)])) rfl (hb hby dd1_1)
  have p3 : ∀ t, Steps p.tables e below (T2.setTop (mkF m 4 #[.val (.ref a_DAY_OFF)] [(.ref a_DAY_OFF), (.ref a_DAY_OFF)])) t → Steps p.tables e below (s₁.setTop (entryFrame m #[(.ref a_DAY_OFF)] 1)) t := fun t k => p1 t (st2 t k)
  have p4 : ∀ t, Steps p.tables e below (T2.setTop (mkF m 19 #[.val (.ref a_DAY_OFF)] [(.int (1 : Int32))])) t → Steps p.tables e below (s₁.setTop (entryFrame m #[(.ref a_DAY_OFF)] 1)) t := fun t k => p3 t (by
    show Steps p.tables e below (T2.setTop (mkF m 4 #[.val (.ref a_DAY_OFF)] [(.ref a_DAY_OFF), (.ref a_DAY_OFF)])) _
    refine Jvm.RoadKit.acmp (g := (mkF m 4 #[.val (.ref a_DAY_OFF)] [(.ref a_DAY_OFF), (.ref a_DAY_OFF)])) X2 hx rfl rfl rfl (pc0 := 4) (pc' := 14) (same := true) rfl (hb hby dd1_4) rfl (decide_eq_true rfl) (by decide) (by decide) ?_
    show Steps p.tables e below (T2.setTop (mkF m 14 #[.val (.ref a_DAY_OFF)] [])) _
    refine XS.iconst X2.here hx rfl (hb hby dd1_14) ?_
    show Steps p.tables e below (T2.setTop (mkF m 15 #[.val (.ref a_DAY_OFF)] [(.int (1 : Int32))])) _
    refine XS.goto X2.here hx rfl (pc0 := 15) (pc' := 19) rfl (hb hby dd1_15) (by decide) (by decide) ?_
    exact k)
  obtain ⟨fs, hr, hrun, hended, hW, hsame⟩ := X2.leave (v := some (.int (1 : Int32))) (fun h => by rw [Bd.returns] at h; cases h)
  refine ⟨_, _, p4 _ ?_, hrun, hended, _, _, rfl, ?_, ⟨_, rfl⟩, hW, hsame.mono (by decide) (by decide)⟩
  · show Steps p.tables e below (T2.setTop (mkF m 19 #[.val (.ref a_DAY_OFF)] [(.int (1 : Int32))])) _
    exact retN X2 hx (t := .boolean) Bd.returns (by simp) (hb hby dd1_19) hr
  · show Qd1 Z a_DAY_OFF a_DAY_OFF_TRADED h0 n0 _ T2.heap _
    rw [e2]
    exact ⟨rfl, N0, rfl⟩
theorem dd2_0 : decode prog_90_method_6_code 0 = .ok (.aload_n 0, 1) := by decide +kernel
theorem dd2_1 : decode prog_90_method_6_code 1 = .ok (.getstatic 19, 3) := by decide +kernel
theorem dd2_4 : decode prog_90_method_6_code 4 = .ok (.if_acmp .eq 10, 3) := by decide +kernel
theorem dd2_7 : decode prog_90_method_6_code 7 = .ok (.aload_n 0, 1) := by decide +kernel
theorem dd2_8 : decode prog_90_method_6_code 8 = .ok (.getstatic 22, 3) := by decide +kernel
theorem dd2_11 : decode prog_90_method_6_code 11 = .ok (.if_acmp .ne 7, 3) := by decide +kernel
theorem dd2_14 : decode prog_90_method_6_code 14 = .ok (.iconst 1, 1) := by decide +kernel
theorem dd2_15 : decode prog_90_method_6_code 15 = .ok (.goto 4, 3) := by decide +kernel
theorem dd2_19 : decode prog_90_method_6_code 19 = .ok (.ireturn, 1) := by decide +kernel
theorem pnd2 : plainName "com/example/millpact/millpact/TimeRecord$Type" = true := by first | (simp [plainName, overriddenIn]; done) | decide +kernel
theorem efd2 (m : MethodId) (a_DAY_OFF_TRADED : Addr) : entryFrame m #[(.ref a_DAY_OFF_TRADED)] 1 = mkF m 0 #[.val (.ref a_DAY_OFF_TRADED)] [] := by first | (simp [entryFrame, mkF, argsToLocals, Value.category]; done) | rfl
def Qd2 (Z : State) (a_DAY_OFF_TRADED : Addr) (a_DAY_OFF : Addr) (h0 : Heap) (n0 : Nat) (v : Option Value) (h : Heap) (L : List Loc) : Prop := v = some (.int (1 : Int32)) ∧ Fr n0 L ∧ h = h0
set_option maxRecDepth 65536 in
set_option maxHeartbeats 40000000 in
theorem rmd2 (l : Launch) (Z : State) (a0 : Array Value) (hw : ∀ d ∈ tables_1, d.before a0 Z = true) (ws : List Jvm.Cond) (a_DAY_OFF_TRADED : Addr) (a_DAY_OFF : Addr) (h0 : Heap) (n0 : Nat) (Z0 : n0 ≤ h0.size) (S_DAY_OFF : Sta Z h0 "com/example/millpact/millpact/TimeRecord$Type" "DAY_OFF" "Lcom/example/millpact/millpact/TimeRecord$Type;" (.ref a_DAY_OFF)) (S_DAY_OFF_TRADED : Sta Z h0 "com/example/millpact/millpact/TimeRecord$Type" "DAY_OFF_TRADED" "Lcom/example/millpact/millpact/TimeRecord$Type;" (.ref a_DAY_OFF_TRADED)) (ne1 : a_DAY_OFF_TRADED ≠ a_DAY_OFF) :
    MetFree l (⟨"com/example/millpact/millpact/TimeRecord$Type", "dayOff", "()Z"⟩ : MethodName) (head1 (Jvm.Cond.code (⟨"com/example/millpact/millpact/TimeRecord$Type", "dayOff", "()Z"⟩ : MethodName) prog_90_method_6_code 1 (some .boolean) :: ws) ({ frames := 0, cells := 0, slots := 0, locals := 0 } : Room)) (fun a U => a = #[(.ref a_DAY_OFF_TRADED)] ∧ Z.Warmed39 U.vm ∧ U.heap = h0) (fun _ _ _ _ _ => True) (fun _ U o U' => ∃ v L, o = .returned v ∧ Qd2 Z a_DAY_OFF_TRADED a_DAY_OFF h0 n0 v U'.heap L ∧ FrameEnd U o U' L ({ frames := 0, cells := 0, slots := 0, locals := 0 } : Room).cells ({ frames := 0, cells := 0, slots := 0, locals := 0 } : Room).slots) := by
  refine MetFree.of_bodySF (plainFor_of_name pnd2) hisR ?_
  intro p e s m args below meth c s₁ Bd hml0 hP hK
  obtain ⟨rfl, hZ, hh⟩ := hP
  have hx := Bd.exec
  have hby := Bd.bytes
  have hml : c.maxLocals = 1 := hml0
  have hown : s.vm.findClass "com/example/millpact/millpact/TimeRecord$Type" = some m.cls := findClass_of_methodNamed Bd.named
  have hnm := (name_of_methodNamed Bd.named Bd.method).1
  have X0 : Stand p l e ({ frames := 0, cells := 0, slots := 0, locals := 0 } : Room) s m #[(.ref a_DAY_OFF_TRADED)] below meth c s₁ [] 0 0 := Stand.of_body Bd
  have e0 : s₁.heap = h0 := by rw [← hh, Bd.state]; rfl
  have N0 := Fr.nil n0
  have pre0 : ∀ t, Steps p.tables e below (s₁.setTop (mkF m 0 #[.val (.ref a_DAY_OFF_TRADED)] [])) t → Steps p.tables e below (s₁.setTop (entryFrame m #[(.ref a_DAY_OFF_TRADED)] 1)) t := fun t k => castTop (efd2 m a_DAY_OFF_TRADED) k
  have p1 : ∀ t, Steps p.tables e below (s₁.setTop (mkF m 1 #[.val (.ref a_DAY_OFF_TRADED)] [(.ref a_DAY_OFF_TRADED)])) t → Steps p.tables e below (s₁.setTop (entryFrame m #[(.ref a_DAY_OFF_TRADED)] 1)) t := fun t k => pre0 t (by
    show Steps p.tables e below (s₁.setTop (mkF m 0 #[.val (.ref a_DAY_OFF_TRADED)] [])) _
    refine XS.aloadN X0.here hx rfl (hb hby dd2_0) rfl rfl ?_
    exact k)
  obtain ⟨T2, X2, e2, st2⟩ := getS2 X0 hx hZ hown (host := "") (Or.inl (hw _ (List.mem_of_getElem? (i := 13) rfl))) Via.refl e0 S_DAY_OFF (g := (mkF m 1 #[.val (.ref a_DAY_OFF_TRADED)] [(.ref a_DAY_OFF_TRADED)])) rfl (hb hby dd2_1)
  have p3 : ∀ t, Steps p.tables e below (T2.setTop (mkF m 4 #[.val (.ref a_DAY_OFF_TRADED)] [(.ref a_DAY_OFF), (.ref a_DAY_OFF_TRADED)])) t → Steps p.tables e below (s₁.setTop (entryFrame m #[(.ref a_DAY_OFF_TRADED)] 1)) t := fun t k => p1 t (st2 t k)
  have p4 : ∀ t, Steps p.tables e below (T2.setTop (mkF m 8 #[.val (.ref a_DAY_OFF_TRADED)] [(.ref a_DAY_OFF_TRADED)])) t → Steps p.tables e below (s₁.setTop (entryFrame m #[(.ref a_DAY_OFF_TRADED)] 1)) t := fun t k => p3 t (by
    show Steps p.tables e below (T2.setTop (mkF m 4 #[.val (.ref a_DAY_OFF_TRADED)] [(.ref a_DAY_OFF), (.ref a_DAY_OFF_TRADED)])) _
    refine Jvm.RoadKit.acmp (g := (mkF m 4 #[.val (.ref a_DAY_OFF_TRADED)] [(.ref a_DAY_OFF), (.ref a_DAY_OFF_TRADED)])) X2 hx rfl rfl rfl (pc0 := 4) (pc' := 7) (same := false) rfl (hb hby dd2_4) rfl (decide_eq_false fun q => ne1 (Value.ref.inj q)) (by decide) (by decide) ?_
    show Steps p.tables e below (T2.setTop (mkF m 7 #[.val (.ref a_DAY_OFF_TRADED)] [])) _
    refine XS.aloadN X2.here hx rfl (hb hby dd2_7) rfl rfl ?_
    exact k)
  obtain ⟨T5, X5, e5, st5⟩ := getS2 X2 hx hZ hown (host := "") (Or.inl (hw _ (List.mem_of_getElem? (i := 15) rfl))) Via.refl e2 S_DAY_OFF_TRADED (g := (mkF m 8 #[.val (.ref a_DAY_OFF_TRADED)] [(.ref a_DAY_OFF_TRADED)])) rfl (hb hby dd2_8)
  have p6 : ∀ t, Steps p.tables e below (T5.setTop (mkF m 11 #[.val (.ref a_DAY_OFF_TRADED)] [(.ref a_DAY_OFF_TRADED), (.ref a_DAY_OFF_TRADED)])) t → Steps p.tables e below (s₁.setTop (entryFrame m #[(.ref a_DAY_OFF_TRADED)] 1)) t := fun t k => p4 t (st5 t k)
  have p7 : ∀ t, Steps p.tables e below (T5.setTop (mkF m 19 #[.val (.ref a_DAY_OFF_TRADED)] [(.int (1 : Int32))])) t → Steps p.tables e below (s₁.setTop (entryFrame m #[(.ref a_DAY_OFF_TRADED)] 1)) t := fun t k => p6 t (by
    show Steps p.tables e below (T5.setTop (mkF m 11 #[.val (.ref a_DAY_OFF_TRADED)] [(.ref a_DAY_OFF_TRADED), (.ref a_DAY_OFF_TRADED)])) _
    refine Jvm.RoadKit.acmp (g := (mkF m 11 #[.val (.ref a_DAY_OFF_TRADED)] [(.ref a_DAY_OFF_TRADED), (.ref a_DAY_OFF_TRADED)])) X5 hx rfl rfl rfl (pc0 := 11) (pc' := 14) (same := true) rfl (hb hby dd2_11) rfl (decide_eq_true rfl) (by decide) (by decide) ?_
    show Steps p.tables e below (T5.setTop (mkF m 14 #[.val (.ref a_DAY_OFF_TRADED)] [])) _
    refine XS.iconst X5.here hx rfl (hb hby dd2_14) ?_
    show Steps p.tables e below (T5.setTop (mkF m 15 #[.val (.ref a_DAY_OFF_TRADED)] [(.int (1 : Int32))])) _
    refine XS.goto X5.here hx rfl (pc0 := 15) (pc' := 19) rfl (hb hby dd2_15) (by decide) (by decide) ?_
    exact k)
  obtain ⟨fs, hr, hrun, hended, hW, hsame⟩ := X5.leave (v := some (.int (1 : Int32))) (fun h => by rw [Bd.returns] at h; cases h)
  refine ⟨_, _, p7 _ ?_, hrun, hended, _, _, rfl, ?_, ⟨_, rfl⟩, hW, hsame.mono (by decide) (by decide)⟩
  · show Steps p.tables e below (T5.setTop (mkF m 19 #[.val (.ref a_DAY_OFF_TRADED)] [(.int (1 : Int32))])) _
    exact retN X5 hx (t := .boolean) Bd.returns (by simp) (hb hby dd2_19) hr
  · show Qd2 Z a_DAY_OFF_TRADED a_DAY_OFF h0 n0 _ T5.heap _
    rw [e5]
    exact ⟨rfl, N0, rfl⟩
theorem dd3_0 : decode prog_90_method_6_code 0 = .ok (.aload_n 0, 1) := by decide +kernel
theorem dd3_1 : decode prog_90_method_6_code 1 = .ok (.getstatic 19, 3) := by decide +kernel
theorem dd3_4 : decode prog_90_method_6_code 4 = .ok (.if_acmp .eq 10, 3) := by decide +kernel
theorem dd3_7 : decode prog_90_method_6_code 7 = .ok (.aload_n 0, 1) := by decide +kernel
theorem dd3_8 : decode prog_90_method_6_code 8 = .ok (.getstatic 22, 3) := by decide +kernel
theorem dd3_11 : decode prog_90_method_6_code 11 = .ok (.if_acmp .ne 7, 3) := by decide +kernel
theorem dd3_18 : decode prog_90_method_6_code 18 = .ok (.iconst 0, 1) := by decide +kernel
theorem dd3_19 : decode prog_90_method_6_code 19 = .ok (.ireturn, 1) := by decide +kernel
theorem pnd3 : plainName "com/example/millpact/millpact/TimeRecord$Type" = true := by first | (simp [plainName, overriddenIn]; done) | decide +kernel
theorem efd3 (m : MethodId) (x0 : Addr) : entryFrame m #[(.ref x0)] 1 = mkF m 0 #[.val (.ref x0)] [] := by first | (simp [entryFrame, mkF, argsToLocals, Value.category]; done) | rfl
def Qd3 (Z : State) (x0 : Addr) (a_DAY_OFF : Addr) (a_DAY_OFF_TRADED : Addr) (h0 : Heap) (n0 : Nat) (v : Option Value) (h : Heap) (L : List Loc) : Prop := v = some (.int (0 : Int32)) ∧ Fr n0 L ∧ h = h0
set_option maxRecDepth 65536 in
set_option maxHeartbeats 40000000 in
theorem rmd3 (l : Launch) (Z : State) (a0 : Array Value) (hw : ∀ d ∈ tables_1, d.before a0 Z = true) (ws : List Jvm.Cond) (x0 : Addr) (a_DAY_OFF : Addr) (a_DAY_OFF_TRADED : Addr) (h0 : Heap) (n0 : Nat) (Z0 : n0 ≤ h0.size) (S_DAY_OFF : Sta Z h0 "com/example/millpact/millpact/TimeRecord$Type" "DAY_OFF" "Lcom/example/millpact/millpact/TimeRecord$Type;" (.ref a_DAY_OFF)) (S_DAY_OFF_TRADED : Sta Z h0 "com/example/millpact/millpact/TimeRecord$Type" "DAY_OFF_TRADED" "Lcom/example/millpact/millpact/TimeRecord$Type;" (.ref a_DAY_OFF_TRADED)) (ne1 : x0 ≠ a_DAY_OFF) (ne2 : x0 ≠ a_DAY_OFF_TRADED) :
    MetFree l (⟨"com/example/millpact/millpact/TimeRecord$Type", "dayOff", "()Z"⟩ : MethodName) (head1 (Jvm.Cond.code (⟨"com/example/millpact/millpact/TimeRecord$Type", "dayOff", "()Z"⟩ : MethodName) prog_90_method_6_code 1 (some .boolean) :: ws) ({ frames := 0, cells := 0, slots := 0, locals := 0 } : Room)) (fun a U => a = #[(.ref x0)] ∧ Z.Warmed39 U.vm ∧ U.heap = h0) (fun _ _ _ _ _ => True) (fun _ U o U' => ∃ v L, o = .returned v ∧ Qd3 Z x0 a_DAY_OFF a_DAY_OFF_TRADED h0 n0 v U'.heap L ∧ FrameEnd U o U' L ({ frames := 0, cells := 0, slots := 0, locals := 0 } : Room).cells ({ frames := 0, cells := 0, slots := 0, locals := 0 } : Room).slots) := by
  refine MetFree.of_bodySF (plainFor_of_name pnd3) hisR ?_
  intro p e s m args below meth c s₁ Bd hml0 hP hK
  obtain ⟨rfl, hZ, hh⟩ := hP
  have hx := Bd.exec
  have hby := Bd.bytes
  have hml : c.maxLocals = 1 := hml0
  have hown : s.vm.findClass "com/example/millpact/millpact/TimeRecord$Type" = some m.cls := findClass_of_methodNamed Bd.named
  have hnm := (name_of_methodNamed Bd.named Bd.method).1
  have X0 : Stand p l e ({ frames := 0, cells := 0, slots := 0, locals := 0 } : Room) s m #[(.ref x0)] below meth c s₁ [] 0 0 := Stand.of_body Bd
  have e0 : s₁.heap = h0 := by rw [← hh, Bd.state]; rfl
  have N0 := Fr.nil n0
  have pre0 : ∀ t, Steps p.tables e below (s₁.setTop (mkF m 0 #[.val (.ref x0)] [])) t → Steps p.tables e below (s₁.setTop (entryFrame m #[(.ref x0)] 1)) t := fun t k => castTop (efd3 m x0) k
  have p1 : ∀ t, Steps p.tables e below (s₁.setTop (mkF m 1 #[.val (.ref x0)] [(.ref x0)])) t → Steps p.tables e below (s₁.setTop (entryFrame m #[(.ref x0)] 1)) t := fun t k => pre0 t (by
    show Steps p.tables e below (s₁.setTop (mkF m 0 #[.val (.ref x0)] [])) _
    refine XS.aloadN X0.here hx rfl (hb hby dd3_0) rfl rfl ?_
    exact k)
  obtain ⟨T2, X2, e2, st2⟩ := getS2 X0 hx hZ hown (host := "") (Or.inl (hw _ (List.mem_of_getElem? (i := 13) rfl))) Via.refl e0 S_DAY_OFF (g := (mkF m 1 #[.val (.ref x0)] [(.ref x0)])) rfl (hb hby dd3_1)
  have p3 : ∀ t, Steps p.tables e below (T2.setTop (mkF m 4 #[.val (.ref x0)] [(.ref a_DAY_OFF), (.ref x0)])) t → Steps p.tables e below (s₁.setTop (entryFrame m #[(.ref x0)] 1)) t := fun t k => p1 t (st2 t k)
  have p4 : ∀ t, Steps p.tables e below (T2.setTop (mkF m 8 #[.val (.ref x0)] [(.ref x0)])) t → Steps p.tables e below (s₁.setTop (entryFrame m #[(.ref x0)] 1)) t := fun t k => p3 t (by
    show Steps p.tables e below (T2.setTop (mkF m 4 #[.val (.ref x0)] [(.ref a_DAY_OFF), (.ref x0)])) _
    refine Jvm.RoadKit.acmp (g := (mkF m 4 #[.val (.ref x0)] [(.ref a_DAY_OFF), (.ref x0)])) X2 hx rfl rfl rfl (pc0 := 4) (pc' := 7) (same := false) rfl (hb hby dd3_4) rfl (decide_eq_false fun q => ne1 (Value.ref.inj q)) (by decide) (by decide) ?_
    show Steps p.tables e below (T2.setTop (mkF m 7 #[.val (.ref x0)] [])) _
    refine XS.aloadN X2.here hx rfl (hb hby dd3_7) rfl rfl ?_
    exact k)
  obtain ⟨T5, X5, e5, st5⟩ := getS2 X2 hx hZ hown (host := "") (Or.inl (hw _ (List.mem_of_getElem? (i := 15) rfl))) Via.refl e2 S_DAY_OFF_TRADED (g := (mkF m 8 #[.val (.ref x0)] [(.ref x0)])) rfl (hb hby dd3_8)
  have p6 : ∀ t, Steps p.tables e below (T5.setTop (mkF m 11 #[.val (.ref x0)] [(.ref a_DAY_OFF_TRADED), (.ref x0)])) t → Steps p.tables e below (s₁.setTop (entryFrame m #[(.ref x0)] 1)) t := fun t k => p4 t (st5 t k)
  have p7 : ∀ t, Steps p.tables e below (T5.setTop (mkF m 19 #[.val (.ref x0)] [(.int (0 : Int32))])) t → Steps p.tables e below (s₁.setTop (entryFrame m #[(.ref x0)] 1)) t := fun t k => p6 t (by
    show Steps p.tables e below (T5.setTop (mkF m 11 #[.val (.ref x0)] [(.ref a_DAY_OFF_TRADED), (.ref x0)])) _
    refine Jvm.RoadKit.acmp (g := (mkF m 11 #[.val (.ref x0)] [(.ref a_DAY_OFF_TRADED), (.ref x0)])) X5 hx rfl rfl rfl (pc0 := 11) (pc' := 18) (same := false) rfl (hb hby dd3_11) rfl (decide_eq_false fun q => ne2 (Value.ref.inj q)) (by decide) (by decide) ?_
    show Steps p.tables e below (T5.setTop (mkF m 18 #[.val (.ref x0)] [])) _
    refine XS.iconst X5.here hx rfl (hb hby dd3_18) ?_
    exact k)
  obtain ⟨fs, hr, hrun, hended, hW, hsame⟩ := X5.leave (v := some (.int (0 : Int32))) (fun h => by rw [Bd.returns] at h; cases h)
  refine ⟨_, _, p7 _ ?_, hrun, hended, _, _, rfl, ?_, ⟨_, rfl⟩, hW, hsame.mono (by decide) (by decide)⟩
  · show Steps p.tables e below (T5.setTop (mkF m 19 #[.val (.ref x0)] [(.int (0 : Int32))])) _
    exact retN X5 hx (t := .boolean) Bd.returns (by simp) (hb hby dd3_19) hr
  · show Qd3 Z x0 a_DAY_OFF a_DAY_OFF_TRADED h0 n0 _ T5.heap _
    rw [e5]
    exact ⟨rfl, N0, rfl⟩
theorem pn0 : plainName "com/example/millpact/millpact/TypeDayOffPinLaw" = true := by first | (simp [plainName, overriddenIn]; done) | decide +kernel
theorem pd0_0 : parseMethodDescriptor "(I)Lcom/example/millpact/millpact/TimeRecord$Type;" = some ⟨[.int], some (.object "com/example/millpact/millpact/TimeRecord$Type")⟩ := by decide +kernel
theorem pd0_1 : parseMethodDescriptor "()Z" = some ⟨[], some .boolean⟩ := by decide +kernel
theorem ef0 (m : MethodId) (x0 : Int32) : entryFrame m #[(.int x0)] maxLocals = mkF m 0 #[.val (.int x0), .unset, .unset, .unset] [] := by first | (simp [entryFrame, mkF, argsToLocals, Value.category, maxLocals]; done) | rfl
def Q0 (Z : State) (x0 : Int32) (a_WORKED : Addr) (a_ABSENT : Addr) (a_CALL_IN : Addr) (a_WIRE_CALL_IN : Addr) (a_SENT_HOME : Addr) (a_DAY_OFF : Addr) (a_DAY_OFF_TRADED : Addr) (a_RECALL : Addr) (h0 : Heap) (n0 : Nat) (v : Option Value) (h : Heap) (L : List Loc) : Prop := v = some (.int (1 : Int32)) ∧ Fr n0 L
set_option maxRecDepth 65536 in
set_option maxHeartbeats 40000000 in
theorem rm0 (l : Launch) (Z : State) (a0 : Array Value) (hw : ∀ d ∈ tables_1, d.before a0 Z = true) (ws : List Jvm.Cond) (x0 : Int32) (a_WORKED : Addr) (a_ABSENT : Addr) (a_CALL_IN : Addr) (a_WIRE_CALL_IN : Addr) (a_SENT_HOME : Addr) (a_DAY_OFF : Addr) (a_DAY_OFF_TRADED : Addr) (a_RECALL : Addr) (h0 : Heap) (n0 : Nat) (Z0 : n0 ≤ h0.size) (S_WORKED : Sta Z h0 "com/example/millpact/millpact/TimeRecord$Type" "WORKED" "Lcom/example/millpact/millpact/TimeRecord$Type;" (.ref a_WORKED)) (S_ABSENT : Sta Z h0 "com/example/millpact/millpact/TimeRecord$Type" "ABSENT" "Lcom/example/millpact/millpact/TimeRecord$Type;" (.ref a_ABSENT)) (S_CALL_IN : Sta Z h0 "com/example/millpact/millpact/TimeRecord$Type" "CALL_IN" "Lcom/example/millpact/millpact/TimeRecord$Type;" (.ref a_CALL_IN)) (S_WIRE_CALL_IN : Sta Z h0 "com/example/millpact/millpact/TimeRecord$Type" "WIRE_CALL_IN" "Lcom/example/millpact/millpact/TimeRecord$Type;" (.ref a_WIRE_CALL_IN)) (S_SENT_HOME : Sta Z h0 "com/example/millpact/millpact/TimeRecord$Type" "SENT_HOME" "Lcom/example/millpact/millpact/TimeRecord$Type;" (.ref a_SENT_HOME)) (S_DAY_OFF : Sta Z h0 "com/example/millpact/millpact/TimeRecord$Type" "DAY_OFF" "Lcom/example/millpact/millpact/TimeRecord$Type;" (.ref a_DAY_OFF)) (S_DAY_OFF_TRADED : Sta Z h0 "com/example/millpact/millpact/TimeRecord$Type" "DAY_OFF_TRADED" "Lcom/example/millpact/millpact/TimeRecord$Type;" (.ref a_DAY_OFF_TRADED)) (S_RECALL : Sta Z h0 "com/example/millpact/millpact/TimeRecord$Type" "RECALL" "Lcom/example/millpact/millpact/TimeRecord$Type;" (.ref a_RECALL)) (E_WORKED : Exa Z h0 a_WORKED "com/example/millpact/millpact/TimeRecord$Type") (E_ABSENT : Exa Z h0 a_ABSENT "com/example/millpact/millpact/TimeRecord$Type") (E_CALL_IN : Exa Z h0 a_CALL_IN "com/example/millpact/millpact/TimeRecord$Type") (E_WIRE_CALL_IN : Exa Z h0 a_WIRE_CALL_IN "com/example/millpact/millpact/TimeRecord$Type") (E_SENT_HOME : Exa Z h0 a_SENT_HOME "com/example/millpact/millpact/TimeRecord$Type") (E_DAY_OFF : Exa Z h0 a_DAY_OFF "com/example/millpact/millpact/TimeRecord$Type") (E_DAY_OFF_TRADED : Exa Z h0 a_DAY_OFF_TRADED "com/example/millpact/millpact/TimeRecord$Type") (E_RECALL : Exa Z h0 a_RECALL "com/example/millpact/millpact/TimeRecord$Type") (ne0_5 : a_WORKED ≠ a_DAY_OFF) (ne0_6 : a_WORKED ≠ a_DAY_OFF_TRADED) (ne1_5 : a_ABSENT ≠ a_DAY_OFF) (ne1_6 : a_ABSENT ≠ a_DAY_OFF_TRADED) (ne2_5 : a_CALL_IN ≠ a_DAY_OFF) (ne2_6 : a_CALL_IN ≠ a_DAY_OFF_TRADED) (ne3_5 : a_WIRE_CALL_IN ≠ a_DAY_OFF) (ne3_6 : a_WIRE_CALL_IN ≠ a_DAY_OFF_TRADED) (ne4_5 : a_SENT_HOME ≠ a_DAY_OFF) (ne4_6 : a_SENT_HOME ≠ a_DAY_OFF_TRADED) (ne5_6 : a_DAY_OFF ≠ a_DAY_OFF_TRADED) (ne6_5 : a_DAY_OFF_TRADED ≠ a_DAY_OFF) (ne7_5 : a_RECALL ≠ a_DAY_OFF) (ne7_6 : a_RECALL ≠ a_DAY_OFF_TRADED) :
    MetFree l x (head1 (Jvm.Cond.code x code maxLocals ret :: ws) room_1) (fun a U => a = #[(.int x0)] ∧ Z.Warmed39 U.vm ∧ U.heap = h0) (fun _ _ _ _ _ => True) (fun _ U o U' => ∃ v L, o = .returned v ∧ Q0 Z x0 a_WORKED a_ABSENT a_CALL_IN a_WIRE_CALL_IN a_SENT_HOME a_DAY_OFF a_DAY_OFF_TRADED a_RECALL h0 n0 v U'.heap L ∧ FrameEnd U o U' L room_1.cells room_1.slots) := by
  refine MetFree.of_bodySF (plainFor_of_name pn0) hisR ?_
  intro p e s m args below meth c s₁ Bd hml0 hP hK
  obtain ⟨rfl, hZ, hh⟩ := hP
  have hx := Bd.exec
  have hby := Bd.bytes
  have hml : c.maxLocals = 4 := hml0
  have hown : s.vm.findClass "com/example/millpact/millpact/TypeDayOffPinLaw" = some m.cls := findClass_of_methodNamed Bd.named
  have hnm := (name_of_methodNamed Bd.named Bd.method).1
  have X0 : Stand p l e room_1 s m #[(.int x0)] below meth c s₁ [] 0 0 := Stand.of_body Bd
  have e0 : s₁.heap = h0 := by rw [← hh, Bd.state]; rfl
  have N0 := Fr.nil n0
  have pre0 : ∀ t, Steps p.tables e below (s₁.setTop (mkF m 0 #[.val (.int x0), .unset, .unset, .unset] [])) t → Steps p.tables e below (s₁.setTop (entryFrame m #[(.int x0)] maxLocals)) t := fun t k => castTop (ef0 m x0) k
  have p1 : ∀ t, Steps p.tables e below (s₁.setTop (mkF m 8 #[.val (.int x0), .val (.int ((x0 &&& (2147483647 : Int32)) % (8 : Int32))), .unset, .unset] [])) t → Steps p.tables e below (s₁.setTop (entryFrame m #[(.int x0)] maxLocals)) t := fun t k => pre0 t (by
    show Steps p.tables e below (s₁.setTop (mkF m 0 #[.val (.int x0), .unset, .unset, .unset] [])) _
    refine XS.iloadN X0.here hx rfl (hb hby at_0) rfl ?_
    show Steps p.tables e below (s₁.setTop (mkF m 1 #[.val (.int x0), .unset, .unset, .unset] [(.int x0)])) _
    refine X0.ldcInt hx hown (mvT hZ (hw _ (List.mem_of_getElem? (i := 0) rfl))) (g := (mkF m 1 #[.val (.int x0), .unset, .unset, .unset] [(.int x0)])) rfl (hb hby at_1) _ ?_
    show Steps p.tables e below (s₁.setTop (mkF m 3 #[.val (.int x0), .unset, .unset, .unset] [(.int (2147483647 : Int32)), (.int x0)])) _
    refine XS.iand X0.here hx rfl (hb hby at_3) rfl ?_
    show Steps p.tables e below (s₁.setTop (mkF m 4 #[.val (.int x0), .unset, .unset, .unset] [(.int (x0 &&& (2147483647 : Int32)))])) _
    refine XS.bipush X0.here hx rfl (hb hby at_4) ?_
    show Steps p.tables e below (s₁.setTop (mkF m 6 #[.val (.int x0), .unset, .unset, .unset] [(.int (8 : Int32)), (.int (x0 &&& (2147483647 : Int32)))])) _
    refine iremM X0 hx rfl (hb hby at_6) rfl (by decide) ?_
    show Steps p.tables e below (s₁.setTop (mkF m 7 #[.val (.int x0), .unset, .unset, .unset] [(.int ((x0 &&& (2147483647 : Int32)) % (8 : Int32)))])) _
    refine XS.istoreN X0.here hx rfl (hb hby at_7) rfl (l' := #[.val (.int x0), .val (.int ((x0 &&& (2147483647 : Int32)) % (8 : Int32))), .unset, .unset]) rfl ?_
    exact k)
  obtain ⟨vk, hvk⟩ : ∃ z : Int32, z = ((x0 &&& (2147483647 : Int32)) % (8 : Int32)) := ⟨_, rfl⟩
  have p2 : ∀ t, Steps p.tables e below (s₁.setTop (mkF m 8 #[.val (.int x0), .val (.int vk), .unset, .unset] [])) t → Steps p.tables e below (s₁.setTop (entryFrame m #[(.int x0)] maxLocals)) t := by
    intro t k; subst hvk; exact p1 t k
  rcases own_k8 hvk with rfl | rfl | rfl | rfl | rfl | rfl | rfl | rfl
  · have p3 : ∀ t, Steps p.tables e below (s₁.setTop (mkF m 9 #[.val (.int x0), .val (.int (0 : Int32)), .unset, .unset] [(.int (0 : Int32))])) t → Steps p.tables e below (s₁.setTop (entryFrame m #[(.int x0)] maxLocals)) t := fun t k => p2 t (by
      show Steps p.tables e below (s₁.setTop (mkF m 8 #[.val (.int x0), .val (.int (0 : Int32)), .unset, .unset] [])) _
      refine XS.iloadN X0.here hx rfl (hb hby at_8) rfl ?_
      exact k)
    obtain ⟨_, _, ⟨T4, L4, k4, n4⟩, -, X4, ⟨Lc4, hQ4, l4, y4, z4⟩, st4⟩ := Jvm.LawKit.callS X0 hx (y := (⟨"com/example/millpact/millpact/TypeDayOffPinLaw", "pick", "(I)Lcom/example/millpact/millpact/TimeRecord$Type;"⟩ : MethodName)) hown (mvT hZ (hw _ (List.mem_of_getElem? (i := 1) rfl))) (mvT hZ (hw _ (List.mem_of_getElem? (i := 2) rfl))) (mvT hZ (hw _ (List.mem_of_getElem? (i := 3) rfl))) (mvT hZ (hw _ (List.mem_of_getElem? (i := 4) rfl))) (by decide) (backOf (W := 0) (rmp0 l Z a0 hw []  a_WORKED h0 n0 Z0 S_WORKED) hZ (hw _ (List.mem_of_getElem? (i := 4) rfl)) (hw _ (List.mem_of_getElem? (i := 3) rfl)) (by decide) (by decide)) (g := (mkF m 9 #[.val (.int x0), .val (.int (0 : Int32)), .unset, .unset] [(.int (0 : Int32))])) rfl (by rw [hml]; rfl) (argsL := [(.int (0 : Int32))]) (rest := []) (lenOf pd0_0 rfl) rfl (by show 2 * 0 + _ ≤ _; exact Nat.le_of_eq rfl) (hb hby at_9) (fun _ _ => ⟨rfl, e0, (by decide : 0 + 0 ≤ _), (by decide : 0 + 0 ≤ _)⟩)
    dsimp only [Pt.U, Pt.locs, Pt.cells, Pt.slots] at X4 l4 y4 z4 st4 hQ4
    subst l4 y4 z4
    obtain ⟨rfl, Nq4, e4⟩ := hQ4
    have N4 := Fr.app N0 Nq4
    have p5 : ∀ t, Steps p.tables e below (T4.setTop (mkF m 12 #[.val (.int x0), .val (.int (0 : Int32)), .unset, .unset] [(.ref a_WORKED)])) t → Steps p.tables e below (s₁.setTop (entryFrame m #[(.int x0)] maxLocals)) t := fun t k => p3 t (st4 _ k)
    have p6 : ∀ t, Steps p.tables e below (T4.setTop (mkF m 31 #[.val (.int x0), .val (.int (0 : Int32)), .val (.ref a_WORKED), .val (.int (0 : Int32))] [(.ref a_WORKED)])) t → Steps p.tables e below (s₁.setTop (entryFrame m #[(.int x0)] maxLocals)) t := fun t k => p5 t (by
      show Steps p.tables e below (T4.setTop (mkF m 12 #[.val (.int x0), .val (.int (0 : Int32)), .unset, .unset] [(.ref a_WORKED)])) _
      refine XS.astoreN X4.here hx rfl (hb hby at_12) rfl rfl (l' := #[.val (.int x0), .val (.int (0 : Int32)), .val (.ref a_WORKED), .unset]) rfl ?_
      show Steps p.tables e below (T4.setTop (mkF m 13 #[.val (.int x0), .val (.int (0 : Int32)), .val (.ref a_WORKED), .unset] [])) _
      refine XS.iloadN X4.here hx rfl (hb hby at_13) rfl ?_
      show Steps p.tables e below (T4.setTop (mkF m 14 #[.val (.int x0), .val (.int (0 : Int32)), .val (.ref a_WORKED), .unset] [(.int (0 : Int32))])) _
      refine XS.iconst X4.here hx rfl (hb hby at_14) ?_
      show Steps p.tables e below (T4.setTop (mkF m 15 #[.val (.int x0), .val (.int (0 : Int32)), .val (.ref a_WORKED), .unset] [(.int (5 : Int32)), (.int (0 : Int32))])) _
      refine XS.icmpNo X4.here hx rfl (hb hby at_15) rfl ((feq (by decide)).1) ?_
      show Steps p.tables e below (T4.setTop (mkF m 18 #[.val (.int x0), .val (.int (0 : Int32)), .val (.ref a_WORKED), .unset] [])) _
      refine XS.iloadN X4.here hx rfl (hb hby at_18) rfl ?_
      show Steps p.tables e below (T4.setTop (mkF m 19 #[.val (.int x0), .val (.int (0 : Int32)), .val (.ref a_WORKED), .unset] [(.int (0 : Int32))])) _
      refine XS.bipush X4.here hx rfl (hb hby at_19) ?_
      show Steps p.tables e below (T4.setTop (mkF m 21 #[.val (.int x0), .val (.int (0 : Int32)), .val (.ref a_WORKED), .unset] [(.int (6 : Int32)), (.int (0 : Int32))])) _
      refine XS.icmpYes X4.here hx rfl (pc0 := 21) (pc' := 28) rfl (hb hby at_21) rfl ((feq (by decide)).2) (by decide) (by decide) ?_
      show Steps p.tables e below (T4.setTop (mkF m 28 #[.val (.int x0), .val (.int (0 : Int32)), .val (.ref a_WORKED), .unset] [])) _
      refine XS.iconst X4.here hx rfl (hb hby at_28) ?_
      show Steps p.tables e below (T4.setTop (mkF m 29 #[.val (.int x0), .val (.int (0 : Int32)), .val (.ref a_WORKED), .unset] [(.int (0 : Int32))])) _
      refine XS.istoreN X4.here hx rfl (hb hby at_29) rfl (l' := #[.val (.int x0), .val (.int (0 : Int32)), .val (.ref a_WORKED), .val (.int (0 : Int32))]) rfl ?_
      show Steps p.tables e below (T4.setTop (mkF m 30 #[.val (.int x0), .val (.int (0 : Int32)), .val (.ref a_WORKED), .val (.int (0 : Int32))] [])) _
      refine XS.aloadN X4.here hx rfl (hb hby at_30) rfl rfl ?_
      exact k)
    obtain ⟨cq7, kq7, qa7, qb7, qc7⟩ := isOf hZ e4 E_WORKED
    obtain ⟨_, _, ⟨T7, L7, k7, n7⟩, -, X7, ⟨Lc7, hQ7, l7, y7, z7⟩, st7⟩ := X4.virtualBack hx (y := (⟨"com/example/millpact/millpact/TimeRecord$Type", "dayOff", "()Z"⟩ : MethodName)) (z := (⟨"com/example/millpact/millpact/TimeRecord$Type", "dayOff", "()Z"⟩ : MethodName)) hown (mvT hZ (hw _ (List.mem_of_getElem? (i := 8) rfl))) (mvT hZ (hw _ (List.mem_of_getElem? (i := 9) rfl))) (notFace_of_selects (args := #[]) (mvT hZ (hw _ (List.mem_of_getElem? (i := 11) rfl)))) (mvT hZ (hw _ (List.mem_of_getElem? (i := 11) rfl))) (mvT hZ (hw _ (List.mem_of_getElem? (i := 10) rfl))) (by decide) (backOf (W := 0) (rmd3 l Z a0 hw []  a_WORKED a_DAY_OFF a_DAY_OFF_TRADED h0 n0 Z0 S_DAY_OFF S_DAY_OFF_TRADED ne0_5 ne0_6) hZ (hw _ (List.mem_of_getElem? (i := 12) rfl)) (hw _ (List.mem_of_getElem? (i := 6) rfl)) (by decide) (by decide)) qa7 qc7 (g := (mkF m 31 #[.val (.int x0), .val (.int (0 : Int32)), .val (.ref a_WORKED), .val (.int (0 : Int32))] [(.ref a_WORKED)])) rfl (by rw [hml]; rfl) (Steps.refl _) (argsL := []) (rest := []) (lenOf pd0_1 rfl) rfl (by show 2 * 0 + _ ≤ _; exact Nat.le_of_eq rfl) (hb hby at_31) (fun _ _ => ⟨rfl, e4, (by decide : 0 + 0 ≤ _), (by decide : 0 + 0 ≤ _)⟩)
    dsimp only [Pt.U, Pt.locs, Pt.cells, Pt.slots] at X7 l7 y7 z7 st7 hQ7
    subst l7 y7 z7
    obtain ⟨rfl, Nq7, e7⟩ := hQ7
    have N7 := Fr.app N4 Nq7
    have p8 : ∀ t, Steps p.tables e below (T7.setTop (mkF m 34 #[.val (.int x0), .val (.int (0 : Int32)), .val (.ref a_WORKED), .val (.int (0 : Int32))] [(.int (0 : Int32))])) t → Steps p.tables e below (s₁.setTop (entryFrame m #[(.int x0)] maxLocals)) t := fun t k => p6 t (st7.trans k)
    have p9 : ∀ t, Steps p.tables e below (T7.setTop (mkF m 43 #[.val (.int x0), .val (.int (0 : Int32)), .val (.ref a_WORKED), .val (.int (0 : Int32))] [(.int (1 : Int32))])) t → Steps p.tables e below (s₁.setTop (entryFrame m #[(.int x0)] maxLocals)) t := fun t k => p8 t (by
      show Steps p.tables e below (T7.setTop (mkF m 34 #[.val (.int x0), .val (.int (0 : Int32)), .val (.ref a_WORKED), .val (.int (0 : Int32))] [(.int (0 : Int32))])) _
      refine XS.iloadN X7.here hx rfl (hb hby at_34) rfl ?_
      show Steps p.tables e below (T7.setTop (mkF m 35 #[.val (.int x0), .val (.int (0 : Int32)), .val (.ref a_WORKED), .val (.int (0 : Int32))] [(.int (0 : Int32)), (.int (0 : Int32))])) _
      refine XS.icmpNo X7.here hx rfl (hb hby at_35) rfl ((teq (rfl)).2) ?_
      show Steps p.tables e below (T7.setTop (mkF m 38 #[.val (.int x0), .val (.int (0 : Int32)), .val (.ref a_WORKED), .val (.int (0 : Int32))] [])) _
      refine XS.iconst X7.here hx rfl (hb hby at_38) ?_
      show Steps p.tables e below (T7.setTop (mkF m 39 #[.val (.int x0), .val (.int (0 : Int32)), .val (.ref a_WORKED), .val (.int (0 : Int32))] [(.int (1 : Int32))])) _
      refine XS.goto X7.here hx rfl (pc0 := 39) (pc' := 43) rfl (hb hby at_39) (by decide) (by decide) ?_
      exact k)
    obtain ⟨fs, hr, hrun, hended, hW, hsame⟩ := X7.leave (v := some (.int (1 : Int32))) (fun h => by rw [Bd.returns] at h; cases h)
    refine ⟨_, _, p9 _ ?_, hrun, hended, _, _, rfl, ?_, ⟨_, rfl⟩, hW, hsame.mono (by decide) (by decide)⟩
    · show Steps p.tables e below (T7.setTop (mkF m 43 #[.val (.int x0), .val (.int (0 : Int32)), .val (.ref a_WORKED), .val (.int (0 : Int32))] [(.int (1 : Int32))])) _
      exact retN X7 hx (t := .boolean) Bd.returns (by simp) (hb hby at_43) hr
    · show Q0 Z x0 a_WORKED a_ABSENT a_CALL_IN a_WIRE_CALL_IN a_SENT_HOME a_DAY_OFF a_DAY_OFF_TRADED a_RECALL h0 n0 _ T7.heap _
      rw [e7]
      exact ⟨rfl, N7⟩
  · have p10 : ∀ t, Steps p.tables e below (s₁.setTop (mkF m 9 #[.val (.int x0), .val (.int (1 : Int32)), .unset, .unset] [(.int (1 : Int32))])) t → Steps p.tables e below (s₁.setTop (entryFrame m #[(.int x0)] maxLocals)) t := fun t k => p2 t (by
      show Steps p.tables e below (s₁.setTop (mkF m 8 #[.val (.int x0), .val (.int (1 : Int32)), .unset, .unset] [])) _
      refine XS.iloadN X0.here hx rfl (hb hby at_8) rfl ?_
      exact k)
    obtain ⟨_, _, ⟨T11, L11, k11, n11⟩, -, X11, ⟨Lc11, hQ11, l11, y11, z11⟩, st11⟩ := Jvm.LawKit.callS X0 hx (y := (⟨"com/example/millpact/millpact/TypeDayOffPinLaw", "pick", "(I)Lcom/example/millpact/millpact/TimeRecord$Type;"⟩ : MethodName)) hown (mvT hZ (hw _ (List.mem_of_getElem? (i := 1) rfl))) (mvT hZ (hw _ (List.mem_of_getElem? (i := 2) rfl))) (mvT hZ (hw _ (List.mem_of_getElem? (i := 3) rfl))) (mvT hZ (hw _ (List.mem_of_getElem? (i := 4) rfl))) (by decide) (backOf (W := 0) (rmp1 l Z a0 hw []  a_ABSENT h0 n0 Z0 S_ABSENT) hZ (hw _ (List.mem_of_getElem? (i := 4) rfl)) (hw _ (List.mem_of_getElem? (i := 3) rfl)) (by decide) (by decide)) (g := (mkF m 9 #[.val (.int x0), .val (.int (1 : Int32)), .unset, .unset] [(.int (1 : Int32))])) rfl (by rw [hml]; rfl) (argsL := [(.int (1 : Int32))]) (rest := []) (lenOf pd0_0 rfl) rfl (by show 2 * 0 + _ ≤ _; exact Nat.le_of_eq rfl) (hb hby at_9) (fun _ _ => ⟨rfl, e0, (by decide : 0 + 0 ≤ _), (by decide : 0 + 0 ≤ _)⟩)
    dsimp only [Pt.U, Pt.locs, Pt.cells, Pt.slots] at X11 l11 y11 z11 st11 hQ11
    subst l11 y11 z11
    obtain ⟨rfl, Nq11, e11⟩ := hQ11
    have N11 := Fr.app N0 Nq11
    have p12 : ∀ t, Steps p.tables e below (T11.setTop (mkF m 12 #[.val (.int x0), .val (.int (1 : Int32)), .unset, .unset] [(.ref a_ABSENT)])) t → Steps p.tables e below (s₁.setTop (entryFrame m #[(.int x0)] maxLocals)) t := fun t k => p10 t (st11 _ k)
    have p13 : ∀ t, Steps p.tables e below (T11.setTop (mkF m 31 #[.val (.int x0), .val (.int (1 : Int32)), .val (.ref a_ABSENT), .val (.int (0 : Int32))] [(.ref a_ABSENT)])) t → Steps p.tables e below (s₁.setTop (entryFrame m #[(.int x0)] maxLocals)) t := fun t k => p12 t (by
      show Steps p.tables e below (T11.setTop (mkF m 12 #[.val (.int x0), .val (.int (1 : Int32)), .unset, .unset] [(.ref a_ABSENT)])) _
      refine XS.astoreN X11.here hx rfl (hb hby at_12) rfl rfl (l' := #[.val (.int x0), .val (.int (1 : Int32)), .val (.ref a_ABSENT), .unset]) rfl ?_
      show Steps p.tables e below (T11.setTop (mkF m 13 #[.val (.int x0), .val (.int (1 : Int32)), .val (.ref a_ABSENT), .unset] [])) _
      refine XS.iloadN X11.here hx rfl (hb hby at_13) rfl ?_
      show Steps p.tables e below (T11.setTop (mkF m 14 #[.val (.int x0), .val (.int (1 : Int32)), .val (.ref a_ABSENT), .unset] [(.int (1 : Int32))])) _
      refine XS.iconst X11.here hx rfl (hb hby at_14) ?_
      show Steps p.tables e below (T11.setTop (mkF m 15 #[.val (.int x0), .val (.int (1 : Int32)), .val (.ref a_ABSENT), .unset] [(.int (5 : Int32)), (.int (1 : Int32))])) _
      refine XS.icmpNo X11.here hx rfl (hb hby at_15) rfl ((feq (by decide)).1) ?_
      show Steps p.tables e below (T11.setTop (mkF m 18 #[.val (.int x0), .val (.int (1 : Int32)), .val (.ref a_ABSENT), .unset] [])) _
      refine XS.iloadN X11.here hx rfl (hb hby at_18) rfl ?_
      show Steps p.tables e below (T11.setTop (mkF m 19 #[.val (.int x0), .val (.int (1 : Int32)), .val (.ref a_ABSENT), .unset] [(.int (1 : Int32))])) _
      refine XS.bipush X11.here hx rfl (hb hby at_19) ?_
      show Steps p.tables e below (T11.setTop (mkF m 21 #[.val (.int x0), .val (.int (1 : Int32)), .val (.ref a_ABSENT), .unset] [(.int (6 : Int32)), (.int (1 : Int32))])) _
      refine XS.icmpYes X11.here hx rfl (pc0 := 21) (pc' := 28) rfl (hb hby at_21) rfl ((feq (by decide)).2) (by decide) (by decide) ?_
      show Steps p.tables e below (T11.setTop (mkF m 28 #[.val (.int x0), .val (.int (1 : Int32)), .val (.ref a_ABSENT), .unset] [])) _
      refine XS.iconst X11.here hx rfl (hb hby at_28) ?_
      show Steps p.tables e below (T11.setTop (mkF m 29 #[.val (.int x0), .val (.int (1 : Int32)), .val (.ref a_ABSENT), .unset] [(.int (0 : Int32))])) _
      refine XS.istoreN X11.here hx rfl (hb hby at_29) rfl (l' := #[.val (.int x0), .val (.int (1 : Int32)), .val (.ref a_ABSENT), .val (.int (0 : Int32))]) rfl ?_
      show Steps p.tables e below (T11.setTop (mkF m 30 #[.val (.int x0), .val (.int (1 : Int32)), .val (.ref a_ABSENT), .val (.int (0 : Int32))] [])) _
      refine XS.aloadN X11.here hx rfl (hb hby at_30) rfl rfl ?_
      exact k)
    obtain ⟨cq14, kq14, qa14, qb14, qc14⟩ := isOf hZ e11 E_ABSENT
    obtain ⟨_, _, ⟨T14, L14, k14, n14⟩, -, X14, ⟨Lc14, hQ14, l14, y14, z14⟩, st14⟩ := X11.virtualBack hx (y := (⟨"com/example/millpact/millpact/TimeRecord$Type", "dayOff", "()Z"⟩ : MethodName)) (z := (⟨"com/example/millpact/millpact/TimeRecord$Type", "dayOff", "()Z"⟩ : MethodName)) hown (mvT hZ (hw _ (List.mem_of_getElem? (i := 8) rfl))) (mvT hZ (hw _ (List.mem_of_getElem? (i := 9) rfl))) (notFace_of_selects (args := #[]) (mvT hZ (hw _ (List.mem_of_getElem? (i := 11) rfl)))) (mvT hZ (hw _ (List.mem_of_getElem? (i := 11) rfl))) (mvT hZ (hw _ (List.mem_of_getElem? (i := 10) rfl))) (by decide) (backOf (W := 0) (rmd3 l Z a0 hw []  a_ABSENT a_DAY_OFF a_DAY_OFF_TRADED h0 n0 Z0 S_DAY_OFF S_DAY_OFF_TRADED ne1_5 ne1_6) hZ (hw _ (List.mem_of_getElem? (i := 12) rfl)) (hw _ (List.mem_of_getElem? (i := 6) rfl)) (by decide) (by decide)) qa14 qc14 (g := (mkF m 31 #[.val (.int x0), .val (.int (1 : Int32)), .val (.ref a_ABSENT), .val (.int (0 : Int32))] [(.ref a_ABSENT)])) rfl (by rw [hml]; rfl) (Steps.refl _) (argsL := []) (rest := []) (lenOf pd0_1 rfl) rfl (by show 2 * 0 + _ ≤ _; exact Nat.le_of_eq rfl) (hb hby at_31) (fun _ _ => ⟨rfl, e11, (by decide : 0 + 0 ≤ _), (by decide : 0 + 0 ≤ _)⟩)
    dsimp only [Pt.U, Pt.locs, Pt.cells, Pt.slots] at X14 l14 y14 z14 st14 hQ14
    subst l14 y14 z14
    obtain ⟨rfl, Nq14, e14⟩ := hQ14
    have N14 := Fr.app N11 Nq14
    have p15 : ∀ t, Steps p.tables e below (T14.setTop (mkF m 34 #[.val (.int x0), .val (.int (1 : Int32)), .val (.ref a_ABSENT), .val (.int (0 : Int32))] [(.int (0 : Int32))])) t → Steps p.tables e below (s₁.setTop (entryFrame m #[(.int x0)] maxLocals)) t := fun t k => p13 t (st14.trans k)
    have p16 : ∀ t, Steps p.tables e below (T14.setTop (mkF m 43 #[.val (.int x0), .val (.int (1 : Int32)), .val (.ref a_ABSENT), .val (.int (0 : Int32))] [(.int (1 : Int32))])) t → Steps p.tables e below (s₁.setTop (entryFrame m #[(.int x0)] maxLocals)) t := fun t k => p15 t (by
      show Steps p.tables e below (T14.setTop (mkF m 34 #[.val (.int x0), .val (.int (1 : Int32)), .val (.ref a_ABSENT), .val (.int (0 : Int32))] [(.int (0 : Int32))])) _
      refine XS.iloadN X14.here hx rfl (hb hby at_34) rfl ?_
      show Steps p.tables e below (T14.setTop (mkF m 35 #[.val (.int x0), .val (.int (1 : Int32)), .val (.ref a_ABSENT), .val (.int (0 : Int32))] [(.int (0 : Int32)), (.int (0 : Int32))])) _
      refine XS.icmpNo X14.here hx rfl (hb hby at_35) rfl ((teq (rfl)).2) ?_
      show Steps p.tables e below (T14.setTop (mkF m 38 #[.val (.int x0), .val (.int (1 : Int32)), .val (.ref a_ABSENT), .val (.int (0 : Int32))] [])) _
      refine XS.iconst X14.here hx rfl (hb hby at_38) ?_
      show Steps p.tables e below (T14.setTop (mkF m 39 #[.val (.int x0), .val (.int (1 : Int32)), .val (.ref a_ABSENT), .val (.int (0 : Int32))] [(.int (1 : Int32))])) _
      refine XS.goto X14.here hx rfl (pc0 := 39) (pc' := 43) rfl (hb hby at_39) (by decide) (by decide) ?_
      exact k)
    obtain ⟨fs, hr, hrun, hended, hW, hsame⟩ := X14.leave (v := some (.int (1 : Int32))) (fun h => by rw [Bd.returns] at h; cases h)
    refine ⟨_, _, p16 _ ?_, hrun, hended, _, _, rfl, ?_, ⟨_, rfl⟩, hW, hsame.mono (by decide) (by decide)⟩
    · show Steps p.tables e below (T14.setTop (mkF m 43 #[.val (.int x0), .val (.int (1 : Int32)), .val (.ref a_ABSENT), .val (.int (0 : Int32))] [(.int (1 : Int32))])) _
      exact retN X14 hx (t := .boolean) Bd.returns (by simp) (hb hby at_43) hr
    · show Q0 Z x0 a_WORKED a_ABSENT a_CALL_IN a_WIRE_CALL_IN a_SENT_HOME a_DAY_OFF a_DAY_OFF_TRADED a_RECALL h0 n0 _ T14.heap _
      rw [e14]
      exact ⟨rfl, N14⟩
  · have p17 : ∀ t, Steps p.tables e below (s₁.setTop (mkF m 9 #[.val (.int x0), .val (.int (2 : Int32)), .unset, .unset] [(.int (2 : Int32))])) t → Steps p.tables e below (s₁.setTop (entryFrame m #[(.int x0)] maxLocals)) t := fun t k => p2 t (by
      show Steps p.tables e below (s₁.setTop (mkF m 8 #[.val (.int x0), .val (.int (2 : Int32)), .unset, .unset] [])) _
      refine XS.iloadN X0.here hx rfl (hb hby at_8) rfl ?_
      exact k)
    obtain ⟨_, _, ⟨T18, L18, k18, n18⟩, -, X18, ⟨Lc18, hQ18, l18, y18, z18⟩, st18⟩ := Jvm.LawKit.callS X0 hx (y := (⟨"com/example/millpact/millpact/TypeDayOffPinLaw", "pick", "(I)Lcom/example/millpact/millpact/TimeRecord$Type;"⟩ : MethodName)) hown (mvT hZ (hw _ (List.mem_of_getElem? (i := 1) rfl))) (mvT hZ (hw _ (List.mem_of_getElem? (i := 2) rfl))) (mvT hZ (hw _ (List.mem_of_getElem? (i := 3) rfl))) (mvT hZ (hw _ (List.mem_of_getElem? (i := 4) rfl))) (by decide) (backOf (W := 0) (rmp2 l Z a0 hw []  a_CALL_IN h0 n0 Z0 S_CALL_IN) hZ (hw _ (List.mem_of_getElem? (i := 4) rfl)) (hw _ (List.mem_of_getElem? (i := 3) rfl)) (by decide) (by decide)) (g := (mkF m 9 #[.val (.int x0), .val (.int (2 : Int32)), .unset, .unset] [(.int (2 : Int32))])) rfl (by rw [hml]; rfl) (argsL := [(.int (2 : Int32))]) (rest := []) (lenOf pd0_0 rfl) rfl (by show 2 * 0 + _ ≤ _; exact Nat.le_of_eq rfl) (hb hby at_9) (fun _ _ => ⟨rfl, e0, (by decide : 0 + 0 ≤ _), (by decide : 0 + 0 ≤ _)⟩)
    dsimp only [Pt.U, Pt.locs, Pt.cells, Pt.slots] at X18 l18 y18 z18 st18 hQ18
    subst l18 y18 z18
    obtain ⟨rfl, Nq18, e18⟩ := hQ18
    have N18 := Fr.app N0 Nq18
    have p19 : ∀ t, Steps p.tables e below (T18.setTop (mkF m 12 #[.val (.int x0), .val (.int (2 : Int32)), .unset, .unset] [(.ref a_CALL_IN)])) t → Steps p.tables e below (s₁.setTop (entryFrame m #[(.int x0)] maxLocals)) t := fun t k => p17 t (st18 _ k)
    have p20 : ∀ t, Steps p.tables e below (T18.setTop (mkF m 31 #[.val (.int x0), .val (.int (2 : Int32)), .val (.ref a_CALL_IN), .val (.int (0 : Int32))] [(.ref a_CALL_IN)])) t → Steps p.tables e below (s₁.setTop (entryFrame m #[(.int x0)] maxLocals)) t := fun t k => p19 t (by
      show Steps p.tables e below (T18.setTop (mkF m 12 #[.val (.int x0), .val (.int (2 : Int32)), .unset, .unset] [(.ref a_CALL_IN)])) _
      refine XS.astoreN X18.here hx rfl (hb hby at_12) rfl rfl (l' := #[.val (.int x0), .val (.int (2 : Int32)), .val (.ref a_CALL_IN), .unset]) rfl ?_
      show Steps p.tables e below (T18.setTop (mkF m 13 #[.val (.int x0), .val (.int (2 : Int32)), .val (.ref a_CALL_IN), .unset] [])) _
      refine XS.iloadN X18.here hx rfl (hb hby at_13) rfl ?_
      show Steps p.tables e below (T18.setTop (mkF m 14 #[.val (.int x0), .val (.int (2 : Int32)), .val (.ref a_CALL_IN), .unset] [(.int (2 : Int32))])) _
      refine XS.iconst X18.here hx rfl (hb hby at_14) ?_
      show Steps p.tables e below (T18.setTop (mkF m 15 #[.val (.int x0), .val (.int (2 : Int32)), .val (.ref a_CALL_IN), .unset] [(.int (5 : Int32)), (.int (2 : Int32))])) _
      refine XS.icmpNo X18.here hx rfl (hb hby at_15) rfl ((feq (by decide)).1) ?_
      show Steps p.tables e below (T18.setTop (mkF m 18 #[.val (.int x0), .val (.int (2 : Int32)), .val (.ref a_CALL_IN), .unset] [])) _
      refine XS.iloadN X18.here hx rfl (hb hby at_18) rfl ?_
      show Steps p.tables e below (T18.setTop (mkF m 19 #[.val (.int x0), .val (.int (2 : Int32)), .val (.ref a_CALL_IN), .unset] [(.int (2 : Int32))])) _
      refine XS.bipush X18.here hx rfl (hb hby at_19) ?_
      show Steps p.tables e below (T18.setTop (mkF m 21 #[.val (.int x0), .val (.int (2 : Int32)), .val (.ref a_CALL_IN), .unset] [(.int (6 : Int32)), (.int (2 : Int32))])) _
      refine XS.icmpYes X18.here hx rfl (pc0 := 21) (pc' := 28) rfl (hb hby at_21) rfl ((feq (by decide)).2) (by decide) (by decide) ?_
      show Steps p.tables e below (T18.setTop (mkF m 28 #[.val (.int x0), .val (.int (2 : Int32)), .val (.ref a_CALL_IN), .unset] [])) _
      refine XS.iconst X18.here hx rfl (hb hby at_28) ?_
      show Steps p.tables e below (T18.setTop (mkF m 29 #[.val (.int x0), .val (.int (2 : Int32)), .val (.ref a_CALL_IN), .unset] [(.int (0 : Int32))])) _
      refine XS.istoreN X18.here hx rfl (hb hby at_29) rfl (l' := #[.val (.int x0), .val (.int (2 : Int32)), .val (.ref a_CALL_IN), .val (.int (0 : Int32))]) rfl ?_
      show Steps p.tables e below (T18.setTop (mkF m 30 #[.val (.int x0), .val (.int (2 : Int32)), .val (.ref a_CALL_IN), .val (.int (0 : Int32))] [])) _
      refine XS.aloadN X18.here hx rfl (hb hby at_30) rfl rfl ?_
      exact k)
    obtain ⟨cq21, kq21, qa21, qb21, qc21⟩ := isOf hZ e18 E_CALL_IN
    obtain ⟨_, _, ⟨T21, L21, k21, n21⟩, -, X21, ⟨Lc21, hQ21, l21, y21, z21⟩, st21⟩ := X18.virtualBack hx (y := (⟨"com/example/millpact/millpact/TimeRecord$Type", "dayOff", "()Z"⟩ : MethodName)) (z := (⟨"com/example/millpact/millpact/TimeRecord$Type", "dayOff", "()Z"⟩ : MethodName)) hown (mvT hZ (hw _ (List.mem_of_getElem? (i := 8) rfl))) (mvT hZ (hw _ (List.mem_of_getElem? (i := 9) rfl))) (notFace_of_selects (args := #[]) (mvT hZ (hw _ (List.mem_of_getElem? (i := 11) rfl)))) (mvT hZ (hw _ (List.mem_of_getElem? (i := 11) rfl))) (mvT hZ (hw _ (List.mem_of_getElem? (i := 10) rfl))) (by decide) (backOf (W := 0) (rmd3 l Z a0 hw []  a_CALL_IN a_DAY_OFF a_DAY_OFF_TRADED h0 n0 Z0 S_DAY_OFF S_DAY_OFF_TRADED ne2_5 ne2_6) hZ (hw _ (List.mem_of_getElem? (i := 12) rfl)) (hw _ (List.mem_of_getElem? (i := 6) rfl)) (by decide) (by decide)) qa21 qc21 (g := (mkF m 31 #[.val (.int x0), .val (.int (2 : Int32)), .val (.ref a_CALL_IN), .val (.int (0 : Int32))] [(.ref a_CALL_IN)])) rfl (by rw [hml]; rfl) (Steps.refl _) (argsL := []) (rest := []) (lenOf pd0_1 rfl) rfl (by show 2 * 0 + _ ≤ _; exact Nat.le_of_eq rfl) (hb hby at_31) (fun _ _ => ⟨rfl, e18, (by decide : 0 + 0 ≤ _), (by decide : 0 + 0 ≤ _)⟩)
    dsimp only [Pt.U, Pt.locs, Pt.cells, Pt.slots] at X21 l21 y21 z21 st21 hQ21
    subst l21 y21 z21
    obtain ⟨rfl, Nq21, e21⟩ := hQ21
    have N21 := Fr.app N18 Nq21
    have p22 : ∀ t, Steps p.tables e below (T21.setTop (mkF m 34 #[.val (.int x0), .val (.int (2 : Int32)), .val (.ref a_CALL_IN), .val (.int (0 : Int32))] [(.int (0 : Int32))])) t → Steps p.tables e below (s₁.setTop (entryFrame m #[(.int x0)] maxLocals)) t := fun t k => p20 t (st21.trans k)
    have p23 : ∀ t, Steps p.tables e below (T21.setTop (mkF m 43 #[.val (.int x0), .val (.int (2 : Int32)), .val (.ref a_CALL_IN), .val (.int (0 : Int32))] [(.int (1 : Int32))])) t → Steps p.tables e below (s₁.setTop (entryFrame m #[(.int x0)] maxLocals)) t := fun t k => p22 t (by
      show Steps p.tables e below (T21.setTop (mkF m 34 #[.val (.int x0), .val (.int (2 : Int32)), .val (.ref a_CALL_IN), .val (.int (0 : Int32))] [(.int (0 : Int32))])) _
      refine XS.iloadN X21.here hx rfl (hb hby at_34) rfl ?_
      show Steps p.tables e below (T21.setTop (mkF m 35 #[.val (.int x0), .val (.int (2 : Int32)), .val (.ref a_CALL_IN), .val (.int (0 : Int32))] [(.int (0 : Int32)), (.int (0 : Int32))])) _
      refine XS.icmpNo X21.here hx rfl (hb hby at_35) rfl ((teq (rfl)).2) ?_
      show Steps p.tables e below (T21.setTop (mkF m 38 #[.val (.int x0), .val (.int (2 : Int32)), .val (.ref a_CALL_IN), .val (.int (0 : Int32))] [])) _
      refine XS.iconst X21.here hx rfl (hb hby at_38) ?_
      show Steps p.tables e below (T21.setTop (mkF m 39 #[.val (.int x0), .val (.int (2 : Int32)), .val (.ref a_CALL_IN), .val (.int (0 : Int32))] [(.int (1 : Int32))])) _
      refine XS.goto X21.here hx rfl (pc0 := 39) (pc' := 43) rfl (hb hby at_39) (by decide) (by decide) ?_
      exact k)
    obtain ⟨fs, hr, hrun, hended, hW, hsame⟩ := X21.leave (v := some (.int (1 : Int32))) (fun h => by rw [Bd.returns] at h; cases h)
    refine ⟨_, _, p23 _ ?_, hrun, hended, _, _, rfl, ?_, ⟨_, rfl⟩, hW, hsame.mono (by decide) (by decide)⟩
    · show Steps p.tables e below (T21.setTop (mkF m 43 #[.val (.int x0), .val (.int (2 : Int32)), .val (.ref a_CALL_IN), .val (.int (0 : Int32))] [(.int (1 : Int32))])) _
      exact retN X21 hx (t := .boolean) Bd.returns (by simp) (hb hby at_43) hr
    · show Q0 Z x0 a_WORKED a_ABSENT a_CALL_IN a_WIRE_CALL_IN a_SENT_HOME a_DAY_OFF a_DAY_OFF_TRADED a_RECALL h0 n0 _ T21.heap _
      rw [e21]
      exact ⟨rfl, N21⟩
  · have p24 : ∀ t, Steps p.tables e below (s₁.setTop (mkF m 9 #[.val (.int x0), .val (.int (3 : Int32)), .unset, .unset] [(.int (3 : Int32))])) t → Steps p.tables e below (s₁.setTop (entryFrame m #[(.int x0)] maxLocals)) t := fun t k => p2 t (by
      show Steps p.tables e below (s₁.setTop (mkF m 8 #[.val (.int x0), .val (.int (3 : Int32)), .unset, .unset] [])) _
      refine XS.iloadN X0.here hx rfl (hb hby at_8) rfl ?_
      exact k)
    obtain ⟨_, _, ⟨T25, L25, k25, n25⟩, -, X25, ⟨Lc25, hQ25, l25, y25, z25⟩, st25⟩ := Jvm.LawKit.callS X0 hx (y := (⟨"com/example/millpact/millpact/TypeDayOffPinLaw", "pick", "(I)Lcom/example/millpact/millpact/TimeRecord$Type;"⟩ : MethodName)) hown (mvT hZ (hw _ (List.mem_of_getElem? (i := 1) rfl))) (mvT hZ (hw _ (List.mem_of_getElem? (i := 2) rfl))) (mvT hZ (hw _ (List.mem_of_getElem? (i := 3) rfl))) (mvT hZ (hw _ (List.mem_of_getElem? (i := 4) rfl))) (by decide) (backOf (W := 0) (rmp3 l Z a0 hw []  a_WIRE_CALL_IN h0 n0 Z0 S_WIRE_CALL_IN) hZ (hw _ (List.mem_of_getElem? (i := 4) rfl)) (hw _ (List.mem_of_getElem? (i := 3) rfl)) (by decide) (by decide)) (g := (mkF m 9 #[.val (.int x0), .val (.int (3 : Int32)), .unset, .unset] [(.int (3 : Int32))])) rfl (by rw [hml]; rfl) (argsL := [(.int (3 : Int32))]) (rest := []) (lenOf pd0_0 rfl) rfl (by show 2 * 0 + _ ≤ _; exact Nat.le_of_eq rfl) (hb hby at_9) (fun _ _ => ⟨rfl, e0, (by decide : 0 + 0 ≤ _), (by decide : 0 + 0 ≤ _)⟩)
    dsimp only [Pt.U, Pt.locs, Pt.cells, Pt.slots] at X25 l25 y25 z25 st25 hQ25
    subst l25 y25 z25
    obtain ⟨rfl, Nq25, e25⟩ := hQ25
    have N25 := Fr.app N0 Nq25
    have p26 : ∀ t, Steps p.tables e below (T25.setTop (mkF m 12 #[.val (.int x0), .val (.int (3 : Int32)), .unset, .unset] [(.ref a_WIRE_CALL_IN)])) t → Steps p.tables e below (s₁.setTop (entryFrame m #[(.int x0)] maxLocals)) t := fun t k => p24 t (st25 _ k)
    have p27 : ∀ t, Steps p.tables e below (T25.setTop (mkF m 31 #[.val (.int x0), .val (.int (3 : Int32)), .val (.ref a_WIRE_CALL_IN), .val (.int (0 : Int32))] [(.ref a_WIRE_CALL_IN)])) t → Steps p.tables e below (s₁.setTop (entryFrame m #[(.int x0)] maxLocals)) t := fun t k => p26 t (by
      show Steps p.tables e below (T25.setTop (mkF m 12 #[.val (.int x0), .val (.int (3 : Int32)), .unset, .unset] [(.ref a_WIRE_CALL_IN)])) _
      refine XS.astoreN X25.here hx rfl (hb hby at_12) rfl rfl (l' := #[.val (.int x0), .val (.int (3 : Int32)), .val (.ref a_WIRE_CALL_IN), .unset]) rfl ?_
      show Steps p.tables e below (T25.setTop (mkF m 13 #[.val (.int x0), .val (.int (3 : Int32)), .val (.ref a_WIRE_CALL_IN), .unset] [])) _
      refine XS.iloadN X25.here hx rfl (hb hby at_13) rfl ?_
      show Steps p.tables e below (T25.setTop (mkF m 14 #[.val (.int x0), .val (.int (3 : Int32)), .val (.ref a_WIRE_CALL_IN), .unset] [(.int (3 : Int32))])) _
      refine XS.iconst X25.here hx rfl (hb hby at_14) ?_
      show Steps p.tables e below (T25.setTop (mkF m 15 #[.val (.int x0), .val (.int (3 : Int32)), .val (.ref a_WIRE_CALL_IN), .unset] [(.int (5 : Int32)), (.int (3 : Int32))])) _
      refine XS.icmpNo X25.here hx rfl (hb hby at_15) rfl ((feq (by decide)).1) ?_
      show Steps p.tables e below (T25.setTop (mkF m 18 #[.val (.int x0), .val (.int (3 : Int32)), .val (.ref a_WIRE_CALL_IN), .unset] [])) _
      refine XS.iloadN X25.here hx rfl (hb hby at_18) rfl ?_
      show Steps p.tables e below (T25.setTop (mkF m 19 #[.val (.int x0), .val (.int (3 : Int32)), .val (.ref a_WIRE_CALL_IN), .unset] [(.int (3 : Int32))])) _
      refine XS.bipush X25.here hx rfl (hb hby at_19) ?_
      show Steps p.tables e below (T25.setTop (mkF m 21 #[.val (.int x0), .val (.int (3 : Int32)), .val (.ref a_WIRE_CALL_IN), .unset] [(.int (6 : Int32)), (.int (3 : Int32))])) _
      refine XS.icmpYes X25.here hx rfl (pc0 := 21) (pc' := 28) rfl (hb hby at_21) rfl ((feq (by decide)).2) (by decide) (by decide) ?_
      show Steps p.tables e below (T25.setTop (mkF m 28 #[.val (.int x0), .val (.int (3 : Int32)), .val (.ref a_WIRE_CALL_IN), .unset] [])) _
      refine XS.iconst X25.here hx rfl (hb hby at_28) ?_
      show Steps p.tables e below (T25.setTop (mkF m 29 #[.val (.int x0), .val (.int (3 : Int32)), .val (.ref a_WIRE_CALL_IN), .unset] [(.int (0 : Int32))])) _
      refine XS.istoreN X25.here hx rfl (hb hby at_29) rfl (l' := #[.val (.int x0), .val (.int (3 : Int32)), .val (.ref a_WIRE_CALL_IN), .val (.int (0 : Int32))]) rfl ?_
      show Steps p.tables e below (T25.setTop (mkF m 30 #[.val (.int x0), .val (.int (3 : Int32)), .val (.ref a_WIRE_CALL_IN), .val (.int (0 : Int32))] [])) _
      refine XS.aloadN X25.here hx rfl (hb hby at_30) rfl rfl ?_
      exact k)
    obtain ⟨cq28, kq28, qa28, qb28, qc28⟩ := isOf hZ e25 E_WIRE_CALL_IN
    obtain ⟨_, _, ⟨T28, L28, k28, n28⟩, -, X28, ⟨Lc28, hQ28, l28, y28, z28⟩, st28⟩ := X25.virtualBack hx (y := (⟨"com/example/millpact/millpact/TimeRecord$Type", "dayOff", "()Z"⟩ : MethodName)) (z := (⟨"com/example/millpact/millpact/TimeRecord$Type", "dayOff", "()Z"⟩ : MethodName)) hown (mvT hZ (hw _ (List.mem_of_getElem? (i := 8) rfl))) (mvT hZ (hw _ (List.mem_of_getElem? (i := 9) rfl))) (notFace_of_selects (args := #[]) (mvT hZ (hw _ (List.mem_of_getElem? (i := 11) rfl)))) (mvT hZ (hw _ (List.mem_of_getElem? (i := 11) rfl))) (mvT hZ (hw _ (List.mem_of_getElem? (i := 10) rfl))) (by decide) (backOf (W := 0) (rmd3 l Z a0 hw []  a_WIRE_CALL_IN a_DAY_OFF a_DAY_OFF_TRADED h0 n0 Z0 S_DAY_OFF S_DAY_OFF_TRADED ne3_5 ne3_6) hZ (hw _ (List.mem_of_getElem? (i := 12) rfl)) (hw _ (List.mem_of_getElem? (i := 6) rfl)) (by decide) (by decide)) qa28 qc28 (g := (mkF m 31 #[.val (.int x0), .val (.int (3 : Int32)), .val (.ref a_WIRE_CALL_IN), .val (.int (0 : Int32))] [(.ref a_WIRE_CALL_IN)])) rfl (by rw [hml]; rfl) (Steps.refl _) (argsL := []) (rest := []) (lenOf pd0_1 rfl) rfl (by show 2 * 0 + _ ≤ _; exact Nat.le_of_eq rfl) (hb hby at_31) (fun _ _ => ⟨rfl, e25, (by decide : 0 + 0 ≤ _), (by decide : 0 + 0 ≤ _)⟩)
    dsimp only [Pt.U, Pt.locs, Pt.cells, Pt.slots] at X28 l28 y28 z28 st28 hQ28
    subst l28 y28 z28
    obtain ⟨rfl, Nq28, e28⟩ := hQ28
    have N28 := Fr.app N25 Nq28
    have p29 : ∀ t, Steps p.tables e below (T28.setTop (mkF m 34 #[.val (.int x0), .val (.int (3 : Int32)), .val (.ref a_WIRE_CALL_IN), .val (.int (0 : Int32))] [(.int (0 : Int32))])) t → Steps p.tables e below (s₁.setTop (entryFrame m #[(.int x0)] maxLocals)) t := fun t k => p27 t (st28.trans k)
    have p30 : ∀ t, Steps p.tables e below (T28.setTop (mkF m 43 #[.val (.int x0), .val (.int (3 : Int32)), .val (.ref a_WIRE_CALL_IN), .val (.int (0 : Int32))] [(.int (1 : Int32))])) t → Steps p.tables e below (s₁.setTop (entryFrame m #[(.int x0)] maxLocals)) t := fun t k => p29 t (by
      show Steps p.tables e below (T28.setTop (mkF m 34 #[.val (.int x0), .val (.int (3 : Int32)), .val (.ref a_WIRE_CALL_IN), .val (.int (0 : Int32))] [(.int (0 : Int32))])) _
      refine XS.iloadN X28.here hx rfl (hb hby at_34) rfl ?_
      show Steps p.tables e below (T28.setTop (mkF m 35 #[.val (.int x0), .val (.int (3 : Int32)), .val (.ref a_WIRE_CALL_IN), .val (.int (0 : Int32))] [(.int (0 : Int32)), (.int (0 : Int32))])) _
      refine XS.icmpNo X28.here hx rfl (hb hby at_35) rfl ((teq (rfl)).2) ?_
      show Steps p.tables e below (T28.setTop (mkF m 38 #[.val (.int x0), .val (.int (3 : Int32)), .val (.ref a_WIRE_CALL_IN), .val (.int (0 : Int32))] [])) _
      refine XS.iconst X28.here hx rfl (hb hby at_38) ?_
      show Steps p.tables e below (T28.setTop (mkF m 39 #[.val (.int x0), .val (.int (3 : Int32)), .val (.ref a_WIRE_CALL_IN), .val (.int (0 : Int32))] [(.int (1 : Int32))])) _
      refine XS.goto X28.here hx rfl (pc0 := 39) (pc' := 43) rfl (hb hby at_39) (by decide) (by decide) ?_
      exact k)
    obtain ⟨fs, hr, hrun, hended, hW, hsame⟩ := X28.leave (v := some (.int (1 : Int32))) (fun h => by rw [Bd.returns] at h; cases h)
    refine ⟨_, _, p30 _ ?_, hrun, hended, _, _, rfl, ?_, ⟨_, rfl⟩, hW, hsame.mono (by decide) (by decide)⟩
    · show Steps p.tables e below (T28.setTop (mkF m 43 #[.val (.int x0), .val (.int (3 : Int32)), .val (.ref a_WIRE_CALL_IN), .val (.int (0 : Int32))] [(.int (1 : Int32))])) _
      exact retN X28 hx (t := .boolean) Bd.returns (by simp) (hb hby at_43) hr
    · show Q0 Z x0 a_WORKED a_ABSENT a_CALL_IN a_WIRE_CALL_IN a_SENT_HOME a_DAY_OFF a_DAY_OFF_TRADED a_RECALL h0 n0 _ T28.heap _
      rw [e28]
      exact ⟨rfl, N28⟩
  · have p31 : ∀ t, Steps p.tables e below (s₁.setTop (mkF m 9 #[.val (.int x0), .val (.int (4 : Int32)), .unset, .unset] [(.int (4 : Int32))])) t → Steps p.tables e below (s₁.setTop (entryFrame m #[(.int x0)] maxLocals)) t := fun t k => p2 t (by
      show Steps p.tables e below (s₁.setTop (mkF m 8 #[.val (.int x0), .val (.int (4 : Int32)), .unset, .unset] [])) _
      refine XS.iloadN X0.here hx rfl (hb hby at_8) rfl ?_
      exact k)
    obtain ⟨_, _, ⟨T32, L32, k32, n32⟩, -, X32, ⟨Lc32, hQ32, l32, y32, z32⟩, st32⟩ := Jvm.LawKit.callS X0 hx (y := (⟨"com/example/millpact/millpact/TypeDayOffPinLaw", "pick", "(I)Lcom/example/millpact/millpact/TimeRecord$Type;"⟩ : MethodName)) hown (mvT hZ (hw _ (List.mem_of_getElem? (i := 1) rfl))) (mvT hZ (hw _ (List.mem_of_getElem? (i := 2) rfl))) (mvT hZ (hw _ (List.mem_of_getElem? (i := 3) rfl))) (mvT hZ (hw _ (List.mem_of_getElem? (i := 4) rfl))) (by decide) (backOf (W := 0) (rmp4 l Z a0 hw []  a_SENT_HOME h0 n0 Z0 S_SENT_HOME) hZ (hw _ (List.mem_of_getElem? (i := 4) rfl)) (hw _ (List.mem_of_getElem? (i := 3) rfl)) (by decide) (by decide)) (g := (mkF m 9 #[.val (.int x0), .val (.int (4 : Int32)), .unset, .unset] [(.int (4 : Int32))])) rfl (by rw [hml]; rfl) (argsL := [(.int (4 : Int32))]) (rest := []) (lenOf pd0_0 rfl) rfl (by show 2 * 0 + _ ≤ _; exact Nat.le_of_eq rfl) (hb hby at_9) (fun _ _ => ⟨rfl, e0, (by decide : 0 + 0 ≤ _), (by decide : 0 + 0 ≤ _)⟩)
    dsimp only [Pt.U, Pt.locs, Pt.cells, Pt.slots] at X32 l32 y32 z32 st32 hQ32
    subst l32 y32 z32
    obtain ⟨rfl, Nq32, e32⟩ := hQ32
    have N32 := Fr.app N0 Nq32
    have p33 : ∀ t, Steps p.tables e below (T32.setTop (mkF m 12 #[.val (.int x0), .val (.int (4 : Int32)), .unset, .unset] [(.ref a_SENT_HOME)])) t → Steps p.tables e below (s₁.setTop (entryFrame m #[(.int x0)] maxLocals)) t := fun t k => p31 t (st32 _ k)
    have p34 : ∀ t, Steps p.tables e below (T32.setTop (mkF m 31 #[.val (.int x0), .val (.int (4 : Int32)), .val (.ref a_SENT_HOME), .val (.int (0 : Int32))] [(.ref a_SENT_HOME)])) t → Steps p.tables e below (s₁.setTop (entryFrame m #[(.int x0)] maxLocals)) t := fun t k => p33 t (by
      show Steps p.tables e below (T32.setTop (mkF m 12 #[.val (.int x0), .val (.int (4 : Int32)), .unset, .unset] [(.ref a_SENT_HOME)])) _
      refine XS.astoreN X32.here hx rfl (hb hby at_12) rfl rfl (l' := #[.val (.int x0), .val (.int (4 : Int32)), .val (.ref a_SENT_HOME), .unset]) rfl ?_
      show Steps p.tables e below (T32.setTop (mkF m 13 #[.val (.int x0), .val (.int (4 : Int32)), .val (.ref a_SENT_HOME), .unset] [])) _
      refine XS.iloadN X32.here hx rfl (hb hby at_13) rfl ?_
      show Steps p.tables e below (T32.setTop (mkF m 14 #[.val (.int x0), .val (.int (4 : Int32)), .val (.ref a_SENT_HOME), .unset] [(.int (4 : Int32))])) _
      refine XS.iconst X32.here hx rfl (hb hby at_14) ?_
      show Steps p.tables e below (T32.setTop (mkF m 15 #[.val (.int x0), .val (.int (4 : Int32)), .val (.ref a_SENT_HOME), .unset] [(.int (5 : Int32)), (.int (4 : Int32))])) _
      refine XS.icmpNo X32.here hx rfl (hb hby at_15) rfl ((feq (by decide)).1) ?_
      show Steps p.tables e below (T32.setTop (mkF m 18 #[.val (.int x0), .val (.int (4 : Int32)), .val (.ref a_SENT_HOME), .unset] [])) _
      refine XS.iloadN X32.here hx rfl (hb hby at_18) rfl ?_
      show Steps p.tables e below (T32.setTop (mkF m 19 #[.val (.int x0), .val (.int (4 : Int32)), .val (.ref a_SENT_HOME), .unset] [(.int (4 : Int32))])) _
      refine XS.bipush X32.here hx rfl (hb hby at_19) ?_
      show Steps p.tables e below (T32.setTop (mkF m 21 #[.val (.int x0), .val (.int (4 : Int32)), .val (.ref a_SENT_HOME), .unset] [(.int (6 : Int32)), (.int (4 : Int32))])) _
      refine XS.icmpYes X32.here hx rfl (pc0 := 21) (pc' := 28) rfl (hb hby at_21) rfl ((feq (by decide)).2) (by decide) (by decide) ?_
      show Steps p.tables e below (T32.setTop (mkF m 28 #[.val (.int x0), .val (.int (4 : Int32)), .val (.ref a_SENT_HOME), .unset] [])) _
      refine XS.iconst X32.here hx rfl (hb hby at_28) ?_
      show Steps p.tables e below (T32.setTop (mkF m 29 #[.val (.int x0), .val (.int (4 : Int32)), .val (.ref a_SENT_HOME), .unset] [(.int (0 : Int32))])) _
      refine XS.istoreN X32.here hx rfl (hb hby at_29) rfl (l' := #[.val (.int x0), .val (.int (4 : Int32)), .val (.ref a_SENT_HOME), .val (.int (0 : Int32))]) rfl ?_
      show Steps p.tables e below (T32.setTop (mkF m 30 #[.val (.int x0), .val (.int (4 : Int32)), .val (.ref a_SENT_HOME), .val (.int (0 : Int32))] [])) _
      refine XS.aloadN X32.here hx rfl (hb hby at_30) rfl rfl ?_
      exact k)
    obtain ⟨cq35, kq35, qa35, qb35, qc35⟩ := isOf hZ e32 E_SENT_HOME
    obtain ⟨_, _, ⟨T35, L35, k35, n35⟩, -, X35, ⟨Lc35, hQ35, l35, y35, z35⟩, st35⟩ := X32.virtualBack hx (y := (⟨"com/example/millpact/millpact/TimeRecord$Type", "dayOff", "()Z"⟩ : MethodName)) (z := (⟨"com/example/millpact/millpact/TimeRecord$Type", "dayOff", "()Z"⟩ : MethodName)) hown (mvT hZ (hw _ (List.mem_of_getElem? (i := 8) rfl))) (mvT hZ (hw _ (List.mem_of_getElem? (i := 9) rfl))) (notFace_of_selects (args := #[]) (mvT hZ (hw _ (List.mem_of_getElem? (i := 11) rfl)))) (mvT hZ (hw _ (List.mem_of_getElem? (i := 11) rfl))) (mvT hZ (hw _ (List.mem_of_getElem? (i := 10) rfl))) (by decide) (backOf (W := 0) (rmd3 l Z a0 hw []  a_SENT_HOME a_DAY_OFF a_DAY_OFF_TRADED h0 n0 Z0 S_DAY_OFF S_DAY_OFF_TRADED ne4_5 ne4_6) hZ (hw _ (List.mem_of_getElem? (i := 12) rfl)) (hw _ (List.mem_of_getElem? (i := 6) rfl)) (by decide) (by decide)) qa35 qc35 (g := (mkF m 31 #[.val (.int x0), .val (.int (4 : Int32)), .val (.ref a_SENT_HOME), .val (.int (0 : Int32))] [(.ref a_SENT_HOME)])) rfl (by rw [hml]; rfl) (Steps.refl _) (argsL := []) (rest := []) (lenOf pd0_1 rfl) rfl (by show 2 * 0 + _ ≤ _; exact Nat.le_of_eq rfl) (hb hby at_31) (fun _ _ => ⟨rfl, e32, (by decide : 0 + 0 ≤ _), (by decide : 0 + 0 ≤ _)⟩)
    dsimp only [Pt.U, Pt.locs, Pt.cells, Pt.slots] at X35 l35 y35 z35 st35 hQ35
    subst l35 y35 z35
    obtain ⟨rfl, Nq35, e35⟩ := hQ35
    have N35 := Fr.app N32 Nq35
    have p36 : ∀ t, Steps p.tables e below (T35.setTop (mkF m 34 #[.val (.int x0), .val (.int (4 : Int32)), .val (.ref a_SENT_HOME), .val (.int (0 : Int32))] [(.int (0 : Int32))])) t → Steps p.tables e below (s₁.setTop (entryFrame m #[(.int x0)] maxLocals)) t := fun t k => p34 t (st35.trans k)
    have p37 : ∀ t, Steps p.tables e below (T35.setTop (mkF m 43 #[.val (.int x0), .val (.int (4 : Int32)), .val (.ref a_SENT_HOME), .val (.int (0 : Int32))] [(.int (1 : Int32))])) t → Steps p.tables e below (s₁.setTop (entryFrame m #[(.int x0)] maxLocals)) t := fun t k => p36 t (by
      show Steps p.tables e below (T35.setTop (mkF m 34 #[.val (.int x0), .val (.int (4 : Int32)), .val (.ref a_SENT_HOME), .val (.int (0 : Int32))] [(.int (0 : Int32))])) _
      refine XS.iloadN X35.here hx rfl (hb hby at_34) rfl ?_
      show Steps p.tables e below (T35.setTop (mkF m 35 #[.val (.int x0), .val (.int (4 : Int32)), .val (.ref a_SENT_HOME), .val (.int (0 : Int32))] [(.int (0 : Int32)), (.int (0 : Int32))])) _
      refine XS.icmpNo X35.here hx rfl (hb hby at_35) rfl ((teq (rfl)).2) ?_
      show Steps p.tables e below (T35.setTop (mkF m 38 #[.val (.int x0), .val (.int (4 : Int32)), .val (.ref a_SENT_HOME), .val (.int (0 : Int32))] [])) _
      refine XS.iconst X35.here hx rfl (hb hby at_38) ?_
      show Steps p.tables e below (T35.setTop (mkF m 39 #[.val (.int x0), .val (.int (4 : Int32)), .val (.ref a_SENT_HOME), .val (.int (0 : Int32))] [(.int (1 : Int32))])) _
      refine XS.goto X35.here hx rfl (pc0 := 39) (pc' := 43) rfl (hb hby at_39) (by decide) (by decide) ?_
      exact k)
    obtain ⟨fs, hr, hrun, hended, hW, hsame⟩ := X35.leave (v := some (.int (1 : Int32))) (fun h => by rw [Bd.returns] at h; cases h)
    refine ⟨_, _, p37 _ ?_, hrun, hended, _, _, rfl, ?_, ⟨_, rfl⟩, hW, hsame.mono (by decide) (by decide)⟩
    · show Steps p.tables e below (T35.setTop (mkF m 43 #[.val (.int x0), .val (.int (4 : Int32)), .val (.ref a_SENT_HOME), .val (.int (0 : Int32))] [(.int (1 : Int32))])) _
      exact retN X35 hx (t := .boolean) Bd.returns (by simp) (hb hby at_43) hr
    · show Q0 Z x0 a_WORKED a_ABSENT a_CALL_IN a_WIRE_CALL_IN a_SENT_HOME a_DAY_OFF a_DAY_OFF_TRADED a_RECALL h0 n0 _ T35.heap _
      rw [e35]
      exact ⟨rfl, N35⟩
  · have p38 : ∀ t, Steps p.tables e below (s₁.setTop (mkF m 9 #[.val (.int x0), .val (.int (5 : Int32)), .unset, .unset] [(.int (5 : Int32))])) t → Steps p.tables e below (s₁.setTop (entryFrame m #[(.int x0)] maxLocals)) t := fun t k => p2 t (by
      show Steps p.tables e below (s₁.setTop (mkF m 8 #[.val (.int x0), .val (.int (5 : Int32)), .unset, .unset] [])) _
      refine XS.iloadN X0.here hx rfl (hb hby at_8) rfl ?_
      exact k)
    obtain ⟨_, _, ⟨T39, L39, k39, n39⟩, -, X39, ⟨Lc39, hQ39, l39, y39, z39⟩, st39⟩ := Jvm.LawKit.callS X0 hx (y := (⟨"com/example/millpact/millpact/TypeDayOffPinLaw", "pick", "(I)Lcom/example/millpact/millpact/TimeRecord$Type;"⟩ : MethodName)) hown (mvT hZ (hw _ (List.mem_of_getElem? (i := 1) rfl))) (mvT hZ (hw _ (List.mem_of_getElem? (i := 2) rfl))) (mvT hZ (hw _ (List.mem_of_getElem? (i := 3) rfl))) (mvT hZ (hw _ (List.mem_of_getElem? (i := 4) rfl))) (by decide) (backOf (W := 0) (rmp5 l Z a0 hw []  a_DAY_OFF h0 n0 Z0 S_DAY_OFF) hZ (hw _ (List.mem_of_getElem? (i := 4) rfl)) (hw _ (List.mem_of_getElem? (i := 3) rfl)) (by decide) (by decide)) (g := (mkF m 9 #[.val (.int x0), .val (.int (5 : Int32)), .unset, .unset] [(.int (5 : Int32))])) rfl (by rw [hml]; rfl) (argsL := [(.int (5 : Int32))]) (rest := []) (lenOf pd0_0 rfl) rfl (by show 2 * 0 + _ ≤ _; exact Nat.le_of_eq rfl) (hb hby at_9) (fun _ _ => ⟨rfl, e0, (by decide : 0 + 0 ≤ _), (by decide : 0 + 0 ≤ _)⟩)
    dsimp only [Pt.U, Pt.locs, Pt.cells, Pt.slots] at X39 l39 y39 z39 st39 hQ39
    subst l39 y39 z39
    obtain ⟨rfl, Nq39, e39⟩ := hQ39
    have N39 := Fr.app N0 Nq39
    have p40 : ∀ t, Steps p.tables e below (T39.setTop (mkF m 12 #[.val (.int x0), .val (.int (5 : Int32)), .unset, .unset] [(.ref a_DAY_OFF)])) t → Steps p.tables e below (s₁.setTop (entryFrame m #[(.int x0)] maxLocals)) t := fun t k => p38 t (st39 _ k)
    have p41 : ∀ t, Steps p.tables e below (T39.setTop (mkF m 31 #[.val (.int x0), .val (.int (5 : Int32)), .val (.ref a_DAY_OFF), .val (.int (1 : Int32))] [(.ref a_DAY_OFF)])) t → Steps p.tables e below (s₁.setTop (entryFrame m #[(.int x0)] maxLocals)) t := fun t k => p40 t (by
      show Steps p.tables e below (T39.setTop (mkF m 12 #[.val (.int x0), .val (.int (5 : Int32)), .unset, .unset] [(.ref a_DAY_OFF)])) _
      refine XS.astoreN X39.here hx rfl (hb hby at_12) rfl rfl (l' := #[.val (.int x0), .val (.int (5 : Int32)), .val (.ref a_DAY_OFF), .unset]) rfl ?_
      show Steps p.tables e below (T39.setTop (mkF m 13 #[.val (.int x0), .val (.int (5 : Int32)), .val (.ref a_DAY_OFF), .unset] [])) _
      refine XS.iloadN X39.here hx rfl (hb hby at_13) rfl ?_
      show Steps p.tables e below (T39.setTop (mkF m 14 #[.val (.int x0), .val (.int (5 : Int32)), .val (.ref a_DAY_OFF), .unset] [(.int (5 : Int32))])) _
      refine XS.iconst X39.here hx rfl (hb hby at_14) ?_
      show Steps p.tables e below (T39.setTop (mkF m 15 #[.val (.int x0), .val (.int (5 : Int32)), .val (.ref a_DAY_OFF), .unset] [(.int (5 : Int32)), (.int (5 : Int32))])) _
      refine XS.icmpYes X39.here hx rfl (pc0 := 15) (pc' := 24) rfl (hb hby at_15) rfl ((teq (rfl)).1) (by decide) (by decide) ?_
      show Steps p.tables e below (T39.setTop (mkF m 24 #[.val (.int x0), .val (.int (5 : Int32)), .val (.ref a_DAY_OFF), .unset] [])) _
      refine XS.iconst X39.here hx rfl (hb hby at_24) ?_
      show Steps p.tables e below (T39.setTop (mkF m 25 #[.val (.int x0), .val (.int (5 : Int32)), .val (.ref a_DAY_OFF), .unset] [(.int (1 : Int32))])) _
      refine XS.goto X39.here hx rfl (pc0 := 25) (pc' := 29) rfl (hb hby at_25) (by decide) (by decide) ?_
      show Steps p.tables e below (T39.setTop (mkF m 29 #[.val (.int x0), .val (.int (5 : Int32)), .val (.ref a_DAY_OFF), .unset] [(.int (1 : Int32))])) _
      refine XS.istoreN X39.here hx rfl (hb hby at_29) rfl (l' := #[.val (.int x0), .val (.int (5 : Int32)), .val (.ref a_DAY_OFF), .val (.int (1 : Int32))]) rfl ?_
      show Steps p.tables e below (T39.setTop (mkF m 30 #[.val (.int x0), .val (.int (5 : Int32)), .val (.ref a_DAY_OFF), .val (.int (1 : Int32))] [])) _
      refine XS.aloadN X39.here hx rfl (hb hby at_30) rfl rfl ?_
      exact k)
    obtain ⟨cq42, kq42, qa42, qb42, qc42⟩ := isOf hZ e39 E_DAY_OFF
    obtain ⟨_, _, ⟨T42, L42, k42, n42⟩, -, X42, ⟨Lc42, hQ42, l42, y42, z42⟩, st42⟩ := X39.virtualBack hx (y := (⟨"com/example/millpact/millpact/TimeRecord$Type", "dayOff", "()Z"⟩ : MethodName)) (z := (⟨"com/example/millpact/millpact/TimeRecord$Type", "dayOff", "()Z"⟩ : MethodName)) hown (mvT hZ (hw _ (List.mem_of_getElem? (i := 8) rfl))) (mvT hZ (hw _ (List.mem_of_getElem? (i := 9) rfl))) (notFace_of_selects (args := #[]) (mvT hZ (hw _ (List.mem_of_getElem? (i := 11) rfl)))) (mvT hZ (hw _ (List.mem_of_getElem? (i := 11) rfl))) (mvT hZ (hw _ (List.mem_of_getElem? (i := 10) rfl))) (by decide) (backOf (W := 0) (rmd1 l Z a0 hw []  a_DAY_OFF a_DAY_OFF_TRADED h0 n0 Z0 S_DAY_OFF S_DAY_OFF_TRADED) hZ (hw _ (List.mem_of_getElem? (i := 12) rfl)) (hw _ (List.mem_of_getElem? (i := 6) rfl)) (by decide) (by decide)) qa42 qc42 (g := (mkF m 31 #[.val (.int x0), .val (.int (5 : Int32)), .val (.ref a_DAY_OFF), .val (.int (1 : Int32))] [(.ref a_DAY_OFF)])) rfl (by rw [hml]; rfl) (Steps.refl _) (argsL := []) (rest := []) (lenOf pd0_1 rfl) rfl (by show 2 * 0 + _ ≤ _; exact Nat.le_of_eq rfl) (hb hby at_31) (fun _ _ => ⟨rfl, e39, (by decide : 0 + 0 ≤ _), (by decide : 0 + 0 ≤ _)⟩)
    dsimp only [Pt.U, Pt.locs, Pt.cells, Pt.slots] at X42 l42 y42 z42 st42 hQ42
    subst l42 y42 z42
    obtain ⟨rfl, Nq42, e42⟩ := hQ42
    have N42 := Fr.app N39 Nq42
    have p43 : ∀ t, Steps p.tables e below (T42.setTop (mkF m 34 #[.val (.int x0), .val (.int (5 : Int32)), .val (.ref a_DAY_OFF), .val (.int (1 : Int32))] [(.int (1 : Int32))])) t → Steps p.tables e below (s₁.setTop (entryFrame m #[(.int x0)] maxLocals)) t := fun t k => p41 t (st42.trans k)
    have p44 : ∀ t, Steps p.tables e below (T42.setTop (mkF m 43 #[.val (.int x0), .val (.int (5 : Int32)), .val (.ref a_DAY_OFF), .val (.int (1 : Int32))] [(.int (1 : Int32))])) t → Steps p.tables e below (s₁.setTop (entryFrame m #[(.int x0)] maxLocals)) t := fun t k => p43 t (by
      show Steps p.tables e below (T42.setTop (mkF m 34 #[.val (.int x0), .val (.int (5 : Int32)), .val (.ref a_DAY_OFF), .val (.int (1 : Int32))] [(.int (1 : Int32))])) _
      refine XS.iloadN X42.here hx rfl (hb hby at_34) rfl ?_
      show Steps p.tables e below (T42.setTop (mkF m 35 #[.val (.int x0), .val (.int (5 : Int32)), .val (.ref a_DAY_OFF), .val (.int (1 : Int32))] [(.int (1 : Int32)), (.int (1 : Int32))])) _
      refine XS.icmpNo X42.here hx rfl (hb hby at_35) rfl ((teq (rfl)).2) ?_
      show Steps p.tables e below (T42.setTop (mkF m 38 #[.val (.int x0), .val (.int (5 : Int32)), .val (.ref a_DAY_OFF), .val (.int (1 : Int32))] [])) _
      refine XS.iconst X42.here hx rfl (hb hby at_38) ?_
      show Steps p.tables e below (T42.setTop (mkF m 39 #[.val (.int x0), .val (.int (5 : Int32)), .val (.ref a_DAY_OFF), .val (.int (1 : Int32))] [(.int (1 : Int32))])) _
      refine XS.goto X42.here hx rfl (pc0 := 39) (pc' := 43) rfl (hb hby at_39) (by decide) (by decide) ?_
      exact k)
    obtain ⟨fs, hr, hrun, hended, hW, hsame⟩ := X42.leave (v := some (.int (1 : Int32))) (fun h => by rw [Bd.returns] at h; cases h)
    refine ⟨_, _, p44 _ ?_, hrun, hended, _, _, rfl, ?_, ⟨_, rfl⟩, hW, hsame.mono (by decide) (by decide)⟩
    · show Steps p.tables e below (T42.setTop (mkF m 43 #[.val (.int x0), .val (.int (5 : Int32)), .val (.ref a_DAY_OFF), .val (.int (1 : Int32))] [(.int (1 : Int32))])) _
      exact retN X42 hx (t := .boolean) Bd.returns (by simp) (hb hby at_43) hr
    · show Q0 Z x0 a_WORKED a_ABSENT a_CALL_IN a_WIRE_CALL_IN a_SENT_HOME a_DAY_OFF a_DAY_OFF_TRADED a_RECALL h0 n0 _ T42.heap _
      rw [e42]
      exact ⟨rfl, N42⟩
  · have p45 : ∀ t, Steps p.tables e below (s₁.setTop (mkF m 9 #[.val (.int x0), .val (.int (6 : Int32)), .unset, .unset] [(.int (6 : Int32))])) t → Steps p.tables e below (s₁.setTop (entryFrame m #[(.int x0)] maxLocals)) t := fun t k => p2 t (by
      show Steps p.tables e below (s₁.setTop (mkF m 8 #[.val (.int x0), .val (.int (6 : Int32)), .unset, .unset] [])) _
      refine XS.iloadN X0.here hx rfl (hb hby at_8) rfl ?_
      exact k)
    obtain ⟨_, _, ⟨T46, L46, k46, n46⟩, -, X46, ⟨Lc46, hQ46, l46, y46, z46⟩, st46⟩ := Jvm.LawKit.callS X0 hx (y := (⟨"com/example/millpact/millpact/TypeDayOffPinLaw", "pick", "(I)Lcom/example/millpact/millpact/TimeRecord$Type;"⟩ : MethodName)) hown (mvT hZ (hw _ (List.mem_of_getElem? (i := 1) rfl))) (mvT hZ (hw _ (List.mem_of_getElem? (i := 2) rfl))) (mvT hZ (hw _ (List.mem_of_getElem? (i := 3) rfl))) (mvT hZ (hw _ (List.mem_of_getElem? (i := 4) rfl))) (by decide) (backOf (W := 0) (rmp6 l Z a0 hw []  a_DAY_OFF_TRADED h0 n0 Z0 S_DAY_OFF_TRADED) hZ (hw _ (List.mem_of_getElem? (i := 4) rfl)) (hw _ (List.mem_of_getElem? (i := 3) rfl)) (by decide) (by decide)) (g := (mkF m 9 #[.val (.int x0), .val (.int (6 : Int32)), .unset, .unset] [(.int (6 : Int32))])) rfl (by rw [hml]; rfl) (argsL := [(.int (6 : Int32))]) (rest := []) (lenOf pd0_0 rfl) rfl (by show 2 * 0 + _ ≤ _; exact Nat.le_of_eq rfl) (hb hby at_9) (fun _ _ => ⟨rfl, e0, (by decide : 0 + 0 ≤ _), (by decide : 0 + 0 ≤ _)⟩)
    dsimp only [Pt.U, Pt.locs, Pt.cells, Pt.slots] at X46 l46 y46 z46 st46 hQ46
    subst l46 y46 z46
    obtain ⟨rfl, Nq46, e46⟩ := hQ46
    have N46 := Fr.app N0 Nq46
    have p47 : ∀ t, Steps p.tables e below (T46.setTop (mkF m 12 #[.val (.int x0), .val (.int (6 : Int32)), .unset, .unset] [(.ref a_DAY_OFF_TRADED)])) t → Steps p.tables e below (s₁.setTop (entryFrame m #[(.int x0)] maxLocals)) t := fun t k => p45 t (st46 _ k)
    have p48 : ∀ t, Steps p.tables e below (T46.setTop (mkF m 31 #[.val (.int x0), .val (.int (6 : Int32)), .val (.ref a_DAY_OFF_TRADED), .val (.int (1 : Int32))] [(.ref a_DAY_OFF_TRADED)])) t → Steps p.tables e below (s₁.setTop (entryFrame m #[(.int x0)] maxLocals)) t := fun t k => p47 t (by
      show Steps p.tables e below (T46.setTop (mkF m 12 #[.val (.int x0), .val (.int (6 : Int32)), .unset, .unset] [(.ref a_DAY_OFF_TRADED)])) _
      refine XS.astoreN X46.here hx rfl (hb hby at_12) rfl rfl (l' := #[.val (.int x0), .val (.int (6 : Int32)), .val (.ref a_DAY_OFF_TRADED), .unset]) rfl ?_
      show Steps p.tables e below (T46.setTop (mkF m 13 #[.val (.int x0), .val (.int (6 : Int32)), .val (.ref a_DAY_OFF_TRADED), .unset] [])) _
      refine XS.iloadN X46.here hx rfl (hb hby at_13) rfl ?_
      show Steps p.tables e below (T46.setTop (mkF m 14 #[.val (.int x0), .val (.int (6 : Int32)), .val (.ref a_DAY_OFF_TRADED), .unset] [(.int (6 : Int32))])) _
      refine XS.iconst X46.here hx rfl (hb hby at_14) ?_
      show Steps p.tables e below (T46.setTop (mkF m 15 #[.val (.int x0), .val (.int (6 : Int32)), .val (.ref a_DAY_OFF_TRADED), .unset] [(.int (5 : Int32)), (.int (6 : Int32))])) _
      refine XS.icmpNo X46.here hx rfl (hb hby at_15) rfl ((feq (by decide)).1) ?_
      show Steps p.tables e below (T46.setTop (mkF m 18 #[.val (.int x0), .val (.int (6 : Int32)), .val (.ref a_DAY_OFF_TRADED), .unset] [])) _
      refine XS.iloadN X46.here hx rfl (hb hby at_18) rfl ?_
      show Steps p.tables e below (T46.setTop (mkF m 19 #[.val (.int x0), .val (.int (6 : Int32)), .val (.ref a_DAY_OFF_TRADED), .unset] [(.int (6 : Int32))])) _
      refine XS.bipush X46.here hx rfl (hb hby at_19) ?_
      show Steps p.tables e below (T46.setTop (mkF m 21 #[.val (.int x0), .val (.int (6 : Int32)), .val (.ref a_DAY_OFF_TRADED), .unset] [(.int (6 : Int32)), (.int (6 : Int32))])) _
      refine XS.icmpNo X46.here hx rfl (hb hby at_21) rfl ((teq (rfl)).2) ?_
      show Steps p.tables e below (T46.setTop (mkF m 24 #[.val (.int x0), .val (.int (6 : Int32)), .val (.ref a_DAY_OFF_TRADED), .unset] [])) _
      refine XS.iconst X46.here hx rfl (hb hby at_24) ?_
      show Steps p.tables e below (T46.setTop (mkF m 25 #[.val (.int x0), .val (.int (6 : Int32)), .val (.ref a_DAY_OFF_TRADED), .unset] [(.int (1 : Int32))])) _
      refine XS.goto X46.here hx rfl (pc0 := 25) (pc' := 29) rfl (hb hby at_25) (by decide) (by decide) ?_
      show Steps p.tables e below (T46.setTop (mkF m 29 #[.val (.int x0), .val (.int (6 : Int32)), .val (.ref a_DAY_OFF_TRADED), .unset] [(.int (1 : Int32))])) _
      refine XS.istoreN X46.here hx rfl (hb hby at_29) rfl (l' := #[.val (.int x0), .val (.int (6 : Int32)), .val (.ref a_DAY_OFF_TRADED), .val (.int (1 : Int32))]) rfl ?_
      show Steps p.tables e below (T46.setTop (mkF m 30 #[.val (.int x0), .val (.int (6 : Int32)), .val (.ref a_DAY_OFF_TRADED), .val (.int (1 : Int32))] [])) _
      refine XS.aloadN X46.here hx rfl (hb hby at_30) rfl rfl ?_
      exact k)
    obtain ⟨cq49, kq49, qa49, qb49, qc49⟩ := isOf hZ e46 E_DAY_OFF_TRADED
    obtain ⟨_, _, ⟨T49, L49, k49, n49⟩, -, X49, ⟨Lc49, hQ49, l49, y49, z49⟩, st49⟩ := X46.virtualBack hx (y := (⟨"com/example/millpact/millpact/TimeRecord$Type", "dayOff", "()Z"⟩ : MethodName)) (z := (⟨"com/example/millpact/millpact/TimeRecord$Type", "dayOff", "()Z"⟩ : MethodName)) hown (mvT hZ (hw _ (List.mem_of_getElem? (i := 8) rfl))) (mvT hZ (hw _ (List.mem_of_getElem? (i := 9) rfl))) (notFace_of_selects (args := #[]) (mvT hZ (hw _ (List.mem_of_getElem? (i := 11) rfl)))) (mvT hZ (hw _ (List.mem_of_getElem? (i := 11) rfl))) (mvT hZ (hw _ (List.mem_of_getElem? (i := 10) rfl))) (by decide) (backOf (W := 0) (rmd2 l Z a0 hw []  a_DAY_OFF_TRADED a_DAY_OFF h0 n0 Z0 S_DAY_OFF S_DAY_OFF_TRADED ne6_5) hZ (hw _ (List.mem_of_getElem? (i := 12) rfl)) (hw _ (List.mem_of_getElem? (i := 6) rfl)) (by decide) (by decide)) qa49 qc49 (g := (mkF m 31 #[.val (.int x0), .val (.int (6 : Int32)), .val (.ref a_DAY_OFF_TRADED), .val (.int (1 : Int32))] [(.ref a_DAY_OFF_TRADED)])) rfl (by rw [hml]; rfl) (Steps.refl _) (argsL := []) (rest := []) (lenOf pd0_1 rfl) rfl (by show 2 * 0 + _ ≤ _; exact Nat.le_of_eq rfl) (hb hby at_31) (fun _ _ => ⟨rfl, e46, (by decide : 0 + 0 ≤ _), (by decide : 0 + 0 ≤ _)⟩)
    dsimp only [Pt.U, Pt.locs, Pt.cells, Pt.slots] at X49 l49 y49 z49 st49 hQ49
    subst l49 y49 z49
    obtain ⟨rfl, Nq49, e49⟩ := hQ49
    have N49 := Fr.app N46 Nq49
    have p50 : ∀ t, Steps p.tables e below (T49.setTop (mkF m 34 #[.val (.int x0), .val (.int (6 : Int32)), .val (.ref a_DAY_OFF_TRADED), .val (.int (1 : Int32))] [(.int (1 : Int32))])) t → Steps p.tables e below (s₁.setTop (entryFrame m #[(.int x0)] maxLocals)) t := fun t k => p48 t (st49.trans k)
    have p51 : ∀ t, Steps p.tables e below (T49.setTop (mkF m 43 #[.val (.int x0), .val (.int (6 : Int32)), .val (.ref a_DAY_OFF_TRADED), .val (.int (1 : Int32))] [(.int (1 : Int32))])) t → Steps p.tables e below (s₁.setTop (entryFrame m #[(.int x0)] maxLocals)) t := fun t k => p50 t (by
      show Steps p.tables e below (T49.setTop (mkF m 34 #[.val (.int x0), .val (.int (6 : Int32)), .val (.ref a_DAY_OFF_TRADED), .val (.int (1 : Int32))] [(.int (1 : Int32))])) _
      refine XS.iloadN X49.here hx rfl (hb hby at_34) rfl ?_
      show Steps p.tables e below (T49.setTop (mkF m 35 #[.val (.int x0), .val (.int (6 : Int32)), .val (.ref a_DAY_OFF_TRADED), .val (.int (1 : Int32))] [(.int (1 : Int32)), (.int (1 : Int32))])) _
      refine XS.icmpNo X49.here hx rfl (hb hby at_35) rfl ((teq (rfl)).2) ?_
      show Steps p.tables e below (T49.setTop (mkF m 38 #[.val (.int x0), .val (.int (6 : Int32)), .val (.ref a_DAY_OFF_TRADED), .val (.int (1 : Int32))] [])) _
      refine XS.iconst X49.here hx rfl (hb hby at_38) ?_
      show Steps p.tables e below (T49.setTop (mkF m 39 #[.val (.int x0), .val (.int (6 : Int32)), .val (.ref a_DAY_OFF_TRADED), .val (.int (1 : Int32))] [(.int (1 : Int32))])) _
      refine XS.goto X49.here hx rfl (pc0 := 39) (pc' := 43) rfl (hb hby at_39) (by decide) (by decide) ?_
      exact k)
    obtain ⟨fs, hr, hrun, hended, hW, hsame⟩ := X49.leave (v := some (.int (1 : Int32))) (fun h => by rw [Bd.returns] at h; cases h)
    refine ⟨_, _, p51 _ ?_, hrun, hended, _, _, rfl, ?_, ⟨_, rfl⟩, hW, hsame.mono (by decide) (by decide)⟩
    · show Steps p.tables e below (T49.setTop (mkF m 43 #[.val (.int x0), .val (.int (6 : Int32)), .val (.ref a_DAY_OFF_TRADED), .val (.int (1 : Int32))] [(.int (1 : Int32))])) _
      exact retN X49 hx (t := .boolean) Bd.returns (by simp) (hb hby at_43) hr
    · show Q0 Z x0 a_WORKED a_ABSENT a_CALL_IN a_WIRE_CALL_IN a_SENT_HOME a_DAY_OFF a_DAY_OFF_TRADED a_RECALL h0 n0 _ T49.heap _
      rw [e49]
      exact ⟨rfl, N49⟩
  · have p52 : ∀ t, Steps p.tables e below (s₁.setTop (mkF m 9 #[.val (.int x0), .val (.int (7 : Int32)), .unset, .unset] [(.int (7 : Int32))])) t → Steps p.tables e below (s₁.setTop (entryFrame m #[(.int x0)] maxLocals)) t := fun t k => p2 t (by
      show Steps p.tables e below (s₁.setTop (mkF m 8 #[.val (.int x0), .val (.int (7 : Int32)), .unset, .unset] [])) _
      refine XS.iloadN X0.here hx rfl (hb hby at_8) rfl ?_
      exact k)
    obtain ⟨_, _, ⟨T53, L53, k53, n53⟩, -, X53, ⟨Lc53, hQ53, l53, y53, z53⟩, st53⟩ := Jvm.LawKit.callS X0 hx (y := (⟨"com/example/millpact/millpact/TypeDayOffPinLaw", "pick", "(I)Lcom/example/millpact/millpact/TimeRecord$Type;"⟩ : MethodName)) hown (mvT hZ (hw _ (List.mem_of_getElem? (i := 1) rfl))) (mvT hZ (hw _ (List.mem_of_getElem? (i := 2) rfl))) (mvT hZ (hw _ (List.mem_of_getElem? (i := 3) rfl))) (mvT hZ (hw _ (List.mem_of_getElem? (i := 4) rfl))) (by decide) (backOf (W := 0) (rmp7 l Z a0 hw []  a_RECALL h0 n0 Z0 S_RECALL) hZ (hw _ (List.mem_of_getElem? (i := 4) rfl)) (hw _ (List.mem_of_getElem? (i := 3) rfl)) (by decide) (by decide)) (g := (mkF m 9 #[.val (.int x0), .val (.int (7 : Int32)), .unset, .unset] [(.int (7 : Int32))])) rfl (by rw [hml]; rfl) (argsL := [(.int (7 : Int32))]) (rest := []) (lenOf pd0_0 rfl) rfl (by show 2 * 0 + _ ≤ _; exact Nat.le_of_eq rfl) (hb hby at_9) (fun _ _ => ⟨rfl, e0, (by decide : 0 + 0 ≤ _), (by decide : 0 + 0 ≤ _)⟩)
    dsimp only [Pt.U, Pt.locs, Pt.cells, Pt.slots] at X53 l53 y53 z53 st53 hQ53
    subst l53 y53 z53
    obtain ⟨rfl, Nq53, e53⟩ := hQ53
    have N53 := Fr.app N0 Nq53
    have p54 : ∀ t, Steps p.tables e below (T53.setTop (mkF m 12 #[.val (.int x0), .val (.int (7 : Int32)), .unset, .unset] [(.ref a_RECALL)])) t → Steps p.tables e below (s₁.setTop (entryFrame m #[(.int x0)] maxLocals)) t := fun t k => p52 t (st53 _ k)
    have p55 : ∀ t, Steps p.tables e below (T53.setTop (mkF m 31 #[.val (.int x0), .val (.int (7 : Int32)), .val (.ref a_RECALL), .val (.int (0 : Int32))] [(.ref a_RECALL)])) t → Steps p.tables e below (s₁.setTop (entryFrame m #[(.int x0)] maxLocals)) t := fun t k => p54 t (by
      show Steps p.tables e below (T53.setTop (mkF m 12 #[.val (.int x0), .val (.int (7 : Int32)), .unset, .unset] [(.ref a_RECALL)])) _
      refine XS.astoreN X53.here hx rfl (hb hby at_12) rfl rfl (l' := #[.val (.int x0), .val (.int (7 : Int32)), .val (.ref a_RECALL), .unset]) rfl ?_
      show Steps p.tables e below (T53.setTop (mkF m 13 #[.val (.int x0), .val (.int (7 : Int32)), .val (.ref a_RECALL), .unset] [])) _
      refine XS.iloadN X53.here hx rfl (hb hby at_13) rfl ?_
      show Steps p.tables e below (T53.setTop (mkF m 14 #[.val (.int x0), .val (.int (7 : Int32)), .val (.ref a_RECALL), .unset] [(.int (7 : Int32))])) _
      refine XS.iconst X53.here hx rfl (hb hby at_14) ?_
      show Steps p.tables e below (T53.setTop (mkF m 15 #[.val (.int x0), .val (.int (7 : Int32)), .val (.ref a_RECALL), .unset] [(.int (5 : Int32)), (.int (7 : Int32))])) _
      refine XS.icmpNo X53.here hx rfl (hb hby at_15) rfl ((feq (by decide)).1) ?_
      show Steps p.tables e below (T53.setTop (mkF m 18 #[.val (.int x0), .val (.int (7 : Int32)), .val (.ref a_RECALL), .unset] [])) _
      refine XS.iloadN X53.here hx rfl (hb hby at_18) rfl ?_
      show Steps p.tables e below (T53.setTop (mkF m 19 #[.val (.int x0), .val (.int (7 : Int32)), .val (.ref a_RECALL), .unset] [(.int (7 : Int32))])) _
      refine XS.bipush X53.here hx rfl (hb hby at_19) ?_
      show Steps p.tables e below (T53.setTop (mkF m 21 #[.val (.int x0), .val (.int (7 : Int32)), .val (.ref a_RECALL), .unset] [(.int (6 : Int32)), (.int (7 : Int32))])) _
      refine XS.icmpYes X53.here hx rfl (pc0 := 21) (pc' := 28) rfl (hb hby at_21) rfl ((feq (by decide)).2) (by decide) (by decide) ?_
      show Steps p.tables e below (T53.setTop (mkF m 28 #[.val (.int x0), .val (.int (7 : Int32)), .val (.ref a_RECALL), .unset] [])) _
      refine XS.iconst X53.here hx rfl (hb hby at_28) ?_
      show Steps p.tables e below (T53.setTop (mkF m 29 #[.val (.int x0), .val (.int (7 : Int32)), .val (.ref a_RECALL), .unset] [(.int (0 : Int32))])) _
      refine XS.istoreN X53.here hx rfl (hb hby at_29) rfl (l' := #[.val (.int x0), .val (.int (7 : Int32)), .val (.ref a_RECALL), .val (.int (0 : Int32))]) rfl ?_
      show Steps p.tables e below (T53.setTop (mkF m 30 #[.val (.int x0), .val (.int (7 : Int32)), .val (.ref a_RECALL), .val (.int (0 : Int32))] [])) _
      refine XS.aloadN X53.here hx rfl (hb hby at_30) rfl rfl ?_
      exact k)
    obtain ⟨cq56, kq56, qa56, qb56, qc56⟩ := isOf hZ e53 E_RECALL
    obtain ⟨_, _, ⟨T56, L56, k56, n56⟩, -, X56, ⟨Lc56, hQ56, l56, y56, z56⟩, st56⟩ := X53.virtualBack hx (y := (⟨"com/example/millpact/millpact/TimeRecord$Type", "dayOff", "()Z"⟩ : MethodName)) (z := (⟨"com/example/millpact/millpact/TimeRecord$Type", "dayOff", "()Z"⟩ : MethodName)) hown (mvT hZ (hw _ (List.mem_of_getElem? (i := 8) rfl))) (mvT hZ (hw _ (List.mem_of_getElem? (i := 9) rfl))) (notFace_of_selects (args := #[]) (mvT hZ (hw _ (List.mem_of_getElem? (i := 11) rfl)))) (mvT hZ (hw _ (List.mem_of_getElem? (i := 11) rfl))) (mvT hZ (hw _ (List.mem_of_getElem? (i := 10) rfl))) (by decide) (backOf (W := 0) (rmd3 l Z a0 hw []  a_RECALL a_DAY_OFF a_DAY_OFF_TRADED h0 n0 Z0 S_DAY_OFF S_DAY_OFF_TRADED ne7_5 ne7_6) hZ (hw _ (List.mem_of_getElem? (i := 12) rfl)) (hw _ (List.mem_of_getElem? (i := 6) rfl)) (by decide) (by decide)) qa56 qc56 (g := (mkF m 31 #[.val (.int x0), .val (.int (7 : Int32)), .val (.ref a_RECALL), .val (.int (0 : Int32))] [(.ref a_RECALL)])) rfl (by rw [hml]; rfl) (Steps.refl _) (argsL := []) (rest := []) (lenOf pd0_1 rfl) rfl (by show 2 * 0 + _ ≤ _; exact Nat.le_of_eq rfl) (hb hby at_31) (fun _ _ => ⟨rfl, e53, (by decide : 0 + 0 ≤ _), (by decide : 0 + 0 ≤ _)⟩)
    dsimp only [Pt.U, Pt.locs, Pt.cells, Pt.slots] at X56 l56 y56 z56 st56 hQ56
    subst l56 y56 z56
    obtain ⟨rfl, Nq56, e56⟩ := hQ56
    have N56 := Fr.app N53 Nq56
    have p57 : ∀ t, Steps p.tables e below (T56.setTop (mkF m 34 #[.val (.int x0), .val (.int (7 : Int32)), .val (.ref a_RECALL), .val (.int (0 : Int32))] [(.int (0 : Int32))])) t → Steps p.tables e below (s₁.setTop (entryFrame m #[(.int x0)] maxLocals)) t := fun t k => p55 t (st56.trans k)
    have p58 : ∀ t, Steps p.tables e below (T56.setTop (mkF m 43 #[.val (.int x0), .val (.int (7 : Int32)), .val (.ref a_RECALL), .val (.int (0 : Int32))] [(.int (1 : Int32))])) t → Steps p.tables e below (s₁.setTop (entryFrame m #[(.int x0)] maxLocals)) t := fun t k => p57 t (by
      show Steps p.tables e below (T56.setTop (mkF m 34 #[.val (.int x0), .val (.int (7 : Int32)), .val (.ref a_RECALL), .val (.int (0 : Int32))] [(.int (0 : Int32))])) _
      refine XS.iloadN X56.here hx rfl (hb hby at_34) rfl ?_
      show Steps p.tables e below (T56.setTop (mkF m 35 #[.val (.int x0), .val (.int (7 : Int32)), .val (.ref a_RECALL), .val (.int (0 : Int32))] [(.int (0 : Int32)), (.int (0 : Int32))])) _
      refine XS.icmpNo X56.here hx rfl (hb hby at_35) rfl ((teq (rfl)).2) ?_
      show Steps p.tables e below (T56.setTop (mkF m 38 #[.val (.int x0), .val (.int (7 : Int32)), .val (.ref a_RECALL), .val (.int (0 : Int32))] [])) _
      refine XS.iconst X56.here hx rfl (hb hby at_38) ?_
      show Steps p.tables e below (T56.setTop (mkF m 39 #[.val (.int x0), .val (.int (7 : Int32)), .val (.ref a_RECALL), .val (.int (0 : Int32))] [(.int (1 : Int32))])) _
      refine XS.goto X56.here hx rfl (pc0 := 39) (pc' := 43) rfl (hb hby at_39) (by decide) (by decide) ?_
      exact k)
    obtain ⟨fs, hr, hrun, hended, hW, hsame⟩ := X56.leave (v := some (.int (1 : Int32))) (fun h => by rw [Bd.returns] at h; cases h)
    refine ⟨_, _, p58 _ ?_, hrun, hended, _, _, rfl, ?_, ⟨_, rfl⟩, hW, hsame.mono (by decide) (by decide)⟩
    · show Steps p.tables e below (T56.setTop (mkF m 43 #[.val (.int x0), .val (.int (7 : Int32)), .val (.ref a_RECALL), .val (.int (0 : Int32))] [(.int (1 : Int32))])) _
      exact retN X56 hx (t := .boolean) Bd.returns (by simp) (hb hby at_43) hr
    · show Q0 Z x0 a_WORKED a_ABSENT a_CALL_IN a_WIRE_CALL_IN a_SENT_HOME a_DAY_OFF a_DAY_OFF_TRADED a_RECALL h0 n0 _ T56.heap _
      rw [e56]
      exact ⟨rfl, N56⟩
set_option maxRecDepth 65536 in
set_option maxHeartbeats 40000000 in
theorem comes_1 {Post : Tables → Env → Array Value → State → Outcome → State → Prop} (hpost : ∀ tb e args s v u, (limb_1_1.after args s (.returned v) u = true ∧ limb_1_2.after args s (.returned v) u = true ∧ True) → FrameEnd s (.returned v) u (Jvm.fieldLocs frame_1_writes args s ++ Jvm.arrayLocs frame_1_arrays args s ++ Jvm.staticLocs frame_1_statics s) 0 0 → Post tb e args s (.returned v) u) :
    ArmFor flags0 classFile x code maxLocals ret World_1 tables_1 room_1 Calls_1 rest_1 Pre_1 Post := by
  intro l hfl _ _ p e ha hc hk s m args below hf hA hF happ hP
  obtain ⟨hcalls, hrest, hpre⟩ := hP
  obtain ⟨-, -, -, hnamed, -, -, -, hat⟩ := (Spec.applies_iff hf).mp happ
  obtain ⟨hg, hn⟩ := and_e (Cond.before_iff.mp (show (Jvm.Cond.and given_1 narrow_1).before args s = true from hpre))
  obtain ⟨hcount, ga0⟩ := and_e hg
  obtain ⟨w0, rfl⟩ : ∃ w0 : Value, args = #[w0] := by
    have hs : args.size = 1 := by simpa [Cond.value, given_1] using hcount
    obtain ⟨L⟩ := args
    match L, hs with
    | [w0], _ => exact ⟨w0, rfl⟩
  have hw := fun d (hd : d ∈ tables_1) => atoms_spec (ws := Jvm.Cond.code x code maxLocals ret :: tables_1) hat d (List.mem_cons_of_mem _ hd)
  have hfit : Fit s := fun {y c} hc i hi => by
    obtain ⟨ha, rfl⟩ := Array.getElem?_eq_some_iff.mp hc
    have q := List.all_eq_true.mp ((Array.all_eq_true_iff_forall_mem.mp hF) _ (Array.getElem_mem ha)) i (List.mem_range.mpr hi)
    simpa [Array.getElem?_eq_getElem hi] using q
  obtain ⟨i0, ei0⟩ := is_v ga0
  obtain rfl : w0 = (.int i0) := Option.some.inj ei0
  obtain ⟨nn0, nr0⟩ := and_e hn
  obtain ⟨nn1, nr1⟩ := and_e nr0
  obtain ⟨nn2, nr2⟩ := and_e nr1
  obtain ⟨nn3, nr3⟩ := and_e nr2
  obtain ⟨nn4, nr4⟩ := and_e nr3
  obtain ⟨nn5, nr5⟩ := and_e nr4
  obtain ⟨nn6, nr6⟩ := and_e nr5
  obtain ⟨nn7, nr7⟩ := and_e nr6
  obtain ⟨nn8, nr8⟩ := and_e nr7
  obtain ⟨nn9, nr9⟩ := and_e nr8
  obtain ⟨nn10, nr10⟩ := and_e nr9
  obtain ⟨nn11, nr11⟩ := and_e nr10
  obtain ⟨nn12, nr12⟩ := and_e nr11
  obtain ⟨nn13, nr13⟩ := and_e nr12
  obtain ⟨nn14, nr14⟩ := and_e nr13
  obtain ⟨a_WORKED, ev_WORKED⟩ := exa_v nn0
  have S_WORKED : Sta s s.heap "com/example/millpact/millpact/TimeRecord$Type" "WORKED" "Lcom/example/millpact/millpact/TimeRecord$Type;" (.ref a_WORKED) := Sta.start ev_WORKED (Or.inr ⟨(hw _ (List.mem_of_getElem? (i := 6) rfl)), (hw _ (List.mem_of_getElem? (i := 7) rfl))⟩)
  have E_WORKED : Exa s s.heap a_WORKED "com/example/millpact/millpact/TimeRecord$Type" := Exa.start ev_WORKED nn0
  obtain ⟨a_DAY_OFF, ev_DAY_OFF⟩ := exa_v nn1
  have S_DAY_OFF : Sta s s.heap "com/example/millpact/millpact/TimeRecord$Type" "DAY_OFF" "Lcom/example/millpact/millpact/TimeRecord$Type;" (.ref a_DAY_OFF) := Sta.start ev_DAY_OFF (Or.inr ⟨(hw _ (List.mem_of_getElem? (i := 6) rfl)), (hw _ (List.mem_of_getElem? (i := 14) rfl))⟩)
  have E_DAY_OFF : Exa s s.heap a_DAY_OFF "com/example/millpact/millpact/TimeRecord$Type" := Exa.start ev_DAY_OFF nn1
  obtain ⟨a_DAY_OFF_TRADED, ev_DAY_OFF_TRADED⟩ := exa_v nn4
  have S_DAY_OFF_TRADED : Sta s s.heap "com/example/millpact/millpact/TimeRecord$Type" "DAY_OFF_TRADED" "Lcom/example/millpact/millpact/TimeRecord$Type;" (.ref a_DAY_OFF_TRADED) := Sta.start ev_DAY_OFF_TRADED (Or.inr ⟨(hw _ (List.mem_of_getElem? (i := 6) rfl)), (hw _ (List.mem_of_getElem? (i := 16) rfl))⟩)
  have E_DAY_OFF_TRADED : Exa s s.heap a_DAY_OFF_TRADED "com/example/millpact/millpact/TimeRecord$Type" := Exa.start ev_DAY_OFF_TRADED nn4
  obtain ⟨a_WIRE_CALL_IN, ev_WIRE_CALL_IN⟩ := exa_v nn6
  have S_WIRE_CALL_IN : Sta s s.heap "com/example/millpact/millpact/TimeRecord$Type" "WIRE_CALL_IN" "Lcom/example/millpact/millpact/TimeRecord$Type;" (.ref a_WIRE_CALL_IN) := Sta.start ev_WIRE_CALL_IN (Or.inr ⟨(hw _ (List.mem_of_getElem? (i := 6) rfl)), (hw _ (List.mem_of_getElem? (i := 18) rfl))⟩)
  have E_WIRE_CALL_IN : Exa s s.heap a_WIRE_CALL_IN "com/example/millpact/millpact/TimeRecord$Type" := Exa.start ev_WIRE_CALL_IN nn6
  obtain ⟨a_RECALL, ev_RECALL⟩ := exa_v nn8
  have S_RECALL : Sta s s.heap "com/example/millpact/millpact/TimeRecord$Type" "RECALL" "Lcom/example/millpact/millpact/TimeRecord$Type;" (.ref a_RECALL) := Sta.start ev_RECALL (Or.inr ⟨(hw _ (List.mem_of_getElem? (i := 6) rfl)), (hw _ (List.mem_of_getElem? (i := 21) rfl))⟩)
  have E_RECALL : Exa s s.heap a_RECALL "com/example/millpact/millpact/TimeRecord$Type" := Exa.start ev_RECALL nn8
  obtain ⟨a_CALL_IN, ev_CALL_IN⟩ := exa_v nn10
  have S_CALL_IN : Sta s s.heap "com/example/millpact/millpact/TimeRecord$Type" "CALL_IN" "Lcom/example/millpact/millpact/TimeRecord$Type;" (.ref a_CALL_IN) := Sta.start ev_CALL_IN (Or.inr ⟨(hw _ (List.mem_of_getElem? (i := 6) rfl)), (hw _ (List.mem_of_getElem? (i := 23) rfl))⟩)
  have E_CALL_IN : Exa s s.heap a_CALL_IN "com/example/millpact/millpact/TimeRecord$Type" := Exa.start ev_CALL_IN nn10
  obtain ⟨a_ABSENT, ev_ABSENT⟩ := exa_v nn12
  have S_ABSENT : Sta s s.heap "com/example/millpact/millpact/TimeRecord$Type" "ABSENT" "Lcom/example/millpact/millpact/TimeRecord$Type;" (.ref a_ABSENT) := Sta.start ev_ABSENT (Or.inr ⟨(hw _ (List.mem_of_getElem? (i := 6) rfl)), (hw _ (List.mem_of_getElem? (i := 25) rfl))⟩)
  have E_ABSENT : Exa s s.heap a_ABSENT "com/example/millpact/millpact/TimeRecord$Type" := Exa.start ev_ABSENT nn12
  obtain ⟨a_SENT_HOME, ev_SENT_HOME⟩ := exa_v nn14
  have S_SENT_HOME : Sta s s.heap "com/example/millpact/millpact/TimeRecord$Type" "SENT_HOME" "Lcom/example/millpact/millpact/TimeRecord$Type;" (.ref a_SENT_HOME) := Sta.start ev_SENT_HOME (Or.inr ⟨(hw _ (List.mem_of_getElem? (i := 6) rfl)), (hw _ (List.mem_of_getElem? (i := 27) rfl))⟩)
  have E_SENT_HOME : Exa s s.heap a_SENT_HOME "com/example/millpact/millpact/TimeRecord$Type" := Exa.start ev_SENT_HOME nn14
  have O_ordinal_WORKED : Fld s s.heap a_WORKED "java/lang/Enum" "ordinal" "I" (.int (0 : Int32)) := Fld.start ((fld_at ev_WORKED).symm.trans (eqv_i (Term.int_eval (0)) nn2))
  have O_ordinal_DAY_OFF : Fld s s.heap a_DAY_OFF "java/lang/Enum" "ordinal" "I" (.int (5 : Int32)) := Fld.start ((fld_at ev_DAY_OFF).symm.trans (eqv_i (Term.int_eval (5)) nn3))
  have O_ordinal_DAY_OFF_TRADED : Fld s s.heap a_DAY_OFF_TRADED "java/lang/Enum" "ordinal" "I" (.int (6 : Int32)) := Fld.start ((fld_at ev_DAY_OFF_TRADED).symm.trans (eqv_i (Term.int_eval (6)) nn5))
  have O_ordinal_WIRE_CALL_IN : Fld s s.heap a_WIRE_CALL_IN "java/lang/Enum" "ordinal" "I" (.int (3 : Int32)) := Fld.start ((fld_at ev_WIRE_CALL_IN).symm.trans (eqv_i (Term.int_eval (3)) nn7))
  have O_ordinal_RECALL : Fld s s.heap a_RECALL "java/lang/Enum" "ordinal" "I" (.int (7 : Int32)) := Fld.start ((fld_at ev_RECALL).symm.trans (eqv_i (Term.int_eval (7)) nn9))
  have O_ordinal_CALL_IN : Fld s s.heap a_CALL_IN "java/lang/Enum" "ordinal" "I" (.int (2 : Int32)) := Fld.start ((fld_at ev_CALL_IN).symm.trans (eqv_i (Term.int_eval (2)) nn11))
  have O_ordinal_ABSENT : Fld s s.heap a_ABSENT "java/lang/Enum" "ordinal" "I" (.int (1 : Int32)) := Fld.start ((fld_at ev_ABSENT).symm.trans (eqv_i (Term.int_eval (1)) nn13))
  have O_ordinal_SENT_HOME : Fld s s.heap a_SENT_HOME "java/lang/Enum" "ordinal" "I" (.int (4 : Int32)) := Fld.start ((fld_at ev_SENT_HOME).symm.trans (eqv_i (Term.int_eval (4)) nr14))
  have ne0_5 : a_WORKED ≠ a_DAY_OFF := O_ordinal_WORKED.ne O_ordinal_DAY_OFF (by decide)
  have ne0_6 : a_WORKED ≠ a_DAY_OFF_TRADED := O_ordinal_WORKED.ne O_ordinal_DAY_OFF_TRADED (by decide)
  have ne1_5 : a_ABSENT ≠ a_DAY_OFF := O_ordinal_ABSENT.ne O_ordinal_DAY_OFF (by decide)
  have ne1_6 : a_ABSENT ≠ a_DAY_OFF_TRADED := O_ordinal_ABSENT.ne O_ordinal_DAY_OFF_TRADED (by decide)
  have ne2_5 : a_CALL_IN ≠ a_DAY_OFF := O_ordinal_CALL_IN.ne O_ordinal_DAY_OFF (by decide)
  have ne2_6 : a_CALL_IN ≠ a_DAY_OFF_TRADED := O_ordinal_CALL_IN.ne O_ordinal_DAY_OFF_TRADED (by decide)
  have ne3_5 : a_WIRE_CALL_IN ≠ a_DAY_OFF := O_ordinal_WIRE_CALL_IN.ne O_ordinal_DAY_OFF (by decide)
  have ne3_6 : a_WIRE_CALL_IN ≠ a_DAY_OFF_TRADED := O_ordinal_WIRE_CALL_IN.ne O_ordinal_DAY_OFF_TRADED (by decide)
  have ne4_5 : a_SENT_HOME ≠ a_DAY_OFF := O_ordinal_SENT_HOME.ne O_ordinal_DAY_OFF (by decide)
  have ne4_6 : a_SENT_HOME ≠ a_DAY_OFF_TRADED := O_ordinal_SENT_HOME.ne O_ordinal_DAY_OFF_TRADED (by decide)
  have ne5_6 : a_DAY_OFF ≠ a_DAY_OFF_TRADED := O_ordinal_DAY_OFF.ne O_ordinal_DAY_OFF_TRADED (by decide)
  have ne6_5 : a_DAY_OFF_TRADED ≠ a_DAY_OFF := O_ordinal_DAY_OFF_TRADED.ne O_ordinal_DAY_OFF (by decide)
  have ne7_5 : a_RECALL ≠ a_DAY_OFF := O_ordinal_RECALL.ne O_ordinal_DAY_OFF (by decide)
  have ne7_6 : a_RECALL ≠ a_DAY_OFF_TRADED := O_ordinal_RECALL.ne O_ordinal_DAY_OFF_TRADED (by decide)
  obtain ⟨n, o, h1, h2, h3, _, L, rfl, ⟨rfl, N⟩, hq⟩ := rm0 l s _ hw tables_1 i0 a_WORKED a_ABSENT a_CALL_IN a_WIRE_CALL_IN a_SENT_HOME a_DAY_OFF a_DAY_OFF_TRADED a_RECALL s.heap s.heap.size (Nat.le_refl _) S_WORKED S_ABSENT S_CALL_IN S_WIRE_CALL_IN S_SENT_HOME S_DAY_OFF S_DAY_OFF_TRADED S_RECALL E_WORKED E_ABSENT E_CALL_IN E_WIRE_CALL_IN E_SENT_HOME E_DAY_OFF E_DAY_OFF_TRADED E_RECALL ne0_5 ne0_6 ne1_5 ne1_6 ne2_5 ne2_6 ne3_5 ne3_6 ne4_5 ne4_6 ne5_6 ne6_5 ne7_5 ne7_6 p e ha hc hk s m _ below hf ((Spec.applies_iff_loose hf).mp happ).1 ⟨rfl, State.Warmed39.refl s, rfl⟩ trivial
  refine ⟨n, _, h1, h2, h3, hpost _ _ _ _ _ _ ⟨Cond.after_iff.mpr rfl, Cond.after_iff.mpr (eq_i res_at (Term.int_eval (1)) rfl), trivial⟩ ⟨hq.1, hq.2.1, (hq.2.2.sift fun y hy => Or.inr (N y hy)).mono (by decide) (by decide)⟩⟩
theorem main_1_1 : Claimed_1_1 := comes_1 fun _ _ _ _ _ _ h hF => ⟨h.1, hF⟩
theorem main_1_2 : Claimed_1_2 := comes_1 fun _ _ _ _ _ _ h hF => ⟨h.2.1, hF⟩
end Jvm.Pilot.@@N@@
namespace Jvm.Pilot.@@N@@
open Jvm Jvm.ClassFile Sem Op Lib Jvm.Free Jvm.Stand Jvm.Pilot.@@N@@.Jvm.D
/-! MADE BY PROGRAM (witnessworld.py) out of the Statement's table words and the real class files: 10 classes; the members and pool entries that the words name. The judged class is class 1, her method 2. -/
namespace start1
open Jvm.ClassFile
def u (s : String) : CpInfo := .utf8 (stringToUtf16 s)
/-- a pool by its gaps: so many unusable entries, then the entry; so many at the end -/
def gap : Nat → List CpInfo → List CpInfo
  | 0, r => r
  | n + 1, r => .unusable :: gap n r
def poolList (es : List (Nat × CpInfo)) (last : Nat) : List CpInfo := es.foldr (fun e r => gap e.1 (e.2 :: r)) (gap last [])
def pool (es : List (Nat × CpInfo)) (last : Nat) : Array CpInfo := ⟨poolList es last⟩
def fileOf (pool : Array CpInfo) (this : Nat) (attrs : Array Attribute := #[]) (ms : Array MethodInfo := #[]) (fl : Nat := 33) (sup : Nat := 0) (ifs : Array Nat := #[]) (fds : Array FieldInfo := #[]) : ClassFile where
  minorVersion := 0
  majorVersion := 65
  constantPool := pool
  accessFlags := fl
  thisClass := this
  superClass := sup
  interfaces := ifs
  fields := fds
  methods := ms
  attributes := attrs
def plain (name : String) (sup : Option ClassId) : Class where
  name := name
  kind := .ordinary
  loader := none
  accessFlags := 33
  super := sup
  interfaces := #[]
  cf := none
  fields := #[]
  methods := #[]
  instanceTypes := #[]
  staticTypes := #[]
  resolved := #[]
  callSites := []
  init := .initialized
  statics := none
  mirror := none

def pool0 : Array CpInfo := pool [(5, u "<init>"), (0, u "()V"), (1, .class_ 10), (1, u "java/lang/Object")] 113

def k0m0 : Method := { name := "<init>", desc := "()V", sig := { parameters := [], returnType := none }, accessFlags := 1, code := none }
/-- java/lang/Object -/
def k0 : Class := { plain "java/lang/Object" none with
  accessFlags := 33
  interfaces := #[]
  cf := some (fileOf pool0 8 #[] #[{ accessFlags := 1, nameIndex := 5, descriptorIndex := 6, attributes := #[] }] 33 0 #[] #[])
  fields := #[]
  methods := #[k0m0]
  instanceTypes := #[]
  staticTypes := #[]
  resolved := Array.replicate 124 none
  statics := none }

def pool1 : Array CpInfo := pool [(2, .class_ 4), (1, u "java/lang/Object"), (0, u "<init>"), (0, u "()V"), (0, .fieldref 8 9), (0, .class_ 10), (0, .nameAndType 11 12), (0, u "com/example/millpact/millpact/TimeRecord$Type"), (0, u "WORKED"), (0, u "Lcom/example/millpact/millpact/TimeRecord$Type;"), (0, .fieldref 8 14), (0, .nameAndType 15 12), (0, u "ABSENT"), (0, .fieldref 8 17), (0, .nameAndType 18 12), (0, u "CALL_IN"), (0, .fieldref 8 20), (0, .nameAndType 21 12), (0, u "WIRE_CALL_IN"), (0, .fieldref 8 23), (0, .nameAndType 24 12), (0, u "SENT_HOME"), (0, .fieldref 8 26), (0, .nameAndType 27 12), (0, u "DAY_OFF"), (0, .fieldref 8 29), (0, .nameAndType 30 12), (0, u "DAY_OFF_TRADED"), (0, .fieldref 8 32), (0, .nameAndType 33 12), (0, u "RECALL"), (0, .integer 2147483647), (0, .methodref 36 37), (0, .class_ 38), (0, .nameAndType 39 40), (0, u "com/example/millpact/millpact/TypeDayOffPinLaw"), (0, u "pick"), (0, u "(I)Lcom/example/millpact/millpact/TimeRecord$Type;"), (0, .methodref 8 42), (0, .nameAndType 43 44), (0, u "dayOff"), (0, u "()Z"), (3, u "law"), (0, u "(I)Z")] 6

def k1m0 : Method := { name := "<init>", desc := "()V", sig := { parameters := [], returnType := none }, accessFlags := 2, code := none }
def k1c1 : Code := { maxStack := 2, maxLocals := 1, code := method_2_code, exceptionTable := #[], attributes := #[] }
def k1m1 : Method := { name := "pick", desc := "(I)Lcom/example/millpact/millpact/TimeRecord$Type;", sig := { parameters := [.int], returnType := some (.object "com/example/millpact/millpact/TimeRecord$Type") }, accessFlags := 10, code := some k1c1 }
def k1c2 : Code := { maxStack := 2, maxLocals := 4, code := code, exceptionTable := #[], attributes := #[] }
def k1m2 : Method := { name := "law", desc := "(I)Z", sig := { parameters := [.int], returnType := some .boolean }, accessFlags := 9, code := some k1c2 }
/-- com/example/millpact/millpact/TypeDayOffPinLaw -/
def k1 : Class := { plain "com/example/millpact/millpact/TypeDayOffPinLaw" (some 0) with
  accessFlags := 49
  interfaces := #[]
  cf := some (fileOf pool1 36 #[] #[{ accessFlags := 2, nameIndex := 5, descriptorIndex := 6, attributes := #[] }, { accessFlags := 10, nameIndex := 39, descriptorIndex := 40, attributes := #[] }, { accessFlags := 9, nameIndex := 48, descriptorIndex := 49, attributes := #[] }] 49 2 #[] #[])
  fields := #[]
  methods := #[k1m0, k1m1, k1m2]
  instanceTypes := #[]
  staticTypes := #[]
  resolved := Array.replicate 56 none
  statics := none }

def pool2 : Array CpInfo := pool [(1, .class_ 2), (0, u "java/lang/constant/Constable"), (0, .class_ 4), (0, u "java/lang/Object")] 6

/-- java/lang/constant/Constable -/
def k2 : Class := { plain "java/lang/constant/Constable" (some 0) with
  accessFlags := 1537
  interfaces := #[]
  cf := some (fileOf pool2 1 #[] #[] 1537 3 #[] #[])
  fields := #[]
  methods := #[]
  instanceTypes := #[]
  staticTypes := #[]
  resolved := Array.replicate 11 none
  statics := none }

def pool3 : Array CpInfo := pool [(1, .class_ 2), (0, u "java/lang/Comparable"), (0, .class_ 4), (0, u "java/lang/Object")] 7

/-- java/lang/Comparable -/
def k3 : Class := { plain "java/lang/Comparable" (some 0) with
  accessFlags := 1537
  interfaces := #[]
  cf := some (fileOf pool3 1 #[] #[] 1537 3 #[] #[])
  fields := #[]
  methods := #[]
  instanceTypes := #[]
  staticTypes := #[]
  resolved := Array.replicate 12 none
  statics := none }

def pool4 : Array CpInfo := pool [(1, .class_ 2), (0, u "java/io/Serializable"), (0, .class_ 4), (0, u "java/lang/Object")] 2

/-- java/io/Serializable -/
def k4 : Class := { plain "java/io/Serializable" (some 0) with
  accessFlags := 1537
  interfaces := #[]
  cf := some (fileOf pool4 1 #[] #[] 1537 3 #[] #[])
  fields := #[]
  methods := #[]
  instanceTypes := #[]
  staticTypes := #[]
  resolved := Array.replicate 7 none
  statics := none }

def pool5 : Array CpInfo := pool [(2, .class_ 4), (1, u "java/lang/Enum"), (0, u "name"), (0, u "Ljava/lang/String;"), (2, u "ordinal"), (0, u "I"), (1, .class_ 14), (1, u "java/lang/Object"), (4, u "hash"), (86, .class_ 108), (1, u "java/lang/Enum$EnumDesc"), (2, .class_ 112), (0, u "java/lang/constant/Constable"), (0, .class_ 114), (0, u "java/lang/Comparable"), (0, .class_ 116), (0, u "java/io/Serializable")] 87

/-- java/lang/Enum -/
def k5 : Class := { plain "java/lang/Enum" (some 0) with
  accessFlags := 1057
  interfaces := #[2, 3, 4]
  cf := some (fileOf pool5 2 #[.nestMembers #[106]] #[] 1057 12 #[111, 113, 115] #[{ accessFlags := 18, nameIndex := 5, descriptorIndex := 6, attributes := #[] }, { accessFlags := 18, nameIndex := 9, descriptorIndex := 10, attributes := #[] }, { accessFlags := 2, nameIndex := 19, descriptorIndex := 10, attributes := #[] }])
  fields := #[{ name := "name", type := (.object "java/lang/String"), accessFlags := 18, slot := 0, constantValue := 0 }, { name := "ordinal", type := .int, accessFlags := 18, slot := 1, constantValue := 0 }, { name := "hash", type := .int, accessFlags := 2, slot := 2, constantValue := 0 }]
  methods := #[]
  instanceTypes := #[(.object "java/lang/String"), .int, .int]
  staticTypes := #[]
  resolved := Array.replicate 204 none
  statics := none }

def pool6 : Array CpInfo := pool [(1, .class_ 2), (0, u "com/example/millpact/millpact/TimeRecord$Type"), (2, u "WORKED"), (0, u "Lcom/example/millpact/millpact/TimeRecord$Type;"), (2, u "ABSENT"), (2, u "CALL_IN"), (2, u "WIRE_CALL_IN"), (2, u "SENT_HOME"), (0, .fieldref 1 20), (0, .nameAndType 21 6), (0, u "DAY_OFF"), (0, .fieldref 1 23), (0, .nameAndType 24 6), (0, u "DAY_OFF_TRADED"), (2, u "RECALL"), (2, u "$VALUES"), (0, u "[Lcom/example/millpact/millpact/TimeRecord$Type;"), (6, .class_ 40), (1, u "java/lang/Enum"), (8, u "text"), (0, u "Ljava/lang/String;"), (2, u "shift"), (0, u "Z"), (5, u "()Z"), (82, u "dayOff"), (12, .class_ 157), (0, u "com/example/millpact/millpact/TimeRecord")] 29

def k6c0 : Code := { maxStack := 2, maxLocals := 1, code := prog_90_method_6_code, exceptionTable := #[], attributes := #[] }
def k6m0 : Method := { name := "dayOff", desc := "()Z", sig := { parameters := [], returnType := some .boolean }, accessFlags := 0, code := some k6c0 }
/-- com/example/millpact/millpact/TimeRecord$Type -/
def k6 : Class := { plain "com/example/millpact/millpact/TimeRecord$Type" (some 5) with
  accessFlags := 16432
  interfaces := #[]
  cf := some (fileOf pool6 1 #[.nestHost 156] #[{ accessFlags := 0, nameIndex := 143, descriptorIndex := 60, attributes := #[] }] 16432 38 #[] #[{ accessFlags := 16409, nameIndex := 5, descriptorIndex := 6, attributes := #[] }, { accessFlags := 16409, nameIndex := 9, descriptorIndex := 6, attributes := #[] }, { accessFlags := 16409, nameIndex := 12, descriptorIndex := 6, attributes := #[] }, { accessFlags := 16409, nameIndex := 15, descriptorIndex := 6, attributes := #[] }, { accessFlags := 16409, nameIndex := 18, descriptorIndex := 6, attributes := #[] }, { accessFlags := 16409, nameIndex := 21, descriptorIndex := 6, attributes := #[] }, { accessFlags := 16409, nameIndex := 24, descriptorIndex := 6, attributes := #[] }, { accessFlags := 16409, nameIndex := 27, descriptorIndex := 6, attributes := #[] }, { accessFlags := 18, nameIndex := 49, descriptorIndex := 50, attributes := #[] }, { accessFlags := 18, nameIndex := 53, descriptorIndex := 54, attributes := #[] }, { accessFlags := 4122, nameIndex := 30, descriptorIndex := 31, attributes := #[] }])
  fields := #[{ name := "WORKED", type := (.object "com/example/millpact/millpact/TimeRecord$Type"), accessFlags := 16409, slot := 0, constantValue := 0 }, { name := "ABSENT", type := (.object "com/example/millpact/millpact/TimeRecord$Type"), accessFlags := 16409, slot := 1, constantValue := 0 }, { name := "CALL_IN", type := (.object "com/example/millpact/millpact/TimeRecord$Type"), accessFlags := 16409, slot := 2, constantValue := 0 }, { name := "WIRE_CALL_IN", type := (.object "com/example/millpact/millpact/TimeRecord$Type"), accessFlags := 16409, slot := 3, constantValue := 0 }, { name := "SENT_HOME", type := (.object "com/example/millpact/millpact/TimeRecord$Type"), accessFlags := 16409, slot := 4, constantValue := 0 }, { name := "DAY_OFF", type := (.object "com/example/millpact/millpact/TimeRecord$Type"), accessFlags := 16409, slot := 5, constantValue := 0 }, { name := "DAY_OFF_TRADED", type := (.object "com/example/millpact/millpact/TimeRecord$Type"), accessFlags := 16409, slot := 6, constantValue := 0 }, { name := "RECALL", type := (.object "com/example/millpact/millpact/TimeRecord$Type"), accessFlags := 16409, slot := 7, constantValue := 0 }, { name := "text", type := (.object "java/lang/String"), accessFlags := 18, slot := 3, constantValue := 0 }, { name := "shift", type := .boolean, accessFlags := 18, slot := 4, constantValue := 0 }, { name := "$VALUES", type := (.array (.object "com/example/millpact/millpact/TimeRecord$Type")), accessFlags := 4122, slot := 8, constantValue := 0 }]
  methods := #[k6m0]
  instanceTypes := #[(.object "java/lang/String"), .int, .int, (.object "java/lang/String"), .boolean]
  staticTypes := #[(.object "com/example/millpact/millpact/TimeRecord$Type"), (.object "com/example/millpact/millpact/TimeRecord$Type"), (.object "com/example/millpact/millpact/TimeRecord$Type"), (.object "com/example/millpact/millpact/TimeRecord$Type"), (.object "com/example/millpact/millpact/TimeRecord$Type"), (.object "com/example/millpact/millpact/TimeRecord$Type"), (.object "com/example/millpact/millpact/TimeRecord$Type"), (.object "com/example/millpact/millpact/TimeRecord$Type"), (.array (.object "com/example/millpact/millpact/TimeRecord$Type"))]
  resolved := Array.replicate 187 none
  statics := some 0 }

def pool7 : Array CpInfo := pool [(1, u "java/lang/Cloneable"), (0, .class_ 1), (0, u "java/lang/Object"), (0, .class_ 3)] 3

/-- java/lang/Cloneable -/
def k7 : Class := { plain "java/lang/Cloneable" (some 0) with
  accessFlags := 1537
  interfaces := #[]
  cf := some (fileOf pool7 2 #[] #[] 1537 4 #[] #[])
  fields := #[]
  methods := #[]
  instanceTypes := #[]
  staticTypes := #[]
  resolved := Array.replicate 8 none
  statics := none }

/-- the primitive byte -/
def k8 : Class := { plain "byte" none with kind := .primitive 'B', accessFlags := 0x411 }
/-- [B -/
def k9 : Class := { plain "[B" (some 0) with kind := .array 8 .byte, interfaces := #[7, 4], accessFlags := 1041 }

def heap : Heap := #[{ cls := 6, slots := #[.ref 1, .ref 2, .ref 3, .ref 4, .ref 5, .ref 6, .ref 7, .ref 8, .null], vm := .statics 6 },
  { cls := 6, slots := #[.null, .int 0, .int 0, .null, .int 0], vm := .none },
  { cls := 6, slots := #[.null, .int 1, .int 0, .null, .int 0], vm := .none },
  { cls := 6, slots := #[.null, .int 2, .int 0, .null, .int 0], vm := .none },
  { cls := 6, slots := #[.null, .int 3, .int 0, .null, .int 0], vm := .none },
  { cls := 6, slots := #[.null, .int 4, .int 0, .null, .int 0], vm := .none },
  { cls := 6, slots := #[.null, .int 5, .int 0, .null, .int 0], vm := .none },
  { cls := 6, slots := #[.null, .int 6, .int 0, .null, .int 0], vm := .none },
  { cls := 6, slots := #[.null, .int 7, .int 0, .null, .int 0], vm := .none }]
def classes : Array Class := #[k0, k1, k2, k3, k4, k5, k6, k7, k8, k9]
def interned : List (Array UInt16 × Addr) := []
def slotsUsed : Nat := 49
def theMethod : MethodId := ⟨1, 2⟩
def args0 : Array Value := #[.int 5]
def aboutOver (below : List Frame) : State where
  vm := { classes := classes, interned := interned.toArray }
  heap := heap
  slotsUsed := slotsUsed
  threads := #[{ frames := .invoking theMethod args0 :: below }]
def below0 : List Frame := [.native { method := ⟨0, 0⟩, args := #[] }]
def about1 : State := aboutOver below0
def p0 : Program := .bare "" "" ""
def e0 : Env := launch0.env 0 0 0
theorem w_frames : about1.frames = Frame.invoking theMethod args0 :: below0 := rfl
set_option maxRecDepth 65536 in
theorem w_args : argsFit about1.vm theMethod args0 = true := by decide +kernel
set_option maxRecDepth 65536 in
theorem w_heap : heapFits about1 = true := by decide +kernel
set_option maxRecDepth 65536 in
theorem w_runnable : about1.curStatus? = some .runnable := by decide +kernel
set_option maxRecDepth 65536 in
theorem w_alone : about1.alone = true := by decide +kernel
set_option maxRecDepth 65536 in
theorem w_named : about1.methodNamed? x = some theMethod := by decide +kernel
set_option maxRecDepth 65536 in
theorem w_hears : about1.hears theMethod below0 = true := by decide +kernel
set_option maxRecDepth 65536 in
theorem w_ripe : about1.ripe theMethod args0 below0 = true := by decide +kernel
theorem w_running : about1.status = .running := rfl
set_option maxRecDepth 65536 in
theorem w_room : about1.hasRoom e0.platform room_1 = true :=
  launch0.hasRoom_least _ room_1 (by decide +kernel) (by decide +kernel) (by decide +kernel) (by decide +kernel) (by decide +kernel) (by decide +kernel)
theorem allAtoms_all (ts : List Jvm.Cond) (a : Array Jvm.Value) (st : Jvm.State) : (allAtoms ts).before a st = ts.all (fun c => c.before a st) := by
  induction ts with
  | nil => rfl
  | cons c t ih =>
    show (Jvm.Cond.and c (allAtoms t)).before a st = _
    rw [Jvm.Cond.before_and, ih, List.all_cons]
def words1 : List Jvm.Cond := Jvm.Cond.code x code maxLocals ret :: tables_1
/-- a 'code' word, met by the world's own term for the bytes: nothing is compared byte by byte -/
theorem code_word {y : MethodName} {bytes : ByteArray} {mx : Nat} {rt : Option FieldType} {a : Array Value} {s : State} {m : MethodId} {meth : Method} {c : Code} (h1 : s.methodNamed? y = some m) (h2 : s.vm.method? m = some meth) (h3 : meth.code = some c) (h4 : c.code = bytes)
    (h5 : (c.maxLocals == mx && c.exceptionTable.isEmpty && decide (c.maxStack ≤ mostOperands) && decide (meth.sig.returnType = rt) && !meth.locks && decide (parseMethodDescriptor y.desc = some meth.sig)) = true) : (Jvm.Cond.code y bytes mx rt).before a s = true := by
  simp only [Bool.and_eq_true, beq_iff_eq, Bool.not_eq_true', decide_eq_true_eq] at h5
  obtain ⟨⟨⟨⟨⟨g1, g2⟩, g3⟩, g4⟩, g5⟩, g6⟩ := h5
  simp [Cond.before, Cond.holds, Cond.value, h1, h2, h3, h4, g1, g2, g3, g4, g5, g6]
def isCode : Jvm.Cond → Bool
  | .code _ _ _ _ => true
  | _ => false
theorem all_split {L : List Jvm.Cond} {P : Jvm.Cond → Bool} (h1 : L.all (fun c => isCode c || P c) = true) (h2 : ∀ c ∈ L.filter isCode, P c = true) : L.all P = true := by
  refine List.all_eq_true.mpr fun c hc => ?_
  have h := List.all_eq_true.mp h1 c hc
  rcases Bool.eq_false_or_eq_true (isCode c) with hi | hi
  · exact h2 c (List.mem_filter.mpr ⟨hc, hi⟩)
  · simpa [hi] using h
set_option maxRecDepth 65536 in
theorem w_c0 : (Jvm.Cond.code x code maxLocals ret).before args0 about1 = true := code_word (m := ⟨1, 2⟩) (meth := k1m2) (c := k1c2) (by decide +kernel) rfl rfl rfl (by decide +kernel)
set_option maxRecDepth 65536 in
theorem w_c1 : (Jvm.Cond.code ({ cls := "com/example/millpact/millpact/TypeDayOffPinLaw", name := "pick", desc := "(I)Lcom/example/millpact/millpact/TimeRecord$Type;" } : Jvm.MethodName) method_2_code (1 : Nat) (Option.some (Jvm.ClassFile.FieldType.object "com/example/millpact/millpact/TimeRecord$Type"))).before args0 about1 = true := code_word (m := ⟨1, 1⟩) (meth := k1m1) (c := k1c1) (by decide +kernel) rfl rfl rfl (by decide +kernel)
set_option maxRecDepth 65536 in
theorem w_c2 : (Jvm.Cond.code ({ cls := "com/example/millpact/millpact/TimeRecord$Type", name := "dayOff", desc := "()Z" } : Jvm.MethodName) prog_90_method_6_code (1 : Nat) (Option.some Jvm.ClassFile.FieldType.boolean)).before args0 about1 = true := code_word (m := ⟨6, 0⟩) (meth := k6m0) (c := k6c0) (by decide +kernel) rfl rfl rfl (by decide +kernel)
def codes1 : List Jvm.Cond := [Jvm.Cond.code x code maxLocals ret, Jvm.Cond.code ({ cls := "com/example/millpact/millpact/TypeDayOffPinLaw", name := "pick", desc := "(I)Lcom/example/millpact/millpact/TimeRecord$Type;" } : Jvm.MethodName) method_2_code (1 : Nat) (Option.some (Jvm.ClassFile.FieldType.object "com/example/millpact/millpact/TimeRecord$Type")), Jvm.Cond.code ({ cls := "com/example/millpact/millpact/TimeRecord$Type", name := "dayOff", desc := "()Z" } : Jvm.MethodName) prog_90_method_6_code (1 : Nat) (Option.some Jvm.ClassFile.FieldType.boolean)]
set_option maxRecDepth 65536 in
theorem codes_eq : words1.filter isCode = codes1 := rfl
theorem w_codes : ∀ c ∈ words1.filter isCode, c.before args0 about1 = true := by
  rw [codes_eq]
  intro c hc
  simp only [codes1, List.mem_cons, List.not_mem_nil, or_false] at hc
  rcases hc with rfl | rfl | rfl
  · exact w_c0
  · exact w_c1
  · exact w_c2
set_option maxRecDepth 65536 in
theorem w_t1 : (words1.take 24).all (fun c => isCode c || c.before args0 about1) = true := by decide +kernel
set_option maxRecDepth 65536 in
theorem w_t2 : (words1.drop 24).all (fun c => isCode c || c.before args0 about1) = true := by decide +kernel
theorem w_tables : (allAtoms (Jvm.Cond.code x code maxLocals ret :: tables_1)).before args0 about1 = true := by
  rw [allAtoms_all]
  show words1.all (fun c => c.before args0 about1) = true
  refine all_split ?_ w_codes
  rw [← List.take_append_drop 24 words1, List.all_append, w_t1, w_t2]
  rfl
set_option maxRecDepth 65536 in
theorem w_case : (Jvm.Cond.and given_1 narrow_1).before args0 about1 = true := by decide +kernel
theorem w_applies : (headSpec (Jvm.Cond.code x code maxLocals ret :: tables_1) room_1).applies x e0.platform about1 = true :=
  (Spec.applies_iff w_frames).mpr ⟨w_running, w_runnable, w_alone, w_named, w_hears, w_ripe, w_room, w_tables⟩
theorem atStart : AtStart classFile x code maxLocals ret World_1 tables_1 room_1 Calls_1 rest_1 Pre_1 launch0 p0 e0 about1 theMethod args0 below0 :=
  ⟨lists_1, trivial, launch0.admits_env _ _ _, launch0.least_env, fairChoices_fair.cas, fairChoices_fair.clock, w_frames, w_args, w_heap, w_applies, trivial, trivial, w_case⟩
end start1
theorem witness_1 : WitnessClaimed_1 := ⟨start1.p0, start1.e0, start1.about1, start1.theMethod, start1.args0, start1.below0, start1.atStart⟩
end Jvm.Pilot.@@N@@
