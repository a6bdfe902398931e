import JvmDerived
import JvmDerived.Pilot.@@N@@Statement
import JvmDerived.Pilot.@@N@@Code
set_option linter.unusedVariables false
set_option linter.unusedSimpArgs false
namespace Jvm.Pilot.@@N@@
open Jvm Jvm.ClassFile Sem Op Lib Jvm.Free Jvm.Stand Jvm.LawKit Jvm.RoadKit Bundle Jvm.Pilot.@@N@@.Jvm.D

theorem own_k8 {k x : Int32} (h : k = (x &&& (7 : Int32))) : k = (0 : Int32) ∨ k = (1 : Int32) ∨ k = (2 : Int32) ∨ k = (3 : Int32) ∨ k = (4 : Int32) ∨ k = (5 : Int32) ∨ k = (6 : Int32) ∨ k = (7 : Int32) := by
  have e := c_mask x 7 3 (by decide) (by decide); rw [← h] at e
  simp only [← Int32.toInt_inj]
  have l0 : (0 : Int32).toInt = 0 := by decide
  have l1 : (1 : Int32).toInt = 1 := by decide
  have l2 : (2 : Int32).toInt = 2 := by decide
  have l3 : (3 : Int32).toInt = 3 := by decide
  have l4 : (4 : Int32).toInt = 4 := by decide
  have l5 : (5 : Int32).toInt = 5 := by decide
  have l6 : (6 : Int32).toInt = 6 := by decide
  have l7 : (7 : Int32).toInt = 7 := by decide
  omega
theorem dp0_0 : decode method_2_code 0 = .ok (.iload_n 0, 1) := by decide +kernel
theorem dp0_1 : decode method_2_code 1 = .ok (.ifCond .ne 7, 3) := by decide +kernel
theorem dp0_4 : decode method_2_code 4 = .ok (.getstatic 7, 3) := by decide +kernel
theorem dp0_7 : decode method_2_code 7 = .ok (.areturn, 1) := by decide +kernel
theorem pnp0 : plainName "com/example/millpact/millpact/TimeRecordWorkdayPinLaw" = true := by first | (simp [plainName, overriddenIn]; done) | decide +kernel
theorem efp0 (m : MethodId)  : entryFrame m #[(.int (0 : Int32))] 1 = mkF m 0 #[.val (.int (0 : Int32))] [] := by first | (simp [entryFrame, mkF, argsToLocals, Value.category]; done) | rfl
def Qp0 (Z : State)  (a_WORKED : Addr) (h0 : Heap) (n0 : Nat) (v : Option Value) (h : Heap) (L : List Loc) : Prop := v = some (.ref a_WORKED) ∧ Fr n0 L ∧ h = h0
set_option maxRecDepth 65536 in
set_option maxHeartbeats 40000000 in
theorem rmp0 (l : Launch) (Z : State) (a0 : Array Value) (hw : ∀ d ∈ tables_1, d.before a0 Z = true) (ws : List Jvm.Cond)  (a_WORKED : Addr) (h0 : Heap) (n0 : Nat) (Z0 : n0 ≤ h0.size) (S_WORKED : Sta Z h0 "com/example/millpact/millpact/TimeRecord$Type" "WORKED" "Lcom/example/millpact/millpact/TimeRecord$Type;" (.ref a_WORKED)) :
    MetFree l (⟨"com/example/millpact/millpact/TimeRecordWorkdayPinLaw", "pick", "(I)Lcom/example/millpact/millpact/TimeRecord$Type;"⟩ : MethodName) (head1 (Jvm.Cond.code (⟨"com/example/millpact/millpact/TimeRecordWorkdayPinLaw", "pick", "(I)Lcom/example/millpact/millpact/TimeRecord$Type;"⟩ : MethodName) method_2_code 1 (some (.object "com/example/millpact/millpact/TimeRecord$Type")) :: ws) ({ frames := 0, cells := 0, slots := 0, locals := 0 } : Room)) (fun a U => a = #[(.int (0 : Int32))] ∧ Z.Warmed39 U.vm ∧ U.heap = h0) (fun _ _ _ _ _ => True) (fun _ U o U' => ∃ v L, o = .returned v ∧ Qp0 Z a_WORKED h0 n0 v U'.heap L ∧ FrameEnd U o U' L ({ frames := 0, cells := 0, slots := 0, locals := 0 } : Room).cells ({ frames := 0, cells := 0, slots := 0, locals := 0 } : Room).slots) := by
  refine MetFree.of_bodySF (plainFor_of_name pnp0) hisR ?_
  intro p e s m args below meth c s₁ Bd hml0 hP hK
  obtain ⟨rfl, hZ, hh⟩ := hP
  have hx := Bd.exec
  have hby := Bd.bytes
  have hml : c.maxLocals = 1 := hml0
  have hown : s.vm.findClass "com/example/millpact/millpact/TimeRecordWorkdayPinLaw" = some m.cls := findClass_of_methodNamed Bd.named
  have hnm := (name_of_methodNamed Bd.named Bd.method).1
  have X0 : Stand p l e ({ frames := 0, cells := 0, slots := 0, locals := 0 } : Room) s m #[(.int (0 : Int32))] below meth c s₁ [] 0 0 := Stand.of_body Bd
  have e0 : s₁.heap = h0 := by rw [← hh, Bd.state]; rfl
  have N0 := Fr.nil n0
  have pre0 : ∀ t, Steps p.tables e below (s₁.setTop (mkF m 0 #[.val (.int (0 : Int32))] [])) t → Steps p.tables e below (s₁.setTop (entryFrame m #[(.int (0 : Int32))] 1)) t := fun t k => castTop (efp0 m ) k
  have p1 : ∀ t, Steps p.tables e below (s₁.setTop (mkF m 4 #[.val (.int (0 : Int32))] [])) t → Steps p.tables e below (s₁.setTop (entryFrame m #[(.int (0 : Int32))] 1)) t := fun t k => pre0 t (by
    show Steps p.tables e below (s₁.setTop (mkF m 0 #[.val (.int (0 : Int32))] [])) _
    refine XS.iloadN X0.here hx rfl (hb hby dp0_0) rfl ?_
    show Steps p.tables e below (s₁.setTop (mkF m 1 #[.val (.int (0 : Int32))] [(.int (0 : Int32))])) _
    refine XS.ifNo X0.here hx rfl (hb hby dp0_1) rfl ((if0 _ _).trans (teq (rfl)).2) ?_
    exact k)
  obtain ⟨T2, X2, e2, st2⟩ := getS2 X0 hx hZ hown (host := "") (Or.inl (hw _ (List.mem_of_getElem? (i := 4) rfl))) Via.refl e0 S_WORKED (g := (mkF m 4 #[.val (.int (0 : Int32))] [])) rfl (hb hby dp0_4)
  have p3 : ∀ t, Steps p.tables e below (T2.setTop (mkF m 7 #[.val (.int (0 : Int32))] [(.ref a_WORKED)])) t → Steps p.tables e below (s₁.setTop (entryFrame m #[(.int (0 : Int32))] 1)) t := fun t k => p1 t (st2 t k)
  obtain ⟨fs, hr, hrun, hended, hW, hsame⟩ := X2.leave (v := some (.ref a_WORKED)) (fun h => by rw [Bd.returns] at h; cases h)
  refine ⟨_, _, p3 _ ?_, hrun, hended, _, _, rfl, ?_, ⟨_, rfl⟩, hW, hsame.mono (by decide) (by decide)⟩
  · show Steps p.tables e below (T2.setTop (mkF m 7 #[.val (.int (0 : Int32))] [(.ref a_WORKED)])) _
    exact retOut X2 hx Bd.returns rfl (Or.inr (Or.inr (Or.inr (Or.inr ⟨rfl, rfl, rfl⟩)))) (hb hby dp0_7) hr
  · show Qp0 Z a_WORKED h0 n0 _ T2.heap _
    rw [e2]
    exact ⟨rfl, N0, rfl⟩
theorem dp1_0 : decode method_2_code 0 = .ok (.iload_n 0, 1) := by decide +kernel
theorem dp1_1 : decode method_2_code 1 = .ok (.ifCond .ne 7, 3) := by decide +kernel
theorem dp1_8 : decode method_2_code 8 = .ok (.iload_n 0, 1) := by decide +kernel
theorem dp1_9 : decode method_2_code 9 = .ok (.iconst 1, 1) := by decide +kernel
theorem dp1_10 : decode method_2_code 10 = .ok (.if_icmp .ne 7, 3) := by decide +kernel
theorem dp1_13 : decode method_2_code 13 = .ok (.getstatic 13, 3) := by decide +kernel
theorem dp1_16 : decode method_2_code 16 = .ok (.areturn, 1) := by decide +kernel
theorem pnp1 : plainName "com/example/millpact/millpact/TimeRecordWorkdayPinLaw" = true := by first | (simp [plainName, overriddenIn]; done) | decide +kernel
theorem efp1 (m : MethodId)  : entryFrame m #[(.int (1 : Int32))] 1 = mkF m 0 #[.val (.int (1 : Int32))] [] := by first | (simp [entryFrame, mkF, argsToLocals, Value.category]; done) | rfl
def Qp1 (Z : State)  (a_ABSENT : Addr) (h0 : Heap) (n0 : Nat) (v : Option Value) (h : Heap) (L : List Loc) : Prop := v = some (.ref a_ABSENT) ∧ Fr n0 L ∧ h = h0
set_option maxRecDepth 65536 in
set_option maxHeartbeats 40000000 in
theorem rmp1 (l : Launch) (Z : State) (a0 : Array Value) (hw : ∀ d ∈ tables_1, d.before a0 Z = true) (ws : List Jvm.Cond)  (a_ABSENT : Addr) (h0 : Heap) (n0 : Nat) (Z0 : n0 ≤ h0.size) (S_ABSENT : Sta Z h0 "com/example/millpact/millpact/TimeRecord$Type" "ABSENT" "Lcom/example/millpact/millpact/TimeRecord$Type;" (.ref a_ABSENT)) :
    MetFree l (⟨"com/example/millpact/millpact/TimeRecordWorkdayPinLaw", "pick", "(I)Lcom/example/millpact/millpact/TimeRecord$Type;"⟩ : MethodName) (head1 (Jvm.Cond.code (⟨"com/example/millpact/millpact/TimeRecordWorkdayPinLaw", "pick", "(I)Lcom/example/millpact/millpact/TimeRecord$Type;"⟩ : MethodName) method_2_code 1 (some (.object "com/example/millpact/millpact/TimeRecord$Type")) :: ws) ({ frames := 0, cells := 0, slots := 0, locals := 0 } : Room)) (fun a U => a = #[(.int (1 : Int32))] ∧ Z.Warmed39 U.vm ∧ U.heap = h0) (fun _ _ _ _ _ => True) (fun _ U o U' => ∃ v L, o = .returned v ∧ Qp1 Z a_ABSENT h0 n0 v U'.heap L ∧ FrameEnd U o U' L ({ frames := 0, cells := 0, slots := 0, locals := 0 } : Room).cells ({ frames := 0, cells := 0, slots := 0, locals := 0 } : Room).slots) := by
  refine MetFree.of_bodySF (plainFor_of_name pnp1) hisR ?_
  intro p e s m args below meth c s₁ Bd hml0 hP hK
  obtain ⟨rfl, hZ, hh⟩ := hP
  have hx := Bd.exec
  have hby := Bd.bytes
  have hml : c.maxLocals = 1 := hml0
  have hown : s.vm.findClass "com/example/millpact/millpact/TimeRecordWorkdayPinLaw" = some m.cls := findClass_of_methodNamed Bd.named
  have hnm := (name_of_methodNamed Bd.named Bd.method).1
  have X0 : Stand p l e ({ frames := 0, cells := 0, slots := 0, locals := 0 } : Room) s m #[(.int (1 : Int32))] below meth c s₁ [] 0 0 := Stand.of_body Bd
  have e0 : s₁.heap = h0 := by rw [← hh, Bd.state]; rfl
  have N0 := Fr.nil n0
  have pre0 : ∀ t, Steps p.tables e below (s₁.setTop (mkF m 0 #[.val (.int (1 : Int32))] [])) t → Steps p.tables e below (s₁.setTop (entryFrame m #[(.int (1 : Int32))] 1)) t := fun t k => castTop (efp1 m ) k
  have p1 : ∀ t, Steps p.tables e below (s₁.setTop (mkF m 13 #[.val (.int (1 : Int32))] [])) t → Steps p.tables e below (s₁.setTop (entryFrame m #[(.int (1 : Int32))] 1)) t := fun t k => pre0 t (by
    show Steps p.tables e below (s₁.setTop (mkF m 0 #[.val (.int (1 : Int32))] [])) _
    refine XS.iloadN X0.here hx rfl (hb hby dp1_0) rfl ?_
    show Steps p.tables e below (s₁.setTop (mkF m 1 #[.val (.int (1 : Int32))] [(.int (1 : Int32))])) _
    refine XS.ifYes X0.here hx rfl (pc0 := 1) (pc' := 8) rfl (hb hby dp1_1) rfl ((if0 _ _).trans (feq (by decide)).2) (by decide) (by decide) ?_
    show Steps p.tables e below (s₁.setTop (mkF m 8 #[.val (.int (1 : Int32))] [])) _
    refine XS.iloadN X0.here hx rfl (hb hby dp1_8) rfl ?_
    show Steps p.tables e below (s₁.setTop (mkF m 9 #[.val (.int (1 : Int32))] [(.int (1 : Int32))])) _
    refine XS.iconst X0.here hx rfl (hb hby dp1_9) ?_
    show Steps p.tables e below (s₁.setTop (mkF m 10 #[.val (.int (1 : Int32))] [(.int (1 : Int32)), (.int (1 : Int32))])) _
    refine XS.icmpNo X0.here hx rfl (hb hby dp1_10) rfl ((teq (rfl)).2) ?_
    exact k)
  obtain ⟨T2, X2, e2, st2⟩ := getS2 X0 hx hZ hown (host := "") (Or.inl (hw _ (List.mem_of_getElem? (i := 33) rfl))) Via.refl e0 S_ABSENT (g := (mkF m 13 #[.val (.int (1 : Int32))] [])) rfl (hb hby dp1_13)
  have p3 : ∀ t, Steps p.tables e below (T2.setTop (mkF m 16 #[.val (.int (1 : Int32))] [(.ref a_ABSENT)])) t → Steps p.tables e below (s₁.setTop (entryFrame m #[(.int (1 : Int32))] 1)) t := fun t k => p1 t (st2 t k)
  obtain ⟨fs, hr, hrun, hended, hW, hsame⟩ := X2.leave (v := some (.ref a_ABSENT)) (fun h => by rw [Bd.returns] at h; cases h)
  refine ⟨_, _, p3 _ ?_, hrun, hended, _, _, rfl, ?_, ⟨_, rfl⟩, hW, hsame.mono (by decide) (by decide)⟩
  · show Steps p.tables e below (T2.setTop (mkF m 16 #[.val (.int (1 : Int32))] [(.ref a_ABSENT)])) _
    exact retOut X2 hx Bd.returns rfl (Or.inr (Or.inr (Or.inr (Or.inr ⟨rfl, rfl, rfl⟩)))) (hb hby dp1_16) hr
  · show Qp1 Z a_ABSENT h0 n0 _ T2.heap _
    rw [e2]
    exact ⟨rfl, N0, rfl⟩
theorem dp2_0 : decode method_2_code 0 = .ok (.iload_n 0, 1) := by decide +kernel
theorem dp2_1 : decode method_2_code 1 = .ok (.ifCond .ne 7, 3) := by decide +kernel
theorem dp2_8 : decode method_2_code 8 = .ok (.iload_n 0, 1) := by decide +kernel
theorem dp2_9 : decode method_2_code 9 = .ok (.iconst 1, 1) := by decide +kernel
theorem dp2_10 : decode method_2_code 10 = .ok (.if_icmp .ne 7, 3) := by decide +kernel
theorem dp2_17 : decode method_2_code 17 = .ok (.iload_n 0, 1) := by decide +kernel
theorem dp2_18 : decode method_2_code 18 = .ok (.iconst 2, 1) := by decide +kernel
theorem dp2_19 : decode method_2_code 19 = .ok (.if_icmp .ne 7, 3) := by decide +kernel
theorem dp2_22 : decode method_2_code 22 = .ok (.getstatic 16, 3) := by decide +kernel
theorem dp2_25 : decode method_2_code 25 = .ok (.areturn, 1) := by decide +kernel
theorem pnp2 : plainName "com/example/millpact/millpact/TimeRecordWorkdayPinLaw" = true := by first | (simp [plainName, overriddenIn]; done) | decide +kernel
theorem efp2 (m : MethodId)  : entryFrame m #[(.int (2 : Int32))] 1 = mkF m 0 #[.val (.int (2 : Int32))] [] := by first | (simp [entryFrame, mkF, argsToLocals, Value.category]; done) | rfl
def Qp2 (Z : State)  (a_CALL_IN : Addr) (h0 : Heap) (n0 : Nat) (v : Option Value) (h : Heap) (L : List Loc) : Prop := v = some (.ref a_CALL_IN) ∧ Fr n0 L ∧ h = h0
set_option maxRecDepth 65536 in
set_option maxHeartbeats 40000000 in
theorem rmp2 (l : Launch) (Z : State) (a0 : Array Value) (hw : ∀ d ∈ tables_1, d.before a0 Z = true) (ws : List Jvm.Cond)  (a_CALL_IN : Addr) (h0 : Heap) (n0 : Nat) (Z0 : n0 ≤ h0.size) (S_CALL_IN : Sta Z h0 "com/example/millpact/millpact/TimeRecord$Type" "CALL_IN" "Lcom/example/millpact/millpact/TimeRecord$Type;" (.ref a_CALL_IN)) :
    MetFree l (⟨"com/example/millpact/millpact/TimeRecordWorkdayPinLaw", "pick", "(I)Lcom/example/millpact/millpact/TimeRecord$Type;"⟩ : MethodName) (head1 (Jvm.Cond.code (⟨"com/example/millpact/millpact/TimeRecordWorkdayPinLaw", "pick", "(I)Lcom/example/millpact/millpact/TimeRecord$Type;"⟩ : MethodName) method_2_code 1 (some (.object "com/example/millpact/millpact/TimeRecord$Type")) :: ws) ({ frames := 0, cells := 0, slots := 0, locals := 0 } : Room)) (fun a U => a = #[(.int (2 : Int32))] ∧ Z.Warmed39 U.vm ∧ U.heap = h0) (fun _ _ _ _ _ => True) (fun _ U o U' => ∃ v L, o = .returned v ∧ Qp2 Z a_CALL_IN h0 n0 v U'.heap L ∧ FrameEnd U o U' L ({ frames := 0, cells := 0, slots := 0, locals := 0 } : Room).cells ({ frames := 0, cells := 0, slots := 0, locals := 0 } : Room).slots) := by
  refine MetFree.of_bodySF (plainFor_of_name pnp2) hisR ?_
  intro p e s m args below meth c s₁ Bd hml0 hP hK
  obtain ⟨rfl, hZ, hh⟩ := hP
  have hx := Bd.exec
  have hby := Bd.bytes
  have hml : c.maxLocals = 1 := hml0
  have hown : s.vm.findClass "com/example/millpact/millpact/TimeRecordWorkdayPinLaw" = some m.cls := findClass_of_methodNamed Bd.named
  have hnm := (name_of_methodNamed Bd.named Bd.method).1
  have X0 : Stand p l e ({ frames := 0, cells := 0, slots := 0, locals := 0 } : Room) s m #[(.int (2 : Int32))] below meth c s₁ [] 0 0 := Stand.of_body Bd
  have e0 : s₁.heap = h0 := by rw [← hh, Bd.state]; rfl
  have N0 := Fr.nil n0
  have pre0 : ∀ t, Steps p.tables e below (s₁.setTop (mkF m 0 #[.val (.int (2 : Int32))] [])) t → Steps p.tables e below (s₁.setTop (entryFrame m #[(.int (2 : Int32))] 1)) t := fun t k => castTop (efp2 m ) k
  have p1 : ∀ t, Steps p.tables e below (s₁.setTop (mkF m 22 #[.val (.int (2 : Int32))] [])) t → Steps p.tables e below (s₁.setTop (entryFrame m #[(.int (2 : Int32))] 1)) t := fun t k => pre0 t (by
    show Steps p.tables e below (s₁.setTop (mkF m 0 #[.val (.int (2 : Int32))] [])) _
    refine XS.iloadN X0.here hx rfl (hb hby dp2_0) rfl ?_
    show Steps p.tables e below (s₁.setTop (mkF m 1 #[.val (.int (2 : Int32))] [(.int (2 : Int32))])) _
    refine XS.ifYes X0.here hx rfl (pc0 := 1) (pc' := 8) rfl (hb hby dp2_1) rfl ((if0 _ _).trans (feq (by decide)).2) (by decide) (by decide) ?_
    show Steps p.tables e below (s₁.setTop (mkF m 8 #[.val (.int (2 : Int32))] [])) _
    refine XS.iloadN X0.here hx rfl (hb hby dp2_8) rfl ?_
    show Steps p.tables e below (s₁.setTop (mkF m 9 #[.val (.int (2 : Int32))] [(.int (2 : Int32))])) _
    refine XS.iconst X0.here hx rfl (hb hby dp2_9) ?_
    show Steps p.tables e below (s₁.setTop (mkF m 10 #[.val (.int (2 : Int32))] [(.int (1 : Int32)), (.int (2 : Int32))])) _
    refine XS.icmpYes X0.here hx rfl (pc0 := 10) (pc' := 17) rfl (hb hby dp2_10) rfl ((feq (by decide)).2) (by decide) (by decide) ?_
    show Steps p.tables e below (s₁.setTop (mkF m 17 #[.val (.int (2 : Int32))] [])) _
    refine XS.iloadN X0.here hx rfl (hb hby dp2_17) rfl ?_
    show Steps p.tables e below (s₁.setTop (mkF m 18 #[.val (.int (2 : Int32))] [(.int (2 : Int32))])) _
    refine XS.iconst X0.here hx rfl (hb hby dp2_18) ?_
    show Steps p.tables e below (s₁.setTop (mkF m 19 #[.val (.int (2 : Int32))] [(.int (2 : Int32)), (.int (2 : Int32))])) _
    refine XS.icmpNo X0.here hx rfl (hb hby dp2_19) rfl ((teq (rfl)).2) ?_
    exact k)
  obtain ⟨T2, X2, e2, st2⟩ := getS2 X0 hx hZ hown (host := "") (Or.inl (hw _ (List.mem_of_getElem? (i := 31) rfl))) Via.refl e0 S_CALL_IN (g := (mkF m 22 #[.val (.int (2 : Int32))] [])) rfl (hb hby dp2_22)
  have p3 : ∀ t, Steps p.tables e below (T2.setTop (mkF m 25 #[.val (.int (2 : Int32))] [(.ref a_CALL_IN)])) t → Steps p.tables e below (s₁.setTop (entryFrame m #[(.int (2 : Int32))] 1)) t := fun t k => p1 t (st2 t k)
  obtain ⟨fs, hr, hrun, hended, hW, hsame⟩ := X2.leave (v := some (.ref a_CALL_IN)) (fun h => by rw [Bd.returns] at h; cases h)
  refine ⟨_, _, p3 _ ?_, hrun, hended, _, _, rfl, ?_, ⟨_, rfl⟩, hW, hsame.mono (by decide) (by decide)⟩
  · show Steps p.tables e below (T2.setTop (mkF m 25 #[.val (.int (2 : Int32))] [(.ref a_CALL_IN)])) _
    exact retOut X2 hx Bd.returns rfl (Or.inr (Or.inr (Or.inr (Or.inr ⟨rfl, rfl, rfl⟩)))) (hb hby dp2_25) hr
  · show Qp2 Z a_CALL_IN h0 n0 _ T2.heap _
    rw [e2]
    exact ⟨rfl, N0, rfl⟩
theorem dp3_0 : decode method_2_code 0 = .ok (.iload_n 0, 1) := by decide +kernel
theorem dp3_1 : decode method_2_code 1 = .ok (.ifCond .ne 7, 3) := by decide +kernel
theorem dp3_8 : decode method_2_code 8 = .ok (.iload_n 0, 1) := by decide +kernel
theorem dp3_9 : decode method_2_code 9 = .ok (.iconst 1, 1) := by decide +kernel
theorem dp3_10 : decode method_2_code 10 = .ok (.if_icmp .ne 7, 3) := by decide +kernel
theorem dp3_17 : decode method_2_code 17 = .ok (.iload_n 0, 1) := by decide +kernel
theorem dp3_18 : decode method_2_code 18 = .ok (.iconst 2, 1) := by decide +kernel
theorem dp3_19 : decode method_2_code 19 = .ok (.if_icmp .ne 7, 3) := by decide +kernel
theorem dp3_26 : decode method_2_code 26 = .ok (.iload_n 0, 1) := by decide +kernel
theorem dp3_27 : decode method_2_code 27 = .ok (.iconst 3, 1) := by decide +kernel
theorem dp3_28 : decode method_2_code 28 = .ok (.if_icmp .ne 7, 3) := by decide +kernel
theorem dp3_31 : decode method_2_code 31 = .ok (.getstatic 19, 3) := by decide +kernel
theorem dp3_34 : decode method_2_code 34 = .ok (.areturn, 1) := by decide +kernel
theorem pnp3 : plainName "com/example/millpact/millpact/TimeRecordWorkdayPinLaw" = true := by first | (simp [plainName, overriddenIn]; done) | decide +kernel
theorem efp3 (m : MethodId)  : entryFrame m #[(.int (3 : Int32))] 1 = mkF m 0 #[.val (.int (3 : Int32))] [] := by first | (simp [entryFrame, mkF, argsToLocals, Value.category]; done) | rfl
def Qp3 (Z : State)  (a_WIRE_CALL_IN : Addr) (h0 : Heap) (n0 : Nat) (v : Option Value) (h : Heap) (L : List Loc) : Prop := v = some (.ref a_WIRE_CALL_IN) ∧ Fr n0 L ∧ h = h0
set_option maxRecDepth 65536 in
set_option maxHeartbeats 40000000 in
theorem rmp3 (l : Launch) (Z : State) (a0 : Array Value) (hw : ∀ d ∈ tables_1, d.before a0 Z = true) (ws : List Jvm.Cond)  (a_WIRE_CALL_IN : Addr) (h0 : Heap) (n0 : Nat) (Z0 : n0 ≤ h0.size) (S_WIRE_CALL_IN : Sta Z h0 "com/example/millpact/millpact/TimeRecord$Type" "WIRE_CALL_IN" "Lcom/example/millpact/millpact/TimeRecord$Type;" (.ref a_WIRE_CALL_IN)) :
    MetFree l (⟨"com/example/millpact/millpact/TimeRecordWorkdayPinLaw", "pick", "(I)Lcom/example/millpact/millpact/TimeRecord$Type;"⟩ : MethodName) (head1 (Jvm.Cond.code (⟨"com/example/millpact/millpact/TimeRecordWorkdayPinLaw", "pick", "(I)Lcom/example/millpact/millpact/TimeRecord$Type;"⟩ : MethodName) method_2_code 1 (some (.object "com/example/millpact/millpact/TimeRecord$Type")) :: ws) ({ frames := 0, cells := 0, slots := 0, locals := 0 } : Room)) (fun a U => a = #[(.int (3 : Int32))] ∧ Z.Warmed39 U.vm ∧ U.heap = h0) (fun _ _ _ _ _ => True) (fun _ U o U' => ∃ v L, o = .returned v ∧ Qp3 Z a_WIRE_CALL_IN h0 n0 v U'.heap L ∧ FrameEnd U o U' L ({ frames := 0, cells := 0, slots := 0, locals := 0 } : Room).cells ({ frames := 0, cells := 0, slots := 0, locals := 0 } : Room).slots) := by
  refine MetFree.of_bodySF (plainFor_of_name pnp3) hisR ?_
  intro p e s m args below meth c s₁ Bd hml0 hP hK
  obtain ⟨rfl, hZ, hh⟩ := hP
  have hx := Bd.exec
  have hby := Bd.bytes
  have hml : c.maxLocals = 1 := hml0
  have hown : s.vm.findClass "com/example/millpact/millpact/TimeRecordWorkdayPinLaw" = some m.cls := findClass_of_methodNamed Bd.named
  have hnm := (name_of_methodNamed Bd.named Bd.method).1
  have X0 : Stand p l e ({ frames := 0, cells := 0, slots := 0, locals := 0 } : Room) s m #[(.int (3 : Int32))] below meth c s₁ [] 0 0 := Stand.of_body Bd
  have e0 : s₁.heap = h0 := by rw [← hh, Bd.state]; rfl
  have N0 := Fr.nil n0
  have pre0 : ∀ t, Steps p.tables e below (s₁.setTop (mkF m 0 #[.val (.int (3 : Int32))] [])) t → Steps p.tables e below (s₁.setTop (entryFrame m #[(.int (3 : Int32))] 1)) t := fun t k => castTop (efp3 m ) k
  have p1 : ∀ t, Steps p.tables e below (s₁.setTop (mkF m 31 #[.val (.int (3 : Int32))] [])) t → Steps p.tables e below (s₁.setTop (entryFrame m #[(.int (3 : Int32))] 1)) t := fun t k => pre0 t (by
    show Steps p.tables e below (s₁.setTop (mkF m 0 #[.val (.int (3 : Int32))] [])) _
    refine XS.iloadN X0.here hx rfl (hb hby dp3_0) rfl ?_
    show Steps p.tables e below (s₁.setTop (mkF m 1 #[.val (.int (3 : Int32))] [(.int (3 : Int32))])) _
    refine XS.ifYes X0.here hx rfl (pc0 := 1) (pc' := 8) rfl (hb hby dp3_1) rfl ((if0 _ _).trans (feq (by decide)).2) (by decide) (by decide) ?_
    show Steps p.tables e below (s₁.setTop (mkF m 8 #[.val (.int (3 : Int32))] [])) _
    refine XS.iloadN X0.here hx rfl (hb hby dp3_8) rfl ?_
    show Steps p.tables e below (s₁.setTop (mkF m 9 #[.val (.int (3 : Int32))] [(.int (3 : Int32))])) _
    refine XS.iconst X0.here hx rfl (hb hby dp3_9) ?_
    show Steps p.tables e below (s₁.setTop (mkF m 10 #[.val (.int (3 : Int32))] [(.int (1 : Int32)), (.int (3 : Int32))])) _
    refine XS.icmpYes X0.here hx rfl (pc0 := 10) (pc' := 17) rfl (hb hby dp3_10) rfl ((feq (by decide)).2) (by decide) (by decide) ?_
    show Steps p.tables e below (s₁.setTop (mkF m 17 #[.val (.int (3 : Int32))] [])) _
    refine XS.iloadN X0.here hx rfl (hb hby dp3_17) rfl ?_
    show Steps p.tables e below (s₁.setTop (mkF m 18 #[.val (.int (3 : Int32))] [(.int (3 : Int32))])) _
    refine XS.iconst X0.here hx rfl (hb hby dp3_18) ?_
    show Steps p.tables e below (s₁.setTop (mkF m 19 #[.val (.int (3 : Int32))] [(.int (2 : Int32)), (.int (3 : Int32))])) _
    refine XS.icmpYes X0.here hx rfl (pc0 := 19) (pc' := 26) rfl (hb hby dp3_19) rfl ((feq (by decide)).2) (by decide) (by decide) ?_
    show Steps p.tables e below (s₁.setTop (mkF m 26 #[.val (.int (3 : Int32))] [])) _
    refine XS.iloadN X0.here hx rfl (hb hby dp3_26) rfl ?_
    show Steps p.tables e below (s₁.setTop (mkF m 27 #[.val (.int (3 : Int32))] [(.int (3 : Int32))])) _
    refine XS.iconst X0.here hx rfl (hb hby dp3_27) ?_
    show Steps p.tables e below (s₁.setTop (mkF m 28 #[.val (.int (3 : Int32))] [(.int (3 : Int32)), (.int (3 : Int32))])) _
    refine XS.icmpNo X0.here hx rfl (hb hby dp3_28) rfl ((teq (rfl)).2) ?_
    exact k)
  obtain ⟨T2, X2, e2, st2⟩ := getS2 X0 hx hZ hown (host := "") (Or.inl (hw _ (List.mem_of_getElem? (i := 22) rfl))) Via.refl e0 S_WIRE_CALL_IN (g := (mkF m 31 #[.val (.int (3 : Int32))] [])) rfl (hb hby dp3_31)
  have p3 : ∀ t, Steps p.tables e below (T2.setTop (mkF m 34 #[.val (.int (3 : Int32))] [(.ref a_WIRE_CALL_IN)])) t → Steps p.tables e below (s₁.setTop (entryFrame m #[(.int (3 : Int32))] 1)) t := fun t k => p1 t (st2 t k)
  obtain ⟨fs, hr, hrun, hended, hW, hsame⟩ := X2.leave (v := some (.ref a_WIRE_CALL_IN)) (fun h => by rw [Bd.returns] at h; cases h)
  refine ⟨_, _, p3 _ ?_, hrun, hended, _, _, rfl, ?_, ⟨_, rfl⟩, hW, hsame.mono (by decide) (by decide)⟩
  · show Steps p.tables e below (T2.setTop (mkF m 34 #[.val (.int (3 : Int32))] [(.ref a_WIRE_CALL_IN)])) _
    exact retOut X2 hx Bd.returns rfl (Or.inr (Or.inr (Or.inr (Or.inr ⟨rfl, rfl, rfl⟩)))) (hb hby dp3_34) hr
  · show Qp3 Z a_WIRE_CALL_IN h0 n0 _ T2.heap _
    rw [e2]
    exact ⟨rfl, N0, rfl⟩
theorem dp4_0 : decode method_2_code 0 = .ok (.iload_n 0, 1) := by decide +kernel
theorem dp4_1 : decode method_2_code 1 = .ok (.ifCond .ne 7, 3) := by decide +kernel
theorem dp4_8 : decode method_2_code 8 = .ok (.iload_n 0, 1) := by decide +kernel
theorem dp4_9 : decode method_2_code 9 = .ok (.iconst 1, 1) := by decide +kernel
theorem dp4_10 : decode method_2_code 10 = .ok (.if_icmp .ne 7, 3) := by decide +kernel
theorem dp4_17 : decode method_2_code 17 = .ok (.iload_n 0, 1) := by decide +kernel
theorem dp4_18 : decode method_2_code 18 = .ok (.iconst 2, 1) := by decide +kernel
theorem dp4_19 : decode method_2_code 19 = .ok (.if_icmp .ne 7, 3) := by decide +kernel
theorem dp4_26 : decode method_2_code 26 = .ok (.iload_n 0, 1) := by decide +kernel
theorem dp4_27 : decode method_2_code 27 = .ok (.iconst 3, 1) := by decide +kernel
theorem dp4_28 : decode method_2_code 28 = .ok (.if_icmp .ne 7, 3) := by decide +kernel
theorem dp4_35 : decode method_2_code 35 = .ok (.iload_n 0, 1) := by decide +kernel
theorem dp4_36 : decode method_2_code 36 = .ok (.iconst 4, 1) := by decide +kernel
theorem dp4_37 : decode method_2_code 37 = .ok (.if_icmp .ne 7, 3) := by decide +kernel
theorem dp4_40 : decode method_2_code 40 = .ok (.getstatic 22, 3) := by decide +kernel
theorem dp4_43 : decode method_2_code 43 = .ok (.areturn, 1) := by decide +kernel
theorem pnp4 : plainName "com/example/millpact/millpact/TimeRecordWorkdayPinLaw" = true := by first | (simp [plainName, overriddenIn]; done) | decide +kernel
theorem efp4 (m : MethodId)  : entryFrame m #[(.int (4 : Int32))] 1 = mkF m 0 #[.val (.int (4 : Int32))] [] := by first | (simp [entryFrame, mkF, argsToLocals, Value.category]; done) | rfl
def Qp4 (Z : State)  (a_SENT_HOME : Addr) (h0 : Heap) (n0 : Nat) (v : Option Value) (h : Heap) (L : List Loc) : Prop := v = some (.ref a_SENT_HOME) ∧ Fr n0 L ∧ h = h0
set_option maxRecDepth 65536 in
set_option maxHeartbeats 40000000 in
theorem rmp4 (l : Launch) (Z : State) (a0 : Array Value) (hw : ∀ d ∈ tables_1, d.before a0 Z = true) (ws : List Jvm.Cond)  (a_SENT_HOME : Addr) (h0 : Heap) (n0 : Nat) (Z0 : n0 ≤ h0.size) (S_SENT_HOME : Sta Z h0 "com/example/millpact/millpact/TimeRecord$Type" "SENT_HOME" "Lcom/example/millpact/millpact/TimeRecord$Type;" (.ref a_SENT_HOME)) :
    MetFree l (⟨"com/example/millpact/millpact/TimeRecordWorkdayPinLaw", "pick", "(I)Lcom/example/millpact/millpact/TimeRecord$Type;"⟩ : MethodName) (head1 (Jvm.Cond.code (⟨"com/example/millpact/millpact/TimeRecordWorkdayPinLaw", "pick", "(I)Lcom/example/millpact/millpact/TimeRecord$Type;"⟩ : MethodName) method_2_code 1 (some (.object "com/example/millpact/millpact/TimeRecord$Type")) :: ws) ({ frames := 0, cells := 0, slots := 0, locals := 0 } : Room)) (fun a U => a = #[(.int (4 : Int32))] ∧ Z.Warmed39 U.vm ∧ U.heap = h0) (fun _ _ _ _ _ => True) (fun _ U o U' => ∃ v L, o = .returned v ∧ Qp4 Z a_SENT_HOME h0 n0 v U'.heap L ∧ FrameEnd U o U' L ({ frames := 0, cells := 0, slots := 0, locals := 0 } : Room).cells ({ frames := 0, cells := 0, slots := 0, locals := 0 } : Room).slots) := by
  refine MetFree.of_bodySF (plainFor_of_name pnp4) hisR ?_
  intro p e s m args below meth c s₁ Bd hml0 hP hK
  obtain ⟨rfl, hZ, hh⟩ := hP
  have hx := Bd.exec
  have hby := Bd.bytes
  have hml : c.maxLocals = 1 := hml0
  have hown : s.vm.findClass "com/example/millpact/millpact/TimeRecordWorkdayPinLaw" = some m.cls := findClass_of_methodNamed Bd.named
  have hnm := (name_of_methodNamed Bd.named Bd.method).1
  have X0 : Stand p l e ({ frames := 0, cells := 0, slots := 0, locals := 0 } : Room) s m #[(.int (4 : Int32))] below meth c s₁ [] 0 0 := Stand.of_body Bd
  have e0 : s₁.heap = h0 := by rw [← hh, Bd.state]; rfl
  have N0 := Fr.nil n0
  have pre0 : ∀ t, Steps p.tables e below (s₁.setTop (mkF m 0 #[.val (.int (4 : Int32))] [])) t → Steps p.tables e below (s₁.setTop (entryFrame m #[(.int (4 : Int32))] 1)) t := fun t k => castTop (efp4 m ) k
  have p1 : ∀ t, Steps p.tables e below (s₁.setTop (mkF m 40 #[.val (.int (4 : Int32))] [])) t → Steps p.tables e below (s₁.setTop (entryFrame m #[(.int (4 : Int32))] 1)) t := fun t k => pre0 t (by
    show Steps p.tables e below (s₁.setTop (mkF m 0 #[.val (.int (4 : Int32))] [])) _
    refine XS.iloadN X0.here hx rfl (hb hby dp4_0) rfl ?_
    show Steps p.tables e below (s₁.setTop (mkF m 1 #[.val (.int (4 : Int32))] [(.int (4 : Int32))])) _
    refine XS.ifYes X0.here hx rfl (pc0 := 1) (pc' := 8) rfl (hb hby dp4_1) rfl ((if0 _ _).trans (feq (by decide)).2) (by decide) (by decide) ?_
    show Steps p.tables e below (s₁.setTop (mkF m 8 #[.val (.int (4 : Int32))] [])) _
    refine XS.iloadN X0.here hx rfl (hb hby dp4_8) rfl ?_
    show Steps p.tables e below (s₁.setTop (mkF m 9 #[.val (.int (4 : Int32))] [(.int (4 : Int32))])) _
    refine XS.iconst X0.here hx rfl (hb hby dp4_9) ?_
    show Steps p.tables e below (s₁.setTop (mkF m 10 #[.val (.int (4 : Int32))] [(.int (1 : Int32)), (.int (4 : Int32))])) _
    refine XS.icmpYes X0.here hx rfl (pc0 := 10) (pc' := 17) rfl (hb hby dp4_10) rfl ((feq (by decide)).2) (by decide) (by decide) ?_
    show Steps p.tables e below (s₁.setTop (mkF m 17 #[.val (.int (4 : Int32))] [])) _
    refine XS.iloadN X0.here hx rfl (hb hby dp4_17) rfl ?_
    show Steps p.tables e below (s₁.setTop (mkF m 18 #[.val (.int (4 : Int32))] [(.int (4 : Int32))])) _
    refine XS.iconst X0.here hx rfl (hb hby dp4_18) ?_
    show Steps p.tables e below (s₁.setTop (mkF m 19 #[.val (.int (4 : Int32))] [(.int (2 : Int32)), (.int (4 : Int32))])) _
    refine XS.icmpYes X0.here hx rfl (pc0 := 19) (pc' := 26) rfl (hb hby dp4_19) rfl ((feq (by decide)).2) (by decide) (by decide) ?_
    show Steps p.tables e below (s₁.setTop (mkF m 26 #[.val (.int (4 : Int32))] [])) _
    refine XS.iloadN X0.here hx rfl (hb hby dp4_26) rfl ?_
    show Steps p.tables e below (s₁.setTop (mkF m 27 #[.val (.int (4 : Int32))] [(.int (4 : Int32))])) _
    refine XS.iconst X0.here hx rfl (hb hby dp4_27) ?_
    show Steps p.tables e below (s₁.setTop (mkF m 28 #[.val (.int (4 : Int32))] [(.int (3 : Int32)), (.int (4 : Int32))])) _
    refine XS.icmpYes X0.here hx rfl (pc0 := 28) (pc' := 35) rfl (hb hby dp4_28) rfl ((feq (by decide)).2) (by decide) (by decide) ?_
    show Steps p.tables e below (s₁.setTop (mkF m 35 #[.val (.int (4 : Int32))] [])) _
    refine XS.iloadN X0.here hx rfl (hb hby dp4_35) rfl ?_
    show Steps p.tables e below (s₁.setTop (mkF m 36 #[.val (.int (4 : Int32))] [(.int (4 : Int32))])) _
    refine XS.iconst X0.here hx rfl (hb hby dp4_36) ?_
    show Steps p.tables e below (s₁.setTop (mkF m 37 #[.val (.int (4 : Int32))] [(.int (4 : Int32)), (.int (4 : Int32))])) _
    refine XS.icmpNo X0.here hx rfl (hb hby dp4_37) rfl ((teq (rfl)).2) ?_
    exact k)
  obtain ⟨T2, X2, e2, st2⟩ := getS2 X0 hx hZ hown (host := "") (Or.inl (hw _ (List.mem_of_getElem? (i := 34) rfl))) Via.refl e0 S_SENT_HOME (g := (mkF m 40 #[.val (.int (4 : Int32))] [])) rfl (hb hby dp4_40)
  have p3 : ∀ t, Steps p.tables e below (T2.setTop (mkF m 43 #[.val (.int (4 : Int32))] [(.ref a_SENT_HOME)])) t → Steps p.tables e below (s₁.setTop (entryFrame m #[(.int (4 : Int32))] 1)) t := fun t k => p1 t (st2 t k)
  obtain ⟨fs, hr, hrun, hended, hW, hsame⟩ := X2.leave (v := some (.ref a_SENT_HOME)) (fun h => by rw [Bd.returns] at h; cases h)
  refine ⟨_, _, p3 _ ?_, hrun, hended, _, _, rfl, ?_, ⟨_, rfl⟩, hW, hsame.mono (by decide) (by decide)⟩
  · show Steps p.tables e below (T2.setTop (mkF m 43 #[.val (.int (4 : Int32))] [(.ref a_SENT_HOME)])) _
    exact retOut X2 hx Bd.returns rfl (Or.inr (Or.inr (Or.inr (Or.inr ⟨rfl, rfl, rfl⟩)))) (hb hby dp4_43) hr
  · show Qp4 Z a_SENT_HOME h0 n0 _ T2.heap _
    rw [e2]
    exact ⟨rfl, N0, rfl⟩
theorem dp5_0 : decode method_2_code 0 = .ok (.iload_n 0, 1) := by decide +kernel
theorem dp5_1 : decode method_2_code 1 = .ok (.ifCond .ne 7, 3) := by decide +kernel
theorem dp5_8 : decode method_2_code 8 = .ok (.iload_n 0, 1) := by decide +kernel
theorem dp5_9 : decode method_2_code 9 = .ok (.iconst 1, 1) := by decide +kernel
theorem dp5_10 : decode method_2_code 10 = .ok (.if_icmp .ne 7, 3) := by decide +kernel
theorem dp5_17 : decode method_2_code 17 = .ok (.iload_n 0, 1) := by decide +kernel
theorem dp5_18 : decode method_2_code 18 = .ok (.iconst 2, 1) := by decide +kernel
theorem dp5_19 : decode method_2_code 19 = .ok (.if_icmp .ne 7, 3) := by decide +kernel
theorem dp5_26 : decode method_2_code 26 = .ok (.iload_n 0, 1) := by decide +kernel
theorem dp5_27 : decode method_2_code 27 = .ok (.iconst 3, 1) := by decide +kernel
theorem dp5_28 : decode method_2_code 28 = .ok (.if_icmp .ne 7, 3) := by decide +kernel
theorem dp5_35 : decode method_2_code 35 = .ok (.iload_n 0, 1) := by decide +kernel
theorem dp5_36 : decode method_2_code 36 = .ok (.iconst 4, 1) := by decide +kernel
theorem dp5_37 : decode method_2_code 37 = .ok (.if_icmp .ne 7, 3) := by decide +kernel
theorem dp5_44 : decode method_2_code 44 = .ok (.iload_n 0, 1) := by decide +kernel
theorem dp5_45 : decode method_2_code 45 = .ok (.iconst 5, 1) := by decide +kernel
theorem dp5_46 : decode method_2_code 46 = .ok (.if_icmp .ne 7, 3) := by decide +kernel
theorem dp5_49 : decode method_2_code 49 = .ok (.getstatic 25, 3) := by decide +kernel
theorem dp5_52 : decode method_2_code 52 = .ok (.areturn, 1) := by decide +kernel
theorem pnp5 : plainName "com/example/millpact/millpact/TimeRecordWorkdayPinLaw" = true := by first | (simp [plainName, overriddenIn]; done) | decide +kernel
theorem efp5 (m : MethodId)  : entryFrame m #[(.int (5 : Int32))] 1 = mkF m 0 #[.val (.int (5 : Int32))] [] := by first | (simp [entryFrame, mkF, argsToLocals, Value.category]; done) | rfl
def Qp5 (Z : State)  (a_DAY_OFF : Addr) (h0 : Heap) (n0 : Nat) (v : Option Value) (h : Heap) (L : List Loc) : Prop := v = some (.ref a_DAY_OFF) ∧ Fr n0 L ∧ h = h0
set_option maxRecDepth 65536 in
set_option maxHeartbeats 40000000 in
theorem rmp5 (l : Launch) (Z : State) (a0 : Array Value) (hw : ∀ d ∈ tables_1, d.before a0 Z = true) (ws : List Jvm.Cond)  (a_DAY_OFF : Addr) (h0 : Heap) (n0 : Nat) (Z0 : n0 ≤ h0.size) (S_DAY_OFF : Sta Z h0 "com/example/millpact/millpact/TimeRecord$Type" "DAY_OFF" "Lcom/example/millpact/millpact/TimeRecord$Type;" (.ref a_DAY_OFF)) :
    MetFree l (⟨"com/example/millpact/millpact/TimeRecordWorkdayPinLaw", "pick", "(I)Lcom/example/millpact/millpact/TimeRecord$Type;"⟩ : MethodName) (head1 (Jvm.Cond.code (⟨"com/example/millpact/millpact/TimeRecordWorkdayPinLaw", "pick", "(I)Lcom/example/millpact/millpact/TimeRecord$Type;"⟩ : MethodName) method_2_code 1 (some (.object "com/example/millpact/millpact/TimeRecord$Type")) :: ws) ({ frames := 0, cells := 0, slots := 0, locals := 0 } : Room)) (fun a U => a = #[(.int (5 : Int32))] ∧ Z.Warmed39 U.vm ∧ U.heap = h0) (fun _ _ _ _ _ => True) (fun _ U o U' => ∃ v L, o = .returned v ∧ Qp5 Z a_DAY_OFF h0 n0 v U'.heap L ∧ FrameEnd U o U' L ({ frames := 0, cells := 0, slots := 0, locals := 0 } : Room).cells ({ frames := 0, cells := 0, slots := 0, locals := 0 } : Room).slots) := by
  refine MetFree.of_bodySF (plainFor_of_name pnp5) hisR ?_
  intro p e s m args below meth c s₁ Bd hml0 hP hK
  obtain ⟨rfl, hZ, hh⟩ := hP
  have hx := Bd.exec
  have hby := Bd.bytes
  have hml : c.maxLocals = 1 := hml0
  have hown : s.vm.findClass "com/example/millpact/millpact/TimeRecordWorkdayPinLaw" = some m.cls := findClass_of_methodNamed Bd.named
  have hnm := (name_of_methodNamed Bd.named Bd.method).1
  have X0 : Stand p l e ({ frames := 0, cells := 0, slots := 0, locals := 0 } : Room) s m #[(.int (5 : Int32))] below meth c s₁ [] 0 0 := Stand.of_body Bd
  have e0 : s₁.heap = h0 := by rw [← hh, Bd.state]; rfl
  have N0 := Fr.nil n0
  have pre0 : ∀ t, Steps p.tables e below (s₁.setTop (mkF m 0 #[.val (.int (5 : Int32))] [])) t → Steps p.tables e below (s₁.setTop (entryFrame m #[(.int (5 : Int32))] 1)) t := fun t k => castTop (efp5 m ) k
  have p1 : ∀ t, Steps p.tables e below (s₁.setTop (mkF m 49 #[.val (.int (5 : Int32))] [])) t → Steps p.tables e below (s₁.setTop (entryFrame m #[(.int (5 : Int32))] 1)) t := fun t k => pre0 t (by
    show Steps p.tables e below (s₁.setTop (mkF m 0 #[.val (.int (5 : Int32))] [])) _
    refine XS.iloadN X0.here hx rfl (hb hby dp5_0) rfl ?_
    show Steps p.tables e below (s₁.setTop (mkF m 1 #[.val (.int (5 : Int32))] [(.int (5 : Int32))])) _
    refine XS.ifYes X0.here hx rfl (pc0 := 1) (pc' := 8) rfl (hb hby dp5_1) rfl ((if0 _ _).trans (feq (by decide)).2) (by decide) (by decide) ?_
    show Steps p.tables e below (s₁.setTop (mkF m 8 #[.val (.int (5 : Int32))] [])) _
    refine XS.iloadN X0.here hx rfl (hb hby dp5_8) rfl ?_
    show Steps p.tables e below (s₁.setTop (mkF m 9 #[.val (.int (5 : Int32))] [(.int (5 : Int32))])) _
    refine XS.iconst X0.here hx rfl (hb hby dp5_9) ?_
    show Steps p.tables e below (s₁.setTop (mkF m 10 #[.val (.int (5 : Int32))] [(.int (1 : Int32)), (.int (5 : Int32))])) _
    refine XS.icmpYes X0.here hx rfl (pc0 := 10) (pc' := 17) rfl (hb hby dp5_10) rfl ((feq (by decide)).2) (by decide) (by decide) ?_
    show Steps p.tables e below (s₁.setTop (mkF m 17 #[.val (.int (5 : Int32))] [])) _
    refine XS.iloadN X0.here hx rfl (hb hby dp5_17) rfl ?_
    show Steps p.tables e below (s₁.setTop (mkF m 18 #[.val (.int (5 : Int32))] [(.int (5 : Int32))])) _
    refine XS.iconst X0.here hx rfl (hb hby dp5_18) ?_
    show Steps p.tables e below (s₁.setTop (mkF m 19 #[.val (.int (5 : Int32))] [(.int (2 : Int32)), (.int (5 : Int32))])) _
    refine XS.icmpYes X0.here hx rfl (pc0 := 19) (pc' := 26) rfl (hb hby dp5_19) rfl ((feq (by decide)).2) (by decide) (by decide) ?_
    show Steps p.tables e below (s₁.setTop (mkF m 26 #[.val (.int (5 : Int32))] [])) _
    refine XS.iloadN X0.here hx rfl (hb hby dp5_26) rfl ?_
    show Steps p.tables e below (s₁.setTop (mkF m 27 #[.val (.int (5 : Int32))] [(.int (5 : Int32))])) _
    refine XS.iconst X0.here hx rfl (hb hby dp5_27) ?_
    show Steps p.tables e below (s₁.setTop (mkF m 28 #[.val (.int (5 : Int32))] [(.int (3 : Int32)), (.int (5 : Int32))])) _
    refine XS.icmpYes X0.here hx rfl (pc0 := 28) (pc' := 35) rfl (hb hby dp5_28) rfl ((feq (by decide)).2) (by decide) (by decide) ?_
    show Steps p.tables e below (s₁.setTop (mkF m 35 #[.val (.int (5 : Int32))] [])) _
    refine XS.iloadN X0.here hx rfl (hb hby dp5_35) rfl ?_
    show Steps p.tables e below (s₁.setTop (mkF m 36 #[.val (.int (5 : Int32))] [(.int (5 : Int32))])) _
    refine XS.iconst X0.here hx rfl (hb hby dp5_36) ?_
    show Steps p.tables e below (s₁.setTop (mkF m 37 #[.val (.int (5 : Int32))] [(.int (4 : Int32)), (.int (5 : Int32))])) _
    refine XS.icmpYes X0.here hx rfl (pc0 := 37) (pc' := 44) rfl (hb hby dp5_37) rfl ((feq (by decide)).2) (by decide) (by decide) ?_
    show Steps p.tables e below (s₁.setTop (mkF m 44 #[.val (.int (5 : Int32))] [])) _
    refine XS.iloadN X0.here hx rfl (hb hby dp5_44) rfl ?_
    show Steps p.tables e below (s₁.setTop (mkF m 45 #[.val (.int (5 : Int32))] [(.int (5 : Int32))])) _
    refine XS.iconst X0.here hx rfl (hb hby dp5_45) ?_
    show Steps p.tables e below (s₁.setTop (mkF m 46 #[.val (.int (5 : Int32))] [(.int (5 : Int32)), (.int (5 : Int32))])) _
    refine XS.icmpNo X0.here hx rfl (hb hby dp5_46) rfl ((teq (rfl)).2) ?_
    exact k)
  obtain ⟨T2, X2, e2, st2⟩ := getS2 X0 hx hZ hown (host := "") (Or.inl (hw _ (List.mem_of_getElem? (i := 35) rfl))) Via.refl e0 S_DAY_OFF (g := (mkF m 49 #[.val (.int (5 : Int32))] [])) rfl (hb hby dp5_49)
  have p3 : ∀ t, Steps p.tables e below (T2.setTop (mkF m 52 #[.val (.int (5 : Int32))] [(.ref a_DAY_OFF)])) t → Steps p.tables e below (s₁.setTop (entryFrame m #[(.int (5 : Int32))] 1)) t := fun t k => p1 t (st2 t k)
  obtain ⟨fs, hr, hrun, hended, hW, hsame⟩ := X2.leave (v := some (.ref a_DAY_OFF)) (fun h => by rw [Bd.returns] at h; cases h)
  refine ⟨_, _, p3 _ ?_, hrun, hended, _, _, rfl, ?_, ⟨_, rfl⟩, hW, hsame.mono (by decide) (by decide)⟩
  · show Steps p.tables e below (T2.setTop (mkF m 52 #[.val (.int (5 : Int32))] [(.ref a_DAY_OFF)])) _
    exact retOut X2 hx Bd.returns rfl (Or.inr (Or.inr (Or.inr (Or.inr ⟨rfl, rfl, rfl⟩)))) (hb hby dp5_52) hr
  · show Qp5 Z a_DAY_OFF h0 n0 _ T2.heap _
    rw [e2]
    exact ⟨rfl, N0, rfl⟩
theorem dp6_0 : decode method_2_code 0 = .ok (.iload_n 0, 1) := by decide +kernel
theorem dp6_1 : decode method_2_code 1 = .ok (.ifCond .ne 7, 3) := by decide +kernel
theorem dp6_8 : decode method_2_code 8 = .ok (.iload_n 0, 1) := by decide +kernel
theorem dp6_9 : decode method_2_code 9 = .ok (.iconst 1, 1) := by decide +kernel
theorem dp6_10 : decode method_2_code 10 = .ok (.if_icmp .ne 7, 3) := by decide +kernel
theorem dp6_17 : decode method_2_code 17 = .ok (.iload_n 0, 1) := by decide +kernel
theorem dp6_18 : decode method_2_code 18 = .ok (.iconst 2, 1) := by decide +kernel
theorem dp6_19 : decode method_2_code 19 = .ok (.if_icmp .ne 7, 3) := by decide +kernel
theorem dp6_26 : decode method_2_code 26 = .ok (.iload_n 0, 1) := by decide +kernel
theorem dp6_27 : decode method_2_code 27 = .ok (.iconst 3, 1) := by decide +kernel
theorem dp6_28 : decode method_2_code 28 = .ok (.if_icmp .ne 7, 3) := by decide +kernel
theorem dp6_35 : decode method_2_code 35 = .ok (.iload_n 0, 1) := by decide +kernel
theorem dp6_36 : decode method_2_code 36 = .ok (.iconst 4, 1) := by decide +kernel
theorem dp6_37 : decode method_2_code 37 = .ok (.if_icmp .ne 7, 3) := by decide +kernel
theorem dp6_44 : decode method_2_code 44 = .ok (.iload_n 0, 1) := by decide +kernel
theorem dp6_45 : decode method_2_code 45 = .ok (.iconst 5, 1) := by decide +kernel
theorem dp6_46 : decode method_2_code 46 = .ok (.if_icmp .ne 7, 3) := by decide +kernel
theorem dp6_53 : decode method_2_code 53 = .ok (.iload_n 0, 1) := by decide +kernel
theorem dp6_54 : decode method_2_code 54 = .ok (.bipush 6, 2) := by decide +kernel
theorem dp6_56 : decode method_2_code 56 = .ok (.if_icmp .ne 7, 3) := by decide +kernel
theorem dp6_59 : decode method_2_code 59 = .ok (.getstatic 28, 3) := by decide +kernel
theorem dp6_62 : decode method_2_code 62 = .ok (.areturn, 1) := by decide +kernel
theorem pnp6 : plainName "com/example/millpact/millpact/TimeRecordWorkdayPinLaw" = true := by first | (simp [plainName, overriddenIn]; done) | decide +kernel
theorem efp6 (m : MethodId)  : entryFrame m #[(.int (6 : Int32))] 1 = mkF m 0 #[.val (.int (6 : Int32))] [] := by first | (simp [entryFrame, mkF, argsToLocals, Value.category]; done) | rfl
def Qp6 (Z : State)  (a_DAY_OFF_TRADED : Addr) (h0 : Heap) (n0 : Nat) (v : Option Value) (h : Heap) (L : List Loc) : Prop := v = some (.ref a_DAY_OFF_TRADED) ∧ Fr n0 L ∧ h = h0
set_option maxRecDepth 65536 in
set_option maxHeartbeats 40000000 in
theorem rmp6 (l : Launch) (Z : State) (a0 : Array Value) (hw : ∀ d ∈ tables_1, d.before a0 Z = true) (ws : List Jvm.Cond)  (a_DAY_OFF_TRADED : Addr) (h0 : Heap) (n0 : Nat) (Z0 : n0 ≤ h0.size) (S_DAY_OFF_TRADED : Sta Z h0 "com/example/millpact/millpact/TimeRecord$Type" "DAY_OFF_TRADED" "Lcom/example/millpact/millpact/TimeRecord$Type;" (.ref a_DAY_OFF_TRADED)) :
    MetFree l (⟨"com/example/millpact/millpact/TimeRecordWorkdayPinLaw", "pick", "(I)Lcom/example/millpact/millpact/TimeRecord$Type;"⟩ : MethodName) (head1 (Jvm.Cond.code (⟨"com/example/millpact/millpact/TimeRecordWorkdayPinLaw", "pick", "(I)Lcom/example/millpact/millpact/TimeRecord$Type;"⟩ : MethodName) method_2_code 1 (some (.object "com/example/millpact/millpact/TimeRecord$Type")) :: ws) ({ frames := 0, cells := 0, slots := 0, locals := 0 } : Room)) (fun a U => a = #[(.int (6 : Int32))] ∧ Z.Warmed39 U.vm ∧ U.heap = h0) (fun _ _ _ _ _ => True) (fun _ U o U' => ∃ v L, o = .returned v ∧ Qp6 Z a_DAY_OFF_TRADED h0 n0 v U'.heap L ∧ FrameEnd U o U' L ({ frames := 0, cells := 0, slots := 0, locals := 0 } : Room).cells ({ frames := 0, cells := 0, slots := 0, locals := 0 } : Room).slots) := by
  refine MetFree.of_bodySF (plainFor_of_name pnp6) hisR ?_
  intro p e s m args below meth c s₁ Bd hml0 hP hK
  obtain ⟨rfl, hZ, hh⟩ := hP
  have hx := Bd.exec
  have hby := Bd.bytes
  have hml : c.maxLocals = 1 := hml0
  have hown : s.vm.findClass "com/example/millpact/millpact/TimeRecordWorkdayPinLaw" = some m.cls := findClass_of_methodNamed Bd.named
  have hnm := (name_of_methodNamed Bd.named Bd.method).1
  have X0 : Stand p l e ({ frames := 0, cells := 0, slots := 0, locals := 0 } : Room) s m #[(.int (6 : Int32))] below meth c s₁ [] 0 0 := Stand.of_body Bd
  have e0 : s₁.heap = h0 := by rw [← hh, Bd.state]; rfl
  have N0 := Fr.nil n0
  have pre0 : ∀ t, Steps p.tables e below (s₁.setTop (mkF m 0 #[.val (.int (6 : Int32))] [])) t → Steps p.tables e below (s₁.setTop (entryFrame m #[(.int (6 : Int32))] 1)) t := fun t k => castTop (efp6 m ) k
  have p1 : ∀ t, Steps p.tables e below (s₁.setTop (mkF m 59 #[.val (.int (6 : Int32))] [])) t → Steps p.tables e below (s₁.setTop (entryFrame m #[(.int (6 : Int32))] 1)) t := fun t k => pre0 t (by
    show Steps p.tables e below (s₁.setTop (mkF m 0 #[.val (.int (6 : Int32))] [])) _
    refine XS.iloadN X0.here hx rfl (hb hby dp6_0) rfl ?_
    show Steps p.tables e below (s₁.setTop (mkF m 1 #[.val (.int (6 : Int32))] [(.int (6 : Int32))])) _
    refine XS.ifYes X0.here hx rfl (pc0 := 1) (pc' := 8) rfl (hb hby dp6_1) rfl ((if0 _ _).trans (feq (by decide)).2) (by decide) (by decide) ?_
    show Steps p.tables e below (s₁.setTop (mkF m 8 #[.val (.int (6 : Int32))] [])) _
    refine XS.iloadN X0.here hx rfl (hb hby dp6_8) rfl ?_
    show Steps p.tables e below (s₁.setTop (mkF m 9 #[.val (.int (6 : Int32))] [(.int (6 : Int32))])) _
    refine XS.iconst X0.here hx rfl (hb hby dp6_9) ?_
    show Steps p.tables e below (s₁.setTop (mkF m 10 #[.val (.int (6 : Int32))] [(.int (1 : Int32)), (.int (6 : Int32))])) _
    refine XS.icmpYes X0.here hx rfl (pc0 := 10) (pc' := 17) rfl (hb hby dp6_10) rfl ((feq (by decide)).2) (by decide) (by decide) ?_
    show Steps p.tables e below (s₁.setTop (mkF m 17 #[.val (.int (6 : Int32))] [])) _
    refine XS.iloadN X0.here hx rfl (hb hby dp6_17) rfl ?_
    show Steps p.tables e below (s₁.setTop (mkF m 18 #[.val (.int (6 : Int32))] [(.int (6 : Int32))])) _
    refine XS.iconst X0.here hx rfl (hb hby dp6_18) ?_
    show Steps p.tables e below (s₁.setTop (mkF m 19 #[.val (.int (6 : Int32))] [(.int (2 : Int32)), (.int (6 : Int32))])) _
    refine XS.icmpYes X0.here hx rfl (pc0 := 19) (pc' := 26) rfl (hb hby dp6_19) rfl ((feq (by decide)).2) (by decide) (by decide) ?_
    show Steps p.tables e below (s₁.setTop (mkF m 26 #[.val (.int (6 : Int32))] [])) _
    refine XS.iloadN X0.here hx rfl (hb hby dp6_26) rfl ?_
    show Steps p.tables e below (s₁.setTop (mkF m 27 #[.val (.int (6 : Int32))] [(.int (6 : Int32))])) _
    refine XS.iconst X0.here hx rfl (hb hby dp6_27) ?_
    show Steps p.tables e below (s₁.setTop (mkF m 28 #[.val (.int (6 : Int32))] [(.int (3 : Int32)), (.int (6 : Int32))])) _
    refine XS.icmpYes X0.here hx rfl (pc0 := 28) (pc' := 35) rfl (hb hby dp6_28) rfl ((feq (by decide)).2) (by decide) (by decide) ?_
    show Steps p.tables e below (s₁.setTop (mkF m 35 #[.val (.int (6 : Int32))] [])) _
    refine XS.iloadN X0.here hx rfl (hb hby dp6_35) rfl ?_
    show Steps p.tables e below (s₁.setTop (mkF m 36 #[.val (.int (6 : Int32))] [(.int (6 : Int32))])) _
    refine XS.iconst X0.here hx rfl (hb hby dp6_36) ?_
    show Steps p.tables e below (s₁.setTop (mkF m 37 #[.val (.int (6 : Int32))] [(.int (4 : Int32)), (.int (6 : Int32))])) _
    refine XS.icmpYes X0.here hx rfl (pc0 := 37) (pc' := 44) rfl (hb hby dp6_37) rfl ((feq (by decide)).2) (by decide) (by decide) ?_
    show Steps p.tables e below (s₁.setTop (mkF m 44 #[.val (.int (6 : Int32))] [])) _
    refine XS.iloadN X0.here hx rfl (hb hby dp6_44) rfl ?_
    show Steps p.tables e below (s₁.setTop (mkF m 45 #[.val (.int (6 : Int32))] [(.int (6 : Int32))])) _
    refine XS.iconst X0.here hx rfl (hb hby dp6_45) ?_
    show Steps p.tables e below (s₁.setTop (mkF m 46 #[.val (.int (6 : Int32))] [(.int (5 : Int32)), (.int (6 : Int32))])) _
    refine XS.icmpYes X0.here hx rfl (pc0 := 46) (pc' := 53) rfl (hb hby dp6_46) rfl ((feq (by decide)).2) (by decide) (by decide) ?_
    show Steps p.tables e below (s₁.setTop (mkF m 53 #[.val (.int (6 : Int32))] [])) _
    refine XS.iloadN X0.here hx rfl (hb hby dp6_53) rfl ?_
    show Steps p.tables e below (s₁.setTop (mkF m 54 #[.val (.int (6 : Int32))] [(.int (6 : Int32))])) _
    refine XS.bipush X0.here hx rfl (hb hby dp6_54) ?_
    show Steps p.tables e below (s₁.setTop (mkF m 56 #[.val (.int (6 : Int32))] [(.int (6 : Int32)), (.int (6 : Int32))])) _
    refine XS.icmpNo X0.here hx rfl (hb hby dp6_56) rfl ((teq (rfl)).2) ?_
    exact k)
  obtain ⟨T2, X2, e2, st2⟩ := getS2 X0 hx hZ hown (host := "") (Or.inl (hw _ (List.mem_of_getElem? (i := 28) rfl))) Via.refl e0 S_DAY_OFF_TRADED (g := (mkF m 59 #[.val (.int (6 : Int32))] [])) rfl (hb hby dp6_59)
  have p3 : ∀ t, Steps p.tables e below (T2.setTop (mkF m 62 #[.val (.int (6 : Int32))] [(.ref a_DAY_OFF_TRADED)])) t → Steps p.tables e below (s₁.setTop (entryFrame m #[(.int (6 : Int32))] 1)) t := fun t k => p1 t (st2 t k)
  obtain ⟨fs, hr, hrun, hended, hW, hsame⟩ := X2.leave (v := some (.ref a_DAY_OFF_TRADED)) (fun h => by rw [Bd.returns] at h; cases h)
  refine ⟨_, _, p3 _ ?_, hrun, hended, _, _, rfl, ?_, ⟨_, rfl⟩, hW, hsame.mono (by decide) (by decide)⟩
  · show Steps p.tables e below (T2.setTop (mkF m 62 #[.val (.int (6 : Int32))] [(.ref a_DAY_OFF_TRADED)])) _
    exact retOut X2 hx Bd.returns rfl (Or.inr (Or.inr (Or.inr (Or.inr ⟨rfl, rfl, rfl⟩)))) (hb hby dp6_62) hr
  · show Qp6 Z a_DAY_OFF_TRADED h0 n0 _ T2.heap _
    rw [e2]
    exact ⟨rfl, N0, rfl⟩
theorem dp7_0 : decode method_2_code 0 = .ok (.iload_n 0, 1) := by decide +kernel
theorem dp7_1 : decode method_2_code 1 = .ok (.ifCond .ne 7, 3) := by decide +kernel
theorem dp7_8 : decode method_2_code 8 = .ok (.iload_n 0, 1) := by decide +kernel
theorem dp7_9 : decode method_2_code 9 = .ok (.iconst 1, 1) := by decide +kernel
theorem dp7_10 : decode method_2_code 10 = .ok (.if_icmp .ne 7, 3) := by decide +kernel
theorem dp7_17 : decode method_2_code 17 = .ok (.iload_n 0, 1) := by decide +kernel
theorem dp7_18 : decode method_2_code 18 = .ok (.iconst 2, 1) := by decide +kernel
theorem dp7_19 : decode method_2_code 19 = .ok (.if_icmp .ne 7, 3) := by decide +kernel
theorem dp7_26 : decode method_2_code 26 = .ok (.iload_n 0, 1) := by decide +kernel
theorem dp7_27 : decode method_2_code 27 = .ok (.iconst 3, 1) := by decide +kernel
theorem dp7_28 : decode method_2_code 28 = .ok (.if_icmp .ne 7, 3) := by decide +kernel
theorem dp7_35 : decode method_2_code 35 = .ok (.iload_n 0, 1) := by decide +kernel
theorem dp7_36 : decode method_2_code 36 = .ok (.iconst 4, 1) := by decide +kernel
theorem dp7_37 : decode method_2_code 37 = .ok (.if_icmp .ne 7, 3) := by decide +kernel
theorem dp7_44 : decode method_2_code 44 = .ok (.iload_n 0, 1) := by decide +kernel
theorem dp7_45 : decode method_2_code 45 = .ok (.iconst 5, 1) := by decide +kernel
theorem dp7_46 : decode method_2_code 46 = .ok (.if_icmp .ne 7, 3) := by decide +kernel
theorem dp7_53 : decode method_2_code 53 = .ok (.iload_n 0, 1) := by decide +kernel
theorem dp7_54 : decode method_2_code 54 = .ok (.bipush 6, 2) := by decide +kernel
theorem dp7_56 : decode method_2_code 56 = .ok (.if_icmp .ne 7, 3) := by decide +kernel
theorem dp7_63 : decode method_2_code 63 = .ok (.getstatic 31, 3) := by decide +kernel
theorem dp7_66 : decode method_2_code 66 = .ok (.areturn, 1) := by decide +kernel
theorem pnp7 : plainName "com/example/millpact/millpact/TimeRecordWorkdayPinLaw" = true := by first | (simp [plainName, overriddenIn]; done) | decide +kernel
theorem efp7 (m : MethodId)  : entryFrame m #[(.int (7 : Int32))] 1 = mkF m 0 #[.val (.int (7 : Int32))] [] := by first | (simp [entryFrame, mkF, argsToLocals, Value.category]; done) | rfl
def Qp7 (Z : State)  (a_RECALL : Addr) (h0 : Heap) (n0 : Nat) (v : Option Value) (h : Heap) (L : List Loc) : Prop := v = some (.ref a_RECALL) ∧ Fr n0 L ∧ h = h0
set_option maxRecDepth 65536 in
set_option maxHeartbeats 40000000 in
theorem rmp7 (l : Launch) (Z : State) (a0 : Array Value) (hw : ∀ d ∈ tables_1, d.before a0 Z = true) (ws : List Jvm.Cond)  (a_RECALL : Addr) (h0 : Heap) (n0 : Nat) (Z0 : n0 ≤ h0.size) (S_RECALL : Sta Z h0 "com/example/millpact/millpact/TimeRecord$Type" "RECALL" "Lcom/example/millpact/millpact/TimeRecord$Type;" (.ref a_RECALL)) :
    MetFree l (⟨"com/example/millpact/millpact/TimeRecordWorkdayPinLaw", "pick", "(I)Lcom/example/millpact/millpact/TimeRecord$Type;"⟩ : MethodName) (head1 (Jvm.Cond.code (⟨"com/example/millpact/millpact/TimeRecordWorkdayPinLaw", "pick", "(I)Lcom/example/millpact/millpact/TimeRecord$Type;"⟩ : MethodName) method_2_code 1 (some (.object "com/example/millpact/millpact/TimeRecord$Type")) :: ws) ({ frames := 0, cells := 0, slots := 0, locals := 0 } : Room)) (fun a U => a = #[(.int (7 : Int32))] ∧ Z.Warmed39 U.vm ∧ U.heap = h0) (fun _ _ _ _ _ => True) (fun _ U o U' => ∃ v L, o = .returned v ∧ Qp7 Z a_RECALL h0 n0 v U'.heap L ∧ FrameEnd U o U' L ({ frames := 0, cells := 0, slots := 0, locals := 0 } : Room).cells ({ frames := 0, cells := 0, slots := 0, locals := 0 } : Room).slots) := by
  refine MetFree.of_bodySF (plainFor_of_name pnp7) hisR ?_
  intro p e s m args below meth c s₁ Bd hml0 hP hK
  obtain ⟨rfl, hZ, hh⟩ := hP
  have hx := Bd.exec
  have hby := Bd.bytes
  have hml : c.maxLocals = 1 := hml0
  have hown : s.vm.findClass "com/example/millpact/millpact/TimeRecordWorkdayPinLaw" = some m.cls := findClass_of_methodNamed Bd.named
  have hnm := (name_of_methodNamed Bd.named Bd.method).1
  have X0 : Stand p l e ({ frames := 0, cells := 0, slots := 0, locals := 0 } : Room) s m #[(.int (7 : Int32))] below meth c s₁ [] 0 0 := Stand.of_body Bd
  have e0 : s₁.heap = h0 := by rw [← hh, Bd.state]; rfl
  have N0 := Fr.nil n0
  have pre0 : ∀ t, Steps p.tables e below (s₁.setTop (mkF m 0 #[.val (.int (7 : Int32))] [])) t → Steps p.tables e below (s₁.setTop (entryFrame m #[(.int (7 : Int32))] 1)) t := fun t k => castTop (efp7 m ) k
  have p1 : ∀ t, Steps p.tables e below (s₁.setTop (mkF m 63 #[.val (.int (7 : Int32))] [])) t → Steps p.tables e below (s₁.setTop (entryFrame m #[(.int (7 : Int32))] 1)) t := fun t k => pre0 t (by
    show Steps p.tables e below (s₁.setTop (mkF m 0 #[.val (.int (7 : Int32))] [])) _
    refine XS.iloadN X0.here hx rfl (hb hby dp7_0) rfl ?_
    show Steps p.tables e below (s₁.setTop (mkF m 1 #[.val (.int (7 : Int32))] [(.int (7 : Int32))])) _
    refine XS.ifYes X0.here hx rfl (pc0 := 1) (pc' := 8) rfl (hb hby dp7_1) rfl ((if0 _ _).trans (feq (by decide)).2) (by decide) (by decide) ?_
    show Steps p.tables e below (s₁.setTop (mkF m 8 #[.val (.int (7 : Int32))] [])) _
    refine XS.iloadN X0.here hx rfl (hb hby dp7_8) rfl ?_
    show Steps p.tables e below (s₁.setTop (mkF m 9 #[.val (.int (7 : Int32))] [(.int (7 : Int32))])) _
    refine XS.iconst X0.here hx rfl (hb hby dp7_9) ?_
    show Steps p.tables e below (s₁.setTop (mkF m 10 #[.val (.int (7 : Int32))] [(.int (1 : Int32)), (.int (7 : Int32))])) _
    refine XS.icmpYes X0.here hx rfl (pc0 := 10) (pc' := 17) rfl (hb hby dp7_10) rfl ((feq (by decide)).2) (by decide) (by decide) ?_
    show Steps p.tables e below (s₁.setTop (mkF m 17 #[.val (.int (7 : Int32))] [])) _
    refine XS.iloadN X0.here hx rfl (hb hby dp7_17) rfl ?_
    show Steps p.tables e below (s₁.setTop (mkF m 18 #[.val (.int (7 : Int32))] [(.int (7 : Int32))])) _
    refine XS.iconst X0.here hx rfl (hb hby dp7_18) ?_
    show Steps p.tables e below (s₁.setTop (mkF m 19 #[.val (.int (7 : Int32))] [(.int (2 : Int32)), (.int (7 : Int32))])) _
    refine XS.icmpYes X0.here hx rfl (pc0 := 19) (pc' := 26) rfl (hb hby dp7_19) rfl ((feq (by decide)).2) (by decide) (by decide) ?_
    show Steps p.tables e below (s₁.setTop (mkF m 26 #[.val (.int (7 : Int32))] [])) _
    refine XS.iloadN X0.here hx rfl (hb hby dp7_26) rfl ?_
    show Steps p.tables e below (s₁.setTop (mkF m 27 #[.val (.int (7 : Int32))] [(.int (7 : Int32))])) _
    refine XS.iconst X0.here hx rfl (hb hby dp7_27) ?_
    show Steps p.tables e below (s₁.setTop (mkF m 28 #[.val (.int (7 : Int32))] [(.int (3 : Int32)), (.int (7 : Int32))])) _
    refine XS.icmpYes X0.here hx rfl (pc0 := 28) (pc' := 35) rfl (hb hby dp7_28) rfl ((feq (by decide)).2) (by decide) (by decide) ?_
    show Steps p.tables e below (s₁.setTop (mkF m 35 #[.val (.int (7 : Int32))] [])) _
    refine XS.iloadN X0.here hx rfl (hb hby dp7_35) rfl ?_
    show Steps p.tables e below (s₁.setTop (mkF m 36 #[.val (.int (7 : Int32))] [(.int (7 : Int32))])) _
    refine XS.iconst X0.here hx rfl (hb hby dp7_36) ?_
    show Steps p.tables e below (s₁.setTop (mkF m 37 #[.val (.int (7 : Int32))] [(.int (4 : Int32)), (.int (7 : Int32))])) _
    refine XS.icmpYes X0.here hx rfl (pc0 := 37) (pc' := 44) rfl (hb hby dp7_37) rfl ((feq (by decide)).2) (by decide) (by decide) ?_
    show Steps p.tables e below (s₁.setTop (mkF m 44 #[.val (.int (7 : Int32))] [])) _
    refine XS.iloadN X0.here hx rfl (hb hby dp7_44) rfl ?_
    show Steps p.tables e below (s₁.setTop (mkF m 45 #[.val (.int (7 : Int32))] [(.int (7 : Int32))])) _
    refine XS.iconst X0.here hx rfl (hb hby dp7_45) ?_
    show Steps p.tables e below (s₁.setTop (mkF m 46 #[.val (.int (7 : Int32))] [(.int (5 : Int32)), (.int (7 : Int32))])) _
    refine XS.icmpYes X0.here hx rfl (pc0 := 46) (pc' := 53) rfl (hb hby dp7_46) rfl ((feq (by decide)).2) (by decide) (by decide) ?_
    show Steps p.tables e below (s₁.setTop (mkF m 53 #[.val (.int (7 : Int32))] [])) _
    refine XS.iloadN X0.here hx rfl (hb hby dp7_53) rfl ?_
    show Steps p.tables e below (s₁.setTop (mkF m 54 #[.val (.int (7 : Int32))] [(.int (7 : Int32))])) _
    refine XS.bipush X0.here hx rfl (hb hby dp7_54) ?_
    show Steps p.tables e below (s₁.setTop (mkF m 56 #[.val (.int (7 : Int32))] [(.int (6 : Int32)), (.int (7 : Int32))])) _
    refine XS.icmpYes X0.here hx rfl (pc0 := 56) (pc' := 63) rfl (hb hby dp7_56) rfl ((feq (by decide)).2) (by decide) (by decide) ?_
    exact k)
  obtain ⟨T2, X2, e2, st2⟩ := getS2 X0 hx hZ hown (host := "") (Or.inl (hw _ (List.mem_of_getElem? (i := 29) rfl))) Via.refl e0 S_RECALL (g := (mkF m 63 #[.val (.int (7 : Int32))] [])) rfl (hb hby dp7_63)
  have p3 : ∀ t, Steps p.tables e below (T2.setTop (mkF m 66 #[.val (.int (7 : Int32))] [(.ref a_RECALL)])) t → Steps p.tables e below (s₁.setTop (entryFrame m #[(.int (7 : Int32))] 1)) t := fun t k => p1 t (st2 t k)
  obtain ⟨fs, hr, hrun, hended, hW, hsame⟩ := X2.leave (v := some (.ref a_RECALL)) (fun h => by rw [Bd.returns] at h; cases h)
  refine ⟨_, _, p3 _ ?_, hrun, hended, _, _, rfl, ?_, ⟨_, rfl⟩, hW, hsame.mono (by decide) (by decide)⟩
  · show Steps p.tables e below (T2.setTop (mkF m 66 #[.val (.int (7 : Int32))] [(.ref a_RECALL)])) _
    exact retOut X2 hx Bd.returns rfl (Or.inr (Or.inr (Or.inr (Or.inr ⟨rfl, rfl, rfl⟩)))) (hb hby dp7_66) hr
  · show Qp7 Z a_RECALL h0 n0 _ T2.heap _
    rw [e2]
    exact ⟨rfl, N0, rfl⟩
theorem dw0_0 : decode prog_90_method_7_code 0 = .ok (.aload_n 0, 1) := by decide +kernel
theorem dw0_1 : decode prog_90_method_7_code 1 = .ok (.getstatic 3, 3) := by decide +kernel
theorem dw0_4 : decode prog_90_method_7_code 4 = .ok (.if_acmp .eq 17, 3) := by decide +kernel
theorem dw0_21 : decode prog_90_method_7_code 21 = .ok (.iconst 1, 1) := by decide +kernel
theorem dw0_22 : decode prog_90_method_7_code 22 = .ok (.goto 4, 3) := by decide +kernel
theorem dw0_26 : decode prog_90_method_7_code 26 = .ok (.ireturn, 1) := by decide +kernel
theorem pnw0 : plainName "com/example/millpact/millpact/TimeRecord$Type" = true := by first | (simp [plainName, overriddenIn]; done) | decide +kernel
theorem efw0 (m : MethodId) (a_WORKED : Addr) : entryFrame m #[(.ref a_WORKED)] 1 = mkF m 0 #[.val (.ref a_WORKED)] [] := by first | (simp [entryFrame, mkF, argsToLocals, Value.category]; done) | rfl
def Qw0 (Z : State) (a_WORKED : Addr) (a_SENT_HOME : Addr) (a_ABSENT : Addr) (h0 : Heap) (n0 : Nat) (v : Option Value) (h : Heap) (L : List Loc) : Prop := v = some (.int (1 : Int32)) ∧ Fr n0 L ∧ h = h0
set_option maxRecDepth 65536 in
set_option maxHeartbeats 40000000 in
theorem rmw0 (l : Launch) (Z : State) (a0 : Array Value) (hw : ∀ d ∈ tables_1, d.before a0 Z = true) (ws : List Jvm.Cond) (a_WORKED : Addr) (a_SENT_HOME : Addr) (a_ABSENT : Addr) (h0 : Heap) (n0 : Nat) (Z0 : n0 ≤ h0.size) (S_WORKED : Sta Z h0 "com/example/millpact/millpact/TimeRecord$Type" "WORKED" "Lcom/example/millpact/millpact/TimeRecord$Type;" (.ref a_WORKED)) (S_SENT_HOME : Sta Z h0 "com/example/millpact/millpact/TimeRecord$Type" "SENT_HOME" "Lcom/example/millpact/millpact/TimeRecord$Type;" (.ref a_SENT_HOME)) (S_ABSENT : Sta Z h0 "com/example/millpact/millpact/TimeRecord$Type" "ABSENT" "Lcom/example/millpact/millpact/TimeRecord$Type;" (.ref a_ABSENT)) :
    MetFree l (⟨"com/example/millpact/millpact/TimeRecord$Type", "workday", "()Z"⟩ : MethodName) (head1 (Jvm.Cond.code (⟨"com/example/millpact/millpact/TimeRecord$Type", "workday", "()Z"⟩ : MethodName) prog_90_method_7_code 1 (some .boolean) :: ws) ({ frames := 0, cells := 0, slots := 0, locals := 0 } : Room)) (fun a U => a = #[(.ref a_WORKED)] ∧ Z.Warmed39 U.vm ∧ U.heap = h0) (fun _ _ _ _ _ => True) (fun _ U o U' => ∃ v L, o = .returned v ∧ Qw0 Z a_WORKED a_SENT_HOME a_ABSENT h0 n0 v U'.heap L ∧ FrameEnd U o U' L ({ frames := 0, cells := 0, slots := 0, locals := 0 } : Room).cells ({ frames := 0, cells := 0, slots := 0, locals := 0 } : Room).slots) := by
  refine MetFree.of_bodySF (plainFor_of_name pnw0) hisR ?_
  intro p e s m args below meth c s₁ Bd hml0 hP hK
  obtain ⟨rfl, hZ, hh⟩ := hP
  have hx := Bd.exec
  have hby := Bd.bytes
  have hml : c.maxLocals = 1 := hml0
  have hown : s.vm.findClass "com/example/millpact/millpact/TimeRecord$Type" = some m.cls := findClass_of_methodNamed Bd.named
  have hnm := (name_of_methodNamed Bd.named Bd.method).1
  have X0 : Stand p l e ({ frames := 0, cells := 0, slots := 0, locals := 0 } : Room) s m #[(.ref a_WORKED)] below meth c s₁ [] 0 0 := Stand.of_body Bd
  have e0 : s₁.heap = h0 := by rw [← hh, Bd.state]; rfl
  have N0 := Fr.nil n0
  have pre0 : ∀ t, Steps p.tables e below (s₁.setTop (mkF m 0 #[.val (.ref a_WORKED)] [])) t → Steps p.tables e below (s₁.setTop (entryFrame m #[(.ref a_WORKED)] 1)) t := fun t k => castTop (efw0 m a_WORKED) k
  have p1 : ∀ t, Steps p.tables e below (s₁.setTop (mkF m 1 #[.val (.ref a_WORKED)] [(.ref a_WORKED)])) t → Steps p.tables e below (s₁.setTop (entryFrame m #[(.ref a_WORKED)] 1)) t := fun t k => pre0 t (by
    show Steps p.tables e below (s₁.setTop (mkF m 0 #[.val (.ref a_WORKED)] [])) _
    refine XS.aloadN X0.here hx rfl (hb hby dw0_0) rfl rfl ?_
    exact k)
  obtain ⟨T2, X2, e2, st2⟩ := getS2 X0 hx hZ hown (host := "") (Or.inl (hw _ (List.mem_of_getElem? (i := 12) rfl))) Via.refl e0 S_WORKED (g := (mkF m 1 #[.val (.ref a_WORKED)] [(.ref a_WORKED)])) rfl (hb hby dw0_1)
  have p3 : ∀ t, Steps p.tables e below (T2.setTop (mkF m 4 #[.val (.ref a_WORKED)] [(.ref a_WORKED), (.ref a_WORKED)])) t → Steps p.tables e below (s₁.setTop (entryFrame m #[(.ref a_WORKED)] 1)) t := fun t k => p1 t (st2 t k)
  have p4 : ∀ t, Steps p.tables e below (T2.setTop (mkF m 26 #[.val (.ref a_WORKED)] [(.int (1 : Int32))])) t → Steps p.tables e below (s₁.setTop (entryFrame m #[(.ref a_WORKED)] 1)) t := fun t k => p3 t (by
    show Steps p.tables e below (T2.setTop (mkF m 4 #[.val (.ref a_WORKED)] [(.ref a_WORKED), (.ref a_WORKED)])) _
    refine Jvm.RoadKit.acmp (g := (mkF m 4 #[.val (.ref a_WORKED)] [(.ref a_WORKED), (.ref a_WORKED)])) X2 hx rfl rfl rfl (pc0 := 4) (pc' := 21) (same := true) rfl (hb hby dw0_4) rfl (decide_eq_true rfl) (by decide) (by decide) ?_
    show Steps p.tables e below (T2.setTop (mkF m 21 #[.val (.ref a_WORKED)] [])) _
    refine XS.iconst X2.here hx rfl (hb hby dw0_21) ?_
    show Steps p.tables e below (T2.setTop (mkF m 22 #[.val (.ref a_WORKED)] [(.int (1 : Int32))])) _
    refine XS.goto X2.here hx rfl (pc0 := 22) (pc' := 26) rfl (hb hby dw0_22) (by decide) (by decide) ?_
    exact k)
  obtain ⟨fs, hr, hrun, hended, hW, hsame⟩ := X2.leave (v := some (.int (1 : Int32))) (fun h => by rw [Bd.returns] at h; cases h)
  refine ⟨_, _, p4 _ ?_, hrun, hended, _, _, rfl, ?_, ⟨_, rfl⟩, hW, hsame.mono (by decide) (by decide)⟩
  · show Steps p.tables e below (T2.setTop (mkF m 26 #[.val (.ref a_WORKED)] [(.int (1 : Int32))])) _
    exact retN X2 hx (t := .boolean) Bd.returns (by simp) (hb hby dw0_26) hr
  · show Qw0 Z a_WORKED a_SENT_HOME a_ABSENT h0 n0 _ T2.heap _
    rw [e2]
    exact ⟨rfl, N0, rfl⟩
theorem dw1_0 : decode prog_90_method_7_code 0 = .ok (.aload_n 0, 1) := by decide +kernel
theorem dw1_1 : decode prog_90_method_7_code 1 = .ok (.getstatic 3, 3) := by decide +kernel
theorem dw1_4 : decode prog_90_method_7_code 4 = .ok (.if_acmp .eq 17, 3) := by decide +kernel
theorem dw1_7 : decode prog_90_method_7_code 7 = .ok (.aload_n 0, 1) := by decide +kernel
theorem dw1_8 : decode prog_90_method_7_code 8 = .ok (.getstatic 16, 3) := by decide +kernel
theorem dw1_11 : decode prog_90_method_7_code 11 = .ok (.if_acmp .eq 10, 3) := by decide +kernel
theorem dw1_21 : decode prog_90_method_7_code 21 = .ok (.iconst 1, 1) := by decide +kernel
theorem dw1_22 : decode prog_90_method_7_code 22 = .ok (.goto 4, 3) := by decide +kernel
theorem dw1_26 : decode prog_90_method_7_code 26 = .ok (.ireturn, 1) := by decide +kernel
theorem pnw1 : plainName "com/example/millpact/millpact/TimeRecord$Type" = true := by first | (simp [plainName, overriddenIn]; done) | decide +kernel
theorem efw1 (m : MethodId) (a_SENT_HOME : Addr) : entryFrame m #[(.ref a_SENT_HOME)] 1 = mkF m 0 #[.val (.ref a_SENT_HOME)] [] := by first | (simp [entryFrame, mkF, argsToLocals, Value.category]; done) | rfl
def Qw1 (Z : State) (a_SENT_HOME : Addr) (a_WORKED : Addr) (a_ABSENT : Addr) (h0 : Heap) (n0 : Nat) (v : Option Value) (h : Heap) (L : List Loc) : Prop := v = some (.int (1 : Int32)) ∧ Fr n0 L ∧ h = h0
set_option maxRecDepth 65536 in
set_option maxHeartbeats 40000000 in
theorem rmw1 (l : Launch) (Z : State) (a0 : Array Value) (hw : ∀ d ∈ tables_1, d.before a0 Z = true) (ws : List Jvm.Cond) (a_SENT_HOME : Addr) (a_WORKED : Addr) (a_ABSENT : Addr) (h0 : Heap) (n0 : Nat) (Z0 : n0 ≤ h0.size) (S_WORKED : Sta Z h0 "com/example/millpact/millpact/TimeRecord$Type" "WORKED" "Lcom/example/millpact/millpact/TimeRecord$Type;" (.ref a_WORKED)) (S_SENT_HOME : Sta Z h0 "com/example/millpact/millpact/TimeRecord$Type" "SENT_HOME" "Lcom/example/millpact/millpact/TimeRecord$Type;" (.ref a_SENT_HOME)) (S_ABSENT : Sta Z h0 "com/example/millpact/millpact/TimeRecord$Type" "ABSENT" "Lcom/example/millpact/millpact/TimeRecord$Type;" (.ref a_ABSENT)) (ne0 : a_SENT_HOME ≠ a_WORKED) :
    MetFree l (⟨"com/example/millpact/millpact/TimeRecord$Type", "workday", "()Z"⟩ : MethodName) (head1 (Jvm.Cond.code (⟨"com/example/millpact/millpact/TimeRecord$Type", "workday", "()Z"⟩ : MethodName) prog_90_method_7_code 1 (some .boolean) :: ws) ({ frames := 0, cells := 0, slots := 0, locals := 0 } : Room)) (fun a U => a = #[(.ref a_SENT_HOME)] ∧ Z.Warmed39 U.vm ∧ U.heap = h0) (fun _ _ _ _ _ => True) (fun _ U o U' => ∃ v L, o = .returned v ∧ Qw1 Z a_SENT_HOME a_WORKED a_ABSENT h0 n0 v U'.heap L ∧ FrameEnd U o U' L ({ frames := 0, cells := 0, slots := 0, locals := 0 } : Room).cells ({ frames := 0, cells := 0, slots := 0, locals := 0 } : Room).slots) := by
  refine MetFree.of_bodySF (plainFor_of_name pnw1) hisR ?_
  intro p e s m args below meth c s₁ Bd hml0 hP hK
  obtain ⟨rfl, hZ, hh⟩ := hP
  have hx := Bd.exec
  have hby := Bd.bytes
  have hml : c.maxLocals = 1 := hml0
  have hown : s.vm.findClass "com/example/millpact/millpact/TimeRecord$Type" = some m.cls := findClass_of_methodNamed Bd.named
  have hnm := (name_of_methodNamed Bd.named Bd.method).1
  have X0 : Stand p l e ({ frames := 0, cells := 0, slots := 0, locals := 0 } : Room) s m #[(.ref a_SENT_HOME)] below meth c s₁ [] 0 0 := Stand.of_body Bd
  have e0 : s₁.heap = h0 := by rw [← hh, Bd.state]; rfl
  have N0 := Fr.nil n0
  have pre0 : ∀ t, Steps p.tables e below (s₁.setTop (mkF m 0 #[.val (.ref a_SENT_HOME)] [])) t → Steps p.tables e below (s₁.setTop (entryFrame m #[(.ref a_SENT_HOME)] 1)) t := fun t k => castTop (efw1 m a_SENT_HOME) k
  have p1 : ∀ t, Steps p.tables e below (s₁.setTop (mkF m 1 #[.val (.ref a_SENT_HOME)] [(.ref a_SENT_HOME)])) t → Steps p.tables e below (s₁.setTop (entryFrame m #[(.ref a_SENT_HOME)] 1)) t := fun t k => pre0 t (by
    show Steps p.tables e below (s₁.setTop (mkF m 0 #[.val (.ref a_SENT_HOME)] [])) _
    refine XS.aloadN X0.here hx rfl (hb hby dw1_0) rfl rfl ?_
    exact k)
  obtain ⟨T2, X2, e2, st2⟩ := getS2 X0 hx hZ hown (host := "") (Or.inl (hw _ (List.mem_of_getElem? (i := 12) rfl))) Via.refl e0 S_WORKED (g := (mkF m 1 #[.val (.ref a_SENT_HOME)] [(.ref a_SENT_HOME)])) rfl (hb hby dw1_1)
  have p3 : ∀ t, Steps p.tables e below (T2.setTop (mkF m 4 #[.val (.ref a_SENT_HOME)] [(.ref a_WORKED), (.ref a_SENT_HOME)])) t → Steps p.tables e below (s₁.setTop (entryFrame m #[(.ref a_SENT_HOME)] 1)) t := fun t k => p1 t (st2 t k)
  have p4 : ∀ t, Steps p.tables e below (T2.setTop (mkF m 8 #[.val (.ref a_SENT_HOME)] [(.ref a_SENT_HOME)])) t → Steps p.tables e below (s₁.setTop (entryFrame m #[(.ref a_SENT_HOME)] 1)) t := fun t k => p3 t (by
    show Steps p.tables e below (T2.setTop (mkF m 4 #[.val (.ref a_SENT_HOME)] [(.ref a_WORKED), (.ref a_SENT_HOME)])) _
    refine Jvm.RoadKit.acmp (g := (mkF m 4 #[.val (.ref a_SENT_HOME)] [(.ref a_WORKED), (.ref a_SENT_HOME)])) X2 hx rfl rfl rfl (pc0 := 4) (pc' := 7) (same := false) rfl (hb hby dw1_4) rfl (decide_eq_false fun q => ne0 (Value.ref.inj q)) (by decide) (by decide) ?_
    show Steps p.tables e below (T2.setTop (mkF m 7 #[.val (.ref a_SENT_HOME)] [])) _
    refine XS.aloadN X2.here hx rfl (hb hby dw1_7) rfl rfl ?_
    exact k)
  obtain ⟨T5, X5, e5, st5⟩ := getS2 X2 hx hZ hown (host := "") (Or.inl (hw _ (List.mem_of_getElem? (i := 24) rfl))) Via.refl e2 S_SENT_HOME (g := (mkF m 8 #[.val (.ref a_SENT_HOME)] [(.ref a_SENT_HOME)])) rfl (hb hby dw1_8)
  have p6 : ∀ t, Steps p.tables e below (T5.setTop (mkF m 11 #[.val (.ref a_SENT_HOME)] [(.ref a_SENT_HOME), (.ref a_SENT_HOME)])) t → Steps p.tables e below (s₁.setTop (entryFrame m #[(.ref a_SENT_HOME)] 1)) t := fun t k => p4 t (st5 t k)
  have p7 : ∀ t, Steps p.tables e below (T5.setTop (mkF m 26 #[.val (.ref a_SENT_HOME)] [(.int (1 : Int32))])) t → Steps p.tables e below (s₁.setTop (entryFrame m #[(.ref a_SENT_HOME)] 1)) t := fun t k => p6 t (by
    show Steps p.tables e below (T5.setTop (mkF m 11 #[.val (.ref a_SENT_HOME)] [(.ref a_SENT_HOME), (.ref a_SENT_HOME)])) _
    refine Jvm.RoadKit.acmp (g := (mkF m 11 #[.val (.ref a_SENT_HOME)] [(.ref a_SENT_HOME), (.ref a_SENT_HOME)])) X5 hx rfl rfl rfl (pc0 := 11) (pc' := 21) (same := true) rfl (hb hby dw1_11) rfl (decide_eq_true rfl) (by decide) (by decide) ?_
    show Steps p.tables e below (T5.setTop (mkF m 21 #[.val (.ref a_SENT_HOME)] [])) _
    refine XS.iconst X5.here hx rfl (hb hby dw1_21) ?_
    show Steps p.tables e below (T5.setTop (mkF m 22 #[.val (.ref a_SENT_HOME)] [(.int (1 : Int32))])) _
    refine XS.goto X5.here hx rfl (pc0 := 22) (pc' := 26) rfl (hb hby dw1_22) (by decide) (by decide) ?_
    exact k)
  obtain ⟨fs, hr, hrun, hended, hW, hsame⟩ := X5.leave (v := some (.int (1 : Int32))) (fun h => by rw [Bd.returns] at h; cases h)
  refine ⟨_, _, p7 _ ?_, hrun, hended, _, _, rfl, ?_, ⟨_, rfl⟩, hW, hsame.mono (by decide) (by decide)⟩
  · show Steps p.tables e below (T5.setTop (mkF m 26 #[.val (.ref a_SENT_HOME)] [(.int (1 : Int32))])) _
    exact retN X5 hx (t := .boolean) Bd.returns (by simp) (hb hby dw1_26) hr
  · show Qw1 Z a_SENT_HOME a_WORKED a_ABSENT h0 n0 _ T5.heap _
    rw [e5]
    exact ⟨rfl, N0, rfl⟩
theorem dw2_0 : decode prog_90_method_7_code 0 = .ok (.aload_n 0, 1) := by decide +kernel
theorem dw2_1 : decode prog_90_method_7_code 1 = .ok (.getstatic 3, 3) := by decide +kernel
theorem dw2_4 : decode prog_90_method_7_code 4 = .ok (.if_acmp .eq 17, 3) := by decide +kernel
theorem dw2_7 : decode prog_90_method_7_code 7 = .ok (.aload_n 0, 1) := by decide +kernel
theorem dw2_8 : decode prog_90_method_7_code 8 = .ok (.getstatic 16, 3) := by decide +kernel
theorem dw2_11 : decode prog_90_method_7_code 11 = .ok (.if_acmp .eq 10, 3) := by decide +kernel
theorem dw2_14 : decode prog_90_method_7_code 14 = .ok (.aload_n 0, 1) := by decide +kernel
theorem dw2_15 : decode prog_90_method_7_code 15 = .ok (.getstatic 7, 3) := by decide +kernel
theorem dw2_18 : decode prog_90_method_7_code 18 = .ok (.if_acmp .ne 7, 3) := by decide +kernel
theorem dw2_21 : decode prog_90_method_7_code 21 = .ok (.iconst 1, 1) := by decide +kernel
theorem dw2_22 : decode prog_90_method_7_code 22 = .ok (.goto 4, 3) := by decide +kernel
theorem dw2_26 : decode prog_90_method_7_code 26 = .ok (.ireturn, 1) := by decide +kernel
theorem pnw2 : plainName "com/example/millpact/millpact/TimeRecord$Type" = true := by first | (simp [plainName, overriddenIn]; done) | decide +kernel
theorem efw2 (m : MethodId) (a_ABSENT : Addr) : entryFrame m #[(.ref a_ABSENT)] 1 = mkF m 0 #[.val (.ref a_ABSENT)] [] := by first | (simp [entryFrame, mkF, argsToLocals, Value.category]; done) | rfl
def Qw2 (Z : State) (a_ABSENT : Addr) (a_WORKED : Addr) (a_SENT_HOME : Addr) (h0 : Heap) (n0 : Nat) (v : Option Value) (h : Heap) (L : List Loc) : Prop := v = some (.int (1 : Int32)) ∧ Fr n0 L ∧ h = h0
set_option maxRecDepth 65536 in
set_option maxHeartbeats 40000000 in
theorem rmw2 (l : Launch) (Z : State) (a0 : Array Value) (hw : ∀ d ∈ tables_1, d.before a0 Z = true) (ws : List Jvm.Cond) (a_ABSENT : Addr) (a_WORKED : Addr) (a_SENT_HOME : Addr) (h0 : Heap) (n0 : Nat) (Z0 : n0 ≤ h0.size) (S_WORKED : Sta Z h0 "com/example/millpact/millpact/TimeRecord$Type" "WORKED" "Lcom/example/millpact/millpact/TimeRecord$Type;" (.ref a_WORKED)) (S_SENT_HOME : Sta Z h0 "com/example/millpact/millpact/TimeRecord$Type" "SENT_HOME" "Lcom/example/millpact/millpact/TimeRecord$Type;" (.ref a_SENT_HOME)) (S_ABSENT : Sta Z h0 "com/example/millpact/millpact/TimeRecord$Type" "ABSENT" "Lcom/example/millpact/millpact/TimeRecord$Type;" (.ref a_ABSENT)) (ne0 : a_ABSENT ≠ a_WORKED) (ne1 : a_ABSENT ≠ a_SENT_HOME) :
    MetFree l (⟨"com/example/millpact/millpact/TimeRecord$Type", "workday", "()Z"⟩ : MethodName) (head1 (Jvm.Cond.code (⟨"com/example/millpact/millpact/TimeRecord$Type", "workday", "()Z"⟩ : MethodName) prog_90_method_7_code 1 (some .boolean) :: ws) ({ frames := 0, cells := 0, slots := 0, locals := 0 } : Room)) (fun a U => a = #[(.ref a_ABSENT)] ∧ Z.Warmed39 U.vm ∧ U.heap = h0) (fun _ _ _ _ _ => True) (fun _ U o U' => ∃ v L, o = .returned v ∧ Qw2 Z a_ABSENT a_WORKED a_SENT_HOME h0 n0 v U'.heap L ∧ FrameEnd U o U' L ({ frames := 0, cells := 0, slots := 0, locals := 0 } : Room).cells ({ frames := 0, cells := 0, slots := 0, locals := 0 } : Room).slots) := by
  refine MetFree.of_bodySF (plainFor_of_name pnw2) hisR ?_
  intro p e s m args below meth c s₁ Bd hml0 hP hK
  obtain ⟨rfl, hZ, hh⟩ := hP
  have hx := Bd.exec
  have hby := Bd.bytes
  have hml : c.maxLocals = 1 := hml0
  have hown : s.vm.findClass "com/example/millpact/millpact/TimeRecord$Type" = some m.cls := findClass_of_methodNamed Bd.named
  have hnm := (name_of_methodNamed Bd.named Bd.method).1
  have X0 : Stand p l e ({ frames := 0, cells := 0, slots := 0, locals := 0 } : Room) s m #[(.ref a_ABSENT)] below meth c s₁ [] 0 0 := Stand.of_body Bd
  have e0 : s₁.heap = h0 := by rw [← hh, Bd.state]; rfl
  have N0 := Fr.nil n0
  have pre0 : ∀ t, Steps p.tables e below (s₁.setTop (mkF m 0 #[.val (.ref a_ABSENT)] [])) t → Steps p.tables e below (s₁.setTop (entryFrame m #[(.ref a_ABSENT)] 1)) t := fun t k => castTop (efw2 m a_ABSENT) k
  have p1 : ∀ t, Steps p.tables e below (s₁.setTop (mkF m 1 #[.val (.ref a_ABSENT)] [(.ref a_ABSENT)])) t → Steps p.tables e below (s₁.setTop (entryFrame m #[(.ref a_ABSENT)] 1)) t := fun t k => pre0 t (by
    show Steps p.tables e below (s₁.setTop (mkF m 0 #[.val (.ref a_ABSENT)] [])) _
    refine XS.aloadN X0.here hx rfl (hb hby dw2_0) rfl rfl ?_
    exact k)
  obtain ⟨T2, X2, e2, st2⟩ := getS2 X0 hx hZ hown (host := "") (Or.inl (hw _ (List.mem_of_getElem? (i := 12) rfl))) Via.refl e0 S_WORKED (g := (mkF m 1 #[.val (.ref a_ABSENT)] [(.ref a_ABSENT)])) rfl (hb hby dw2_1)
  have p3 : ∀ t, Steps p.tables e below (T2.setTop (mkF m 4 #[.val (.ref a_ABSENT)] [(.ref a_WORKED), (.ref a_ABSENT)])) t → Steps p.tables e below (s₁.setTop (entryFrame m #[(.ref a_ABSENT)] 1)) t := fun t k => p1 t (st2 t k)
  have p4 : ∀ t, Steps p.tables e below (T2.setTop (mkF m 8 #[.val (.ref a_ABSENT)] [(.ref a_ABSENT)])) t → Steps p.tables e below (s₁.setTop (entryFrame m #[(.ref a_ABSENT)] 1)) t := fun t k => p3 t (by
    show Steps p.tables e below (T2.setTop (mkF m 4 #[.val (.ref a_ABSENT)] [(.ref a_WORKED), (.ref a_ABSENT)])) _
    refine Jvm.RoadKit.acmp (g := (mkF m 4 #[.val (.ref a_ABSENT)] [(.ref a_WORKED), (.ref a_ABSENT)])) X2 hx rfl rfl rfl (pc0 := 4) (pc' := 7) (same := false) rfl (hb hby dw2_4) rfl (decide_eq_false fun q => ne0 (Value.ref.inj q)) (by decide) (by decide) ?_
    show Steps p.tables e below (T2.setTop (mkF m 7 #[.val (.ref a_ABSENT)] [])) _
    refine XS.aloadN X2.here hx rfl (hb hby dw2_7) rfl rfl ?_
    exact k)
  obtain ⟨T5, X5, e5, st5⟩ := getS2 X2 hx hZ hown (host := "") (Or.inl (hw _ (List.mem_of_getElem? (i := 24) rfl))) Via.refl e2 S_SENT_HOME (g := (mkF m 8 #[.val (.ref a_ABSENT)] [(.ref a_ABSENT)])) rfl (hb hby dw2_8)
  have p6 : ∀ t, Steps p.tables e below (T5.setTop (mkF m 11 #[.val (.ref a_ABSENT)] [(.ref a_SENT_HOME), (.ref a_ABSENT)])) t → Steps p.tables e below (s₁.setTop (entryFrame m #[(.ref a_ABSENT)] 1)) t := fun t k => p4 t (st5 t k)
  have p7 : ∀ t, Steps p.tables e below (T5.setTop (mkF m 15 #[.val (.ref a_ABSENT)] [(.ref a_ABSENT)])) t → Steps p.tables e below (s₁.setTop (entryFrame m #[(.ref a_ABSENT)] 1)) t := fun t k => p6 t (by
    show Steps p.tables e below (T5.setTop (mkF m 11 #[.val (.ref a_ABSENT)] [(.ref a_SENT_HOME), (.ref a_ABSENT)])) _
    refine Jvm.RoadKit.acmp (g := (mkF m 11 #[.val (.ref a_ABSENT)] [(.ref a_SENT_HOME), (.ref a_ABSENT)])) X5 hx rfl rfl rfl (pc0 := 11) (pc' := 14) (same := false) rfl (hb hby dw2_11) rfl (decide_eq_false fun q => ne1 (Value.ref.inj q)) (by decide) (by decide) ?_
    show Steps p.tables e below (T5.setTop (mkF m 14 #[.val (.ref a_ABSENT)] [])) _
    refine XS.aloadN X5.here hx rfl (hb hby dw2_14) rfl rfl ?_
    exact k)
  obtain ⟨T8, X8, e8, st8⟩ := getS2 X5 hx hZ hown (host := "") (Or.inl (hw _ (List.mem_of_getElem? (i := 26) rfl))) Via.refl e5 S_ABSENT (g := (mkF m 15 #[.val (.ref a_ABSENT)] [(.ref a_ABSENT)])) rfl (hb hby dw2_15)
  have p9 : ∀ t, Steps p.tables e below (T8.setTop (mkF m 18 #[.val (.ref a_ABSENT)] [(.ref a_ABSENT), (.ref a_ABSENT)])) t → Steps p.tables e below (s₁.setTop (entryFrame m #[(.ref a_ABSENT)] 1)) t := fun t k => p7 t (st8 t k)
  have p10 : ∀ t, Steps p.tables e below (T8.setTop (mkF m 26 #[.val (.ref a_ABSENT)] [(.int (1 : Int32))])) t → Steps p.tables e below (s₁.setTop (entryFrame m #[(.ref a_ABSENT)] 1)) t := fun t k => p9 t (by
    show Steps p.tables e below (T8.setTop (mkF m 18 #[.val (.ref a_ABSENT)] [(.ref a_ABSENT), (.ref a_ABSENT)])) _
    refine Jvm.RoadKit.acmp (g := (mkF m 18 #[.val (.ref a_ABSENT)] [(.ref a_ABSENT), (.ref a_ABSENT)])) X8 hx rfl rfl rfl (pc0 := 18) (pc' := 21) (same := true) rfl (hb hby dw2_18) rfl (decide_eq_true rfl) (by decide) (by decide) ?_
    show Steps p.tables e below (T8.setTop (mkF m 21 #[.val (.ref a_ABSENT)] [])) _
    refine XS.iconst X8.here hx rfl (hb hby dw2_21) ?_
    show Steps p.tables e below (T8.setTop (mkF m 22 #[.val (.ref a_ABSENT)] [(.int (1 : Int32))])) _
    refine XS.goto X8.here hx rfl (pc0 := 22) (pc' := 26) rfl (hb hby dw2_22) (by decide) (by decide) ?_
    exact k)
  obtain ⟨fs, hr, hrun, hended, hW, hsame⟩ := X8.leave (v := some (.int (1 : Int32))) (fun h => by rw [Bd.returns] at h; cases h)
  refine ⟨_, _, p10 _ ?_, hrun, hended, _, _, rfl, ?_, ⟨_, rfl⟩, hW, hsame.mono (by decide) (by decide)⟩
  · show Steps p.tables e below (T8.setTop (mkF m 26 #[.val (.ref a_ABSENT)] [(.int (1 : Int32))])) _
    exact retN X8 hx (t := .boolean) Bd.returns (by simp) (hb hby dw2_26) hr
  · show Qw2 Z a_ABSENT a_WORKED a_SENT_HOME h0 n0 _ T8.heap _
    rw [e8]
    exact ⟨rfl, N0, rfl⟩
theorem dwn_0 : decode prog_90_method_7_code 0 = .ok (.aload_n 0, 1) := by decide +kernel
theorem dwn_1 : decode prog_90_method_7_code 1 = .ok (.getstatic 3, 3) := by decide +kernel
theorem dwn_4 : decode prog_90_method_7_code 4 = .ok (.if_acmp .eq 17, 3) := by decide +kernel
theorem dwn_7 : decode prog_90_method_7_code 7 = .ok (.aload_n 0, 1) := by decide +kernel
theorem dwn_8 : decode prog_90_method_7_code 8 = .ok (.getstatic 16, 3) := by decide +kernel
theorem dwn_11 : decode prog_90_method_7_code 11 = .ok (.if_acmp .eq 10, 3) := by decide +kernel
theorem dwn_14 : decode prog_90_method_7_code 14 = .ok (.aload_n 0, 1) := by decide +kernel
theorem dwn_15 : decode prog_90_method_7_code 15 = .ok (.getstatic 7, 3) := by decide +kernel
theorem dwn_18 : decode prog_90_method_7_code 18 = .ok (.if_acmp .ne 7, 3) := by decide +kernel
theorem dwn_25 : decode prog_90_method_7_code 25 = .ok (.iconst 0, 1) := by decide +kernel
theorem dwn_26 : decode prog_90_method_7_code 26 = .ok (.ireturn, 1) := by decide +kernel
theorem pnwn : plainName "com/example/millpact/millpact/TimeRecord$Type" = true := by first | (simp [plainName, overriddenIn]; done) | decide +kernel
theorem efwn (m : MethodId) (x0 : Addr) : entryFrame m #[(.ref x0)] 1 = mkF m 0 #[.val (.ref x0)] [] := by first | (simp [entryFrame, mkF, argsToLocals, Value.category]; done) | rfl
def Qwn (Z : State) (x0 : Addr) (a_WORKED : Addr) (a_SENT_HOME : Addr) (a_ABSENT : Addr) (h0 : Heap) (n0 : Nat) (v : Option Value) (h : Heap) (L : List Loc) : Prop := v = some (.int (0 : Int32)) ∧ Fr n0 L ∧ h = h0
set_option maxRecDepth 65536 in
set_option maxHeartbeats 40000000 in
theorem rmwn (l : Launch) (Z : State) (a0 : Array Value) (hw : ∀ d ∈ tables_1, d.before a0 Z = true) (ws : List Jvm.Cond) (x0 : Addr) (a_WORKED : Addr) (a_SENT_HOME : Addr) (a_ABSENT : Addr) (h0 : Heap) (n0 : Nat) (Z0 : n0 ≤ h0.size) (S_WORKED : Sta Z h0 "com/example/millpact/millpact/TimeRecord$Type" "WORKED" "Lcom/example/millpact/millpact/TimeRecord$Type;" (.ref a_WORKED)) (S_SENT_HOME : Sta Z h0 "com/example/millpact/millpact/TimeRecord$Type" "SENT_HOME" "Lcom/example/millpact/millpact/TimeRecord$Type;" (.ref a_SENT_HOME)) (S_ABSENT : Sta Z h0 "com/example/millpact/millpact/TimeRecord$Type" "ABSENT" "Lcom/example/millpact/millpact/TimeRecord$Type;" (.ref a_ABSENT)) (ne0 : x0 ≠ a_WORKED) (ne1 : x0 ≠ a_SENT_HOME) (ne2 : x0 ≠ a_ABSENT) :
    MetFree l (⟨"com/example/millpact/millpact/TimeRecord$Type", "workday", "()Z"⟩ : MethodName) (head1 (Jvm.Cond.code (⟨"com/example/millpact/millpact/TimeRecord$Type", "workday", "()Z"⟩ : MethodName) prog_90_method_7_code 1 (some .boolean) :: ws) ({ frames := 0, cells := 0, slots := 0, locals := 0 } : Room)) (fun a U => a = #[(.ref x0)] ∧ Z.Warmed39 U.vm ∧ U.heap = h0) (fun _ _ _ _ _ => True) (fun _ U o U' => ∃ v L, o = .returned v ∧ Qwn Z x0 a_WORKED a_SENT_HOME a_ABSENT h0 n0 v U'.heap L ∧ FrameEnd U o U' L ({ frames := 0, cells := 0, slots := 0, locals := 0 } : Room).cells ({ frames := 0, cells := 0, slots := 0, locals := 0 } : Room).slots) := by
  refine MetFree.of_bodySF (plainFor_of_name pnwn) hisR ?_
  intro p e s m args below meth c s₁ Bd hml0 hP hK
  obtain ⟨rfl, hZ, hh⟩ := hP
  have hx := Bd.exec
  have hby := Bd.bytes
  have hml : c.maxLocals = 1 := hml0
  have hown : s.vm.findClass "com/example/millpact/millpact/TimeRecord$Type" = some m.cls := findClass_of_methodNamed Bd.named
  have hnm := (name_of_methodNamed Bd.named Bd.method).1
  have X0 : Stand p l e ({ frames := 0, cells := 0, slots := 0, locals := 0 } : Room) s m #[(.ref x0)] below meth c s₁ [] 0 0 := Stand.of_body Bd
  have e0 : s₁.heap = h0 := by rw [← hh, Bd.state]; rfl
  have N0 := Fr.nil n0
  have pre0 : ∀ t, Steps p.tables e below (s₁.setTop (mkF m 0 #[.val (.ref x0)] [])) t → Steps p.tables e below (s₁.setTop (entryFrame m #[(.ref x0)] 1)) t := fun t k => castTop (efwn m x0) k
  have p1 : ∀ t, Steps p.tables e below (s₁.setTop (mkF m 1 #[.val (.ref x0)] [(.ref x0)])) t → Steps p.tables e below (s₁.setTop (entryFrame m #[(.ref x0)] 1)) t := fun t k => pre0 t (by
    show Steps p.tables e below (s₁.setTop (mkF m 0 #[.val (.ref x0)] [])) _
    refine XS.aloadN X0.here hx rfl (hb hby dwn_0) rfl rfl ?_
    exact k)
  obtain ⟨T2, X2, e2, st2⟩ := getS2 X0 hx hZ hown (host := "") (Or.inl (hw _ (List.mem_of_getElem? (i := 12) rfl))) Via.refl e0 S_WORKED (g := (mkF m 1 #[.val (.ref x0)] [(.ref x0)])) rfl (hb hby dwn_1)
  have p3 : ∀ t, Steps p.tables e below (T2.setTop (mkF m 4 #[.val (.ref x0)] [(.ref a_WORKED), (.ref x0)])) t → Steps p.tables e below (s₁.setTop (entryFrame m #[(.ref x0)] 1)) t := fun t k => p1 t (st2 t k)
  have p4 : ∀ t, Steps p.tables e below (T2.setTop (mkF m 8 #[.val (.ref x0)] [(.ref x0)])) t → Steps p.tables e below (s₁.setTop (entryFrame m #[(.ref x0)] 1)) t := fun t k => p3 t (by
    show Steps p.tables e below (T2.setTop (mkF m 4 #[.val (.ref x0)] [(.ref a_WORKED), (.ref x0)])) _
    refine Jvm.RoadKit.acmp (g := (mkF m 4 #[.val (.ref x0)] [(.ref a_WORKED), (.ref x0)])) X2 hx rfl rfl rfl (pc0 := 4) (pc' := 7) (same := false) rfl (hb hby dwn_4) rfl (decide_eq_false fun q => ne0 (Value.ref.inj q)) (by decide) (by decide) ?_
    show Steps p.tables e below (T2.setTop (mkF m 7 #[.val (.ref x0)] [])) _
    refine XS.aloadN X2.here hx rfl (hb hby dwn_7) rfl rfl ?_
    exact k)
  obtain ⟨T5, X5, e5, st5⟩ := getS2 X2 hx hZ hown (host := "") (Or.inl (hw _ (List.mem_of_getElem? (i := 24) rfl))) Via.refl e2 S_SENT_HOME (g := (mkF m 8 #[.val (.ref x0)] [(.ref x0)])) rfl (hb hby dwn_8)
  have p6 : ∀ t, Steps p.tables e below (T5.setTop (mkF m 11 #[.val (.ref x0)] [(.ref a_SENT_HOME), (.ref x0)])) t → Steps p.tables e below (s₁.setTop (entryFrame m #[(.ref x0)] 1)) t := fun t k => p4 t (st5 t k)
  have p7 : ∀ t, Steps p.tables e below (T5.setTop (mkF m 15 #[.val (.ref x0)] [(.ref x0)])) t → Steps p.tables e below (s₁.setTop (entryFrame m #[(.ref x0)] 1)) t := fun t k => p6 t (by
    show Steps p.tables e below (T5.setTop (mkF m 11 #[.val (.ref x0)] [(.ref a_SENT_HOME), (.ref x0)])) _
    refine Jvm.RoadKit.acmp (g := (mkF m 11 #[.val (.ref x0)] [(.ref a_SENT_HOME), (.ref x0)])) X5 hx rfl rfl rfl (pc0 := 11) (pc' := 14) (same := false) rfl (hb hby dwn_11) rfl (decide_eq_false fun q => ne1 (Value.ref.inj q)) (by decide) (by decide) ?_
    show Steps p.tables e below (T5.setTop (mkF m 14 #[.val (.ref x0)] [])) _
    refine XS.aloadN X5.here hx rfl (hb hby dwn_14) rfl rfl ?_
    exact k)
  obtain ⟨T8, X8, e8, st8⟩ := getS2 X5 hx hZ hown (host := "") (Or.inl (hw _ (List.mem_of_getElem? (i := 26) rfl))) Via.refl e5 S_ABSENT (g := (mkF m 15 #[.val (.ref x0)] [(.ref x0)])) rfl (hb hby dwn_15)
  have p9 : ∀ t, Steps p.tables e below (T8.setTop (mkF m 18 #[.val (.ref x0)] [(.ref a_ABSENT), (.ref x0)])) t → Steps p.tables e below (s₁.setTop (entryFrame m #[(.ref x0)] 1)) t := fun t k => p7 t (st8 t k)
  have p10 : ∀ t, Steps p.tables e below (T8.setTop (mkF m 26 #[.val (.ref x0)] [(.int (0 : Int32))])) t → Steps p.tables e below (s₁.setTop (entryFrame m #[(.ref x0)] 1)) t := fun t k => p9 t (by
    show Steps p.tables e below (T8.setTop (mkF m 18 #[.val (.ref x0)] [(.ref a_ABSENT), (.ref x0)])) _
    refine Jvm.RoadKit.acmp (g := (mkF m 18 #[.val (.ref x0)] [(.ref a_ABSENT), (.ref x0)])) X8 hx rfl rfl rfl (pc0 := 18) (pc' := 25) (same := false) rfl (hb hby dwn_18) rfl (decide_eq_false fun q => ne2 (Value.ref.inj q)) (by decide) (by decide) ?_
    show Steps p.tables e below (T8.setTop (mkF m 25 #[.val (.ref x0)] [])) _
    refine XS.iconst X8.here hx rfl (hb hby dwn_25) ?_
    exact k)
  obtain ⟨fs, hr, hrun, hended, hW, hsame⟩ := X8.leave (v := some (.int (0 : Int32))) (fun h => by rw [Bd.returns] at h; cases h)
  refine ⟨_, _, p10 _ ?_, hrun, hended, _, _, rfl, ?_, ⟨_, rfl⟩, hW, hsame.mono (by decide) (by decide)⟩
  · show Steps p.tables e below (T8.setTop (mkF m 26 #[.val (.ref x0)] [(.int (0 : Int32))])) _
    exact retN X8 hx (t := .boolean) Bd.returns (by simp) (hb hby dwn_26) hr
  · show Qwn Z x0 a_WORKED a_SENT_HOME a_ABSENT h0 n0 _ T8.heap _
    rw [e8]
    exact ⟨rfl, N0, rfl⟩
theorem ddn_0 : decode prog_90_method_6_code 0 = .ok (.aload_n 0, 1) := by decide +kernel
theorem ddn_1 : decode prog_90_method_6_code 1 = .ok (.getstatic 19, 3) := by decide +kernel
theorem ddn_4 : decode prog_90_method_6_code 4 = .ok (.if_acmp .eq 10, 3) := by decide +kernel
theorem ddn_7 : decode prog_90_method_6_code 7 = .ok (.aload_n 0, 1) := by decide +kernel
theorem ddn_8 : decode prog_90_method_6_code 8 = .ok (.getstatic 22, 3) := by decide +kernel
theorem ddn_11 : decode prog_90_method_6_code 11 = .ok (.if_acmp .ne 7, 3) := by decide +kernel
theorem ddn_18 : decode prog_90_method_6_code 18 = .ok (.iconst 0, 1) := by decide +kernel
theorem ddn_19 : decode prog_90_method_6_code 19 = .ok (.ireturn, 1) := by decide +kernel
theorem pndn : plainName "com/example/millpact/millpact/TimeRecord$Type" = true := by first | (simp [plainName, overriddenIn]; done) | decide +kernel
theorem efdn (m : MethodId) (x0 : Addr) : entryFrame m #[(.ref x0)] 1 = mkF m 0 #[.val (.ref x0)] [] := by first | (simp [entryFrame, mkF, argsToLocals, Value.category]; done) | rfl
def Qdn (Z : State) (x0 : Addr) (a_DAY_OFF : Addr) (a_DAY_OFF_TRADED : Addr) (h0 : Heap) (n0 : Nat) (v : Option Value) (h : Heap) (L : List Loc) : Prop := v = some (.int (0 : Int32)) ∧ Fr n0 L ∧ h = h0
set_option maxRecDepth 65536 in
set_option maxHeartbeats 40000000 in
theorem rmdn (l : Launch) (Z : State) (a0 : Array Value) (hw : ∀ d ∈ tables_1, d.before a0 Z = true) (ws : List Jvm.Cond) (x0 : Addr) (a_DAY_OFF : Addr) (a_DAY_OFF_TRADED : Addr) (h0 : Heap) (n0 : Nat) (Z0 : n0 ≤ h0.size) (S_DAY_OFF : Sta Z h0 "com/example/millpact/millpact/TimeRecord$Type" "DAY_OFF" "Lcom/example/millpact/millpact/TimeRecord$Type;" (.ref a_DAY_OFF)) (S_DAY_OFF_TRADED : Sta Z h0 "com/example/millpact/millpact/TimeRecord$Type" "DAY_OFF_TRADED" "Lcom/example/millpact/millpact/TimeRecord$Type;" (.ref a_DAY_OFF_TRADED)) (ne0 : x0 ≠ a_DAY_OFF) (ne1 : x0 ≠ a_DAY_OFF_TRADED) :
    MetFree l (⟨"com/example/millpact/millpact/TimeRecord$Type", "dayOff", "()Z"⟩ : MethodName) (head1 (Jvm.Cond.code (⟨"com/example/millpact/millpact/TimeRecord$Type", "dayOff", "()Z"⟩ : MethodName) prog_90_method_6_code 1 (some .boolean) :: ws) ({ frames := 0, cells := 0, slots := 0, locals := 0 } : Room)) (fun a U => a = #[(.ref x0)] ∧ Z.Warmed39 U.vm ∧ U.heap = h0) (fun _ _ _ _ _ => True) (fun _ U o U' => ∃ v L, o = .returned v ∧ Qdn Z x0 a_DAY_OFF a_DAY_OFF_TRADED h0 n0 v U'.heap L ∧ FrameEnd U o U' L ({ frames := 0, cells := 0, slots := 0, locals := 0 } : Room).cells ({ frames := 0, cells := 0, slots := 0, locals := 0 } : Room).slots) := by
  refine MetFree.of_bodySF (plainFor_of_name pndn) hisR ?_
  intro p e s m args below meth c s₁ Bd hml0 hP hK
  obtain ⟨rfl, hZ, hh⟩ := hP
  have hx := Bd.exec
  have hby := Bd.bytes
  have hml : c.maxLocals = 1 := hml0
  have hown : s.vm.findClass "com/example/millpact/millpact/TimeRecord$Type" = some m.cls := findClass_of_methodNamed Bd.named
  have hnm := (name_of_methodNamed Bd.named Bd.method).1
  have X0 : Stand p l e ({ frames := 0, cells := 0, slots := 0, locals := 0 } : Room) s m #[(.ref x0)] below meth c s₁ [] 0 0 := Stand.of_body Bd
  have e0 : s₁.heap = h0 := by rw [← hh, Bd.state]; rfl
  have N0 := Fr.nil n0
  have pre0 : ∀ t, Steps p.tables e below (s₁.setTop (mkF m 0 #[.val (.ref x0)] [])) t → Steps p.tables e below (s₁.setTop (entryFrame m #[(.ref x0)] 1)) t := fun t k => castTop (efdn m x0) k
  have p1 : ∀ t, Steps p.tables e below (s₁.setTop (mkF m 1 #[.val (.ref x0)] [(.ref x0)])) t → Steps p.tables e below (s₁.setTop (entryFrame m #[(.ref x0)] 1)) t := fun t k => pre0 t (by
    show Steps p.tables e below (s₁.setTop (mkF m 0 #[.val (.ref x0)] [])) _
    refine XS.aloadN X0.here hx rfl (hb hby ddn_0) rfl rfl ?_
    exact k)
  obtain ⟨T2, X2, e2, st2⟩ := getS2 X0 hx hZ hown (host := "") (Or.inl (hw _ (List.mem_of_getElem? (i := 18) rfl))) Via.refl e0 S_DAY_OFF (g := (mkF m 1 #[.val (.ref x0)] [(.ref x0)])) rfl (hb hby ddn_1)
  have p3 : ∀ t, Steps p.tables e below (T2.setTop (mkF m 4 #[.val (.ref x0)] [(.ref a_DAY_OFF), (.ref x0)])) t → Steps p.tables e below (s₁.setTop (entryFrame m #[(.ref x0)] 1)) t := fun t k => p1 t (st2 t k)
  have p4 : ∀ t, Steps p.tables e below (T2.setTop (mkF m 8 #[.val (.ref x0)] [(.ref x0)])) t → Steps p.tables e below (s₁.setTop (entryFrame m #[(.ref x0)] 1)) t := fun t k => p3 t (by
    show Steps p.tables e below (T2.setTop (mkF m 4 #[.val (.ref x0)] [(.ref a_DAY_OFF), (.ref x0)])) _
    refine Jvm.RoadKit.acmp (g := (mkF m 4 #[.val (.ref x0)] [(.ref a_DAY_OFF), (.ref x0)])) X2 hx rfl rfl rfl (pc0 := 4) (pc' := 7) (same := false) rfl (hb hby ddn_4) rfl (decide_eq_false fun q => ne0 (Value.ref.inj q)) (by decide) (by decide) ?_
    show Steps p.tables e below (T2.setTop (mkF m 7 #[.val (.ref x0)] [])) _
    refine XS.aloadN X2.here hx rfl (hb hby ddn_7) rfl rfl ?_
    exact k)
  obtain ⟨T5, X5, e5, st5⟩ := getS2 X2 hx hZ hown (host := "") (Or.inl (hw _ (List.mem_of_getElem? (i := 20) rfl))) Via.refl e2 S_DAY_OFF_TRADED (g := (mkF m 8 #[.val (.ref x0)] [(.ref x0)])) rfl (hb hby ddn_8)
  have p6 : ∀ t, Steps p.tables e below (T5.setTop (mkF m 11 #[.val (.ref x0)] [(.ref a_DAY_OFF_TRADED), (.ref x0)])) t → Steps p.tables e below (s₁.setTop (entryFrame m #[(.ref x0)] 1)) t := fun t k => p4 t (st5 t k)
  have p7 : ∀ t, Steps p.tables e below (T5.setTop (mkF m 19 #[.val (.ref x0)] [(.int (0 : Int32))])) t → Steps p.tables e below (s₁.setTop (entryFrame m #[(.ref x0)] 1)) t := fun t k => p6 t (by
    show Steps p.tables e below (T5.setTop (mkF m 11 #[.val (.ref x0)] [(.ref a_DAY_OFF_TRADED), (.ref x0)])) _
    refine Jvm.RoadKit.acmp (g := (mkF m 11 #[.val (.ref x0)] [(.ref a_DAY_OFF_TRADED), (.ref x0)])) X5 hx rfl rfl rfl (pc0 := 11) (pc' := 18) (same := false) rfl (hb hby ddn_11) rfl (decide_eq_false fun q => ne1 (Value.ref.inj q)) (by decide) (by decide) ?_
    show Steps p.tables e below (T5.setTop (mkF m 18 #[.val (.ref x0)] [])) _
    refine XS.iconst X5.here hx rfl (hb hby ddn_18) ?_
    exact k)
  obtain ⟨fs, hr, hrun, hended, hW, hsame⟩ := X5.leave (v := some (.int (0 : Int32))) (fun h => by rw [Bd.returns] at h; cases h)
  refine ⟨_, _, p7 _ ?_, hrun, hended, _, _, rfl, ?_, ⟨_, rfl⟩, hW, hsame.mono (by decide) (by decide)⟩
  · show Steps p.tables e below (T5.setTop (mkF m 19 #[.val (.ref x0)] [(.int (0 : Int32))])) _
    exact retN X5 hx (t := .boolean) Bd.returns (by simp) (hb hby ddn_19) hr
  · show Qdn Z x0 a_DAY_OFF a_DAY_OFF_TRADED h0 n0 _ T5.heap _
    rw [e5]
    exact ⟨rfl, N0, rfl⟩
theorem pn0 : plainName "com/example/millpact/millpact/TimeRecordWorkdayPinLaw" = true := by first | (simp [plainName, overriddenIn]; done) | decide +kernel
theorem pd0_0 : parseMethodDescriptor "(I)Lcom/example/millpact/millpact/TimeRecord$Type;" = some ⟨[.int], some (.object "com/example/millpact/millpact/TimeRecord$Type")⟩ := by decide +kernel
theorem pd0_1 : parseMethodDescriptor "()Z" = some ⟨[], some .boolean⟩ := by decide +kernel
theorem ef0 (m : MethodId) (x0 : Int32) : entryFrame m #[(.int x0)] maxLocals = mkF m 0 #[.val (.int x0), .unset, .unset, .unset, .unset] [] := by first | (simp [entryFrame, mkF, argsToLocals, Value.category, maxLocals]; done) | rfl
def Q0 (Z : State) (x0 : Int32) (a_WORKED : Addr) (a_ABSENT : Addr) (a_CALL_IN : Addr) (a_WIRE_CALL_IN : Addr) (a_SENT_HOME : Addr) (a_DAY_OFF : Addr) (a_DAY_OFF_TRADED : Addr) (a_RECALL : Addr) (h0 : Heap) (n0 : Nat) (v : Option Value) (h : Heap) (L : List Loc) : Prop := v = some (.int (1 : Int32)) ∧ Fr n0 L
set_option maxRecDepth 65536 in
set_option maxHeartbeats 40000000 in
theorem rm0 (l : Launch) (Z : State) (a0 : Array Value) (hw : ∀ d ∈ tables_1, d.before a0 Z = true) (ws : List Jvm.Cond) (x0 : Int32) (a_WORKED : Addr) (a_ABSENT : Addr) (a_CALL_IN : Addr) (a_WIRE_CALL_IN : Addr) (a_SENT_HOME : Addr) (a_DAY_OFF : Addr) (a_DAY_OFF_TRADED : Addr) (a_RECALL : Addr) (h0 : Heap) (n0 : Nat) (Z0 : n0 ≤ h0.size) (S_WORKED : Sta Z h0 "com/example/millpact/millpact/TimeRecord$Type" "WORKED" "Lcom/example/millpact/millpact/TimeRecord$Type;" (.ref a_WORKED)) (S_ABSENT : Sta Z h0 "com/example/millpact/millpact/TimeRecord$Type" "ABSENT" "Lcom/example/millpact/millpact/TimeRecord$Type;" (.ref a_ABSENT)) (S_CALL_IN : Sta Z h0 "com/example/millpact/millpact/TimeRecord$Type" "CALL_IN" "Lcom/example/millpact/millpact/TimeRecord$Type;" (.ref a_CALL_IN)) (S_WIRE_CALL_IN : Sta Z h0 "com/example/millpact/millpact/TimeRecord$Type" "WIRE_CALL_IN" "Lcom/example/millpact/millpact/TimeRecord$Type;" (.ref a_WIRE_CALL_IN)) (S_SENT_HOME : Sta Z h0 "com/example/millpact/millpact/TimeRecord$Type" "SENT_HOME" "Lcom/example/millpact/millpact/TimeRecord$Type;" (.ref a_SENT_HOME)) (S_DAY_OFF : Sta Z h0 "com/example/millpact/millpact/TimeRecord$Type" "DAY_OFF" "Lcom/example/millpact/millpact/TimeRecord$Type;" (.ref a_DAY_OFF)) (S_DAY_OFF_TRADED : Sta Z h0 "com/example/millpact/millpact/TimeRecord$Type" "DAY_OFF_TRADED" "Lcom/example/millpact/millpact/TimeRecord$Type;" (.ref a_DAY_OFF_TRADED)) (S_RECALL : Sta Z h0 "com/example/millpact/millpact/TimeRecord$Type" "RECALL" "Lcom/example/millpact/millpact/TimeRecord$Type;" (.ref a_RECALL)) (E_WORKED : Exa Z h0 a_WORKED "com/example/millpact/millpact/TimeRecord$Type") (E_ABSENT : Exa Z h0 a_ABSENT "com/example/millpact/millpact/TimeRecord$Type") (E_CALL_IN : Exa Z h0 a_CALL_IN "com/example/millpact/millpact/TimeRecord$Type") (E_WIRE_CALL_IN : Exa Z h0 a_WIRE_CALL_IN "com/example/millpact/millpact/TimeRecord$Type") (E_SENT_HOME : Exa Z h0 a_SENT_HOME "com/example/millpact/millpact/TimeRecord$Type") (E_DAY_OFF : Exa Z h0 a_DAY_OFF "com/example/millpact/millpact/TimeRecord$Type") (E_DAY_OFF_TRADED : Exa Z h0 a_DAY_OFF_TRADED "com/example/millpact/millpact/TimeRecord$Type") (E_RECALL : Exa Z h0 a_RECALL "com/example/millpact/millpact/TimeRecord$Type") (ne0_4 : a_WORKED ≠ a_SENT_HOME) (ne0_1 : a_WORKED ≠ a_ABSENT) (ne0_5 : a_WORKED ≠ a_DAY_OFF) (ne0_6 : a_WORKED ≠ a_DAY_OFF_TRADED) (ne1_0 : a_ABSENT ≠ a_WORKED) (ne1_4 : a_ABSENT ≠ a_SENT_HOME) (ne1_5 : a_ABSENT ≠ a_DAY_OFF) (ne1_6 : a_ABSENT ≠ a_DAY_OFF_TRADED) (ne2_0 : a_CALL_IN ≠ a_WORKED) (ne2_4 : a_CALL_IN ≠ a_SENT_HOME) (ne2_1 : a_CALL_IN ≠ a_ABSENT) (ne2_5 : a_CALL_IN ≠ a_DAY_OFF) (ne2_6 : a_CALL_IN ≠ a_DAY_OFF_TRADED) (ne3_0 : a_WIRE_CALL_IN ≠ a_WORKED) (ne3_4 : a_WIRE_CALL_IN ≠ a_SENT_HOME) (ne3_1 : a_WIRE_CALL_IN ≠ a_ABSENT) (ne3_5 : a_WIRE_CALL_IN ≠ a_DAY_OFF) (ne3_6 : a_WIRE_CALL_IN ≠ a_DAY_OFF_TRADED) (ne4_0 : a_SENT_HOME ≠ a_WORKED) (ne4_1 : a_SENT_HOME ≠ a_ABSENT) (ne4_5 : a_SENT_HOME ≠ a_DAY_OFF) (ne4_6 : a_SENT_HOME ≠ a_DAY_OFF_TRADED) (ne5_0 : a_DAY_OFF ≠ a_WORKED) (ne5_4 : a_DAY_OFF ≠ a_SENT_HOME) (ne5_1 : a_DAY_OFF ≠ a_ABSENT) (ne5_6 : a_DAY_OFF ≠ a_DAY_OFF_TRADED) (ne6_0 : a_DAY_OFF_TRADED ≠ a_WORKED) (ne6_4 : a_DAY_OFF_TRADED ≠ a_SENT_HOME) (ne6_1 : a_DAY_OFF_TRADED ≠ a_ABSENT) (ne6_5 : a_DAY_OFF_TRADED ≠ a_DAY_OFF) (ne7_0 : a_RECALL ≠ a_WORKED) (ne7_4 : a_RECALL ≠ a_SENT_HOME) (ne7_1 : a_RECALL ≠ a_ABSENT) (ne7_5 : a_RECALL ≠ a_DAY_OFF) (ne7_6 : a_RECALL ≠ a_DAY_OFF_TRADED) :
    MetFree l x (head1 (Jvm.Cond.code x code maxLocals ret :: ws) room_1) (fun a U => a = #[(.int x0)] ∧ Z.Warmed39 U.vm ∧ U.heap = h0) (fun _ _ _ _ _ => True) (fun _ U o U' => ∃ v L, o = .returned v ∧ Q0 Z x0 a_WORKED a_ABSENT a_CALL_IN a_WIRE_CALL_IN a_SENT_HOME a_DAY_OFF a_DAY_OFF_TRADED a_RECALL h0 n0 v U'.heap L ∧ FrameEnd U o U' L room_1.cells room_1.slots) := by
  refine MetFree.of_bodySF (plainFor_of_name pn0) hisR ?_
  intro p e s m args below meth c s₁ Bd hml0 hP hK
  obtain ⟨rfl, hZ, hh⟩ := hP
  have hx := Bd.exec
  have hby := Bd.bytes
  have hml : c.maxLocals = 5 := hml0
  have hown : s.vm.findClass "com/example/millpact/millpact/TimeRecordWorkdayPinLaw" = some m.cls := findClass_of_methodNamed Bd.named
  have hnm := (name_of_methodNamed Bd.named Bd.method).1
  have X0 : Stand p l e room_1 s m #[(.int x0)] below meth c s₁ [] 0 0 := Stand.of_body Bd
  have e0 : s₁.heap = h0 := by rw [← hh, Bd.state]; rfl
  have N0 := Fr.nil n0
  have pre0 : ∀ t, Steps p.tables e below (s₁.setTop (mkF m 0 #[.val (.int x0), .unset, .unset, .unset, .unset] [])) t → Steps p.tables e below (s₁.setTop (entryFrame m #[(.int x0)] maxLocals)) t := fun t k => castTop (ef0 m x0) k
  have p1 : ∀ t, Steps p.tables e below (s₁.setTop (mkF m 5 #[.val (.int x0), .val (.int (x0 &&& (7 : Int32))), .unset, .unset, .unset] [])) t → Steps p.tables e below (s₁.setTop (entryFrame m #[(.int x0)] maxLocals)) t := fun t k => pre0 t (by
    show Steps p.tables e below (s₁.setTop (mkF m 0 #[.val (.int x0), .unset, .unset, .unset, .unset] [])) _
    refine XS.iloadN X0.here hx rfl (hb hby at_0) rfl ?_
    show Steps p.tables e below (s₁.setTop (mkF m 1 #[.val (.int x0), .unset, .unset, .unset, .unset] [(.int x0)])) _
    refine XS.bipush X0.here hx rfl (hb hby at_1) ?_
    show Steps p.tables e below (s₁.setTop (mkF m 3 #[.val (.int x0), .unset, .unset, .unset, .unset] [(.int (7 : Int32)), (.int x0)])) _
    refine XS.iand X0.here hx rfl (hb hby at_3) rfl ?_
    show Steps p.tables e below (s₁.setTop (mkF m 4 #[.val (.int x0), .unset, .unset, .unset, .unset] [(.int (x0 &&& (7 : Int32)))])) _
    refine XS.istoreN X0.here hx rfl (hb hby at_4) rfl (l' := #[.val (.int x0), .val (.int (x0 &&& (7 : Int32))), .unset, .unset, .unset]) rfl ?_
    exact k)
  obtain ⟨vk, hvk⟩ : ∃ z : Int32, z = (x0 &&& (7 : Int32)) := ⟨_, rfl⟩
  have p2 : ∀ t, Steps p.tables e below (s₁.setTop (mkF m 5 #[.val (.int x0), .val (.int vk), .unset, .unset, .unset] [])) t → Steps p.tables e below (s₁.setTop (entryFrame m #[(.int x0)] maxLocals)) t := by
    intro t k; subst hvk; exact p1 t k
  rcases own_k8 hvk with rfl | rfl | rfl | rfl | rfl | rfl | rfl | rfl
  · have p3 : ∀ t, Steps p.tables e below (s₁.setTop (mkF m 6 #[.val (.int x0), .val (.int (0 : Int32)), .unset, .unset, .unset] [(.int (0 : Int32))])) t → Steps p.tables e below (s₁.setTop (entryFrame m #[(.int x0)] maxLocals)) t := fun t k => p2 t (by
      show Steps p.tables e below (s₁.setTop (mkF m 5 #[.val (.int x0), .val (.int (0 : Int32)), .unset, .unset, .unset] [])) _
      refine XS.iloadN X0.here hx rfl (hb hby at_5) rfl ?_
      exact k)
    obtain ⟨_, _, ⟨T4, L4, k4, n4⟩, -, X4, ⟨Lc4, hQ4, l4, y4, z4⟩, st4⟩ := Jvm.LawKit.callS X0 hx (y := (⟨"com/example/millpact/millpact/TimeRecordWorkdayPinLaw", "pick", "(I)Lcom/example/millpact/millpact/TimeRecord$Type;"⟩ : MethodName)) hown (mvT hZ (hw _ (List.mem_of_getElem? (i := 0) rfl))) (mvT hZ (hw _ (List.mem_of_getElem? (i := 1) rfl))) (mvT hZ (hw _ (List.mem_of_getElem? (i := 2) rfl))) (mvT hZ (hw _ (List.mem_of_getElem? (i := 3) rfl))) (by decide) (backOf (W := 0) (rmp0 l Z a0 hw []  a_WORKED h0 n0 Z0 S_WORKED) hZ (hw _ (List.mem_of_getElem? (i := 3) rfl)) (hw _ (List.mem_of_getElem? (i := 2) rfl)) (by decide) (by decide)) (g := (mkF m 6 #[.val (.int x0), .val (.int (0 : Int32)), .unset, .unset, .unset] [(.int (0 : Int32))])) rfl (by rw [hml]; rfl) (argsL := [(.int (0 : Int32))]) (rest := []) (lenOf pd0_0 rfl) rfl (by show 2 * 0 + _ ≤ _; exact Nat.le_of_eq rfl) (hb hby at_6) (fun _ _ => ⟨rfl, e0, (by decide : 0 + 0 ≤ _), (by decide : 0 + 0 ≤ _)⟩)
    dsimp only [Pt.U, Pt.locs, Pt.cells, Pt.slots] at X4 l4 y4 z4 st4 hQ4
    subst l4 y4 z4
    obtain ⟨rfl, Nq4, e4⟩ := hQ4
    have N4 := Fr.app N0 Nq4
    have p5 : ∀ t, Steps p.tables e below (T4.setTop (mkF m 9 #[.val (.int x0), .val (.int (0 : Int32)), .unset, .unset, .unset] [(.ref a_WORKED)])) t → Steps p.tables e below (s₁.setTop (entryFrame m #[(.int x0)] maxLocals)) t := fun t k => p3 t (st4 _ k)
    have p6 : ∀ t, Steps p.tables e below (T4.setTop (mkF m 31 #[.val (.int x0), .val (.int (0 : Int32)), .val (.ref a_WORKED), .val (.int (1 : Int32)), .unset] [(.ref a_WORKED)])) t → Steps p.tables e below (s₁.setTop (entryFrame m #[(.int x0)] maxLocals)) t := fun t k => p5 t (by
      show Steps p.tables e below (T4.setTop (mkF m 9 #[.val (.int x0), .val (.int (0 : Int32)), .unset, .unset, .unset] [(.ref a_WORKED)])) _
      refine XS.astoreN X4.here hx rfl (hb hby at_9) rfl rfl (l' := #[.val (.int x0), .val (.int (0 : Int32)), .val (.ref a_WORKED), .unset, .unset]) rfl ?_
      show Steps p.tables e below (T4.setTop (mkF m 10 #[.val (.int x0), .val (.int (0 : Int32)), .val (.ref a_WORKED), .unset, .unset] [])) _
      refine XS.iloadN X4.here hx rfl (hb hby at_10) rfl ?_
      show Steps p.tables e below (T4.setTop (mkF m 11 #[.val (.int x0), .val (.int (0 : Int32)), .val (.ref a_WORKED), .unset, .unset] [(.int (0 : Int32))])) _
      refine XS.ifYes X4.here hx rfl (pc0 := 11) (pc' := 24) rfl (hb hby at_11) rfl ((if0 _ _).trans (teq (rfl)).1) (by decide) (by decide) ?_
      show Steps p.tables e below (T4.setTop (mkF m 24 #[.val (.int x0), .val (.int (0 : Int32)), .val (.ref a_WORKED), .unset, .unset] [])) _
      refine XS.iconst X4.here hx rfl (hb hby at_24) ?_
      show Steps p.tables e below (T4.setTop (mkF m 25 #[.val (.int x0), .val (.int (0 : Int32)), .val (.ref a_WORKED), .unset, .unset] [(.int (1 : Int32))])) _
      refine XS.goto X4.here hx rfl (pc0 := 25) (pc' := 29) rfl (hb hby at_25) (by decide) (by decide) ?_
      show Steps p.tables e below (T4.setTop (mkF m 29 #[.val (.int x0), .val (.int (0 : Int32)), .val (.ref a_WORKED), .unset, .unset] [(.int (1 : Int32))])) _
      refine XS.istoreN X4.here hx rfl (hb hby at_29) rfl (l' := #[.val (.int x0), .val (.int (0 : Int32)), .val (.ref a_WORKED), .val (.int (1 : Int32)), .unset]) rfl ?_
      show Steps p.tables e below (T4.setTop (mkF m 30 #[.val (.int x0), .val (.int (0 : Int32)), .val (.ref a_WORKED), .val (.int (1 : Int32)), .unset] [])) _
      refine XS.aloadN X4.here hx rfl (hb hby at_30) rfl rfl ?_
      exact k)
    obtain ⟨cq7, kq7, qa7, qb7, qc7⟩ := isOf hZ e4 E_WORKED
    obtain ⟨_, _, ⟨T7, L7, k7, n7⟩, -, X7, ⟨Lc7, hQ7, l7, y7, z7⟩, st7⟩ := X4.virtualBack hx (y := (⟨"com/example/millpact/millpact/TimeRecord$Type", "workday", "()Z"⟩ : MethodName)) (z := (⟨"com/example/millpact/millpact/TimeRecord$Type", "workday", "()Z"⟩ : MethodName)) hown (mvT hZ (hw _ (List.mem_of_getElem? (i := 7) rfl))) (mvT hZ (hw _ (List.mem_of_getElem? (i := 8) rfl))) (notFace_of_selects (args := #[]) (mvT hZ (hw _ (List.mem_of_getElem? (i := 10) rfl)))) (mvT hZ (hw _ (List.mem_of_getElem? (i := 10) rfl))) (mvT hZ (hw _ (List.mem_of_getElem? (i := 9) rfl))) (by decide) (backOf (W := 0) (rmw0 l Z a0 hw []  a_WORKED a_SENT_HOME a_ABSENT h0 n0 Z0 S_WORKED S_SENT_HOME S_ABSENT) hZ (hw _ (List.mem_of_getElem? (i := 11) rfl)) (hw _ (List.mem_of_getElem? (i := 5) rfl)) (by decide) (by decide)) qa7 qc7 (g := (mkF m 31 #[.val (.int x0), .val (.int (0 : Int32)), .val (.ref a_WORKED), .val (.int (1 : Int32)), .unset] [(.ref a_WORKED)])) rfl (by rw [hml]; rfl) (Steps.refl _) (argsL := []) (rest := []) (lenOf pd0_1 rfl) rfl (by show 2 * 0 + _ ≤ _; exact Nat.le_of_eq rfl) (hb hby at_31) (fun _ _ => ⟨rfl, e4, (by decide : 0 + 0 ≤ _), (by decide : 0 + 0 ≤ _)⟩)
    dsimp only [Pt.U, Pt.locs, Pt.cells, Pt.slots] at X7 l7 y7 z7 st7 hQ7
    subst l7 y7 z7
    obtain ⟨rfl, Nq7, e7⟩ := hQ7
    have N7 := Fr.app N4 Nq7
    have p8 : ∀ t, Steps p.tables e below (T7.setTop (mkF m 34 #[.val (.int x0), .val (.int (0 : Int32)), .val (.ref a_WORKED), .val (.int (1 : Int32)), .unset] [(.int (1 : Int32))])) t → Steps p.tables e below (s₁.setTop (entryFrame m #[(.int x0)] maxLocals)) t := fun t k => p6 t (st7.trans k)
    have p9 : ∀ t, Steps p.tables e below (T7.setTop (mkF m 50 #[.val (.int x0), .val (.int (0 : Int32)), .val (.ref a_WORKED), .val (.int (1 : Int32)), .val (.int (1 : Int32))] [(.ref a_WORKED)])) t → Steps p.tables e below (s₁.setTop (entryFrame m #[(.int x0)] maxLocals)) t := fun t k => p8 t (by
      show Steps p.tables e below (T7.setTop (mkF m 34 #[.val (.int x0), .val (.int (0 : Int32)), .val (.ref a_WORKED), .val (.int (1 : Int32)), .unset] [(.int (1 : Int32))])) _
      refine XS.istore X7.here hx rfl (hb hby at_34) rfl (l' := #[.val (.int x0), .val (.int (0 : Int32)), .val (.ref a_WORKED), .val (.int (1 : Int32)), .val (.int (1 : Int32))]) rfl ?_
      show Steps p.tables e below (T7.setTop (mkF m 36 #[.val (.int x0), .val (.int (0 : Int32)), .val (.ref a_WORKED), .val (.int (1 : Int32)), .val (.int (1 : Int32))] [])) _
      refine XS.iload X7.here hx rfl (hb hby at_36) rfl ?_
      show Steps p.tables e below (T7.setTop (mkF m 38 #[.val (.int x0), .val (.int (0 : Int32)), .val (.ref a_WORKED), .val (.int (1 : Int32)), .val (.int (1 : Int32))] [(.int (1 : Int32))])) _
      refine XS.iloadN X7.here hx rfl (hb hby at_38) rfl ?_
      show Steps p.tables e below (T7.setTop (mkF m 39 #[.val (.int x0), .val (.int (0 : Int32)), .val (.ref a_WORKED), .val (.int (1 : Int32)), .val (.int (1 : Int32))] [(.int (1 : Int32)), (.int (1 : Int32))])) _
      refine XS.icmpYes X7.here hx rfl (pc0 := 39) (pc' := 44) rfl (hb hby at_39) rfl ((teq (rfl)).1) (by decide) (by decide) ?_
      show Steps p.tables e below (T7.setTop (mkF m 44 #[.val (.int x0), .val (.int (0 : Int32)), .val (.ref a_WORKED), .val (.int (1 : Int32)), .val (.int (1 : Int32))] [])) _
      refine XS.iload X7.here hx rfl (hb hby at_44) rfl ?_
      show Steps p.tables e below (T7.setTop (mkF m 46 #[.val (.int x0), .val (.int (0 : Int32)), .val (.ref a_WORKED), .val (.int (1 : Int32)), .val (.int (1 : Int32))] [(.int (1 : Int32))])) _
      refine XS.ifNo X7.here hx rfl (hb hby at_46) rfl ((if0 _ _).trans (feq (by decide)).1) ?_
      show Steps p.tables e below (T7.setTop (mkF m 49 #[.val (.int x0), .val (.int (0 : Int32)), .val (.ref a_WORKED), .val (.int (1 : Int32)), .val (.int (1 : Int32))] [])) _
      refine XS.aloadN X7.here hx rfl (hb hby at_49) rfl rfl ?_
      exact k)
    obtain ⟨cq10, kq10, qa10, qb10, qc10⟩ := isOf hZ e7 E_WORKED
    obtain ⟨_, _, ⟨T10, L10, k10, n10⟩, -, X10, ⟨Lc10, hQ10, l10, y10, z10⟩, st10⟩ := X7.virtualBack hx (y := (⟨"com/example/millpact/millpact/TimeRecord$Type", "dayOff", "()Z"⟩ : MethodName)) (z := (⟨"com/example/millpact/millpact/TimeRecord$Type", "dayOff", "()Z"⟩ : MethodName)) hown (mvT hZ (hw _ (List.mem_of_getElem? (i := 13) rfl))) (mvT hZ (hw _ (List.mem_of_getElem? (i := 14) rfl))) (notFace_of_selects (args := #[]) (mvT hZ (hw _ (List.mem_of_getElem? (i := 16) rfl)))) (mvT hZ (hw _ (List.mem_of_getElem? (i := 16) rfl))) (mvT hZ (hw _ (List.mem_of_getElem? (i := 15) rfl))) (by decide) (backOf (W := 0) (rmdn l Z a0 hw []  a_WORKED a_DAY_OFF a_DAY_OFF_TRADED h0 n0 Z0 S_DAY_OFF S_DAY_OFF_TRADED ne0_5 ne0_6) hZ (hw _ (List.mem_of_getElem? (i := 17) rfl)) (hw _ (List.mem_of_getElem? (i := 5) rfl)) (by decide) (by decide)) qa10 qc10 (g := (mkF m 50 #[.val (.int x0), .val (.int (0 : Int32)), .val (.ref a_WORKED), .val (.int (1 : Int32)), .val (.int (1 : Int32))] [(.ref a_WORKED)])) rfl (by rw [hml]; rfl) (Steps.refl _) (argsL := []) (rest := []) (lenOf pd0_1 rfl) rfl (by show 2 * 0 + _ ≤ _; exact Nat.le_of_eq rfl) (hb hby at_50) (fun _ _ => ⟨rfl, e7, (by decide : 0 + 0 ≤ _), (by decide : 0 + 0 ≤ _)⟩)
    dsimp only [Pt.U, Pt.locs, Pt.cells, Pt.slots] at X10 l10 y10 z10 st10 hQ10
    subst l10 y10 z10
    obtain ⟨rfl, Nq10, e10⟩ := hQ10
    have N10 := Fr.app N7 Nq10
    have p11 : ∀ t, Steps p.tables e below (T10.setTop (mkF m 53 #[.val (.int x0), .val (.int (0 : Int32)), .val (.ref a_WORKED), .val (.int (1 : Int32)), .val (.int (1 : Int32))] [(.int (0 : Int32))])) t → Steps p.tables e below (s₁.setTop (entryFrame m #[(.int x0)] maxLocals)) t := fun t k => p9 t (st10.trans k)
    have p12 : ∀ t, Steps p.tables e below (T10.setTop (mkF m 61 #[.val (.int x0), .val (.int (0 : Int32)), .val (.ref a_WORKED), .val (.int (1 : Int32)), .val (.int (1 : Int32))] [(.int (1 : Int32))])) t → Steps p.tables e below (s₁.setTop (entryFrame m #[(.int x0)] maxLocals)) t := fun t k => p11 t (by
      show Steps p.tables e below (T10.setTop (mkF m 53 #[.val (.int x0), .val (.int (0 : Int32)), .val (.ref a_WORKED), .val (.int (1 : Int32)), .val (.int (1 : Int32))] [(.int (0 : Int32))])) _
      refine XS.ifNo X10.here hx rfl (hb hby at_53) rfl ((if0 _ _).trans (teq (rfl)).2) ?_
      show Steps p.tables e below (T10.setTop (mkF m 56 #[.val (.int x0), .val (.int (0 : Int32)), .val (.ref a_WORKED), .val (.int (1 : Int32)), .val (.int (1 : Int32))] [])) _
      refine XS.iconst X10.here hx rfl (hb hby at_56) ?_
      show Steps p.tables e below (T10.setTop (mkF m 57 #[.val (.int x0), .val (.int (0 : Int32)), .val (.ref a_WORKED), .val (.int (1 : Int32)), .val (.int (1 : Int32))] [(.int (1 : Int32))])) _
      refine XS.goto X10.here hx rfl (pc0 := 57) (pc' := 61) rfl (hb hby at_57) (by decide) (by decide) ?_
      exact k)
    obtain ⟨fs, hr, hrun, hended, hW, hsame⟩ := X10.leave (v := some (.int (1 : Int32))) (fun h => by rw [Bd.returns] at h; cases h)
    refine ⟨_, _, p12 _ ?_, hrun, hended, _, _, rfl, ?_, ⟨_, rfl⟩, hW, hsame.mono (by decide) (by decide)⟩
    · show Steps p.tables e below (T10.setTop (mkF m 61 #[.val (.int x0), .val (.int (0 : Int32)), .val (.ref a_WORKED), .val (.int (1 : Int32)), .val (.int (1 : Int32))] [(.int (1 : Int32))])) _
      exact retN X10 hx (t := .boolean) Bd.returns (by simp) (hb hby at_61) hr
    · show Q0 Z x0 a_WORKED a_ABSENT a_CALL_IN a_WIRE_CALL_IN a_SENT_HOME a_DAY_OFF a_DAY_OFF_TRADED a_RECALL h0 n0 _ T10.heap _
      rw [e10]
      exact ⟨rfl, N10⟩
  · have p13 : ∀ t, Steps p.tables e below (s₁.setTop (mkF m 6 #[.val (.int x0), .val (.int (1 : Int32)), .unset, .unset, .unset] [(.int (1 : Int32))])) t → Steps p.tables e below (s₁.setTop (entryFrame m #[(.int x0)] maxLocals)) t := fun t k => p2 t (by
      show Steps p.tables e below (s₁.setTop (mkF m 5 #[.val (.int x0), .val (.int (1 : Int32)), .unset, .unset, .unset] [])) _
      refine XS.iloadN X0.here hx rfl (hb hby at_5) rfl ?_
      exact k)
    obtain ⟨_, _, ⟨T14, L14, k14, n14⟩, -, X14, ⟨Lc14, hQ14, l14, y14, z14⟩, st14⟩ := Jvm.LawKit.callS X0 hx (y := (⟨"com/example/millpact/millpact/TimeRecordWorkdayPinLaw", "pick", "(I)Lcom/example/millpact/millpact/TimeRecord$Type;"⟩ : MethodName)) hown (mvT hZ (hw _ (List.mem_of_getElem? (i := 0) rfl))) (mvT hZ (hw _ (List.mem_of_getElem? (i := 1) rfl))) (mvT hZ (hw _ (List.mem_of_getElem? (i := 2) rfl))) (mvT hZ (hw _ (List.mem_of_getElem? (i := 3) rfl))) (by decide) (backOf (W := 0) (rmp1 l Z a0 hw []  a_ABSENT h0 n0 Z0 S_ABSENT) hZ (hw _ (List.mem_of_getElem? (i := 3) rfl)) (hw _ (List.mem_of_getElem? (i := 2) rfl)) (by decide) (by decide)) (g := (mkF m 6 #[.val (.int x0), .val (.int (1 : Int32)), .unset, .unset, .unset] [(.int (1 : Int32))])) rfl (by rw [hml]; rfl) (argsL := [(.int (1 : Int32))]) (rest := []) (lenOf pd0_0 rfl) rfl (by show 2 * 0 + _ ≤ _; exact Nat.le_of_eq rfl) (hb hby at_6) (fun _ _ => ⟨rfl, e0, (by decide : 0 + 0 ≤ _), (by decide : 0 + 0 ≤ _)⟩)
    dsimp only [Pt.U, Pt.locs, Pt.cells, Pt.slots] at X14 l14 y14 z14 st14 hQ14
    subst l14 y14 z14
    obtain ⟨rfl, Nq14, e14⟩ := hQ14
    have N14 := Fr.app N0 Nq14
    have p15 : ∀ t, Steps p.tables e below (T14.setTop (mkF m 9 #[.val (.int x0), .val (.int (1 : Int32)), .unset, .unset, .unset] [(.ref a_ABSENT)])) t → Steps p.tables e below (s₁.setTop (entryFrame m #[(.int x0)] maxLocals)) t := fun t k => p13 t (st14 _ k)
    have p16 : ∀ t, Steps p.tables e below (T14.setTop (mkF m 31 #[.val (.int x0), .val (.int (1 : Int32)), .val (.ref a_ABSENT), .val (.int (1 : Int32)), .unset] [(.ref a_ABSENT)])) t → Steps p.tables e below (s₁.setTop (entryFrame m #[(.int x0)] maxLocals)) t := fun t k => p15 t (by
      show Steps p.tables e below (T14.setTop (mkF m 9 #[.val (.int x0), .val (.int (1 : Int32)), .unset, .unset, .unset] [(.ref a_ABSENT)])) _
      refine XS.astoreN X14.here hx rfl (hb hby at_9) rfl rfl (l' := #[.val (.int x0), .val (.int (1 : Int32)), .val (.ref a_ABSENT), .unset, .unset]) rfl ?_
      show Steps p.tables e below (T14.setTop (mkF m 10 #[.val (.int x0), .val (.int (1 : Int32)), .val (.ref a_ABSENT), .unset, .unset] [])) _
      refine XS.iloadN X14.here hx rfl (hb hby at_10) rfl ?_
      show Steps p.tables e below (T14.setTop (mkF m 11 #[.val (.int x0), .val (.int (1 : Int32)), .val (.ref a_ABSENT), .unset, .unset] [(.int (1 : Int32))])) _
      refine XS.ifNo X14.here hx rfl (hb hby at_11) rfl ((if0 _ _).trans (feq (by decide)).1) ?_
      show Steps p.tables e below (T14.setTop (mkF m 14 #[.val (.int x0), .val (.int (1 : Int32)), .val (.ref a_ABSENT), .unset, .unset] [])) _
      refine XS.iloadN X14.here hx rfl (hb hby at_14) rfl ?_
      show Steps p.tables e below (T14.setTop (mkF m 15 #[.val (.int x0), .val (.int (1 : Int32)), .val (.ref a_ABSENT), .unset, .unset] [(.int (1 : Int32))])) _
      refine XS.iconst X14.here hx rfl (hb hby at_15) ?_
      show Steps p.tables e below (T14.setTop (mkF m 16 #[.val (.int x0), .val (.int (1 : Int32)), .val (.ref a_ABSENT), .unset, .unset] [(.int (1 : Int32)), (.int (1 : Int32))])) _
      refine XS.icmpYes X14.here hx rfl (pc0 := 16) (pc' := 24) rfl (hb hby at_16) rfl ((teq (rfl)).1) (by decide) (by decide) ?_
      show Steps p.tables e below (T14.setTop (mkF m 24 #[.val (.int x0), .val (.int (1 : Int32)), .val (.ref a_ABSENT), .unset, .unset] [])) _
      refine XS.iconst X14.here hx rfl (hb hby at_24) ?_
      show Steps p.tables e below (T14.setTop (mkF m 25 #[.val (.int x0), .val (.int (1 : Int32)), .val (.ref a_ABSENT), .unset, .unset] [(.int (1 : Int32))])) _
      refine XS.goto X14.here hx rfl (pc0 := 25) (pc' := 29) rfl (hb hby at_25) (by decide) (by decide) ?_
      show Steps p.tables e below (T14.setTop (mkF m 29 #[.val (.int x0), .val (.int (1 : Int32)), .val (.ref a_ABSENT), .unset, .unset] [(.int (1 : Int32))])) _
      refine XS.istoreN X14.here hx rfl (hb hby at_29) rfl (l' := #[.val (.int x0), .val (.int (1 : Int32)), .val (.ref a_ABSENT), .val (.int (1 : Int32)), .unset]) rfl ?_
      show Steps p.tables e below (T14.setTop (mkF m 30 #[.val (.int x0), .val (.int (1 : Int32)), .val (.ref a_ABSENT), .val (.int (1 : Int32)), .unset] [])) _
      refine XS.aloadN X14.here hx rfl (hb hby at_30) rfl rfl ?_
      exact k)
    obtain ⟨cq17, kq17, qa17, qb17, qc17⟩ := isOf hZ e14 E_ABSENT
    obtain ⟨_, _, ⟨T17, L17, k17, n17⟩, -, X17, ⟨Lc17, hQ17, l17, y17, z17⟩, st17⟩ := X14.virtualBack hx (y := (⟨"com/example/millpact/millpact/TimeRecord$Type", "workday", "()Z"⟩ : MethodName)) (z := (⟨"com/example/millpact/millpact/TimeRecord$Type", "workday", "()Z"⟩ : MethodName)) hown (mvT hZ (hw _ (List.mem_of_getElem? (i := 7) rfl))) (mvT hZ (hw _ (List.mem_of_getElem? (i := 8) rfl))) (notFace_of_selects (args := #[]) (mvT hZ (hw _ (List.mem_of_getElem? (i := 10) rfl)))) (mvT hZ (hw _ (List.mem_of_getElem? (i := 10) rfl))) (mvT hZ (hw _ (List.mem_of_getElem? (i := 9) rfl))) (by decide) (backOf (W := 0) (rmw2 l Z a0 hw []  a_ABSENT a_WORKED a_SENT_HOME h0 n0 Z0 S_WORKED S_SENT_HOME S_ABSENT ne1_0 ne1_4) hZ (hw _ (List.mem_of_getElem? (i := 11) rfl)) (hw _ (List.mem_of_getElem? (i := 5) rfl)) (by decide) (by decide)) qa17 qc17 (g := (mkF m 31 #[.val (.int x0), .val (.int (1 : Int32)), .val (.ref a_ABSENT), .val (.int (1 : Int32)), .unset] [(.ref a_ABSENT)])) rfl (by rw [hml]; rfl) (Steps.refl _) (argsL := []) (rest := []) (lenOf pd0_1 rfl) rfl (by show 2 * 0 + _ ≤ _; exact Nat.le_of_eq rfl) (hb hby at_31) (fun _ _ => ⟨rfl, e14, (by decide : 0 + 0 ≤ _), (by decide : 0 + 0 ≤ _)⟩)
    dsimp only [Pt.U, Pt.locs, Pt.cells, Pt.slots] at X17 l17 y17 z17 st17 hQ17
    subst l17 y17 z17
    obtain ⟨rfl, Nq17, e17⟩ := hQ17
    have N17 := Fr.app N14 Nq17
    have p18 : ∀ t, Steps p.tables e below (T17.setTop (mkF m 34 #[.val (.int x0), .val (.int (1 : Int32)), .val (.ref a_ABSENT), .val (.int (1 : Int32)), .unset] [(.int (1 : Int32))])) t → Steps p.tables e below (s₁.setTop (entryFrame m #[(.int x0)] maxLocals)) t := fun t k => p16 t (st17.trans k)
    have p19 : ∀ t, Steps p.tables e below (T17.setTop (mkF m 50 #[.val (.int x0), .val (.int (1 : Int32)), .val (.ref a_ABSENT), .val (.int (1 : Int32)), .val (.int (1 : Int32))] [(.ref a_ABSENT)])) t → Steps p.tables e below (s₁.setTop (entryFrame m #[(.int x0)] maxLocals)) t := fun t k => p18 t (by
      show Steps p.tables e below (T17.setTop (mkF m 34 #[.val (.int x0), .val (.int (1 : Int32)), .val (.ref a_ABSENT), .val (.int (1 : Int32)), .unset] [(.int (1 : Int32))])) _
      refine XS.istore X17.here hx rfl (hb hby at_34) rfl (l' := #[.val (.int x0), .val (.int (1 : Int32)), .val (.ref a_ABSENT), .val (.int (1 : Int32)), .val (.int (1 : Int32))]) rfl ?_
      show Steps p.tables e below (T17.setTop (mkF m 36 #[.val (.int x0), .val (.int (1 : Int32)), .val (.ref a_ABSENT), .val (.int (1 : Int32)), .val (.int (1 : Int32))] [])) _
      refine XS.iload X17.here hx rfl (hb hby at_36) rfl ?_
      show Steps p.tables e below (T17.setTop (mkF m 38 #[.val (.int x0), .val (.int (1 : Int32)), .val (.ref a_ABSENT), .val (.int (1 : Int32)), .val (.int (1 : Int32))] [(.int (1 : Int32))])) _
      refine XS.iloadN X17.here hx rfl (hb hby at_38) rfl ?_
      show Steps p.tables e below (T17.setTop (mkF m 39 #[.val (.int x0), .val (.int (1 : Int32)), .val (.ref a_ABSENT), .val (.int (1 : Int32)), .val (.int (1 : Int32))] [(.int (1 : Int32)), (.int (1 : Int32))])) _
      refine XS.icmpYes X17.here hx rfl (pc0 := 39) (pc' := 44) rfl (hb hby at_39) rfl ((teq (rfl)).1) (by decide) (by decide) ?_
      show Steps p.tables e below (T17.setTop (mkF m 44 #[.val (.int x0), .val (.int (1 : Int32)), .val (.ref a_ABSENT), .val (.int (1 : Int32)), .val (.int (1 : Int32))] [])) _
      refine XS.iload X17.here hx rfl (hb hby at_44) rfl ?_
      show Steps p.tables e below (T17.setTop (mkF m 46 #[.val (.int x0), .val (.int (1 : Int32)), .val (.ref a_ABSENT), .val (.int (1 : Int32)), .val (.int (1 : Int32))] [(.int (1 : Int32))])) _
      refine XS.ifNo X17.here hx rfl (hb hby at_46) rfl ((if0 _ _).trans (feq (by decide)).1) ?_
      show Steps p.tables e below (T17.setTop (mkF m 49 #[.val (.int x0), .val (.int (1 : Int32)), .val (.ref a_ABSENT), .val (.int (1 : Int32)), .val (.int (1 : Int32))] [])) _
      refine XS.aloadN X17.here hx rfl (hb hby at_49) rfl rfl ?_
      exact k)
    obtain ⟨cq20, kq20, qa20, qb20, qc20⟩ := isOf hZ e17 E_ABSENT
    obtain ⟨_, _, ⟨T20, L20, k20, n20⟩, -, X20, ⟨Lc20, hQ20, l20, y20, z20⟩, st20⟩ := X17.virtualBack hx (y := (⟨"com/example/millpact/millpact/TimeRecord$Type", "dayOff", "()Z"⟩ : MethodName)) (z := (⟨"com/example/millpact/millpact/TimeRecord$Type", "dayOff", "()Z"⟩ : MethodName)) hown (mvT hZ (hw _ (List.mem_of_getElem? (i := 13) rfl))) (mvT hZ (hw _ (List.mem_of_getElem? (i := 14) rfl))) (notFace_of_selects (args := #[]) (mvT hZ (hw _ (List.mem_of_getElem? (i := 16) rfl)))) (mvT hZ (hw _ (List.mem_of_getElem? (i := 16) rfl))) (mvT hZ (hw _ (List.mem_of_getElem? (i := 15) rfl))) (by decide) (backOf (W := 0) (rmdn l Z a0 hw []  a_ABSENT a_DAY_OFF a_DAY_OFF_TRADED h0 n0 Z0 S_DAY_OFF S_DAY_OFF_TRADED ne1_5 ne1_6) hZ (hw _ (List.mem_of_getElem? (i := 17) rfl)) (hw _ (List.mem_of_getElem? (i := 5) rfl)) (by decide) (by decide)) qa20 qc20 (g := (mkF m 50 #[.val (.int x0), .val (.int (1 : Int32)), .val (.ref a_ABSENT), .val (.int (1 : Int32)), .val (.int (1 : Int32))] [(.ref a_ABSENT)])) rfl (by rw [hml]; rfl) (Steps.refl _) (argsL := []) (rest := []) (lenOf pd0_1 rfl) rfl (by show 2 * 0 + _ ≤ _; exact Nat.le_of_eq rfl) (hb hby at_50) (fun _ _ => ⟨rfl, e17, (by decide : 0 + 0 ≤ _), (by decide : 0 + 0 ≤ _)⟩)
    dsimp only [Pt.U, Pt.locs, Pt.cells, Pt.slots] at X20 l20 y20 z20 st20 hQ20
    subst l20 y20 z20
    obtain ⟨rfl, Nq20, e20⟩ := hQ20
    have N20 := Fr.app N17 Nq20
    have p21 : ∀ t, Steps p.tables e below (T20.setTop (mkF m 53 #[.val (.int x0), .val (.int (1 : Int32)), .val (.ref a_ABSENT), .val (.int (1 : Int32)), .val (.int (1 : Int32))] [(.int (0 : Int32))])) t → Steps p.tables e below (s₁.setTop (entryFrame m #[(.int x0)] maxLocals)) t := fun t k => p19 t (st20.trans k)
    have p22 : ∀ t, Steps p.tables e below (T20.setTop (mkF m 61 #[.val (.int x0), .val (.int (1 : Int32)), .val (.ref a_ABSENT), .val (.int (1 : Int32)), .val (.int (1 : Int32))] [(.int (1 : Int32))])) t → Steps p.tables e below (s₁.setTop (entryFrame m #[(.int x0)] maxLocals)) t := fun t k => p21 t (by
      show Steps p.tables e below (T20.setTop (mkF m 53 #[.val (.int x0), .val (.int (1 : Int32)), .val (.ref a_ABSENT), .val (.int (1 : Int32)), .val (.int (1 : Int32))] [(.int (0 : Int32))])) _
      refine XS.ifNo X20.here hx rfl (hb hby at_53) rfl ((if0 _ _).trans (teq (rfl)).2) ?_
      show Steps p.tables e below (T20.setTop (mkF m 56 #[.val (.int x0), .val (.int (1 : Int32)), .val (.ref a_ABSENT), .val (.int (1 : Int32)), .val (.int (1 : Int32))] [])) _
      refine XS.iconst X20.here hx rfl (hb hby at_56) ?_
      show Steps p.tables e below (T20.setTop (mkF m 57 #[.val (.int x0), .val (.int (1 : Int32)), .val (.ref a_ABSENT), .val (.int (1 : Int32)), .val (.int (1 : Int32))] [(.int (1 : Int32))])) _
      refine XS.goto X20.here hx rfl (pc0 := 57) (pc' := 61) rfl (hb hby at_57) (by decide) (by decide) ?_
      exact k)
    obtain ⟨fs, hr, hrun, hended, hW, hsame⟩ := X20.leave (v := some (.int (1 : Int32))) (fun h => by rw [Bd.returns] at h; cases h)
    refine ⟨_, _, p22 _ ?_, hrun, hended, _, _, rfl, ?_, ⟨_, rfl⟩, hW, hsame.mono (by decide) (by decide)⟩
    · show Steps p.tables e below (T20.setTop (mkF m 61 #[.val (.int x0), .val (.int (1 : Int32)), .val (.ref a_ABSENT), .val (.int (1 : Int32)), .val (.int (1 : Int32))] [(.int (1 : Int32))])) _
      exact retN X20 hx (t := .boolean) Bd.returns (by simp) (hb hby at_61) hr
    · show Q0 Z x0 a_WORKED a_ABSENT a_CALL_IN a_WIRE_CALL_IN a_SENT_HOME a_DAY_OFF a_DAY_OFF_TRADED a_RECALL h0 n0 _ T20.heap _
      rw [e20]
      exact ⟨rfl, N20⟩
  · have p23 : ∀ t, Steps p.tables e below (s₁.setTop (mkF m 6 #[.val (.int x0), .val (.int (2 : Int32)), .unset, .unset, .unset] [(.int (2 : Int32))])) t → Steps p.tables e below (s₁.setTop (entryFrame m #[(.int x0)] maxLocals)) t := fun t k => p2 t (by
      show Steps p.tables e below (s₁.setTop (mkF m 5 #[.val (.int x0), .val (.int (2 : Int32)), .unset, .unset, .unset] [])) _
      refine XS.iloadN X0.here hx rfl (hb hby at_5) rfl ?_
      exact k)
    obtain ⟨_, _, ⟨T24, L24, k24, n24⟩, -, X24, ⟨Lc24, hQ24, l24, y24, z24⟩, st24⟩ := Jvm.LawKit.callS X0 hx (y := (⟨"com/example/millpact/millpact/TimeRecordWorkdayPinLaw", "pick", "(I)Lcom/example/millpact/millpact/TimeRecord$Type;"⟩ : MethodName)) hown (mvT hZ (hw _ (List.mem_of_getElem? (i := 0) rfl))) (mvT hZ (hw _ (List.mem_of_getElem? (i := 1) rfl))) (mvT hZ (hw _ (List.mem_of_getElem? (i := 2) rfl))) (mvT hZ (hw _ (List.mem_of_getElem? (i := 3) rfl))) (by decide) (backOf (W := 0) (rmp2 l Z a0 hw []  a_CALL_IN h0 n0 Z0 S_CALL_IN) hZ (hw _ (List.mem_of_getElem? (i := 3) rfl)) (hw _ (List.mem_of_getElem? (i := 2) rfl)) (by decide) (by decide)) (g := (mkF m 6 #[.val (.int x0), .val (.int (2 : Int32)), .unset, .unset, .unset] [(.int (2 : Int32))])) rfl (by rw [hml]; rfl) (argsL := [(.int (2 : Int32))]) (rest := []) (lenOf pd0_0 rfl) rfl (by show 2 * 0 + _ ≤ _; exact Nat.le_of_eq rfl) (hb hby at_6) (fun _ _ => ⟨rfl, e0, (by decide : 0 + 0 ≤ _), (by decide : 0 + 0 ≤ _)⟩)
    dsimp only [Pt.U, Pt.locs, Pt.cells, Pt.slots] at X24 l24 y24 z24 st24 hQ24
    subst l24 y24 z24
    obtain ⟨rfl, Nq24, e24⟩ := hQ24
    have N24 := Fr.app N0 Nq24
    have p25 : ∀ t, Steps p.tables e below (T24.setTop (mkF m 9 #[.val (.int x0), .val (.int (2 : Int32)), .unset, .unset, .unset] [(.ref a_CALL_IN)])) t → Steps p.tables e below (s₁.setTop (entryFrame m #[(.int x0)] maxLocals)) t := fun t k => p23 t (st24 _ k)
    have p26 : ∀ t, Steps p.tables e below (T24.setTop (mkF m 31 #[.val (.int x0), .val (.int (2 : Int32)), .val (.ref a_CALL_IN), .val (.int (0 : Int32)), .unset] [(.ref a_CALL_IN)])) t → Steps p.tables e below (s₁.setTop (entryFrame m #[(.int x0)] maxLocals)) t := fun t k => p25 t (by
      show Steps p.tables e below (T24.setTop (mkF m 9 #[.val (.int x0), .val (.int (2 : Int32)), .unset, .unset, .unset] [(.ref a_CALL_IN)])) _
      refine XS.astoreN X24.here hx rfl (hb hby at_9) rfl rfl (l' := #[.val (.int x0), .val (.int (2 : Int32)), .val (.ref a_CALL_IN), .unset, .unset]) rfl ?_
      show Steps p.tables e below (T24.setTop (mkF m 10 #[.val (.int x0), .val (.int (2 : Int32)), .val (.ref a_CALL_IN), .unset, .unset] [])) _
      refine XS.iloadN X24.here hx rfl (hb hby at_10) rfl ?_
      show Steps p.tables e below (T24.setTop (mkF m 11 #[.val (.int x0), .val (.int (2 : Int32)), .val (.ref a_CALL_IN), .unset, .unset] [(.int (2 : Int32))])) _
      refine XS.ifNo X24.here hx rfl (hb hby at_11) rfl ((if0 _ _).trans (feq (by decide)).1) ?_
      show Steps p.tables e below (T24.setTop (mkF m 14 #[.val (.int x0), .val (.int (2 : Int32)), .val (.ref a_CALL_IN), .unset, .unset] [])) _
      refine XS.iloadN X24.here hx rfl (hb hby at_14) rfl ?_
      show Steps p.tables e below (T24.setTop (mkF m 15 #[.val (.int x0), .val (.int (2 : Int32)), .val (.ref a_CALL_IN), .unset, .unset] [(.int (2 : Int32))])) _
      refine XS.iconst X24.here hx rfl (hb hby at_15) ?_
      show Steps p.tables e below (T24.setTop (mkF m 16 #[.val (.int x0), .val (.int (2 : Int32)), .val (.ref a_CALL_IN), .unset, .unset] [(.int (1 : Int32)), (.int (2 : Int32))])) _
      refine XS.icmpNo X24.here hx rfl (hb hby at_16) rfl ((feq (by decide)).1) ?_
      show Steps p.tables e below (T24.setTop (mkF m 19 #[.val (.int x0), .val (.int (2 : Int32)), .val (.ref a_CALL_IN), .unset, .unset] [])) _
      refine XS.iloadN X24.here hx rfl (hb hby at_19) rfl ?_
      show Steps p.tables e below (T24.setTop (mkF m 20 #[.val (.int x0), .val (.int (2 : Int32)), .val (.ref a_CALL_IN), .unset, .unset] [(.int (2 : Int32))])) _
      refine XS.iconst X24.here hx rfl (hb hby at_20) ?_
      show Steps p.tables e below (T24.setTop (mkF m 21 #[.val (.int x0), .val (.int (2 : Int32)), .val (.ref a_CALL_IN), .unset, .unset] [(.int (4 : Int32)), (.int (2 : Int32))])) _
      refine XS.icmpYes X24.here hx rfl (pc0 := 21) (pc' := 28) rfl (hb hby at_21) rfl ((feq (by decide)).2) (by decide) (by decide) ?_
      show Steps p.tables e below (T24.setTop (mkF m 28 #[.val (.int x0), .val (.int (2 : Int32)), .val (.ref a_CALL_IN), .unset, .unset] [])) _
      refine XS.iconst X24.here hx rfl (hb hby at_28) ?_
      show Steps p.tables e below (T24.setTop (mkF m 29 #[.val (.int x0), .val (.int (2 : Int32)), .val (.ref a_CALL_IN), .unset, .unset] [(.int (0 : Int32))])) _
      refine XS.istoreN X24.here hx rfl (hb hby at_29) rfl (l' := #[.val (.int x0), .val (.int (2 : Int32)), .val (.ref a_CALL_IN), .val (.int (0 : Int32)), .unset]) rfl ?_
      show Steps p.tables e below (T24.setTop (mkF m 30 #[.val (.int x0), .val (.int (2 : Int32)), .val (.ref a_CALL_IN), .val (.int (0 : Int32)), .unset] [])) _
      refine XS.aloadN X24.here hx rfl (hb hby at_30) rfl rfl ?_
      exact k)
    obtain ⟨cq27, kq27, qa27, qb27, qc27⟩ := isOf hZ e24 E_CALL_IN
    obtain ⟨_, _, ⟨T27, L27, k27, n27⟩, -, X27, ⟨Lc27, hQ27, l27, y27, z27⟩, st27⟩ := X24.virtualBack hx (y := (⟨"com/example/millpact/millpact/TimeRecord$Type", "workday", "()Z"⟩ : MethodName)) (z := (⟨"com/example/millpact/millpact/TimeRecord$Type", "workday", "()Z"⟩ : MethodName)) hown (mvT hZ (hw _ (List.mem_of_getElem? (i := 7) rfl))) (mvT hZ (hw _ (List.mem_of_getElem? (i := 8) rfl))) (notFace_of_selects (args := #[]) (mvT hZ (hw _ (List.mem_of_getElem? (i := 10) rfl)))) (mvT hZ (hw _ (List.mem_of_getElem? (i := 10) rfl))) (mvT hZ (hw _ (List.mem_of_getElem? (i := 9) rfl))) (by decide) (backOf (W := 0) (rmwn l Z a0 hw []  a_CALL_IN a_WORKED a_SENT_HOME a_ABSENT h0 n0 Z0 S_WORKED S_SENT_HOME S_ABSENT ne2_0 ne2_4 ne2_1) hZ (hw _ (List.mem_of_getElem? (i := 11) rfl)) (hw _ (List.mem_of_getElem? (i := 5) rfl)) (by decide) (by decide)) qa27 qc27 (g := (mkF m 31 #[.val (.int x0), .val (.int (2 : Int32)), .val (.ref a_CALL_IN), .val (.int (0 : Int32)), .unset] [(.ref a_CALL_IN)])) rfl (by rw [hml]; rfl) (Steps.refl _) (argsL := []) (rest := []) (lenOf pd0_1 rfl) rfl (by show 2 * 0 + _ ≤ _; exact Nat.le_of_eq rfl) (hb hby at_31) (fun _ _ => ⟨rfl, e24, (by decide : 0 + 0 ≤ _), (by decide : 0 + 0 ≤ _)⟩)
    dsimp only [Pt.U, Pt.locs, Pt.cells, Pt.slots] at X27 l27 y27 z27 st27 hQ27
    subst l27 y27 z27
    obtain ⟨rfl, Nq27, e27⟩ := hQ27
    have N27 := Fr.app N24 Nq27
    have p28 : ∀ t, Steps p.tables e below (T27.setTop (mkF m 34 #[.val (.int x0), .val (.int (2 : Int32)), .val (.ref a_CALL_IN), .val (.int (0 : Int32)), .unset] [(.int (0 : Int32))])) t → Steps p.tables e below (s₁.setTop (entryFrame m #[(.int x0)] maxLocals)) t := fun t k => p26 t (st27.trans k)
    have p29 : ∀ t, Steps p.tables e below (T27.setTop (mkF m 61 #[.val (.int x0), .val (.int (2 : Int32)), .val (.ref a_CALL_IN), .val (.int (0 : Int32)), .val (.int (0 : Int32))] [(.int (1 : Int32))])) t → Steps p.tables e below (s₁.setTop (entryFrame m #[(.int x0)] maxLocals)) t := fun t k => p28 t (by
      show Steps p.tables e below (T27.setTop (mkF m 34 #[.val (.int x0), .val (.int (2 : Int32)), .val (.ref a_CALL_IN), .val (.int (0 : Int32)), .unset] [(.int (0 : Int32))])) _
      refine XS.istore X27.here hx rfl (hb hby at_34) rfl (l' := #[.val (.int x0), .val (.int (2 : Int32)), .val (.ref a_CALL_IN), .val (.int (0 : Int32)), .val (.int (0 : Int32))]) rfl ?_
      show Steps p.tables e below (T27.setTop (mkF m 36 #[.val (.int x0), .val (.int (2 : Int32)), .val (.ref a_CALL_IN), .val (.int (0 : Int32)), .val (.int (0 : Int32))] [])) _
      refine XS.iload X27.here hx rfl (hb hby at_36) rfl ?_
      show Steps p.tables e below (T27.setTop (mkF m 38 #[.val (.int x0), .val (.int (2 : Int32)), .val (.ref a_CALL_IN), .val (.int (0 : Int32)), .val (.int (0 : Int32))] [(.int (0 : Int32))])) _
      refine XS.iloadN X27.here hx rfl (hb hby at_38) rfl ?_
      show Steps p.tables e below (T27.setTop (mkF m 39 #[.val (.int x0), .val (.int (2 : Int32)), .val (.ref a_CALL_IN), .val (.int (0 : Int32)), .val (.int (0 : Int32))] [(.int (0 : Int32)), (.int (0 : Int32))])) _
      refine XS.icmpYes X27.here hx rfl (pc0 := 39) (pc' := 44) rfl (hb hby at_39) rfl ((teq (rfl)).1) (by decide) (by decide) ?_
      show Steps p.tables e below (T27.setTop (mkF m 44 #[.val (.int x0), .val (.int (2 : Int32)), .val (.ref a_CALL_IN), .val (.int (0 : Int32)), .val (.int (0 : Int32))] [])) _
      refine XS.iload X27.here hx rfl (hb hby at_44) rfl ?_
      show Steps p.tables e below (T27.setTop (mkF m 46 #[.val (.int x0), .val (.int (2 : Int32)), .val (.ref a_CALL_IN), .val (.int (0 : Int32)), .val (.int (0 : Int32))] [(.int (0 : Int32))])) _
      refine XS.ifYes X27.here hx rfl (pc0 := 46) (pc' := 56) rfl (hb hby at_46) rfl ((if0 _ _).trans (teq (rfl)).1) (by decide) (by decide) ?_
      show Steps p.tables e below (T27.setTop (mkF m 56 #[.val (.int x0), .val (.int (2 : Int32)), .val (.ref a_CALL_IN), .val (.int (0 : Int32)), .val (.int (0 : Int32))] [])) _
      refine XS.iconst X27.here hx rfl (hb hby at_56) ?_
      show Steps p.tables e below (T27.setTop (mkF m 57 #[.val (.int x0), .val (.int (2 : Int32)), .val (.ref a_CALL_IN), .val (.int (0 : Int32)), .val (.int (0 : Int32))] [(.int (1 : Int32))])) _
      refine XS.goto X27.here hx rfl (pc0 := 57) (pc' := 61) rfl (hb hby at_57) (by decide) (by decide) ?_
      exact k)
    obtain ⟨fs, hr, hrun, hended, hW, hsame⟩ := X27.leave (v := some (.int (1 : Int32))) (fun h => by rw [Bd.returns] at h; cases h)
    refine ⟨_, _, p29 _ ?_, hrun, hended, _, _, rfl, ?_, ⟨_, rfl⟩, hW, hsame.mono (by decide) (by decide)⟩
    · show Steps p.tables e below (T27.setTop (mkF m 61 #[.val (.int x0), .val (.int (2 : Int32)), .val (.ref a_CALL_IN), .val (.int (0 : Int32)), .val (.int (0 : Int32))] [(.int (1 : Int32))])) _
      exact retN X27 hx (t := .boolean) Bd.returns (by simp) (hb hby at_61) hr
    · show Q0 Z x0 a_WORKED a_ABSENT a_CALL_IN a_WIRE_CALL_IN a_SENT_HOME a_DAY_OFF a_DAY_OFF_TRADED a_RECALL h0 n0 _ T27.heap _
      rw [e27]
      exact ⟨rfl, N27⟩
  · have p30 : ∀ t, Steps p.tables e below (s₁.setTop (mkF m 6 #[.val (.int x0), .val (.int (3 : Int32)), .unset, .unset, .unset] [(.int (3 : Int32))])) t → Steps p.tables e below (s₁.setTop (entryFrame m #[(.int x0)] maxLocals)) t := fun t k => p2 t (by
      show Steps p.tables e below (s₁.setTop (mkF m 5 #[.val (.int x0), .val (.int (3 : Int32)), .unset, .unset, .unset] [])) _
      refine XS.iloadN X0.here hx rfl (hb hby at_5) rfl ?_
      exact k)
    obtain ⟨_, _, ⟨T31, L31, k31, n31⟩, -, X31, ⟨Lc31, hQ31, l31, y31, z31⟩, st31⟩ := Jvm.LawKit.callS X0 hx (y := (⟨"com/example/millpact/millpact/TimeRecordWorkdayPinLaw", "pick", "(I)Lcom/example/millpact/millpact/TimeRecord$Type;"⟩ : MethodName)) hown (mvT hZ (hw _ (List.mem_of_getElem? (i := 0) rfl))) (mvT hZ (hw _ (List.mem_of_getElem? (i := 1) rfl))) (mvT hZ (hw _ (List.mem_of_getElem? (i := 2) rfl))) (mvT hZ (hw _ (List.mem_of_getElem? (i := 3) rfl))) (by decide) (backOf (W := 0) (rmp3 l Z a0 hw []  a_WIRE_CALL_IN h0 n0 Z0 S_WIRE_CALL_IN) hZ (hw _ (List.mem_of_getElem? (i := 3) rfl)) (hw _ (List.mem_of_getElem? (i := 2) rfl)) (by decide) (by decide)) (g := (mkF m 6 #[.val (.int x0), .val (.int (3 : Int32)), .unset, .unset, .unset] [(.int (3 : Int32))])) rfl (by rw [hml]; rfl) (argsL := [(.int (3 : Int32))]) (rest := []) (lenOf pd0_0 rfl) rfl (by show 2 * 0 + _ ≤ _; exact Nat.le_of_eq rfl) (hb hby at_6) (fun _ _ => ⟨rfl, e0, (by decide : 0 + 0 ≤ _), (by decide : 0 + 0 ≤ _)⟩)
    dsimp only [Pt.U, Pt.locs, Pt.cells, Pt.slots] at X31 l31 y31 z31 st31 hQ31
    subst l31 y31 z31
    obtain ⟨rfl, Nq31, e31⟩ := hQ31
    have N31 := Fr.app N0 Nq31
    have p32 : ∀ t, Steps p.tables e below (T31.setTop (mkF m 9 #[.val (.int x0), .val (.int (3 : Int32)), .unset, .unset, .unset] [(.ref a_WIRE_CALL_IN)])) t → Steps p.tables e below (s₁.setTop (entryFrame m #[(.int x0)] maxLocals)) t := fun t k => p30 t (st31 _ k)
    have p33 : ∀ t, Steps p.tables e below (T31.setTop (mkF m 31 #[.val (.int x0), .val (.int (3 : Int32)), .val (.ref a_WIRE_CALL_IN), .val (.int (0 : Int32)), .unset] [(.ref a_WIRE_CALL_IN)])) t → Steps p.tables e below (s₁.setTop (entryFrame m #[(.int x0)] maxLocals)) t := fun t k => p32 t (by
      show Steps p.tables e below (T31.setTop (mkF m 9 #[.val (.int x0), .val (.int (3 : Int32)), .unset, .unset, .unset] [(.ref a_WIRE_CALL_IN)])) _
      refine XS.astoreN X31.here hx rfl (hb hby at_9) rfl rfl (l' := #[.val (.int x0), .val (.int (3 : Int32)), .val (.ref a_WIRE_CALL_IN), .unset, .unset]) rfl ?_
      show Steps p.tables e below (T31.setTop (mkF m 10 #[.val (.int x0), .val (.int (3 : Int32)), .val (.ref a_WIRE_CALL_IN), .unset, .unset] [])) _
      refine XS.iloadN X31.here hx rfl (hb hby at_10) rfl ?_
      show Steps p.tables e below (T31.setTop (mkF m 11 #[.val (.int x0), .val (.int (3 : Int32)), .val (.ref a_WIRE_CALL_IN), .unset, .unset] [(.int (3 : Int32))])) _
      refine XS.ifNo X31.here hx rfl (hb hby at_11) rfl ((if0 _ _).trans (feq (by decide)).1) ?_
      show Steps p.tables e below (T31.setTop (mkF m 14 #[.val (.int x0), .val (.int (3 : Int32)), .val (.ref a_WIRE_CALL_IN), .unset, .unset] [])) _
      refine XS.iloadN X31.here hx rfl (hb hby at_14) rfl ?_
      show Steps p.tables e below (T31.setTop (mkF m 15 #[.val (.int x0), .val (.int (3 : Int32)), .val (.ref a_WIRE_CALL_IN), .unset, .unset] [(.int (3 : Int32))])) _
      refine XS.iconst X31.here hx rfl (hb hby at_15) ?_
      show Steps p.tables e below (T31.setTop (mkF m 16 #[.val (.int x0), .val (.int (3 : Int32)), .val (.ref a_WIRE_CALL_IN), .unset, .unset] [(.int (1 : Int32)), (.int (3 : Int32))])) _
      refine XS.icmpNo X31.here hx rfl (hb hby at_16) rfl ((feq (by decide)).1) ?_
      show Steps p.tables e below (T31.setTop (mkF m 19 #[.val (.int x0), .val (.int (3 : Int32)), .val (.ref a_WIRE_CALL_IN), .unset, .unset] [])) _
      refine XS.iloadN X31.here hx rfl (hb hby at_19) rfl ?_
      show Steps p.tables e below (T31.setTop (mkF m 20 #[.val (.int x0), .val (.int (3 : Int32)), .val (.ref a_WIRE_CALL_IN), .unset, .unset] [(.int (3 : Int32))])) _
      refine XS.iconst X31.here hx rfl (hb hby at_20) ?_
      show Steps p.tables e below (T31.setTop (mkF m 21 #[.val (.int x0), .val (.int (3 : Int32)), .val (.ref a_WIRE_CALL_IN), .unset, .unset] [(.int (4 : Int32)), (.int (3 : Int32))])) _
      refine XS.icmpYes X31.here hx rfl (pc0 := 21) (pc' := 28) rfl (hb hby at_21) rfl ((feq (by decide)).2) (by decide) (by decide) ?_
      show Steps p.tables e below (T31.setTop (mkF m 28 #[.val (.int x0), .val (.int (3 : Int32)), .val (.ref a_WIRE_CALL_IN), .unset, .unset] [])) _
      refine XS.iconst X31.here hx rfl (hb hby at_28) ?_
      show Steps p.tables e below (T31.setTop (mkF m 29 #[.val (.int x0), .val (.int (3 : Int32)), .val (.ref a_WIRE_CALL_IN), .unset, .unset] [(.int (0 : Int32))])) _
      refine XS.istoreN X31.here hx rfl (hb hby at_29) rfl (l' := #[.val (.int x0), .val (.int (3 : Int32)), .val (.ref a_WIRE_CALL_IN), .val (.int (0 : Int32)), .unset]) rfl ?_
      show Steps p.tables e below (T31.setTop (mkF m 30 #[.val (.int x0), .val (.int (3 : Int32)), .val (.ref a_WIRE_CALL_IN), .val (.int (0 : Int32)), .unset] [])) _
      refine XS.aloadN X31.here hx rfl (hb hby at_30) rfl rfl ?_
      exact k)
    obtain ⟨cq34, kq34, qa34, qb34, qc34⟩ := isOf hZ e31 E_WIRE_CALL_IN
    obtain ⟨_, _, ⟨T34, L34, k34, n34⟩, -, X34, ⟨Lc34, hQ34, l34, y34, z34⟩, st34⟩ := X31.virtualBack hx (y := (⟨"com/example/millpact/millpact/TimeRecord$Type", "workday", "()Z"⟩ : MethodName)) (z := (⟨"com/example/millpact/millpact/TimeRecord$Type", "workday", "()Z"⟩ : MethodName)) hown (mvT hZ (hw _ (List.mem_of_getElem? (i := 7) rfl))) (mvT hZ (hw _ (List.mem_of_getElem? (i := 8) rfl))) (notFace_of_selects (args := #[]) (mvT hZ (hw _ (List.mem_of_getElem? (i := 10) rfl)))) (mvT hZ (hw _ (List.mem_of_getElem? (i := 10) rfl))) (mvT hZ (hw _ (List.mem_of_getElem? (i := 9) rfl))) (by decide) (backOf (W := 0) (rmwn l Z a0 hw []  a_WIRE_CALL_IN a_WORKED a_SENT_HOME a_ABSENT h0 n0 Z0 S_WORKED S_SENT_HOME S_ABSENT ne3_0 ne3_4 ne3_1) hZ (hw _ (List.mem_of_getElem? (i := 11) rfl)) (hw _ (List.mem_of_getElem? (i := 5) rfl)) (by decide) (by decide)) qa34 qc34 (g := (mkF m 31 #[.val (.int x0), .val (.int (3 : Int32)), .val (.ref a_WIRE_CALL_IN), .val (.int (0 : Int32)), .unset] [(.ref a_WIRE_CALL_IN)])) rfl (by rw [hml]; rfl) (Steps.refl _) (argsL := []) (rest := []) (lenOf pd0_1 rfl) rfl (by show 2 * 0 + _ ≤ _; exact Nat.le_of_eq rfl) (hb hby at_31) (fun _ _ => ⟨rfl, e31, (by decide : 0 + 0 ≤ _), (by decide : 0 + 0 ≤ _)⟩)
    dsimp only [Pt.U, Pt.locs, Pt.cells, Pt.slots] at X34 l34 y34 z34 st34 hQ34
    subst l34 y34 z34
    obtain ⟨rfl, Nq34, e34⟩ := hQ34
    have N34 := Fr.app N31 Nq34
    have p35 : ∀ t, Steps p.tables e below (T34.setTop (mkF m 34 #[.val (.int x0), .val (.int (3 : Int32)), .val (.ref a_WIRE_CALL_IN), .val (.int (0 : Int32)), .unset] [(.int (0 : Int32))])) t → Steps p.tables e below (s₁.setTop (entryFrame m #[(.int x0)] maxLocals)) t := fun t k => p33 t (st34.trans k)
    have p36 : ∀ t, Steps p.tables e below (T34.setTop (mkF m 61 #[.val (.int x0), .val (.int (3 : Int32)), .val (.ref a_WIRE_CALL_IN), .val (.int (0 : Int32)), .val (.int (0 : Int32))] [(.int (1 : Int32))])) t → Steps p.tables e below (s₁.setTop (entryFrame m #[(.int x0)] maxLocals)) t := fun t k => p35 t (by
      show Steps p.tables e below (T34.setTop (mkF m 34 #[.val (.int x0), .val (.int (3 : Int32)), .val (.ref a_WIRE_CALL_IN), .val (.int (0 : Int32)), .unset] [(.int (0 : Int32))])) _
      refine XS.istore X34.here hx rfl (hb hby at_34) rfl (l' := #[.val (.int x0), .val (.int (3 : Int32)), .val (.ref a_WIRE_CALL_IN), .val (.int (0 : Int32)), .val (.int (0 : Int32))]) rfl ?_
      show Steps p.tables e below (T34.setTop (mkF m 36 #[.val (.int x0), .val (.int (3 : Int32)), .val (.ref a_WIRE_CALL_IN), .val (.int (0 : Int32)), .val (.int (0 : Int32))] [])) _
      refine XS.iload X34.here hx rfl (hb hby at_36) rfl ?_
      show Steps p.tables e below (T34.setTop (mkF m 38 #[.val (.int x0), .val (.int (3 : Int32)), .val (.ref a_WIRE_CALL_IN), .val (.int (0 : Int32)), .val (.int (0 : Int32))] [(.int (0 : Int32))])) _
      refine XS.iloadN X34.here hx rfl (hb hby at_38) rfl ?_
      show Steps p.tables e below (T34.setTop (mkF m 39 #[.val (.int x0), .val (.int (3 : Int32)), .val (.ref a_WIRE_CALL_IN), .val (.int (0 : Int32)), .val (.int (0 : Int32))] [(.int (0 : Int32)), (.int (0 : Int32))])) _
      refine XS.icmpYes X34.here hx rfl (pc0 := 39) (pc' := 44) rfl (hb hby at_39) rfl ((teq (rfl)).1) (by decide) (by decide) ?_
      show Steps p.tables e below (T34.setTop (mkF m 44 #[.val (.int x0), .val (.int (3 : Int32)), .val (.ref a_WIRE_CALL_IN), .val (.int (0 : Int32)), .val (.int (0 : Int32))] [])) _
      refine XS.iload X34.here hx rfl (hb hby at_44) rfl ?_
      show Steps p.tables e below (T34.setTop (mkF m 46 #[.val (.int x0), .val (.int (3 : Int32)), .val (.ref a_WIRE_CALL_IN), .val (.int (0 : Int32)), .val (.int (0 : Int32))] [(.int (0 : Int32))])) _
      refine XS.ifYes X34.here hx rfl (pc0 := 46) (pc' := 56) rfl (hb hby at_46) rfl ((if0 _ _).trans (teq (rfl)).1) (by decide) (by decide) ?_
      show Steps p.tables e below (T34.setTop (mkF m 56 #[.val (.int x0), .val (.int (3 : Int32)), .val (.ref a_WIRE_CALL_IN), .val (.int (0 : Int32)), .val (.int (0 : Int32))] [])) _
      refine XS.iconst X34.here hx rfl (hb hby at_56) ?_
      show Steps p.tables e below (T34.setTop (mkF m 57 #[.val (.int x0), .val (.int (3 : Int32)), .val (.ref a_WIRE_CALL_IN), .val (.int (0 : Int32)), .val (.int (0 : Int32))] [(.int (1 : Int32))])) _
      refine XS.goto X34.here hx rfl (pc0 := 57) (pc' := 61) rfl (hb hby at_57) (by decide) (by decide) ?_
      exact k)
    obtain ⟨fs, hr, hrun, hended, hW, hsame⟩ := X34.leave (v := some (.int (1 : Int32))) (fun h => by rw [Bd.returns] at h; cases h)
    refine ⟨_, _, p36 _ ?_, hrun, hended, _, _, rfl, ?_, ⟨_, rfl⟩, hW, hsame.mono (by decide) (by decide)⟩
    · show Steps p.tables e below (T34.setTop (mkF m 61 #[.val (.int x0), .val (.int (3 : Int32)), .val (.ref a_WIRE_CALL_IN), .val (.int (0 : Int32)), .val (.int (0 : Int32))] [(.int (1 : Int32))])) _
      exact retN X34 hx (t := .boolean) Bd.returns (by simp) (hb hby at_61) hr
    · show Q0 Z x0 a_WORKED a_ABSENT a_CALL_IN a_WIRE_CALL_IN a_SENT_HOME a_DAY_OFF a_DAY_OFF_TRADED a_RECALL h0 n0 _ T34.heap _
      rw [e34]
      exact ⟨rfl, N34⟩
  · have p37 : ∀ t, Steps p.tables e below (s₁.setTop (mkF m 6 #[.val (.int x0), .val (.int (4 : Int32)), .unset, .unset, .unset] [(.int (4 : Int32))])) t → Steps p.tables e below (s₁.setTop (entryFrame m #[(.int x0)] maxLocals)) t := fun t k => p2 t (by
      show Steps p.tables e below (s₁.setTop (mkF m 5 #[.val (.int x0), .val (.int (4 : Int32)), .unset, .unset, .unset] [])) _
      refine XS.iloadN X0.here hx rfl (hb hby at_5) rfl ?_
      exact k)
    obtain ⟨_, _, ⟨T38, L38, k38, n38⟩, -, X38, ⟨Lc38, hQ38, l38, y38, z38⟩, st38⟩ := Jvm.LawKit.callS X0 hx (y := (⟨"com/example/millpact/millpact/TimeRecordWorkdayPinLaw", "pick", "(I)Lcom/example/millpact/millpact/TimeRecord$Type;"⟩ : MethodName)) hown (mvT hZ (hw _ (List.mem_of_getElem? (i := 0) rfl))) (mvT hZ (hw _ (List.mem_of_getElem? (i := 1) rfl))) (mvT hZ (hw _ (List.mem_of_getElem? (i := 2) rfl))) (mvT hZ (hw _ (List.mem_of_getElem? (i := 3) rfl))) (by decide) (backOf (W := 0) (rmp4 l Z a0 hw []  a_SENT_HOME h0 n0 Z0 S_SENT_HOME) hZ (hw _ (List.mem_of_getElem? (i := 3) rfl)) (hw _ (List.mem_of_getElem? (i := 2) rfl)) (by decide) (by decide)) (g := (mkF m 6 #[.val (.int x0), .val (.int (4 : Int32)), .unset, .unset, .unset] [(.int (4 : Int32))])) rfl (by rw [hml]; rfl) (argsL := [(.int (4 : Int32))]) (rest := []) (lenOf pd0_0 rfl) rfl (by show 2 * 0 + _ ≤ _; exact Nat.le_of_eq rfl) (hb hby at_6) (fun _ _ => ⟨rfl, e0, (by decide : 0 + 0 ≤ _), (by decide : 0 + 0 ≤ _)⟩)
    dsimp only [Pt.U, Pt.locs, Pt.cells, Pt.slots] at X38 l38 y38 z38 st38 hQ38
    subst l38 y38 z38
    obtain ⟨rfl, Nq38, e38⟩ := hQ38
    have N38 := Fr.app N0 Nq38
    have p39 : ∀ t, Steps p.tables e below (T38.setTop (mkF m 9 #[.val (.int x0), .val (.int (4 : Int32)), .unset, .unset, .unset] [(.ref a_SENT_HOME)])) t → Steps p.tables e below (s₁.setTop (entryFrame m #[(.int x0)] maxLocals)) t := fun t k => p37 t (st38 _ k)
    have p40 : ∀ t, Steps p.tables e below (T38.setTop (mkF m 31 #[.val (.int x0), .val (.int (4 : Int32)), .val (.ref a_SENT_HOME), .val (.int (1 : Int32)), .unset] [(.ref a_SENT_HOME)])) t → Steps p.tables e below (s₁.setTop (entryFrame m #[(.int x0)] maxLocals)) t := fun t k => p39 t (by
      show Steps p.tables e below (T38.setTop (mkF m 9 #[.val (.int x0), .val (.int (4 : Int32)), .unset, .unset, .unset] [(.ref a_SENT_HOME)])) _
      refine XS.astoreN X38.here hx rfl (hb hby at_9) rfl rfl (l' := #[.val (.int x0), .val (.int (4 : Int32)), .val (.ref a_SENT_HOME), .unset, .unset]) rfl ?_
      show Steps p.tables e below (T38.setTop (mkF m 10 #[.val (.int x0), .val (.int (4 : Int32)), .val (.ref a_SENT_HOME), .unset, .unset] [])) _
      refine XS.iloadN X38.here hx rfl (hb hby at_10) rfl ?_
      show Steps p.tables e below (T38.setTop (mkF m 11 #[.val (.int x0), .val (.int (4 : Int32)), .val (.ref a_SENT_HOME), .unset, .unset] [(.int (4 : Int32))])) _
      refine XS.ifNo X38.here hx rfl (hb hby at_11) rfl ((if0 _ _).trans (feq (by decide)).1) ?_
      show Steps p.tables e below (T38.setTop (mkF m 14 #[.val (.int x0), .val (.int (4 : Int32)), .val (.ref a_SENT_HOME), .unset, .unset] [])) _
      refine XS.iloadN X38.here hx rfl (hb hby at_14) rfl ?_
      show Steps p.tables e below (T38.setTop (mkF m 15 #[.val (.int x0), .val (.int (4 : Int32)), .val (.ref a_SENT_HOME), .unset, .unset] [(.int (4 : Int32))])) _
      refine XS.iconst X38.here hx rfl (hb hby at_15) ?_
      show Steps p.tables e below (T38.setTop (mkF m 16 #[.val (.int x0), .val (.int (4 : Int32)), .val (.ref a_SENT_HOME), .unset, .unset] [(.int (1 : Int32)), (.int (4 : Int32))])) _
      refine XS.icmpNo X38.here hx rfl (hb hby at_16) rfl ((feq (by decide)).1) ?_
      show Steps p.tables e below (T38.setTop (mkF m 19 #[.val (.int x0), .val (.int (4 : Int32)), .val (.ref a_SENT_HOME), .unset, .unset] [])) _
      refine XS.iloadN X38.here hx rfl (hb hby at_19) rfl ?_
      show Steps p.tables e below (T38.setTop (mkF m 20 #[.val (.int x0), .val (.int (4 : Int32)), .val (.ref a_SENT_HOME), .unset, .unset] [(.int (4 : Int32))])) _
      refine XS.iconst X38.here hx rfl (hb hby at_20) ?_
      show Steps p.tables e below (T38.setTop (mkF m 21 #[.val (.int x0), .val (.int (4 : Int32)), .val (.ref a_SENT_HOME), .unset, .unset] [(.int (4 : Int32)), (.int (4 : Int32))])) _
      refine XS.icmpNo X38.here hx rfl (hb hby at_21) rfl ((teq (rfl)).2) ?_
      show Steps p.tables e below (T38.setTop (mkF m 24 #[.val (.int x0), .val (.int (4 : Int32)), .val (.ref a_SENT_HOME), .unset, .unset] [])) _
      refine XS.iconst X38.here hx rfl (hb hby at_24) ?_
      show Steps p.tables e below (T38.setTop (mkF m 25 #[.val (.int x0), .val (.int (4 : Int32)), .val (.ref a_SENT_HOME), .unset, .unset] [(.int (1 : Int32))])) _
      refine XS.goto X38.here hx rfl (pc0 := 25) (pc' := 29) rfl (hb hby at_25) (by decide) (by decide) ?_
      show Steps p.tables e below (T38.setTop (mkF m 29 #[.val (.int x0), .val (.int (4 : Int32)), .val (.ref a_SENT_HOME), .unset, .unset] [(.int (1 : Int32))])) _
      refine XS.istoreN X38.here hx rfl (hb hby at_29) rfl (l' := #[.val (.int x0), .val (.int (4 : Int32)), .val (.ref a_SENT_HOME), .val (.int (1 : Int32)), .unset]) rfl ?_
      show Steps p.tables e below (T38.setTop (mkF m 30 #[.val (.int x0), .val (.int (4 : Int32)), .val (.ref a_SENT_HOME), .val (.int (1 : Int32)), .unset] [])) _
      refine XS.aloadN X38.here hx rfl (hb hby at_30) rfl rfl ?_
      exact k)
    obtain ⟨cq41, kq41, qa41, qb41, qc41⟩ := isOf hZ e38 E_SENT_HOME
    obtain ⟨_, _, ⟨T41, L41, k41, n41⟩, -, X41, ⟨Lc41, hQ41, l41, y41, z41⟩, st41⟩ := X38.virtualBack hx (y := (⟨"com/example/millpact/millpact/TimeRecord$Type", "workday", "()Z"⟩ : MethodName)) (z := (⟨"com/example/millpact/millpact/TimeRecord$Type", "workday", "()Z"⟩ : MethodName)) hown (mvT hZ (hw _ (List.mem_of_getElem? (i := 7) rfl))) (mvT hZ (hw _ (List.mem_of_getElem? (i := 8) rfl))) (notFace_of_selects (args := #[]) (mvT hZ (hw _ (List.mem_of_getElem? (i := 10) rfl)))) (mvT hZ (hw _ (List.mem_of_getElem? (i := 10) rfl))) (mvT hZ (hw _ (List.mem_of_getElem? (i := 9) rfl))) (by decide) (backOf (W := 0) (rmw1 l Z a0 hw []  a_SENT_HOME a_WORKED a_ABSENT h0 n0 Z0 S_WORKED S_SENT_HOME S_ABSENT ne4_0) hZ (hw _ (List.mem_of_getElem? (i := 11) rfl)) (hw _ (List.mem_of_getElem? (i := 5) rfl)) (by decide) (by decide)) qa41 qc41 (g := (mkF m 31 #[.val (.int x0), .val (.int (4 : Int32)), .val (.ref a_SENT_HOME), .val (.int (1 : Int32)), .unset] [(.ref a_SENT_HOME)])) rfl (by rw [hml]; rfl) (Steps.refl _) (argsL := []) (rest := []) (lenOf pd0_1 rfl) rfl (by show 2 * 0 + _ ≤ _; exact Nat.le_of_eq rfl) (hb hby at_31) (fun _ _ => ⟨rfl, e38, (by decide : 0 + 0 ≤ _), (by decide : 0 + 0 ≤ _)⟩)
    dsimp only [Pt.U, Pt.locs, Pt.cells, Pt.slots] at X41 l41 y41 z41 st41 hQ41
    subst l41 y41 z41
    obtain ⟨rfl, Nq41, e41⟩ := hQ41
    have N41 := Fr.app N38 Nq41
    have p42 : ∀ t, Steps p.tables e below (T41.setTop (mkF m 34 #[.val (.int x0), .val (.int (4 : Int32)), .val (.ref a_SENT_HOME), .val (.int (1 : Int32)), .unset] [(.int (1 : Int32))])) t → Steps p.tables e below (s₁.setTop (entryFrame m #[(.int x0)] maxLocals)) t := fun t k => p40 t (st41.trans k)
    have p43 : ∀ t, Steps p.tables e below (T41.setTop (mkF m 50 #[.val (.int x0), .val (.int (4 : Int32)), .val (.ref a_SENT_HOME), .val (.int (1 : Int32)), .val (.int (1 : Int32))] [(.ref a_SENT_HOME)])) t → Steps p.tables e below (s₁.setTop (entryFrame m #[(.int x0)] maxLocals)) t := fun t k => p42 t (by
      show Steps p.tables e below (T41.setTop (mkF m 34 #[.val (.int x0), .val (.int (4 : Int32)), .val (.ref a_SENT_HOME), .val (.int (1 : Int32)), .unset] [(.int (1 : Int32))])) _
      refine XS.istore X41.here hx rfl (hb hby at_34) rfl (l' := #[.val (.int x0), .val (.int (4 : Int32)), .val (.ref a_SENT_HOME), .val (.int (1 : Int32)), .val (.int (1 : Int32))]) rfl ?_
      show Steps p.tables e below (T41.setTop (mkF m 36 #[.val (.int x0), .val (.int (4 : Int32)), .val (.ref a_SENT_HOME), .val (.int (1 : Int32)), .val (.int (1 : Int32))] [])) _
      refine XS.iload X41.here hx rfl (hb hby at_36) rfl ?_
      show Steps p.tables e below (T41.setTop (mkF m 38 #[.val (.int x0), .val (.int (4 : Int32)), .val (.ref a_SENT_HOME), .val (.int (1 : Int32)), .val (.int (1 : Int32))] [(.int (1 : Int32))])) _
      refine XS.iloadN X41.here hx rfl (hb hby at_38) rfl ?_
      show Steps p.tables e below (T41.setTop (mkF m 39 #[.val (.int x0), .val (.int (4 : Int32)), .val (.ref a_SENT_HOME), .val (.int (1 : Int32)), .val (.int (1 : Int32))] [(.int (1 : Int32)), (.int (1 : Int32))])) _
      refine XS.icmpYes X41.here hx rfl (pc0 := 39) (pc' := 44) rfl (hb hby at_39) rfl ((teq (rfl)).1) (by decide) (by decide) ?_
      show Steps p.tables e below (T41.setTop (mkF m 44 #[.val (.int x0), .val (.int (4 : Int32)), .val (.ref a_SENT_HOME), .val (.int (1 : Int32)), .val (.int (1 : Int32))] [])) _
      refine XS.iload X41.here hx rfl (hb hby at_44) rfl ?_
      show Steps p.tables e below (T41.setTop (mkF m 46 #[.val (.int x0), .val (.int (4 : Int32)), .val (.ref a_SENT_HOME), .val (.int (1 : Int32)), .val (.int (1 : Int32))] [(.int (1 : Int32))])) _
      refine XS.ifNo X41.here hx rfl (hb hby at_46) rfl ((if0 _ _).trans (feq (by decide)).1) ?_
      show Steps p.tables e below (T41.setTop (mkF m 49 #[.val (.int x0), .val (.int (4 : Int32)), .val (.ref a_SENT_HOME), .val (.int (1 : Int32)), .val (.int (1 : Int32))] [])) _
      refine XS.aloadN X41.here hx rfl (hb hby at_49) rfl rfl ?_
      exact k)
    obtain ⟨cq44, kq44, qa44, qb44, qc44⟩ := isOf hZ e41 E_SENT_HOME
    obtain ⟨_, _, ⟨T44, L44, k44, n44⟩, -, X44, ⟨Lc44, hQ44, l44, y44, z44⟩, st44⟩ := X41.virtualBack hx (y := (⟨"com/example/millpact/millpact/TimeRecord$Type", "dayOff", "()Z"⟩ : MethodName)) (z := (⟨"com/example/millpact/millpact/TimeRecord$Type", "dayOff", "()Z"⟩ : MethodName)) hown (mvT hZ (hw _ (List.mem_of_getElem? (i := 13) rfl))) (mvT hZ (hw _ (List.mem_of_getElem? (i := 14) rfl))) (notFace_of_selects (args := #[]) (mvT hZ (hw _ (List.mem_of_getElem? (i := 16) rfl)))) (mvT hZ (hw _ (List.mem_of_getElem? (i := 16) rfl))) (mvT hZ (hw _ (List.mem_of_getElem? (i := 15) rfl))) (by decide) (backOf (W := 0) (rmdn l Z a0 hw []  a_SENT_HOME a_DAY_OFF a_DAY_OFF_TRADED h0 n0 Z0 S_DAY_OFF S_DAY_OFF_TRADED ne4_5 ne4_6) hZ (hw _ (List.mem_of_getElem? (i := 17) rfl)) (hw _ (List.mem_of_getElem? (i := 5) rfl)) (by decide) (by decide)) qa44 qc44 (g := (mkF m 50 #[.val (.int x0), .val (.int (4 : Int32)), .val (.ref a_SENT_HOME), .val (.int (1 : Int32)), .val (.int (1 : Int32))] [(.ref a_SENT_HOME)])) rfl (by rw [hml]; rfl) (Steps.refl _) (argsL := []) (rest := []) (lenOf pd0_1 rfl) rfl (by show 2 * 0 + _ ≤ _; exact Nat.le_of_eq rfl) (hb hby at_50) (fun _ _ => ⟨rfl, e41, (by decide : 0 + 0 ≤ _), (by decide : 0 + 0 ≤ _)⟩)
    dsimp only [Pt.U, Pt.locs, Pt.cells, Pt.slots] at X44 l44 y44 z44 st44 hQ44
    subst l44 y44 z44
    obtain ⟨rfl, Nq44, e44⟩ := hQ44
    have N44 := Fr.app N41 Nq44
    have p45 : ∀ t, Steps p.tables e below (T44.setTop (mkF m 53 #[.val (.int x0), .val (.int (4 : Int32)), .val (.ref a_SENT_HOME), .val (.int (1 : Int32)), .val (.int (1 : Int32))] [(.int (0 : Int32))])) t → Steps p.tables e below (s₁.setTop (entryFrame m #[(.int x0)] maxLocals)) t := fun t k => p43 t (st44.trans k)
    have p46 : ∀ t, Steps p.tables e below (T44.setTop (mkF m 61 #[.val (.int x0), .val (.int (4 : Int32)), .val (.ref a_SENT_HOME), .val (.int (1 : Int32)), .val (.int (1 : Int32))] [(.int (1 : Int32))])) t → Steps p.tables e below (s₁.setTop (entryFrame m #[(.int x0)] maxLocals)) t := fun t k => p45 t (by
      show Steps p.tables e below (T44.setTop (mkF m 53 #[.val (.int x0), .val (.int (4 : Int32)), .val (.ref a_SENT_HOME), .val (.int (1 : Int32)), .val (.int (1 : Int32))] [(.int (0 : Int32))])) _
      refine XS.ifNo X44.here hx rfl (hb hby at_53) rfl ((if0 _ _).trans (teq (rfl)).2) ?_
      show Steps p.tables e below (T44.setTop (mkF m 56 #[.val (.int x0), .val (.int (4 : Int32)), .val (.ref a_SENT_HOME), .val (.int (1 : Int32)), .val (.int (1 : Int32))] [])) _
      refine XS.iconst X44.here hx rfl (hb hby at_56) ?_
      show Steps p.tables e below (T44.setTop (mkF m 57 #[.val (.int x0), .val (.int (4 : Int32)), .val (.ref a_SENT_HOME), .val (.int (1 : Int32)), .val (.int (1 : Int32))] [(.int (1 : Int32))])) _
      refine XS.goto X44.here hx rfl (pc0 := 57) (pc' := 61) rfl (hb hby at_57) (by decide) (by decide) ?_
      exact k)
    obtain ⟨fs, hr, hrun, hended, hW, hsame⟩ := X44.leave (v := some (.int (1 : Int32))) (fun h => by rw [Bd.returns] at h; cases h)
    refine ⟨_, _, p46 _ ?_, hrun, hended, _, _, rfl, ?_, ⟨_, rfl⟩, hW, hsame.mono (by decide) (by decide)⟩
    · show Steps p.tables e below (T44.setTop (mkF m 61 #[.val (.int x0), .val (.int (4 : Int32)), .val (.ref a_SENT_HOME), .val (.int (1 : Int32)), .val (.int (1 : Int32))] [(.int (1 : Int32))])) _
      exact retN X44 hx (t := .boolean) Bd.returns (by simp) (hb hby at_61) hr
    · show Q0 Z x0 a_WORKED a_ABSENT a_CALL_IN a_WIRE_CALL_IN a_SENT_HOME a_DAY_OFF a_DAY_OFF_TRADED a_RECALL h0 n0 _ T44.heap _
      rw [e44]
      exact ⟨rfl, N44⟩
  · have p47 : ∀ t, Steps p.tables e below (s₁.setTop (mkF m 6 #[.val (.int x0), .val (.int (5 : Int32)), .unset, .unset, .unset] [(.int (5 : Int32))])) t → Steps p.tables e below (s₁.setTop (entryFrame m #[(.int x0)] maxLocals)) t := fun t k => p2 t (by
      show Steps p.tables e below (s₁.setTop (mkF m 5 #[.val (.int x0), .val (.int (5 : Int32)), .unset, .unset, .unset] [])) _
      refine XS.iloadN X0.here hx rfl (hb hby at_5) rfl ?_
      exact k)
    obtain ⟨_, _, ⟨T48, L48, k48, n48⟩, -, X48, ⟨Lc48, hQ48, l48, y48, z48⟩, st48⟩ := Jvm.LawKit.callS X0 hx (y := (⟨"com/example/millpact/millpact/TimeRecordWorkdayPinLaw", "pick", "(I)Lcom/example/millpact/millpact/TimeRecord$Type;"⟩ : MethodName)) hown (mvT hZ (hw _ (List.mem_of_getElem? (i := 0) rfl))) (mvT hZ (hw _ (List.mem_of_getElem? (i := 1) rfl))) (mvT hZ (hw _ (List.mem_of_getElem? (i := 2) rfl))) (mvT hZ (hw _ (List.mem_of_getElem? (i := 3) rfl))) (by decide) (backOf (W := 0) (rmp5 l Z a0 hw []  a_DAY_OFF h0 n0 Z0 S_DAY_OFF) hZ (hw _ (List.mem_of_getElem? (i := 3) rfl)) (hw _ (List.mem_of_getElem? (i := 2) rfl)) (by decide) (by decide)) (g := (mkF m 6 #[.val (.int x0), .val (.int (5 : Int32)), .unset, .unset, .unset] [(.int (5 : Int32))])) rfl (by rw [hml]; rfl) (argsL := [(.int (5 : Int32))]) (rest := []) (lenOf pd0_0 rfl) rfl (by show 2 * 0 + _ ≤ _; exact Nat.le_of_eq rfl) (hb hby at_6) (fun _ _ => ⟨rfl, e0, (by decide : 0 + 0 ≤ _), (by decide : 0 + 0 ≤ _)⟩)
    dsimp only [Pt.U, Pt.locs, Pt.cells, Pt.slots] at X48 l48 y48 z48 st48 hQ48
    subst l48 y48 z48
    obtain ⟨rfl, Nq48, e48⟩ := hQ48
    have N48 := Fr.app N0 Nq48
    have p49 : ∀ t, Steps p.tables e below (T48.setTop (mkF m 9 #[.val (.int x0), .val (.int (5 : Int32)), .unset, .unset, .unset] [(.ref a_DAY_OFF)])) t → Steps p.tables e below (s₁.setTop (entryFrame m #[(.int x0)] maxLocals)) t := fun t k => p47 t (st48 _ k)
    have p50 : ∀ t, Steps p.tables e below (T48.setTop (mkF m 31 #[.val (.int x0), .val (.int (5 : Int32)), .val (.ref a_DAY_OFF), .val (.int (0 : Int32)), .unset] [(.ref a_DAY_OFF)])) t → Steps p.tables e below (s₁.setTop (entryFrame m #[(.int x0)] maxLocals)) t := fun t k => p49 t (by
      show Steps p.tables e below (T48.setTop (mkF m 9 #[.val (.int x0), .val (.int (5 : Int32)), .unset, .unset, .unset] [(.ref a_DAY_OFF)])) _
      refine XS.astoreN X48.here hx rfl (hb hby at_9) rfl rfl (l' := #[.val (.int x0), .val (.int (5 : Int32)), .val (.ref a_DAY_OFF), .unset, .unset]) rfl ?_
      show Steps p.tables e below (T48.setTop (mkF m 10 #[.val (.int x0), .val (.int (5 : Int32)), .val (.ref a_DAY_OFF), .unset, .unset] [])) _
      refine XS.iloadN X48.here hx rfl (hb hby at_10) rfl ?_
      show Steps p.tables e below (T48.setTop (mkF m 11 #[.val (.int x0), .val (.int (5 : Int32)), .val (.ref a_DAY_OFF), .unset, .unset] [(.int (5 : Int32))])) _
      refine XS.ifNo X48.here hx rfl (hb hby at_11) rfl ((if0 _ _).trans (feq (by decide)).1) ?_
      show Steps p.tables e below (T48.setTop (mkF m 14 #[.val (.int x0), .val (.int (5 : Int32)), .val (.ref a_DAY_OFF), .unset, .unset] [])) _
      refine XS.iloadN X48.here hx rfl (hb hby at_14) rfl ?_
      show Steps p.tables e below (T48.setTop (mkF m 15 #[.val (.int x0), .val (.int (5 : Int32)), .val (.ref a_DAY_OFF), .unset, .unset] [(.int (5 : Int32))])) _
      refine XS.iconst X48.here hx rfl (hb hby at_15) ?_
      show Steps p.tables e below (T48.setTop (mkF m 16 #[.val (.int x0), .val (.int (5 : Int32)), .val (.ref a_DAY_OFF), .unset, .unset] [(.int (1 : Int32)), (.int (5 : Int32))])) _
      refine XS.icmpNo X48.here hx rfl (hb hby at_16) rfl ((feq (by decide)).1) ?_
      show Steps p.tables e below (T48.setTop (mkF m 19 #[.val (.int x0), .val (.int (5 : Int32)), .val (.ref a_DAY_OFF), .unset, .unset] [])) _
      refine XS.iloadN X48.here hx rfl (hb hby at_19) rfl ?_
      show Steps p.tables e below (T48.setTop (mkF m 20 #[.val (.int x0), .val (.int (5 : Int32)), .val (.ref a_DAY_OFF), .unset, .unset] [(.int (5 : Int32))])) _
      refine XS.iconst X48.here hx rfl (hb hby at_20) ?_
      show Steps p.tables e below (T48.setTop (mkF m 21 #[.val (.int x0), .val (.int (5 : Int32)), .val (.ref a_DAY_OFF), .unset, .unset] [(.int (4 : Int32)), (.int (5 : Int32))])) _
      refine XS.icmpYes X48.here hx rfl (pc0 := 21) (pc' := 28) rfl (hb hby at_21) rfl ((feq (by decide)).2) (by decide) (by decide) ?_
      show Steps p.tables e below (T48.setTop (mkF m 28 #[.val (.int x0), .val (.int (5 : Int32)), .val (.ref a_DAY_OFF), .unset, .unset] [])) _
      refine XS.iconst X48.here hx rfl (hb hby at_28) ?_
      show Steps p.tables e below (T48.setTop (mkF m 29 #[.val (.int x0), .val (.int (5 : Int32)), .val (.ref a_DAY_OFF), .unset, .unset] [(.int (0 : Int32))])) _
      refine XS.istoreN X48.here hx rfl (hb hby at_29) rfl (l' := #[.val (.int x0), .val (.int (5 : Int32)), .val (.ref a_DAY_OFF), .val (.int (0 : Int32)), .unset]) rfl ?_
      show Steps p.tables e below (T48.setTop (mkF m 30 #[.val (.int x0), .val (.int (5 : Int32)), .val (.ref a_DAY_OFF), .val (.int (0 : Int32)), .unset] [])) _
      refine XS.aloadN X48.here hx rfl (hb hby at_30) rfl rfl ?_
      exact k)
    obtain ⟨cq51, kq51, qa51, qb51, qc51⟩ := isOf hZ e48 E_DAY_OFF
    obtain ⟨_, _, ⟨T51, L51, k51, n51⟩, -, X51, ⟨Lc51, hQ51, l51, y51, z51⟩, st51⟩ := X48.virtualBack hx (y := (⟨"com/example/millpact/millpact/TimeRecord$Type", "workday", "()Z"⟩ : MethodName)) (z := (⟨"com/example/millpact/millpact/TimeRecord$Type", "workday", "()Z"⟩ : MethodName)) hown (mvT hZ (hw _ (List.mem_of_getElem? (i := 7) rfl))) (mvT hZ (hw _ (List.mem_of_getElem? (i := 8) rfl))) (notFace_of_selects (args := #[]) (mvT hZ (hw _ (List.mem_of_getElem? (i := 10) rfl)))) (mvT hZ (hw _ (List.mem_of_getElem? (i := 10) rfl))) (mvT hZ (hw _ (List.mem_of_getElem? (i := 9) rfl))) (by decide) (backOf (W := 0) (rmwn l Z a0 hw []  a_DAY_OFF a_WORKED a_SENT_HOME a_ABSENT h0 n0 Z0 S_WORKED S_SENT_HOME S_ABSENT ne5_0 ne5_4 ne5_1) hZ (hw _ (List.mem_of_getElem? (i := 11) rfl)) (hw _ (List.mem_of_getElem? (i := 5) rfl)) (by decide) (by decide)) qa51 qc51 (g := (mkF m 31 #[.val (.int x0), .val (.int (5 : Int32)), .val (.ref a_DAY_OFF), .val (.int (0 : Int32)), .unset] [(.ref a_DAY_OFF)])) rfl (by rw [hml]; rfl) (Steps.refl _) (argsL := []) (rest := []) (lenOf pd0_1 rfl) rfl (by show 2 * 0 + _ ≤ _; exact Nat.le_of_eq rfl) (hb hby at_31) (fun _ _ => ⟨rfl, e48, (by decide : 0 + 0 ≤ _), (by decide : 0 + 0 ≤ _)⟩)
    dsimp only [Pt.U, Pt.locs, Pt.cells, Pt.slots] at X51 l51 y51 z51 st51 hQ51
    subst l51 y51 z51
    obtain ⟨rfl, Nq51, e51⟩ := hQ51
    have N51 := Fr.app N48 Nq51
    have p52 : ∀ t, Steps p.tables e below (T51.setTop (mkF m 34 #[.val (.int x0), .val (.int (5 : Int32)), .val (.ref a_DAY_OFF), .val (.int (0 : Int32)), .unset] [(.int (0 : Int32))])) t → Steps p.tables e below (s₁.setTop (entryFrame m #[(.int x0)] maxLocals)) t := fun t k => p50 t (st51.trans k)
    have p53 : ∀ t, Steps p.tables e below (T51.setTop (mkF m 61 #[.val (.int x0), .val (.int (5 : Int32)), .val (.ref a_DAY_OFF), .val (.int (0 : Int32)), .val (.int (0 : Int32))] [(.int (1 : Int32))])) t → Steps p.tables e below (s₁.setTop (entryFrame m #[(.int x0)] maxLocals)) t := fun t k => p52 t (by
      show Steps p.tables e below (T51.setTop (mkF m 34 #[.val (.int x0), .val (.int (5 : Int32)), .val (.ref a_DAY_OFF), .val (.int (0 : Int32)), .unset] [(.int (0 : Int32))])) _
      refine XS.istore X51.here hx rfl (hb hby at_34) rfl (l' := #[.val (.int x0), .val (.int (5 : Int32)), .val (.ref a_DAY_OFF), .val (.int (0 : Int32)), .val (.int (0 : Int32))]) rfl ?_
      show Steps p.tables e below (T51.setTop (mkF m 36 #[.val (.int x0), .val (.int (5 : Int32)), .val (.ref a_DAY_OFF), .val (.int (0 : Int32)), .val (.int (0 : Int32))] [])) _
      refine XS.iload X51.here hx rfl (hb hby at_36) rfl ?_
      show Steps p.tables e below (T51.setTop (mkF m 38 #[.val (.int x0), .val (.int (5 : Int32)), .val (.ref a_DAY_OFF), .val (.int (0 : Int32)), .val (.int (0 : Int32))] [(.int (0 : Int32))])) _
      refine XS.iloadN X51.here hx rfl (hb hby at_38) rfl ?_
      show Steps p.tables e below (T51.setTop (mkF m 39 #[.val (.int x0), .val (.int (5 : Int32)), .val (.ref a_DAY_OFF), .val (.int (0 : Int32)), .val (.int (0 : Int32))] [(.int (0 : Int32)), (.int (0 : Int32))])) _
      refine XS.icmpYes X51.here hx rfl (pc0 := 39) (pc' := 44) rfl (hb hby at_39) rfl ((teq (rfl)).1) (by decide) (by decide) ?_
      show Steps p.tables e below (T51.setTop (mkF m 44 #[.val (.int x0), .val (.int (5 : Int32)), .val (.ref a_DAY_OFF), .val (.int (0 : Int32)), .val (.int (0 : Int32))] [])) _
      refine XS.iload X51.here hx rfl (hb hby at_44) rfl ?_
      show Steps p.tables e below (T51.setTop (mkF m 46 #[.val (.int x0), .val (.int (5 : Int32)), .val (.ref a_DAY_OFF), .val (.int (0 : Int32)), .val (.int (0 : Int32))] [(.int (0 : Int32))])) _
      refine XS.ifYes X51.here hx rfl (pc0 := 46) (pc' := 56) rfl (hb hby at_46) rfl ((if0 _ _).trans (teq (rfl)).1) (by decide) (by decide) ?_
      show Steps p.tables e below (T51.setTop (mkF m 56 #[.val (.int x0), .val (.int (5 : Int32)), .val (.ref a_DAY_OFF), .val (.int (0 : Int32)), .val (.int (0 : Int32))] [])) _
      refine XS.iconst X51.here hx rfl (hb hby at_56) ?_
      show Steps p.tables e below (T51.setTop (mkF m 57 #[.val (.int x0), .val (.int (5 : Int32)), .val (.ref a_DAY_OFF), .val (.int (0 : Int32)), .val (.int (0 : Int32))] [(.int (1 : Int32))])) _
      refine XS.goto X51.here hx rfl (pc0 := 57) (pc' := 61) rfl (hb hby at_57) (by decide) (by decide) ?_
      exact k)
    obtain ⟨fs, hr, hrun, hended, hW, hsame⟩ := X51.leave (v := some (.int (1 : Int32))) (fun h => by rw [Bd.returns] at h; cases h)
    refine ⟨_, _, p53 _ ?_, hrun, hended, _, _, rfl, ?_, ⟨_, rfl⟩, hW, hsame.mono (by decide) (by decide)⟩
    · show Steps p.tables e below (T51.setTop (mkF m 61 #[.val (.int x0), .val (.int (5 : Int32)), .val (.ref a_DAY_OFF), .val (.int (0 : Int32)), .val (.int (0 : Int32))] [(.int (1 : Int32))])) _
      exact retN X51 hx (t := .boolean) Bd.returns (by simp) (hb hby at_61) hr
    · show Q0 Z x0 a_WORKED a_ABSENT a_CALL_IN a_WIRE_CALL_IN a_SENT_HOME a_DAY_OFF a_DAY_OFF_TRADED a_RECALL h0 n0 _ T51.heap _
      rw [e51]
      exact ⟨rfl, N51⟩
  · have p54 : ∀ t, Steps p.tables e below (s₁.setTop (mkF m 6 #[.val (.int x0), .val (.int (6 : Int32)), .unset, .unset, .unset] [(.int (6 : Int32))])) t → Steps p.tables e below (s₁.setTop (entryFrame m #[(.int x0)] maxLocals)) t := fun t k => p2 t (by
      show Steps p.tables e below (s₁.setTop (mkF m 5 #[.val (.int x0), .val (.int (6 : Int32)), .unset, .unset, .unset] [])) _
      refine XS.iloadN X0.here hx rfl (hb hby at_5) rfl ?_
      exact k)
    obtain ⟨_, _, ⟨T55, L55, k55, n55⟩, -, X55, ⟨Lc55, hQ55, l55, y55, z55⟩, st55⟩ := Jvm.LawKit.callS X0 hx (y := (⟨"com/example/millpact/millpact/TimeRecordWorkdayPinLaw", "pick", "(I)Lcom/example/millpact/millpact/TimeRecord$Type;"⟩ : MethodName)) hown (mvT hZ (hw _ (List.mem_of_getElem? (i := 0) rfl))) (mvT hZ (hw _ (List.mem_of_getElem? (i := 1) rfl))) (mvT hZ (hw _ (List.mem_of_getElem? (i := 2) rfl))) (mvT hZ (hw _ (List.mem_of_getElem? (i := 3) rfl))) (by decide) (backOf (W := 0) (rmp6 l Z a0 hw []  a_DAY_OFF_TRADED h0 n0 Z0 S_DAY_OFF_TRADED) hZ (hw _ (List.mem_of_getElem? (i := 3) rfl)) (hw _ (List.mem_of_getElem? (i := 2) rfl)) (by decide) (by decide)) (g := (mkF m 6 #[.val (.int x0), .val (.int (6 : Int32)), .unset, .unset, .unset] [(.int (6 : Int32))])) rfl (by rw [hml]; rfl) (argsL := [(.int (6 : Int32))]) (rest := []) (lenOf pd0_0 rfl) rfl (by show 2 * 0 + _ ≤ _; exact Nat.le_of_eq rfl) (hb hby at_6) (fun _ _ => ⟨rfl, e0, (by decide : 0 + 0 ≤ _), (by decide : 0 + 0 ≤ _)⟩)
    dsimp only [Pt.U, Pt.locs, Pt.cells, Pt.slots] at X55 l55 y55 z55 st55 hQ55
    subst l55 y55 z55
    obtain ⟨rfl, Nq55, e55⟩ := hQ55
    have N55 := Fr.app N0 Nq55
    have p56 : ∀ t, Steps p.tables e below (T55.setTop (mkF m 9 #[.val (.int x0), .val (.int (6 : Int32)), .unset, .unset, .unset] [(.ref a_DAY_OFF_TRADED)])) t → Steps p.tables e below (s₁.setTop (entryFrame m #[(.int x0)] maxLocals)) t := fun t k => p54 t (st55 _ k)
    have p57 : ∀ t, Steps p.tables e below (T55.setTop (mkF m 31 #[.val (.int x0), .val (.int (6 : Int32)), .val (.ref a_DAY_OFF_TRADED), .val (.int (0 : Int32)), .unset] [(.ref a_DAY_OFF_TRADED)])) t → Steps p.tables e below (s₁.setTop (entryFrame m #[(.int x0)] maxLocals)) t := fun t k => p56 t (by
      show Steps p.tables e below (T55.setTop (mkF m 9 #[.val (.int x0), .val (.int (6 : Int32)), .unset, .unset, .unset] [(.ref a_DAY_OFF_TRADED)])) _
      refine XS.astoreN X55.here hx rfl (hb hby at_9) rfl rfl (l' := #[.val (.int x0), .val (.int (6 : Int32)), .val (.ref a_DAY_OFF_TRADED), .unset, .unset]) rfl ?_
      show Steps p.tables e below (T55.setTop (mkF m 10 #[.val (.int x0), .val (.int (6 : Int32)), .val (.ref a_DAY_OFF_TRADED), .unset, .unset] [])) _
      refine XS.iloadN X55.here hx rfl (hb hby at_10) rfl ?_
      show Steps p.tables e below (T55.setTop (mkF m 11 #[.val (.int x0), .val (.int (6 : Int32)), .val (.ref a_DAY_OFF_TRADED), .unset, .unset] [(.int (6 : Int32))])) _
      refine XS.ifNo X55.here hx rfl (hb hby at_11) rfl ((if0 _ _).trans (feq (by decide)).1) ?_
      show Steps p.tables e below (T55.setTop (mkF m 14 #[.val (.int x0), .val (.int (6 : Int32)), .val (.ref a_DAY_OFF_TRADED), .unset, .unset] [])) _
      refine XS.iloadN X55.here hx rfl (hb hby at_14) rfl ?_
      show Steps p.tables e below (T55.setTop (mkF m 15 #[.val (.int x0), .val (.int (6 : Int32)), .val (.ref a_DAY_OFF_TRADED), .unset, .unset] [(.int (6 : Int32))])) _
      refine XS.iconst X55.here hx rfl (hb hby at_15) ?_
      show Steps p.tables e below (T55.setTop (mkF m 16 #[.val (.int x0), .val (.int (6 : Int32)), .val (.ref a_DAY_OFF_TRADED), .unset, .unset] [(.int (1 : Int32)), (.int (6 : Int32))])) _
      refine XS.icmpNo X55.here hx rfl (hb hby at_16) rfl ((feq (by decide)).1) ?_
      show Steps p.tables e below (T55.setTop (mkF m 19 #[.val (.int x0), .val (.int (6 : Int32)), .val (.ref a_DAY_OFF_TRADED), .unset, .unset] [])) _
      refine XS.iloadN X55.here hx rfl (hb hby at_19) rfl ?_
      show Steps p.tables e below (T55.setTop (mkF m 20 #[.val (.int x0), .val (.int (6 : Int32)), .val (.ref a_DAY_OFF_TRADED), .unset, .unset] [(.int (6 : Int32))])) _
      refine XS.iconst X55.here hx rfl (hb hby at_20) ?_
      show Steps p.tables e below (T55.setTop (mkF m 21 #[.val (.int x0), .val (.int (6 : Int32)), .val (.ref a_DAY_OFF_TRADED), .unset, .unset] [(.int (4 : Int32)), (.int (6 : Int32))])) _
      refine XS.icmpYes X55.here hx rfl (pc0 := 21) (pc' := 28) rfl (hb hby at_21) rfl ((feq (by decide)).2) (by decide) (by decide) ?_
      show Steps p.tables e below (T55.setTop (mkF m 28 #[.val (.int x0), .val (.int (6 : Int32)), .val (.ref a_DAY_OFF_TRADED), .unset, .unset] [])) _
      refine XS.iconst X55.here hx rfl (hb hby at_28) ?_
      show Steps p.tables e below (T55.setTop (mkF m 29 #[.val (.int x0), .val (.int (6 : Int32)), .val (.ref a_DAY_OFF_TRADED), .unset, .unset] [(.int (0 : Int32))])) _
      refine XS.istoreN X55.here hx rfl (hb hby at_29) rfl (l' := #[.val (.int x0), .val (.int (6 : Int32)), .val (.ref a_DAY_OFF_TRADED), .val (.int (0 : Int32)), .unset]) rfl ?_
      show Steps p.tables e below (T55.setTop (mkF m 30 #[.val (.int x0), .val (.int (6 : Int32)), .val (.ref a_DAY_OFF_TRADED), .val (.int (0 : Int32)), .unset] [])) _
      refine XS.aloadN X55.here hx rfl (hb hby at_30) rfl rfl ?_
      exact k)
    obtain ⟨cq58, kq58, qa58, qb58, qc58⟩ := isOf hZ e55 E_DAY_OFF_TRADED
    obtain ⟨_, _, ⟨T58, L58, k58, n58⟩, -, X58, ⟨Lc58, hQ58, l58, y58, z58⟩, st58⟩ := X55.virtualBack hx (y := (⟨"com/example/millpact/millpact/TimeRecord$Type", "workday", "()Z"⟩ : MethodName)) (z := (⟨"com/example/millpact/millpact/TimeRecord$Type", "workday", "()Z"⟩ : MethodName)) hown (mvT hZ (hw _ (List.mem_of_getElem? (i := 7) rfl))) (mvT hZ (hw _ (List.mem_of_getElem? (i := 8) rfl))) (notFace_of_selects (args := #[]) (mvT hZ (hw _ (List.mem_of_getElem? (i := 10) rfl)))) (mvT hZ (hw _ (List.mem_of_getElem? (i := 10) rfl))) (mvT hZ (hw _ (List.mem_of_getElem? (i := 9) rfl))) (by decide) (backOf (W := 0) (rmwn l Z a0 hw []  a_DAY_OFF_TRADED a_WORKED a_SENT_HOME a_ABSENT h0 n0 Z0 S_WORKED S_SENT_HOME S_ABSENT ne6_0 ne6_4 ne6_1) hZ (hw _ (List.mem_of_getElem? (i := 11) rfl)) (hw _ (List.mem_of_getElem? (i := 5) rfl)) (by decide) (by decide)) qa58 qc58 (g := (mkF m 31 #[.val (.int x0), .val (.int (6 : Int32)), .val (.ref a_DAY_OFF_TRADED), .val (.int (0 : Int32)), .unset] [(.ref a_DAY_OFF_TRADED)])) rfl (by rw [hml]; rfl) (Steps.refl _) (argsL := []) (rest := []) (lenOf pd0_1 rfl) rfl (by show 2 * 0 + _ ≤ _; exact Nat.le_of_eq rfl) (hb hby at_31) (fun _ _ => ⟨rfl, e55, (by decide : 0 + 0 ≤ _), (by decide : 0 + 0 ≤ _)⟩)
    dsimp only [Pt.U, Pt.locs, Pt.cells, Pt.slots] at X58 l58 y58 z58 st58 hQ58
    subst l58 y58 z58
    obtain ⟨rfl, Nq58, e58⟩ := hQ58
    have N58 := Fr.app N55 Nq58
    have p59 : ∀ t, Steps p.tables e below (T58.setTop (mkF m 34 #[.val (.int x0), .val (.int (6 : Int32)), .val (.ref a_DAY_OFF_TRADED), .val (.int (0 : Int32)), .unset] [(.int (0 : Int32))])) t → Steps p.tables e below (s₁.setTop (entryFrame m #[(.int x0)] maxLocals)) t := fun t k => p57 t (st58.trans k)
    have p60 : ∀ t, Steps p.tables e below (T58.setTop (mkF m 61 #[.val (.int x0), .val (.int (6 : Int32)), .val (.ref a_DAY_OFF_TRADED), .val (.int (0 : Int32)), .val (.int (0 : Int32))] [(.int (1 : Int32))])) t → Steps p.tables e below (s₁.setTop (entryFrame m #[(.int x0)] maxLocals)) t := fun t k => p59 t (by
      show Steps p.tables e below (T58.setTop (mkF m 34 #[.val (.int x0), .val (.int (6 : Int32)), .val (.ref a_DAY_OFF_TRADED), .val (.int (0 : Int32)), .unset] [(.int (0 : Int32))])) _
      refine XS.istore X58.here hx rfl (hb hby at_34) rfl (l' := #[.val (.int x0), .val (.int (6 : Int32)), .val (.ref a_DAY_OFF_TRADED), .val (.int (0 : Int32)), .val (.int (0 : Int32))]) rfl ?_
      show Steps p.tables e below (T58.setTop (mkF m 36 #[.val (.int x0), .val (.int (6 : Int32)), .val (.ref a_DAY_OFF_TRADED), .val (.int (0 : Int32)), .val (.int (0 : Int32))] [])) _
      refine XS.iload X58.here hx rfl (hb hby at_36) rfl ?_
      show Steps p.tables e below (T58.setTop (mkF m 38 #[.val (.int x0), .val (.int (6 : Int32)), .val (.ref a_DAY_OFF_TRADED), .val (.int (0 : Int32)), .val (.int (0 : Int32))] [(.int (0 : Int32))])) _
      refine XS.iloadN X58.here hx rfl (hb hby at_38) rfl ?_
      show Steps p.tables e below (T58.setTop (mkF m 39 #[.val (.int x0), .val (.int (6 : Int32)), .val (.ref a_DAY_OFF_TRADED), .val (.int (0 : Int32)), .val (.int (0 : Int32))] [(.int (0 : Int32)), (.int (0 : Int32))])) _
      refine XS.icmpYes X58.here hx rfl (pc0 := 39) (pc' := 44) rfl (hb hby at_39) rfl ((teq (rfl)).1) (by decide) (by decide) ?_
      show Steps p.tables e below (T58.setTop (mkF m 44 #[.val (.int x0), .val (.int (6 : Int32)), .val (.ref a_DAY_OFF_TRADED), .val (.int (0 : Int32)), .val (.int (0 : Int32))] [])) _
      refine XS.iload X58.here hx rfl (hb hby at_44) rfl ?_
      show Steps p.tables e below (T58.setTop (mkF m 46 #[.val (.int x0), .val (.int (6 : Int32)), .val (.ref a_DAY_OFF_TRADED), .val (.int (0 : Int32)), .val (.int (0 : Int32))] [(.int (0 : Int32))])) _
      refine XS.ifYes X58.here hx rfl (pc0 := 46) (pc' := 56) rfl (hb hby at_46) rfl ((if0 _ _).trans (teq (rfl)).1) (by decide) (by decide) ?_
      show Steps p.tables e below (T58.setTop (mkF m 56 #[.val (.int x0), .val (.int (6 : Int32)), .val (.ref a_DAY_OFF_TRADED), .val (.int (0 : Int32)), .val (.int (0 : Int32))] [])) _
      refine XS.iconst X58.here hx rfl (hb hby at_56) ?_
      show Steps p.tables e below (T58.setTop (mkF m 57 #[.val (.int x0), .val (.int (6 : Int32)), .val (.ref a_DAY_OFF_TRADED), .val (.int (0 : Int32)), .val (.int (0 : Int32))] [(.int (1 : Int32))])) _
      refine XS.goto X58.here hx rfl (pc0 := 57) (pc' := 61) rfl (hb hby at_57) (by decide) (by decide) ?_
      exact k)
    obtain ⟨fs, hr, hrun, hended, hW, hsame⟩ := X58.leave (v := some (.int (1 : Int32))) (fun h => by rw [Bd.returns] at h; cases h)
    refine ⟨_, _, p60 _ ?_, hrun, hended, _, _, rfl, ?_, ⟨_, rfl⟩, hW, hsame.mono (by decide) (by decide)⟩
    · show Steps p.tables e below (T58.setTop (mkF m 61 #[.val (.int x0), .val (.int (6 : Int32)), .val (.ref a_DAY_OFF_TRADED), .val (.int (0 : Int32)), .val (.int (0 : Int32))] [(.int (1 : Int32))])) _
      exact retN X58 hx (t := .boolean) Bd.returns (by simp) (hb hby at_61) hr
    · show Q0 Z x0 a_WORKED a_ABSENT a_CALL_IN a_WIRE_CALL_IN a_SENT_HOME a_DAY_OFF a_DAY_OFF_TRADED a_RECALL h0 n0 _ T58.heap _
      rw [e58]
      exact ⟨rfl, N58⟩
  · have p61 : ∀ t, Steps p.tables e below (s₁.setTop (mkF m 6 #[.val (.int x0), .val (.int (7 : Int32)), .unset, .unset, .unset] [(.int (7 : Int32))])) t → Steps p.tables e below (s₁.setTop (entryFrame m #[(.int x0)] maxLocals)) t := fun t k => p2 t (by
      show Steps p.tables e below (s₁.setTop (mkF m 5 #[.val (.int x0), .val (.int (7 : Int32)), .unset, .unset, .unset] [])) _
      refine XS.iloadN X0.here hx rfl (hb hby at_5) rfl ?_
      exact k)
    obtain ⟨_, _, ⟨T62, L62, k62, n62⟩, -, X62, ⟨Lc62, hQ62, l62, y62, z62⟩, st62⟩ := Jvm.LawKit.callS X0 hx (y := (⟨"com/example/millpact/millpact/TimeRecordWorkdayPinLaw", "pick", "(I)Lcom/example/millpact/millpact/TimeRecord$Type;"⟩ : MethodName)) hown (mvT hZ (hw _ (List.mem_of_getElem? (i := 0) rfl))) (mvT hZ (hw _ (List.mem_of_getElem? (i := 1) rfl))) (mvT hZ (hw _ (List.mem_of_getElem? (i := 2) rfl))) (mvT hZ (hw _ (List.mem_of_getElem? (i := 3) rfl))) (by decide) (backOf (W := 0) (rmp7 l Z a0 hw []  a_RECALL h0 n0 Z0 S_RECALL) hZ (hw _ (List.mem_of_getElem? (i := 3) rfl)) (hw _ (List.mem_of_getElem? (i := 2) rfl)) (by decide) (by decide)) (g := (mkF m 6 #[.val (.int x0), .val (.int (7 : Int32)), .unset, .unset, .unset] [(.int (7 : Int32))])) rfl (by rw [hml]; rfl) (argsL := [(.int (7 : Int32))]) (rest := []) (lenOf pd0_0 rfl) rfl (by show 2 * 0 + _ ≤ _; exact Nat.le_of_eq rfl) (hb hby at_6) (fun _ _ => ⟨rfl, e0, (by decide : 0 + 0 ≤ _), (by decide : 0 + 0 ≤ _)⟩)
    dsimp only [Pt.U, Pt.locs, Pt.cells, Pt.slots] at X62 l62 y62 z62 st62 hQ62
    subst l62 y62 z62
    obtain ⟨rfl, Nq62, e62⟩ := hQ62
    have N62 := Fr.app N0 Nq62
    have p63 : ∀ t, Steps p.tables e below (T62.setTop (mkF m 9 #[.val (.int x0), .val (.int (7 : Int32)), .unset, .unset, .unset] [(.ref a_RECALL)])) t → Steps p.tables e below (s₁.setTop (entryFrame m #[(.int x0)] maxLocals)) t := fun t k => p61 t (st62 _ k)
    have p64 : ∀ t, Steps p.tables e below (T62.setTop (mkF m 31 #[.val (.int x0), .val (.int (7 : Int32)), .val (.ref a_RECALL), .val (.int (0 : Int32)), .unset] [(.ref a_RECALL)])) t → Steps p.tables e below (s₁.setTop (entryFrame m #[(.int x0)] maxLocals)) t := fun t k => p63 t (by
      show Steps p.tables e below (T62.setTop (mkF m 9 #[.val (.int x0), .val (.int (7 : Int32)), .unset, .unset, .unset] [(.ref a_RECALL)])) _
      refine XS.astoreN X62.here hx rfl (hb hby at_9) rfl rfl (l' := #[.val (.int x0), .val (.int (7 : Int32)), .val (.ref a_RECALL), .unset, .unset]) rfl ?_
      show Steps p.tables e below (T62.setTop (mkF m 10 #[.val (.int x0), .val (.int (7 : Int32)), .val (.ref a_RECALL), .unset, .unset] [])) _
      refine XS.iloadN X62.here hx rfl (hb hby at_10) rfl ?_
      show Steps p.tables e below (T62.setTop (mkF m 11 #[.val (.int x0), .val (.int (7 : Int32)), .val (.ref a_RECALL), .unset, .unset] [(.int (7 : Int32))])) _
      refine XS.ifNo X62.here hx rfl (hb hby at_11) rfl ((if0 _ _).trans (feq (by decide)).1) ?_
      show Steps p.tables e below (T62.setTop (mkF m 14 #[.val (.int x0), .val (.int (7 : Int32)), .val (.ref a_RECALL), .unset, .unset] [])) _
      refine XS.iloadN X62.here hx rfl (hb hby at_14) rfl ?_
      show Steps p.tables e below (T62.setTop (mkF m 15 #[.val (.int x0), .val (.int (7 : Int32)), .val (.ref a_RECALL), .unset, .unset] [(.int (7 : Int32))])) _
      refine XS.iconst X62.here hx rfl (hb hby at_15) ?_
      show Steps p.tables e below (T62.setTop (mkF m 16 #[.val (.int x0), .val (.int (7 : Int32)), .val (.ref a_RECALL), .unset, .unset] [(.int (1 : Int32)), (.int (7 : Int32))])) _
      refine XS.icmpNo X62.here hx rfl (hb hby at_16) rfl ((feq (by decide)).1) ?_
      show Steps p.tables e below (T62.setTop (mkF m 19 #[.val (.int x0), .val (.int (7 : Int32)), .val (.ref a_RECALL), .unset, .unset] [])) _
      refine XS.iloadN X62.here hx rfl (hb hby at_19) rfl ?_
      show Steps p.tables e below (T62.setTop (mkF m 20 #[.val (.int x0), .val (.int (7 : Int32)), .val (.ref a_RECALL), .unset, .unset] [(.int (7 : Int32))])) _
      refine XS.iconst X62.here hx rfl (hb hby at_20) ?_
      show Steps p.tables e below (T62.setTop (mkF m 21 #[.val (.int x0), .val (.int (7 : Int32)), .val (.ref a_RECALL), .unset, .unset] [(.int (4 : Int32)), (.int (7 : Int32))])) _
      refine XS.icmpYes X62.here hx rfl (pc0 := 21) (pc' := 28) rfl (hb hby at_21) rfl ((feq (by decide)).2) (by decide) (by decide) ?_
      show Steps p.tables e below (T62.setTop (mkF m 28 #[.val (.int x0), .val (.int (7 : Int32)), .val (.ref a_RECALL), .unset, .unset] [])) _
      refine XS.iconst X62.here hx rfl (hb hby at_28) ?_
      show Steps p.tables e below (T62.setTop (mkF m 29 #[.val (.int x0), .val (.int (7 : Int32)), .val (.ref a_RECALL), .unset, .unset] [(.int (0 : Int32))])) _
      refine XS.istoreN X62.here hx rfl (hb hby at_29) rfl (l' := #[.val (.int x0), .val (.int (7 : Int32)), .val (.ref a_RECALL), .val (.int (0 : Int32)), .unset]) rfl ?_
      show Steps p.tables e below (T62.setTop (mkF m 30 #[.val (.int x0), .val (.int (7 : Int32)), .val (.ref a_RECALL), .val (.int (0 : Int32)), .unset] [])) _
      refine XS.aloadN X62.here hx rfl (hb hby at_30) rfl rfl ?_
      exact k)
    obtain ⟨cq65, kq65, qa65, qb65, qc65⟩ := isOf hZ e62 E_RECALL
    obtain ⟨_, _, ⟨T65, L65, k65, n65⟩, -, X65, ⟨Lc65, hQ65, l65, y65, z65⟩, st65⟩ := X62.virtualBack hx (y := (⟨"com/example/millpact/millpact/TimeRecord$Type", "workday", "()Z"⟩ : MethodName)) (z := (⟨"com/example/millpact/millpact/TimeRecord$Type", "workday", "()Z"⟩ : MethodName)) hown (mvT hZ (hw _ (List.mem_of_getElem? (i := 7) rfl))) (mvT hZ (hw _ (List.mem_of_getElem? (i := 8) rfl))) (notFace_of_selects (args := #[]) (mvT hZ (hw _ (List.mem_of_getElem? (i := 10) rfl)))) (mvT hZ (hw _ (List.mem_of_getElem? (i := 10) rfl))) (mvT hZ (hw _ (List.mem_of_getElem? (i := 9) rfl))) (by decide) (backOf (W := 0) (rmwn l Z a0 hw []  a_RECALL a_WORKED a_SENT_HOME a_ABSENT h0 n0 Z0 S_WORKED S_SENT_HOME S_ABSENT ne7_0 ne7_4 ne7_1) hZ (hw _ (List.mem_of_getElem? (i := 11) rfl)) (hw _ (List.mem_of_getElem? (i := 5) rfl)) (by decide) (by decide)) qa65 qc65 (g := (mkF m 31 #[.val (.int x0), .val (.int (7 : Int32)), .val (.ref a_RECALL), .val (.int (0 : Int32)), .unset] [(.ref a_RECALL)])) rfl (by rw [hml]; rfl) (Steps.refl _) (argsL := []) (rest := []) (lenOf pd0_1 rfl) rfl (by show 2 * 0 + _ ≤ _; exact Nat.le_of_eq rfl) (hb hby at_31) (fun _ _ => ⟨rfl, e62, (by decide : 0 + 0 ≤ _), (by decide : 0 + 0 ≤ _)⟩)
    dsimp only [Pt.U, Pt.locs, Pt.cells, Pt.slots] at X65 l65 y65 z65 st65 hQ65
    subst l65 y65 z65
    obtain ⟨rfl, Nq65, e65⟩ := hQ65
    have N65 := Fr.app N62 Nq65
    have p66 : ∀ t, Steps p.tables e below (T65.setTop (mkF m 34 #[.val (.int x0), .val (.int (7 : Int32)), .val (.ref a_RECALL), .val (.int (0 : Int32)), .unset] [(.int (0 : Int32))])) t → Steps p.tables e below (s₁.setTop (entryFrame m #[(.int x0)] maxLocals)) t := fun t k => p64 t (st65.trans k)
    have p67 : ∀ t, Steps p.tables e below (T65.setTop (mkF m 61 #[.val (.int x0), .val (.int (7 : Int32)), .val (.ref a_RECALL), .val (.int (0 : Int32)), .val (.int (0 : Int32))] [(.int (1 : Int32))])) t → Steps p.tables e below (s₁.setTop (entryFrame m #[(.int x0)] maxLocals)) t := fun t k => p66 t (by
      show Steps p.tables e below (T65.setTop (mkF m 34 #[.val (.int x0), .val (.int (7 : Int32)), .val (.ref a_RECALL), .val (.int (0 : Int32)), .unset] [(.int (0 : Int32))])) _
      refine XS.istore X65.here hx rfl (hb hby at_34) rfl (l' := #[.val (.int x0), .val (.int (7 : Int32)), .val (.ref a_RECALL), .val (.int (0 : Int32)), .val (.int (0 : Int32))]) rfl ?_
      show Steps p.tables e below (T65.setTop (mkF m 36 #[.val (.int x0), .val (.int (7 : Int32)), .val (.ref a_RECALL), .val (.int (0 : Int32)), .val (.int (0 : Int32))] [])) _
      refine XS.iload X65.here hx rfl (hb hby at_36) rfl ?_
      show Steps p.tables e below (T65.setTop (mkF m 38 #[.val (.int x0), .val (.int (7 : Int32)), .val (.ref a_RECALL), .val (.int (0 : Int32)), .val (.int (0 : Int32))] [(.int (0 : Int32))])) _
      refine XS.iloadN X65.here hx rfl (hb hby at_38) rfl ?_
      show Steps p.tables e below (T65.setTop (mkF m 39 #[.val (.int x0), .val (.int (7 : Int32)), .val (.ref a_RECALL), .val (.int (0 : Int32)), .val (.int (0 : Int32))] [(.int (0 : Int32)), (.int (0 : Int32))])) _
      refine XS.icmpYes X65.here hx rfl (pc0 := 39) (pc' := 44) rfl (hb hby at_39) rfl ((teq (rfl)).1) (by decide) (by decide) ?_
      show Steps p.tables e below (T65.setTop (mkF m 44 #[.val (.int x0), .val (.int (7 : Int32)), .val (.ref a_RECALL), .val (.int (0 : Int32)), .val (.int (0 : Int32))] [])) _
      refine XS.iload X65.here hx rfl (hb hby at_44) rfl ?_
      show Steps p.tables e below (T65.setTop (mkF m 46 #[.val (.int x0), .val (.int (7 : Int32)), .val (.ref a_RECALL), .val (.int (0 : Int32)), .val (.int (0 : Int32))] [(.int (0 : Int32))])) _
      refine XS.ifYes X65.here hx rfl (pc0 := 46) (pc' := 56) rfl (hb hby at_46) rfl ((if0 _ _).trans (teq (rfl)).1) (by decide) (by decide) ?_
      show Steps p.tables e below (T65.setTop (mkF m 56 #[.val (.int x0), .val (.int (7 : Int32)), .val (.ref a_RECALL), .val (.int (0 : Int32)), .val (.int (0 : Int32))] [])) _
      refine XS.iconst X65.here hx rfl (hb hby at_56) ?_
      show Steps p.tables e below (T65.setTop (mkF m 57 #[.val (.int x0), .val (.int (7 : Int32)), .val (.ref a_RECALL), .val (.int (0 : Int32)), .val (.int (0 : Int32))] [(.int (1 : Int32))])) _
      refine XS.goto X65.here hx rfl (pc0 := 57) (pc' := 61) rfl (hb hby at_57) (by decide) (by decide) ?_
      exact k)
    obtain ⟨fs, hr, hrun, hended, hW, hsame⟩ := X65.leave (v := some (.int (1 : Int32))) (fun h => by rw [Bd.returns] at h; cases h)
    refine ⟨_, _, p67 _ ?_, hrun, hended, _, _, rfl, ?_, ⟨_, rfl⟩, hW, hsame.mono (by decide) (by decide)⟩
    · show Steps p.tables e below (T65.setTop (mkF m 61 #[.val (.int x0), .val (.int (7 : Int32)), .val (.ref a_RECALL), .val (.int (0 : Int32)), .val (.int (0 : Int32))] [(.int (1 : Int32))])) _
      exact retN X65 hx (t := .boolean) Bd.returns (by simp) (hb hby at_61) hr
    · show Q0 Z x0 a_WORKED a_ABSENT a_CALL_IN a_WIRE_CALL_IN a_SENT_HOME a_DAY_OFF a_DAY_OFF_TRADED a_RECALL h0 n0 _ T65.heap _
      rw [e65]
      exact ⟨rfl, N65⟩
set_option maxRecDepth 65536 in
set_option maxHeartbeats 40000000 in
theorem comes_1 {Post : Tables → Env → Array Value → State → Outcome → State → Prop} (hpost : ∀ tb e args s v u, (limb_1_1.after args s (.returned v) u = true ∧ limb_1_2.after args s (.returned v) u = true ∧ True) → FrameEnd s (.returned v) u (Jvm.fieldLocs frame_1_writes args s ++ Jvm.arrayLocs frame_1_arrays args s ++ Jvm.staticLocs frame_1_statics s) 0 0 → Post tb e args s (.returned v) u) :
    ArmFor flags0 classFile x code maxLocals ret World_1 tables_1 room_1 Calls_1 rest_1 Pre_1 Post := by
  intro l hfl _ _ p e ha hc hk s m args below hf hA hF happ hP
  obtain ⟨hcalls, hrest, hpre⟩ := hP
  obtain ⟨-, -, -, hnamed, -, -, -, hat⟩ := (Spec.applies_iff hf).mp happ
  obtain ⟨hg, hn⟩ := and_e (Cond.before_iff.mp (show (Jvm.Cond.and given_1 narrow_1).before args s = true from hpre))
  obtain ⟨hcount, ga0⟩ := and_e hg
  obtain ⟨w0, rfl⟩ : ∃ w0 : Value, args = #[w0] := by
    have hs : args.size = 1 := by simpa [Cond.value, given_1] using hcount
    obtain ⟨L⟩ := args
    match L, hs with
    | [w0], _ => exact ⟨w0, rfl⟩
  have hw := fun d (hd : d ∈ tables_1) => atoms_spec (ws := Jvm.Cond.code x code maxLocals ret :: tables_1) hat d (List.mem_cons_of_mem _ hd)
  have hfit : Fit s := fun {y c} hc i hi => by
    obtain ⟨ha, rfl⟩ := Array.getElem?_eq_some_iff.mp hc
    have q := List.all_eq_true.mp ((Array.all_eq_true_iff_forall_mem.mp hF) _ (Array.getElem_mem ha)) i (List.mem_range.mpr hi)
    simpa [Array.getElem?_eq_getElem hi] using q
  obtain ⟨i0, ei0⟩ := is_v ga0
  obtain rfl : w0 = (.int i0) := Option.some.inj ei0
  obtain ⟨nn0, nr0⟩ := and_e hn
  obtain ⟨nn1, nr1⟩ := and_e nr0
  obtain ⟨nn2, nr2⟩ := and_e nr1
  obtain ⟨nn3, nr3⟩ := and_e nr2
  obtain ⟨nn4, nr4⟩ := and_e nr3
  obtain ⟨nn5, nr5⟩ := and_e nr4
  obtain ⟨nn6, nr6⟩ := and_e nr5
  obtain ⟨nn7, nr7⟩ := and_e nr6
  obtain ⟨nn8, nr8⟩ := and_e nr7
  obtain ⟨nn9, nr9⟩ := and_e nr8
  obtain ⟨nn10, nr10⟩ := and_e nr9
  obtain ⟨nn11, nr11⟩ := and_e nr10
  obtain ⟨nn12, nr12⟩ := and_e nr11
  obtain ⟨nn13, nr13⟩ := and_e nr12
  obtain ⟨nn14, nr14⟩ := and_e nr13
  obtain ⟨a_WORKED, ev_WORKED⟩ := exa_v nn0
  have S_WORKED : Sta s s.heap "com/example/millpact/millpact/TimeRecord$Type" "WORKED" "Lcom/example/millpact/millpact/TimeRecord$Type;" (.ref a_WORKED) := Sta.start ev_WORKED (Or.inr ⟨(hw _ (List.mem_of_getElem? (i := 5) rfl)), (hw _ (List.mem_of_getElem? (i := 6) rfl))⟩)
  have E_WORKED : Exa s s.heap a_WORKED "com/example/millpact/millpact/TimeRecord$Type" := Exa.start ev_WORKED nn0
  obtain ⟨a_DAY_OFF, ev_DAY_OFF⟩ := exa_v nn1
  have S_DAY_OFF : Sta s s.heap "com/example/millpact/millpact/TimeRecord$Type" "DAY_OFF" "Lcom/example/millpact/millpact/TimeRecord$Type;" (.ref a_DAY_OFF) := Sta.start ev_DAY_OFF (Or.inr ⟨(hw _ (List.mem_of_getElem? (i := 5) rfl)), (hw _ (List.mem_of_getElem? (i := 19) rfl))⟩)
  have E_DAY_OFF : Exa s s.heap a_DAY_OFF "com/example/millpact/millpact/TimeRecord$Type" := Exa.start ev_DAY_OFF nn1
  obtain ⟨a_DAY_OFF_TRADED, ev_DAY_OFF_TRADED⟩ := exa_v nn4
  have S_DAY_OFF_TRADED : Sta s s.heap "com/example/millpact/millpact/TimeRecord$Type" "DAY_OFF_TRADED" "Lcom/example/millpact/millpact/TimeRecord$Type;" (.ref a_DAY_OFF_TRADED) := Sta.start ev_DAY_OFF_TRADED (Or.inr ⟨(hw _ (List.mem_of_getElem? (i := 5) rfl)), (hw _ (List.mem_of_getElem? (i := 21) rfl))⟩)
  have E_DAY_OFF_TRADED : Exa s s.heap a_DAY_OFF_TRADED "com/example/millpact/millpact/TimeRecord$Type" := Exa.start ev_DAY_OFF_TRADED nn4
  obtain ⟨a_WIRE_CALL_IN, ev_WIRE_CALL_IN⟩ := exa_v nn6
  have S_WIRE_CALL_IN : Sta s s.heap "com/example/millpact/millpact/TimeRecord$Type" "WIRE_CALL_IN" "Lcom/example/millpact/millpact/TimeRecord$Type;" (.ref a_WIRE_CALL_IN) := Sta.start ev_WIRE_CALL_IN (Or.inr ⟨(hw _ (List.mem_of_getElem? (i := 5) rfl)), (hw _ (List.mem_of_getElem? (i := 23) rfl))⟩)
  have E_WIRE_CALL_IN : Exa s s.heap a_WIRE_CALL_IN "com/example/millpact/millpact/TimeRecord$Type" := Exa.start ev_WIRE_CALL_IN nn6
  obtain ⟨a_SENT_HOME, ev_SENT_HOME⟩ := exa_v nn8
  have S_SENT_HOME : Sta s s.heap "com/example/millpact/millpact/TimeRecord$Type" "SENT_HOME" "Lcom/example/millpact/millpact/TimeRecord$Type;" (.ref a_SENT_HOME) := Sta.start ev_SENT_HOME (Or.inr ⟨(hw _ (List.mem_of_getElem? (i := 5) rfl)), (hw _ (List.mem_of_getElem? (i := 25) rfl))⟩)
  have E_SENT_HOME : Exa s s.heap a_SENT_HOME "com/example/millpact/millpact/TimeRecord$Type" := Exa.start ev_SENT_HOME nn8
  obtain ⟨a_ABSENT, ev_ABSENT⟩ := exa_v nn10
  have S_ABSENT : Sta s s.heap "com/example/millpact/millpact/TimeRecord$Type" "ABSENT" "Lcom/example/millpact/millpact/TimeRecord$Type;" (.ref a_ABSENT) := Sta.start ev_ABSENT (Or.inr ⟨(hw _ (List.mem_of_getElem? (i := 5) rfl)), (hw _ (List.mem_of_getElem? (i := 27) rfl))⟩)
  have E_ABSENT : Exa s s.heap a_ABSENT "com/example/millpact/millpact/TimeRecord$Type" := Exa.start ev_ABSENT nn10
  obtain ⟨a_RECALL, ev_RECALL⟩ := exa_v nn12
  have S_RECALL : Sta s s.heap "com/example/millpact/millpact/TimeRecord$Type" "RECALL" "Lcom/example/millpact/millpact/TimeRecord$Type;" (.ref a_RECALL) := Sta.start ev_RECALL (Or.inr ⟨(hw _ (List.mem_of_getElem? (i := 5) rfl)), (hw _ (List.mem_of_getElem? (i := 30) rfl))⟩)
  have E_RECALL : Exa s s.heap a_RECALL "com/example/millpact/millpact/TimeRecord$Type" := Exa.start ev_RECALL nn12
  obtain ⟨a_CALL_IN, ev_CALL_IN⟩ := exa_v nn14
  have S_CALL_IN : Sta s s.heap "com/example/millpact/millpact/TimeRecord$Type" "CALL_IN" "Lcom/example/millpact/millpact/TimeRecord$Type;" (.ref a_CALL_IN) := Sta.start ev_CALL_IN (Or.inr ⟨(hw _ (List.mem_of_getElem? (i := 5) rfl)), (hw _ (List.mem_of_getElem? (i := 32) rfl))⟩)
  have E_CALL_IN : Exa s s.heap a_CALL_IN "com/example/millpact/millpact/TimeRecord$Type" := Exa.start ev_CALL_IN nn14
  have O_ordinal_WORKED : Fld s s.heap a_WORKED "java/lang/Enum" "ordinal" "I" (.int (0 : Int32)) := Fld.start ((fld_at ev_WORKED).symm.trans (eqv_i (Term.int_eval (0)) nn2))
  have O_ordinal_DAY_OFF : Fld s s.heap a_DAY_OFF "java/lang/Enum" "ordinal" "I" (.int (5 : Int32)) := Fld.start ((fld_at ev_DAY_OFF).symm.trans (eqv_i (Term.int_eval (5)) nn3))
  have O_ordinal_DAY_OFF_TRADED : Fld s s.heap a_DAY_OFF_TRADED "java/lang/Enum" "ordinal" "I" (.int (6 : Int32)) := Fld.start ((fld_at ev_DAY_OFF_TRADED).symm.trans (eqv_i (Term.int_eval (6)) nn5))
  have O_ordinal_WIRE_CALL_IN : Fld s s.heap a_WIRE_CALL_IN "java/lang/Enum" "ordinal" "I" (.int (3 : Int32)) := Fld.start ((fld_at ev_WIRE_CALL_IN).symm.trans (eqv_i (Term.int_eval (3)) nn7))
  have O_ordinal_SENT_HOME : Fld s s.heap a_SENT_HOME "java/lang/Enum" "ordinal" "I" (.int (4 : Int32)) := Fld.start ((fld_at ev_SENT_HOME).symm.trans (eqv_i (Term.int_eval (4)) nn9))
  have O_ordinal_ABSENT : Fld s s.heap a_ABSENT "java/lang/Enum" "ordinal" "I" (.int (1 : Int32)) := Fld.start ((fld_at ev_ABSENT).symm.trans (eqv_i (Term.int_eval (1)) nn11))
  have O_ordinal_RECALL : Fld s s.heap a_RECALL "java/lang/Enum" "ordinal" "I" (.int (7 : Int32)) := Fld.start ((fld_at ev_RECALL).symm.trans (eqv_i (Term.int_eval (7)) nn13))
  have O_ordinal_CALL_IN : Fld s s.heap a_CALL_IN "java/lang/Enum" "ordinal" "I" (.int (2 : Int32)) := Fld.start ((fld_at ev_CALL_IN).symm.trans (eqv_i (Term.int_eval (2)) nr14))
  have ne0_4 : a_WORKED ≠ a_SENT_HOME := O_ordinal_WORKED.ne O_ordinal_SENT_HOME (by decide)
  have ne0_1 : a_WORKED ≠ a_ABSENT := O_ordinal_WORKED.ne O_ordinal_ABSENT (by decide)
  have ne0_5 : a_WORKED ≠ a_DAY_OFF := O_ordinal_WORKED.ne O_ordinal_DAY_OFF (by decide)
  have ne0_6 : a_WORKED ≠ a_DAY_OFF_TRADED := O_ordinal_WORKED.ne O_ordinal_DAY_OFF_TRADED (by decide)
  have ne1_0 : a_ABSENT ≠ a_WORKED := O_ordinal_ABSENT.ne O_ordinal_WORKED (by decide)
  have ne1_4 : a_ABSENT ≠ a_SENT_HOME := O_ordinal_ABSENT.ne O_ordinal_SENT_HOME (by decide)
  have ne1_5 : a_ABSENT ≠ a_DAY_OFF := O_ordinal_ABSENT.ne O_ordinal_DAY_OFF (by decide)
  have ne1_6 : a_ABSENT ≠ a_DAY_OFF_TRADED := O_ordinal_ABSENT.ne O_ordinal_DAY_OFF_TRADED (by decide)
  have ne2_0 : a_CALL_IN ≠ a_WORKED := O_ordinal_CALL_IN.ne O_ordinal_WORKED (by decide)
  have ne2_4 : a_CALL_IN ≠ a_SENT_HOME := O_ordinal_CALL_IN.ne O_ordinal_SENT_HOME (by decide)
  have ne2_1 : a_CALL_IN ≠ a_ABSENT := O_ordinal_CALL_IN.ne O_ordinal_ABSENT (by decide)
  have ne2_5 : a_CALL_IN ≠ a_DAY_OFF := O_ordinal_CALL_IN.ne O_ordinal_DAY_OFF (by decide)
  have ne2_6 : a_CALL_IN ≠ a_DAY_OFF_TRADED := O_ordinal_CALL_IN.ne O_ordinal_DAY_OFF_TRADED (by decide)
  have ne3_0 : a_WIRE_CALL_IN ≠ a_WORKED := O_ordinal_WIRE_CALL_IN.ne O_ordinal_WORKED (by decide)
  have ne3_4 : a_WIRE_CALL_IN ≠ a_SENT_HOME := O_ordinal_WIRE_CALL_IN.ne O_ordinal_SENT_HOME (by decide)
  have ne3_1 : a_WIRE_CALL_IN ≠ a_ABSENT := O_ordinal_WIRE_CALL_IN.ne O_ordinal_ABSENT (by decide)
  have ne3_5 : a_WIRE_CALL_IN ≠ a_DAY_OFF := O_ordinal_WIRE_CALL_IN.ne O_ordinal_DAY_OFF (by decide)
  have ne3_6 : a_WIRE_CALL_IN ≠ a_DAY_OFF_TRADED := O_ordinal_WIRE_CALL_IN.ne O_ordinal_DAY_OFF_TRADED (by decide)
  have ne4_0 : a_SENT_HOME ≠ a_WORKED := O_ordinal_SENT_HOME.ne O_ordinal_WORKED (by decide)
  have ne4_1 : a_SENT_HOME ≠ a_ABSENT := O_ordinal_SENT_HOME.ne O_ordinal_ABSENT (by decide)
  have ne4_5 : a_SENT_HOME ≠ a_DAY_OFF := O_ordinal_SENT_HOME.ne O_ordinal_DAY_OFF (by decide)
  have ne4_6 : a_SENT_HOME ≠ a_DAY_OFF_TRADED := O_ordinal_SENT_HOME.ne O_ordinal_DAY_OFF_TRADED (by decide)
  have ne5_0 : a_DAY_OFF ≠ a_WORKED := O_ordinal_DAY_OFF.ne O_ordinal_WORKED (by decide)
  have ne5_4 : a_DAY_OFF ≠ a_SENT_HOME := O_ordinal_DAY_OFF.ne O_ordinal_SENT_HOME (by decide)
  have ne5_1 : a_DAY_OFF ≠ a_ABSENT := O_ordinal_DAY_OFF.ne O_ordinal_ABSENT (by decide)
  have ne5_6 : a_DAY_OFF ≠ a_DAY_OFF_TRADED := O_ordinal_DAY_OFF.ne O_ordinal_DAY_OFF_TRADED (by decide)
  have ne6_0 : a_DAY_OFF_TRADED ≠ a_WORKED := O_ordinal_DAY_OFF_TRADED.ne O_ordinal_WORKED (by decide)
  have ne6_4 : a_DAY_OFF_TRADED ≠ a_SENT_HOME := O_ordinal_DAY_OFF_TRADED.ne O_ordinal_SENT_HOME (by decide)
  have ne6_1 : a_DAY_OFF_TRADED ≠ a_ABSENT := O_ordinal_DAY_OFF_TRADED.ne O_ordinal_ABSENT (by decide)
  have ne6_5 : a_DAY_OFF_TRADED ≠ a_DAY_OFF := O_ordinal_DAY_OFF_TRADED.ne O_ordinal_DAY_OFF (by decide)
  have ne7_0 : a_RECALL ≠ a_WORKED := O_ordinal_RECALL.ne O_ordinal_WORKED (by decide)
  have ne7_4 : a_RECALL ≠ a_SENT_HOME := O_ordinal_RECALL.ne O_ordinal_SENT_HOME (by decide)
  have ne7_1 : a_RECALL ≠ a_ABSENT := O_ordinal_RECALL.ne O_ordinal_ABSENT (by decide)
  have ne7_5 : a_RECALL ≠ a_DAY_OFF := O_ordinal_RECALL.ne O_ordinal_DAY_OFF (by decide)
  have ne7_6 : a_RECALL ≠ a_DAY_OFF_TRADED := O_ordinal_RECALL.ne O_ordinal_DAY_OFF_TRADED (by decide)
  obtain ⟨n, o, h1, h2, h3, _, L, rfl, ⟨rfl, N⟩, hq⟩ := rm0 l s _ hw tables_1 i0 a_WORKED a_ABSENT a_CALL_IN a_WIRE_CALL_IN a_SENT_HOME a_DAY_OFF a_DAY_OFF_TRADED a_RECALL s.heap s.heap.size (Nat.le_refl _) S_WORKED S_ABSENT S_CALL_IN S_WIRE_CALL_IN S_SENT_HOME S_DAY_OFF S_DAY_OFF_TRADED S_RECALL E_WORKED E_ABSENT E_CALL_IN E_WIRE_CALL_IN E_SENT_HOME E_DAY_OFF E_DAY_OFF_TRADED E_RECALL ne0_4 ne0_1 ne0_5 ne0_6 ne1_0 ne1_4 ne1_5 ne1_6 ne2_0 ne2_4 ne2_1 ne2_5 ne2_6 ne3_0 ne3_4 ne3_1 ne3_5 ne3_6 ne4_0 ne4_1 ne4_5 ne4_6 ne5_0 ne5_4 ne5_1 ne5_6 ne6_0 ne6_4 ne6_1 ne6_5 ne7_0 ne7_4 ne7_1 ne7_5 ne7_6 p e ha hc hk s m _ below hf ((Spec.applies_iff_loose hf).mp happ).1 ⟨rfl, State.Warmed39.refl s, rfl⟩ trivial
  refine ⟨n, _, h1, h2, h3, hpost _ _ _ _ _ _ ⟨Cond.after_iff.mpr rfl, Cond.after_iff.mpr (eq_i res_at (Term.int_eval (1)) rfl), trivial⟩ ⟨hq.1, hq.2.1, (hq.2.2.sift fun y hy => Or.inr (N y hy)).mono (by decide) (by decide)⟩⟩
theorem main_1_1 : Claimed_1_1 := comes_1 fun _ _ _ _ _ _ h hF => ⟨h.1, hF⟩
theorem main_1_2 : Claimed_1_2 := comes_1 fun _ _ _ _ _ _ h hF => ⟨h.2.1, hF⟩
end Jvm.Pilot.@@N@@
namespace Jvm.Pilot.@@N@@
open Jvm Jvm.ClassFile Sem Op Lib Jvm.Free Jvm.Stand Jvm.Pilot.@@N@@.Jvm.D
/-! MADE BY PROGRAM (witnessworld.py) out of the Statement's table words and the real class files: 10 classes; the members and pool entries that the words name. The judged class is class 1, her method 2. -/
namespace start1
open Jvm.ClassFile
def u (s : String) : CpInfo := .utf8 (stringToUtf16 s)
/-- a pool by its gaps: so many unusable entries, then the entry; so many at the end -/
def gap : Nat → List CpInfo → List CpInfo
  | 0, r => r
  | n + 1, r => .unusable :: gap n r
def poolList (es : List (Nat × CpInfo)) (last : Nat) : List CpInfo := es.foldr (fun e r => gap e.1 (e.2 :: r)) (gap last [])
def pool (es : List (Nat × CpInfo)) (last : Nat) : Array CpInfo := ⟨poolList es last⟩
def fileOf (pool : Array CpInfo) (this : Nat) (attrs : Array Attribute := #[]) (ms : Array MethodInfo := #[]) (fl : Nat := 33) (sup : Nat := 0) (ifs : Array Nat := #[]) (fds : Array FieldInfo := #[]) : ClassFile where
  minorVersion := 0
  majorVersion := 65
  constantPool := pool
  accessFlags := fl
  thisClass := this
  superClass := sup
  interfaces := ifs
  fields := fds
  methods := ms
  attributes := attrs
def plain (name : String) (sup : Option ClassId) : Class where
  name := name
  kind := .ordinary
  loader := none
  accessFlags := 33
  super := sup
  interfaces := #[]
  cf := none
  fields := #[]
  methods := #[]
  instanceTypes := #[]
  staticTypes := #[]
  resolved := #[]
  callSites := []
  init := .initialized
  statics := none
  mirror := none

def pool0 : Array CpInfo := pool [(5, u "<init>"), (0, u "()V"), (1, .class_ 10), (1, u "java/lang/Object")] 113

def k0m0 : Method := { name := "<init>", desc := "()V", sig := { parameters := [], returnType := none }, accessFlags := 1, code := none }
/-- java/lang/Object -/
def k0 : Class := { plain "java/lang/Object" none with
  accessFlags := 33
  interfaces := #[]
  cf := some (fileOf pool0 8 #[] #[{ accessFlags := 1, nameIndex := 5, descriptorIndex := 6, attributes := #[] }] 33 0 #[] #[])
  fields := #[]
  methods := #[k0m0]
  instanceTypes := #[]
  staticTypes := #[]
  resolved := Array.replicate 124 none
  statics := none }

def pool1 : Array CpInfo := pool [(2, .class_ 4), (1, u "java/lang/Object"), (0, u "<init>"), (0, u "()V"), (0, .fieldref 8 9), (0, .class_ 10), (0, .nameAndType 11 12), (0, u "com/example/millpact/millpact/TimeRecord$Type"), (0, u "WORKED"), (0, u "Lcom/example/millpact/millpact/TimeRecord$Type;"), (0, .fieldref 8 14), (0, .nameAndType 15 12), (0, u "ABSENT"), (0, .fieldref 8 17), (0, .nameAndType 18 12), (0, u "CALL_IN"), (0, .fieldref 8 20), (0, .nameAndType 21 12), (0, u "WIRE_CALL_IN"), (0, .fieldref 8 23), (0, .nameAndType 24 12), (0, u "SENT_HOME"), (0, .fieldref 8 26), (0, .nameAndType 27 12), (0, u "DAY_OFF"), (0, .fieldref 8 29), (0, .nameAndType 30 12), (0, u "DAY_OFF_TRADED"), (0, .fieldref 8 32), (0, .nameAndType 33 12), (0, u "RECALL"), (0, .methodref 35 36), (0, .class_ 37), (0, .nameAndType 38 39), (0, u "com/example/millpact/millpact/TimeRecordWorkdayPinLaw"), (0, u "pick"), (0, u "(I)Lcom/example/millpact/millpact/TimeRecord$Type;"), (0, .methodref 8 41), (0, .nameAndType 42 43), (0, u "workday"), (0, u "()Z"), (0, .methodref 8 45), (0, .nameAndType 46 43), (0, u "dayOff"), (3, u "law"), (0, u "(I)Z")] 6

def k1m0 : Method := { name := "<init>", desc := "()V", sig := { parameters := [], returnType := none }, accessFlags := 2, code := none }
def k1c1 : Code := { maxStack := 2, maxLocals := 1, code := method_2_code, exceptionTable := #[], attributes := #[] }
def k1m1 : Method := { name := "pick", desc := "(I)Lcom/example/millpact/millpact/TimeRecord$Type;", sig := { parameters := [.int], returnType := some (.object "com/example/millpact/millpact/TimeRecord$Type") }, accessFlags := 10, code := some k1c1 }
def k1c2 : Code := { maxStack := 2, maxLocals := 5, code := code, exceptionTable := #[], attributes := #[] }
def k1m2 : Method := { name := "law", desc := "(I)Z", sig := { parameters := [.int], returnType := some .boolean }, accessFlags := 9, code := some k1c2 }
/-- com/example/millpact/millpact/TimeRecordWorkdayPinLaw -/
def k1 : Class := { plain "com/example/millpact/millpact/TimeRecordWorkdayPinLaw" (some 0) with
  accessFlags := 49
  interfaces := #[]
  cf := some (fileOf pool1 35 #[] #[{ accessFlags := 2, nameIndex := 5, descriptorIndex := 6, attributes := #[] }, { accessFlags := 10, nameIndex := 38, descriptorIndex := 39, attributes := #[] }, { accessFlags := 9, nameIndex := 50, descriptorIndex := 51, attributes := #[] }] 49 2 #[] #[])
  fields := #[]
  methods := #[k1m0, k1m1, k1m2]
  instanceTypes := #[]
  staticTypes := #[]
  resolved := Array.replicate 58 none
  statics := none }

def pool2 : Array CpInfo := pool [(1, .class_ 2), (0, u "java/lang/constant/Constable"), (0, .class_ 4), (0, u "java/lang/Object")] 6

/-- java/lang/constant/Constable -/
def k2 : Class := { plain "java/lang/constant/Constable" (some 0) with
  accessFlags := 1537
  interfaces := #[]
  cf := some (fileOf pool2 1 #[] #[] 1537 3 #[] #[])
  fields := #[]
  methods := #[]
  instanceTypes := #[]
  staticTypes := #[]
  resolved := Array.replicate 11 none
  statics := none }

def pool3 : Array CpInfo := pool [(1, .class_ 2), (0, u "java/lang/Comparable"), (0, .class_ 4), (0, u "java/lang/Object")] 7

/-- java/lang/Comparable -/
def k3 : Class := { plain "java/lang/Comparable" (some 0) with
  accessFlags := 1537
  interfaces := #[]
  cf := some (fileOf pool3 1 #[] #[] 1537 3 #[] #[])
  fields := #[]
  methods := #[]
  instanceTypes := #[]
  staticTypes := #[]
  resolved := Array.replicate 12 none
  statics := none }

def pool4 : Array CpInfo := pool [(1, .class_ 2), (0, u "java/io/Serializable"), (0, .class_ 4), (0, u "java/lang/Object")] 2

/-- java/io/Serializable -/
def k4 : Class := { plain "java/io/Serializable" (some 0) with
  accessFlags := 1537
  interfaces := #[]
  cf := some (fileOf pool4 1 #[] #[] 1537 3 #[] #[])
  fields := #[]
  methods := #[]
  instanceTypes := #[]
  staticTypes := #[]
  resolved := Array.replicate 7 none
  statics := none }

def pool5 : Array CpInfo := pool [(2, .class_ 4), (1, u "java/lang/Enum"), (0, u "name"), (0, u "Ljava/lang/String;"), (2, u "ordinal"), (0, u "I"), (1, .class_ 14), (1, u "java/lang/Object"), (4, u "hash"), (86, .class_ 108), (1, u "java/lang/Enum$EnumDesc"), (2, .class_ 112), (0, u "java/lang/constant/Constable"), (0, .class_ 114), (0, u "java/lang/Comparable"), (0, .class_ 116), (0, u "java/io/Serializable")] 87

/-- java/lang/Enum -/
def k5 : Class := { plain "java/lang/Enum" (some 0) with
  accessFlags := 1057
  interfaces := #[2, 3, 4]
  cf := some (fileOf pool5 2 #[.nestMembers #[106]] #[] 1057 12 #[111, 113, 115] #[{ accessFlags := 18, nameIndex := 5, descriptorIndex := 6, attributes := #[] }, { accessFlags := 18, nameIndex := 9, descriptorIndex := 10, attributes := #[] }, { accessFlags := 2, nameIndex := 19, descriptorIndex := 10, attributes := #[] }])
  fields := #[{ name := "name", type := (.object "java/lang/String"), accessFlags := 18, slot := 0, constantValue := 0 }, { name := "ordinal", type := .int, accessFlags := 18, slot := 1, constantValue := 0 }, { name := "hash", type := .int, accessFlags := 2, slot := 2, constantValue := 0 }]
  methods := #[]
  instanceTypes := #[(.object "java/lang/String"), .int, .int]
  staticTypes := #[]
  resolved := Array.replicate 204 none
  statics := none }

def pool6 : Array CpInfo := pool [(1, .class_ 2), (0, u "com/example/millpact/millpact/TimeRecord$Type"), (0, .fieldref 1 4), (0, .nameAndType 5 6), (0, u "WORKED"), (0, u "Lcom/example/millpact/millpact/TimeRecord$Type;"), (0, .fieldref 1 8), (0, .nameAndType 9 6), (0, u "ABSENT"), (2, u "CALL_IN"), (2, u "WIRE_CALL_IN"), (0, .fieldref 1 17), (0, .nameAndType 18 6), (0, u "SENT_HOME"), (0, .fieldref 1 20), (0, .nameAndType 21 6), (0, u "DAY_OFF"), (0, .fieldref 1 23), (0, .nameAndType 24 6), (0, u "DAY_OFF_TRADED"), (2, u "RECALL"), (2, u "$VALUES"), (0, u "[Lcom/example/millpact/millpact/TimeRecord$Type;"), (6, .class_ 40), (1, u "java/lang/Enum"), (8, u "text"), (0, u "Ljava/lang/String;"), (2, u "shift"), (0, u "Z"), (5, u "()Z"), (82, u "dayOff"), (1, u "workday"), (10, .class_ 157), (0, u "com/example/millpact/millpact/TimeRecord")] 29

def k6c0 : Code := { maxStack := 2, maxLocals := 1, code := prog_90_method_6_code, exceptionTable := #[], attributes := #[] }
def k6m0 : Method := { name := "dayOff", desc := "()Z", sig := { parameters := [], returnType := some .boolean }, accessFlags := 0, code := some k6c0 }
def k6c1 : Code := { maxStack := 2, maxLocals := 1, code := prog_90_method_7_code, exceptionTable := #[], attributes := #[] }
def k6m1 : Method := { name := "workday", desc := "()Z", sig := { parameters := [], returnType := some .boolean }, accessFlags := 0, code := some k6c1 }
/-- com/example/millpact/millpact/TimeRecord$Type -/
def k6 : Class := { plain "com/example/millpact/millpact/TimeRecord$Type" (some 5) with
  accessFlags := 16432
  interfaces := #[]
  cf := some (fileOf pool6 1 #[.nestHost 156] #[{ accessFlags := 0, nameIndex := 143, descriptorIndex := 60, attributes := #[] }, { accessFlags := 0, nameIndex := 145, descriptorIndex := 60, attributes := #[] }] 16432 38 #[] #[{ accessFlags := 16409, nameIndex := 5, descriptorIndex := 6, attributes := #[] }, { accessFlags := 16409, nameIndex := 9, descriptorIndex := 6, attributes := #[] }, { accessFlags := 16409, nameIndex := 12, descriptorIndex := 6, attributes := #[] }, { accessFlags := 16409, nameIndex := 15, descriptorIndex := 6, attributes := #[] }, { accessFlags := 16409, nameIndex := 18, descriptorIndex := 6, attributes := #[] }, { accessFlags := 16409, nameIndex := 21, descriptorIndex := 6, attributes := #[] }, { accessFlags := 16409, nameIndex := 24, descriptorIndex := 6, attributes := #[] }, { accessFlags := 16409, nameIndex := 27, descriptorIndex := 6, attributes := #[] }, { accessFlags := 18, nameIndex := 49, descriptorIndex := 50, attributes := #[] }, { accessFlags := 18, nameIndex := 53, descriptorIndex := 54, attributes := #[] }, { accessFlags := 4122, nameIndex := 30, descriptorIndex := 31, attributes := #[] }])
  fields := #[{ name := "WORKED", type := (.object "com/example/millpact/millpact/TimeRecord$Type"), accessFlags := 16409, slot := 0, constantValue := 0 }, { name := "ABSENT", type := (.object "com/example/millpact/millpact/TimeRecord$Type"), accessFlags := 16409, slot := 1, constantValue := 0 }, { name := "CALL_IN", type := (.object "com/example/millpact/millpact/TimeRecord$Type"), accessFlags := 16409, slot := 2, constantValue := 0 }, { name := "WIRE_CALL_IN", type := (.object "com/example/millpact/millpact/TimeRecord$Type"), accessFlags := 16409, slot := 3, constantValue := 0 }, { name := "SENT_HOME", type := (.object "com/example/millpact/millpact/TimeRecord$Type"), accessFlags := 16409, slot := 4, constantValue := 0 }, { name := "DAY_OFF", type := (.object "com/example/millpact/millpact/TimeRecord$Type"), accessFlags := 16409, slot := 5, constantValue := 0 }, { name := "DAY_OFF_TRADED", type := (.object "com/example/millpact/millpact/TimeRecord$Type"), accessFlags := 16409, slot := 6, constantValue := 0 }, { name := "RECALL", type := (.object "com/example/millpact/millpact/TimeRecord$Type"), accessFlags := 16409, slot := 7, constantValue := 0 }, { name := "text", type := (.object "java/lang/String"), accessFlags := 18, slot := 3, constantValue := 0 }, { name := "shift", type := .boolean, accessFlags := 18, slot := 4, constantValue := 0 }, { name := "$VALUES", type := (.array (.object "com/example/millpact/millpact/TimeRecord$Type")), accessFlags := 4122, slot := 8, constantValue := 0 }]
  methods := #[k6m0, k6m1]
  instanceTypes := #[(.object "java/lang/String"), .int, .int, (.object "java/lang/String"), .boolean]
  staticTypes := #[(.object "com/example/millpact/millpact/TimeRecord$Type"), (.object "com/example/millpact/millpact/TimeRecord$Type"), (.object "com/example/millpact/millpact/TimeRecord$Type"), (.object "com/example/millpact/millpact/TimeRecord$Type"), (.object "com/example/millpact/millpact/TimeRecord$Type"), (.object "com/example/millpact/millpact/TimeRecord$Type"), (.object "com/example/millpact/millpact/TimeRecord$Type"), (.object "com/example/millpact/millpact/TimeRecord$Type"), (.array (.object "com/example/millpact/millpact/TimeRecord$Type"))]
  resolved := Array.replicate 187 none
  statics := some 0 }

def pool7 : Array CpInfo := pool [(1, u "java/lang/Cloneable"), (0, .class_ 1), (0, u "java/lang/Object"), (0, .class_ 3)] 3

/-- java/lang/Cloneable -/
def k7 : Class := { plain "java/lang/Cloneable" (some 0) with
  accessFlags := 1537
  interfaces := #[]
  cf := some (fileOf pool7 2 #[] #[] 1537 4 #[] #[])
  fields := #[]
  methods := #[]
  instanceTypes := #[]
  staticTypes := #[]
  resolved := Array.replicate 8 none
  statics := none }

/-- the primitive byte -/
def k8 : Class := { plain "byte" none with kind := .primitive 'B', accessFlags := 0x411 }
/-- [B -/
def k9 : Class := { plain "[B" (some 0) with kind := .array 8 .byte, interfaces := #[7, 4], accessFlags := 1041 }

def heap : Heap := #[{ cls := 6, slots := #[.ref 1, .ref 2, .ref 3, .ref 4, .ref 5, .ref 6, .ref 7, .ref 8, .null], vm := .statics 6 },
  { cls := 6, slots := #[.null, .int 0, .int 0, .null, .int 0], vm := .none },
  { cls := 6, slots := #[.null, .int 1, .int 0, .null, .int 0], vm := .none },
  { cls := 6, slots := #[.null, .int 2, .int 0, .null, .int 0], vm := .none },
  { cls := 6, slots := #[.null, .int 3, .int 0, .null, .int 0], vm := .none },
  { cls := 6, slots := #[.null, .int 4, .int 0, .null, .int 0], vm := .none },
  { cls := 6, slots := #[.null, .int 5, .int 0, .null, .int 0], vm := .none },
  { cls := 6, slots := #[.null, .int 6, .int 0, .null, .int 0], vm := .none },
  { cls := 6, slots := #[.null, .int 7, .int 0, .null, .int 0], vm := .none }]
def classes : Array Class := #[k0, k1, k2, k3, k4, k5, k6, k7, k8, k9]
def interned : List (Array UInt16 × Addr) := []
def slotsUsed : Nat := 49
def theMethod : MethodId := ⟨1, 2⟩
def args0 : Array Value := #[.int 4]
def aboutOver (below : List Frame) : State where
  vm := { classes := classes, interned := interned.toArray }
  heap := heap
  slotsUsed := slotsUsed
  threads := #[{ frames := .invoking theMethod args0 :: below }]
def below0 : List Frame := [.native { method := ⟨0, 0⟩, args := #[] }]
def about1 : State := aboutOver below0
def p0 : Program := .bare "" "" ""
def e0 : Env := launch0.env 0 0 0
theorem w_frames : about1.frames = Frame.invoking theMethod args0 :: below0 := rfl
set_option maxRecDepth 65536 in
theorem w_args : argsFit about1.vm theMethod args0 = true := by decide +kernel
set_option maxRecDepth 65536 in
theorem w_heap : heapFits about1 = true := by decide +kernel
set_option maxRecDepth 65536 in
theorem w_runnable : about1.curStatus? = some .runnable := by decide +kernel
set_option maxRecDepth 65536 in
theorem w_alone : about1.alone = true := by decide +kernel
set_option maxRecDepth 65536 in
theorem w_named : about1.methodNamed? x = some theMethod := by decide +kernel
set_option maxRecDepth 65536 in
theorem w_hears : about1.hears theMethod below0 = true := by decide +kernel
set_option maxRecDepth 65536 in
theorem w_ripe : about1.ripe theMethod args0 below0 = true := by decide +kernel
theorem w_running : about1.status = .running := rfl
set_option maxRecDepth 65536 in
theorem w_room : about1.hasRoom e0.platform room_1 = true :=
  launch0.hasRoom_least _ room_1 (by decide +kernel) (by decide +kernel) (by decide +kernel) (by decide +kernel) (by decide +kernel) (by decide +kernel)
theorem allAtoms_all (ts : List Jvm.Cond) (a : Array Jvm.Value) (st : Jvm.State) : (allAtoms ts).before a st = ts.all (fun c => c.before a st) := by
  induction ts with
  | nil => rfl
  | cons c t ih =>
    show (Jvm.Cond.and c (allAtoms t)).before a st = _
    rw [Jvm.Cond.before_and, ih, List.all_cons]
def words1 : List Jvm.Cond := Jvm.Cond.code x code maxLocals ret :: tables_1
/-- a 'code' word, met by the world's own term for the bytes: nothing is compared byte by byte -/
theorem code_word {y : MethodName} {bytes : ByteArray} {mx : Nat} {rt : Option FieldType} {a : Array Value} {s : State} {m : MethodId} {meth : Method} {c : Code} (h1 : s.methodNamed? y = some m) (h2 : s.vm.method? m = some meth) (h3 : meth.code = some c) (h4 : c.code = bytes)
    (h5 : (c.maxLocals == mx && c.exceptionTable.isEmpty && decide (c.maxStack ≤ mostOperands) && decide (meth.sig.returnType = rt) && !meth.locks && decide (parseMethodDescriptor y.desc = some meth.sig)) = true) : (Jvm.Cond.code y bytes mx rt).before a s = true := by
  simp only [Bool.and_eq_true, beq_iff_eq, Bool.not_eq_true', decide_eq_true_eq] at h5
  obtain ⟨⟨⟨⟨⟨g1, g2⟩, g3⟩, g4⟩, g5⟩, g6⟩ := h5
  simp [Cond.before, Cond.holds, Cond.value, h1, h2, h3, h4, g1, g2, g3, g4, g5, g6]
def isCode : Jvm.Cond → Bool
  | .code _ _ _ _ => true
  | _ => false
theorem all_split {L : List Jvm.Cond} {P : Jvm.Cond → Bool} (h1 : L.all (fun c => isCode c || P c) = true) (h2 : ∀ c ∈ L.filter isCode, P c = true) : L.all P = true := by
  refine List.all_eq_true.mpr fun c hc => ?_
  have h := List.all_eq_true.mp h1 c hc
  rcases Bool.eq_false_or_eq_true (isCode c) with hi | hi
  · exact h2 c (List.mem_filter.mpr ⟨hc, hi⟩)
  · simpa [hi] using h
set_option maxRecDepth 65536 in
theorem w_c0 : (Jvm.Cond.code x code maxLocals ret).before args0 about1 = true := code_word (m := ⟨1, 2⟩) (meth := k1m2) (c := k1c2) (by decide +kernel) rfl rfl rfl (by decide +kernel)
set_option maxRecDepth 65536 in
theorem w_c1 : (Jvm.Cond.code ({ cls := "com/example/millpact/millpact/TimeRecordWorkdayPinLaw", name := "pick", desc := "(I)Lcom/example/millpact/millpact/TimeRecord$Type;" } : Jvm.MethodName) method_2_code (1 : Nat) (Option.some (Jvm.ClassFile.FieldType.object "com/example/millpact/millpact/TimeRecord$Type"))).before args0 about1 = true := code_word (m := ⟨1, 1⟩) (meth := k1m1) (c := k1c1) (by decide +kernel) rfl rfl rfl (by decide +kernel)
set_option maxRecDepth 65536 in
theorem w_c2 : (Jvm.Cond.code ({ cls := "com/example/millpact/millpact/TimeRecord$Type", name := "workday", desc := "()Z" } : Jvm.MethodName) prog_90_method_7_code (1 : Nat) (Option.some Jvm.ClassFile.FieldType.boolean)).before args0 about1 = true := code_word (m := ⟨6, 1⟩) (meth := k6m1) (c := k6c1) (by decide +kernel) rfl rfl rfl (by decide +kernel)
set_option maxRecDepth 65536 in
theorem w_c3 : (Jvm.Cond.code ({ cls := "com/example/millpact/millpact/TimeRecord$Type", name := "dayOff", desc := "()Z" } : Jvm.MethodName) prog_90_method_6_code (1 : Nat) (Option.some Jvm.ClassFile.FieldType.boolean)).before args0 about1 = true := code_word (m := ⟨6, 0⟩) (meth := k6m0) (c := k6c0) (by decide +kernel) rfl rfl rfl (by decide +kernel)
def codes1 : List Jvm.Cond := [Jvm.Cond.code x code maxLocals ret, Jvm.Cond.code ({ cls := "com/example/millpact/millpact/TimeRecordWorkdayPinLaw", name := "pick", desc := "(I)Lcom/example/millpact/millpact/TimeRecord$Type;" } : Jvm.MethodName) method_2_code (1 : Nat) (Option.some (Jvm.ClassFile.FieldType.object "com/example/millpact/millpact/TimeRecord$Type")), Jvm.Cond.code ({ cls := "com/example/millpact/millpact/TimeRecord$Type", name := "workday", desc := "()Z" } : Jvm.MethodName) prog_90_method_7_code (1 : Nat) (Option.some Jvm.ClassFile.FieldType.boolean), Jvm.Cond.code ({ cls := "com/example/millpact/millpact/TimeRecord$Type", name := "dayOff", desc := "()Z" } : Jvm.MethodName) prog_90_method_6_code (1 : Nat) (Option.some Jvm.ClassFile.FieldType.boolean)]
set_option maxRecDepth 65536 in
theorem codes_eq : words1.filter isCode = codes1 := rfl
theorem w_codes : ∀ c ∈ words1.filter isCode, c.before args0 about1 = true := by
  rw [codes_eq]
  intro c hc
  simp only [codes1, List.mem_cons, List.not_mem_nil, or_false] at hc
  rcases hc with rfl | rfl | rfl | rfl
  · exact w_c0
  · exact w_c1
  · exact w_c2
  · exact w_c3
set_option maxRecDepth 65536 in
theorem w_t1 : (words1.take 24).all (fun c => isCode c || c.before args0 about1) = true := by decide +kernel
set_option maxRecDepth 65536 in
theorem w_t2 : (words1.drop 24).all (fun c => isCode c || c.before args0 about1) = true := by decide +kernel
theorem w_tables : (allAtoms (Jvm.Cond.code x code maxLocals ret :: tables_1)).before args0 about1 = true := by
  rw [allAtoms_all]
  show words1.all (fun c => c.before args0 about1) = true
  refine all_split ?_ w_codes
  rw [← List.take_append_drop 24 words1, List.all_append, w_t1, w_t2]
  rfl
set_option maxRecDepth 65536 in
theorem w_case : (Jvm.Cond.and given_1 narrow_1).before args0 about1 = true := by decide +kernel
theorem w_applies : (headSpec (Jvm.Cond.code x code maxLocals ret :: tables_1) room_1).applies x e0.platform about1 = true :=
  (Spec.applies_iff w_frames).mpr ⟨w_running, w_runnable, w_alone, w_named, w_hears, w_ripe, w_room, w_tables⟩
theorem atStart : AtStart classFile x code maxLocals ret World_1 tables_1 room_1 Calls_1 rest_1 Pre_1 launch0 p0 e0 about1 theMethod args0 below0 :=
  ⟨lists_1, trivial, launch0.admits_env _ _ _, launch0.least_env, fairChoices_fair.cas, fairChoices_fair.clock, w_frames, w_args, w_heap, w_applies, trivial, trivial, w_case⟩
end start1
theorem witness_1 : WitnessClaimed_1 := ⟨start1.p0, start1.e0, start1.about1, start1.theMethod, start1.args0, start1.below0, start1.atStart⟩
end Jvm.Pilot.@@N@@
