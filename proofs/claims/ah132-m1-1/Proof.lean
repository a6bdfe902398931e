import JvmDerived
import JvmDerived.Pilot.@@N@@Statement
import JvmDerived.Pilot.@@N@@Code
set_option linter.unusedVariables false
set_option linter.unusedSimpArgs false
namespace Jvm.RoadKit
open Sem ClassFile Op Lib Jvm.Stand Jvm.Free Jvm.LawKit
section New
variable {p : Program} {l : Launch} {e : Env} {R : Room} {s : State} {m : MethodId} {args : Array Value} {below : List Frame} {meth : Method} {c : Code} {T : State} {locs : List Loc} {cells slots : Nat}
theorem retI (X : Stand p l e R s m args below meth c T locs cells slots) (hx : p.tables.exec = Jvm.exec) {pc : Nat} {Ls : Array Slot} {z : Int32} {rest : List Value} (hret : meth.sig.returnType = some .int) (hd : decode c.code pc = .ok (.ireturn, 1)) {fs : List Frame}
    (hl : ∀ (f : JFrame) (acts : List Action), f.method = m → f.locked = none → f.entered = [] → (doReturn e (T.setTop f) acts (some (.int z))).1 = T.setFrames fs) : Steps p.tables e below (T.setTop (mkF m pc Ls (.int z :: rest))) (T.setFrames fs) :=
  retOut X hx hret rfl (Or.inl ⟨rfl, Or.inl rfl, z, rfl⟩) hd hl
end New
end Jvm.RoadKit
namespace Jvm.Pilot.@@N@@
open Jvm Jvm.ClassFile Sem Op Lib Jvm.Free Jvm.Stand Jvm.LawKit Jvm.RoadKit Bundle Jvm.Pilot.@@N@@.Jvm.D

theorem own_k5 {k x : Int32} (h : k = ((x &&& (2147483647 : Int32)) % (5 : Int32))) : k = (0 : Int32) ∨ k = (1 : Int32) ∨ k = (2 : Int32) ∨ k = (3 : Int32) ∨ k = (4 : Int32) := by
  have e := c_mask x 2147483647 31 (by decide) (by decide)
  have e2 := (c_irem (x &&& (2147483647 : Int32)) 5 5 (by decide)).1 (by omega); rw [← h] at e2
  simp only [← Int32.toInt_inj]
  have l0 : (0 : Int32).toInt = 0 := by decide
  have l1 : (1 : Int32).toInt = 1 := by decide
  have l2 : (2 : Int32).toInt = 2 := by decide
  have l3 : (3 : Int32).toInt = 3 := by decide
  have l4 : (4 : Int32).toInt = 4 := by decide
  omega
theorem do_0 : decode jdk_37_method_2_code 0 = .ok (.aload_n 0, 1) := by decide +kernel
theorem do_1 : decode jdk_37_method_2_code 1 = .ok (.getfield 7, 3) := by decide +kernel
theorem do_4 : decode jdk_37_method_2_code 4 = .ok (.ireturn, 1) := by decide +kernel
theorem pno : plainName "java/lang/Enum" = true := by first | (simp [plainName, overriddenIn]; done) | decide +kernel
theorem efo (m : MethodId) (x0 : Addr) : entryFrame m #[(.ref x0)] 1 = mkF m 0 #[.val (.ref x0)] [] := by first | (simp [entryFrame, mkF, argsToLocals, Value.category]; done) | rfl
def Qo (Z : State) (x0 : Addr) (kv : Int32) (h0 : Heap) (n0 : Nat) (v : Option Value) (h : Heap) (L : List Loc) : Prop := v = some (.int kv) ∧ Fr n0 L ∧ h = h0
set_option maxRecDepth 65536 in
set_option maxHeartbeats 40000000 in
theorem rmo (l : Launch) (Z : State) (a0 : Array Value) (hw : ∀ d ∈ tables_1, d.before a0 Z = true) (ws : List Jvm.Cond) (x0 : Addr) (kv : Int32) (h0 : Heap) (n0 : Nat) (Z0 : n0 ≤ h0.size) (F0 : Fld Z h0 x0 "java/lang/Enum" "ordinal" "I" (.int kv)) :
    MetFree l (⟨"java/lang/Enum", "ordinal", "()I"⟩ : MethodName) (head1 (Jvm.Cond.code (⟨"java/lang/Enum", "ordinal", "()I"⟩ : MethodName) jdk_37_method_2_code 1 (some .int) :: ws) ({ frames := 0, cells := 0, slots := 0, locals := 0 } : Room)) (fun a U => a = #[(.ref x0)] ∧ Z.Warmed39 U.vm ∧ U.heap = h0) (fun _ _ _ _ _ => True) (fun _ U o U' => ∃ v L, o = .returned v ∧ Qo Z x0 kv h0 n0 v U'.heap L ∧ FrameEnd U o U' L ({ frames := 0, cells := 0, slots := 0, locals := 0 } : Room).cells ({ frames := 0, cells := 0, slots := 0, locals := 0 } : Room).slots) := by
  refine MetFree.of_bodySF (plainFor_of_name pno) hisR ?_
  intro p e s m args below meth c s₁ Bd hml0 hP hK
  obtain ⟨rfl, hZ, hh⟩ := hP
  have hx := Bd.exec
  have hby := Bd.bytes
  have hml : c.maxLocals = 1 := hml0
  have hown : s.vm.findClass "java/lang/Enum" = some m.cls := findClass_of_methodNamed Bd.named
  have hnm := (name_of_methodNamed Bd.named Bd.method).1
  have X0 : Stand p l e ({ frames := 0, cells := 0, slots := 0, locals := 0 } : Room) s m #[(.ref x0)] below meth c s₁ [] 0 0 := Stand.of_body Bd
  have e0 : s₁.heap = h0 := by rw [← hh, Bd.state]; rfl
  have N0 := Fr.nil n0
  have pre0 : ∀ t, Steps p.tables e below (s₁.setTop (mkF m 0 #[.val (.ref x0)] [])) t → Steps p.tables e below (s₁.setTop (entryFrame m #[(.ref x0)] 1)) t := fun t k => castTop (efo m x0) k
  have p1 : ∀ t, Steps p.tables e below (s₁.setTop (mkF m 1 #[.val (.ref x0)] [(.ref x0)])) t → Steps p.tables e below (s₁.setTop (entryFrame m #[(.ref x0)] 1)) t := fun t k => pre0 t (by
    show Steps p.tables e below (s₁.setTop (mkF m 0 #[.val (.ref x0)] [])) _
    refine XS.aloadN X0.here hx rfl (hb hby do_0) rfl rfl ?_
    exact k)
  obtain ⟨T2, X2, e2, st2⟩ := getF X0 hx hZ hown (host := "") (Or.inl (hw _ (List.mem_of_getElem? (i := 27) rfl))) Via.refl e0 F0 (g := (mkF m 1 #[.val (.ref x0)] [(.ref x0)])) rfl rfl (hb hby do_1)
  have p3 : ∀ t, Steps p.tables e below (T2.setTop (mkF m 4 #[.val (.ref x0)] [(.int kv)])) t → Steps p.tables e below (s₁.setTop (entryFrame m #[(.ref x0)] 1)) t := fun t k => p1 t (st2 t k)
  obtain ⟨fs, hr, hrun, hended, hW, hsame⟩ := X2.leave (v := some (.int kv)) (fun h => by rw [Bd.returns] at h; cases h)
  refine ⟨_, _, p3 _ ?_, hrun, hended, _, _, rfl, ?_, ⟨_, rfl⟩, hW, hsame.mono (by decide) (by decide)⟩
  · show Steps p.tables e below (T2.setTop (mkF m 4 #[.val (.ref x0)] [(.int kv)])) _
    exact retI X2 hx Bd.returns (hb hby do_4) hr
  · show Qo Z x0 kv h0 n0 _ T2.heap _
    rw [e2]
    exact ⟨rfl, N0, rfl⟩
theorem di0_0 : decode prog_41_method_5_code 0 = .ok (.aload_n 0, 1) := by decide +kernel
theorem di0_1 : decode prog_41_method_5_code 1 = .ok (.invokevirtual 42, 3) := by decide +kernel
theorem di0_4 : decode prog_41_method_5_code 4 = .ok (.tableswitch 36 0 4 #[46, 46, 50, 50, 50], 36) := by decide +kernel
theorem di0_50 : decode prog_41_method_5_code 50 = .ok (.iconst 1, 1) := by decide +kernel
theorem di0_51 : decode prog_41_method_5_code 51 = .ok (.goto 4, 3) := by decide +kernel
theorem di0_55 : decode prog_41_method_5_code 55 = .ok (.ireturn, 1) := by decide +kernel
theorem pni0 : plainName "com/example/claimroll/claimroll/PaymentRequestStatus" = true := by first | (simp [plainName, overriddenIn]; done) | decide +kernel
theorem pdi0_0 : parseMethodDescriptor "()I" = some ⟨[], some .int⟩ := by decide +kernel
theorem efi0 (m : MethodId) (x0 : Addr) : entryFrame m #[(.ref x0)] 1 = mkF m 0 #[.val (.ref x0)] [] := by first | (simp [entryFrame, mkF, argsToLocals, Value.category]; done) | rfl
def Qi0 (Z : State) (x0 : Addr) (h0 : Heap) (n0 : Nat) (v : Option Value) (h : Heap) (L : List Loc) : Prop := v = some (.int (1 : Int32)) ∧ Fr n0 L ∧ h = h0
set_option maxRecDepth 65536 in
set_option maxHeartbeats 40000000 in
theorem rmi0 (l : Launch) (Z : State) (a0 : Array Value) (hw : ∀ d ∈ tables_1, d.before a0 Z = true) (ws : List Jvm.Cond) (x0 : Addr) (h0 : Heap) (n0 : Nat) (Z0 : n0 ≤ h0.size) (E0 : Exa Z h0 x0 "com/example/claimroll/claimroll/PaymentRequestStatus") (F0 : Fld Z h0 x0 "java/lang/Enum" "ordinal" "I" (.int (0 : Int32))) :
    MetFree l (⟨"com/example/claimroll/claimroll/PaymentRequestStatus", "isOutstanding", "()Z"⟩ : MethodName) (head1 (Jvm.Cond.code (⟨"com/example/claimroll/claimroll/PaymentRequestStatus", "isOutstanding", "()Z"⟩ : MethodName) prog_41_method_5_code 1 (some .boolean) :: ws) ({ frames := 1, cells := 0, slots := 0, locals := 12 } : Room)) (fun a U => a = #[(.ref x0)] ∧ Z.Warmed39 U.vm ∧ U.heap = h0) (fun _ _ _ _ _ => True) (fun _ U o U' => ∃ v L, o = .returned v ∧ Qi0 Z x0 h0 n0 v U'.heap L ∧ FrameEnd U o U' L ({ frames := 1, cells := 0, slots := 0, locals := 12 } : Room).cells ({ frames := 1, cells := 0, slots := 0, locals := 12 } : Room).slots) := by
  refine MetFree.of_bodySF (plainFor_of_name pni0) hisR ?_
  intro p e s m args below meth c s₁ Bd hml0 hP hK
  obtain ⟨rfl, hZ, hh⟩ := hP
  have hx := Bd.exec
  have hby := Bd.bytes
  have hml : c.maxLocals = 1 := hml0
  have hown : s.vm.findClass "com/example/claimroll/claimroll/PaymentRequestStatus" = some m.cls := findClass_of_methodNamed Bd.named
  have hnm := (name_of_methodNamed Bd.named Bd.method).1
  have X0 : Stand p l e ({ frames := 1, cells := 0, slots := 0, locals := 12 } : Room) s m #[(.ref x0)] below meth c s₁ [] 0 0 := Stand.of_body Bd
  have e0 : s₁.heap = h0 := by rw [← hh, Bd.state]; rfl
  have N0 := Fr.nil n0
  have pre0 : ∀ t, Steps p.tables e below (s₁.setTop (mkF m 0 #[.val (.ref x0)] [])) t → Steps p.tables e below (s₁.setTop (entryFrame m #[(.ref x0)] 1)) t := fun t k => castTop (efi0 m x0) k
  have p1 : ∀ t, Steps p.tables e below (s₁.setTop (mkF m 1 #[.val (.ref x0)] [(.ref x0)])) t → Steps p.tables e below (s₁.setTop (entryFrame m #[(.ref x0)] 1)) t := fun t k => pre0 t (by
    show Steps p.tables e below (s₁.setTop (mkF m 0 #[.val (.ref x0)] [])) _
    refine XS.aloadN X0.here hx rfl (hb hby di0_0) rfl rfl ?_
    exact k)
  obtain ⟨cq2, kq2, qa2, qb2, qc2⟩ := isOf hZ e0 E0
  obtain ⟨_, _, ⟨T2, L2, k2, n2⟩, -, X2, ⟨Lc2, hQ2, l2, y2, z2⟩, st2⟩ := X0.virtualBackUp hx (x := (⟨"com/example/claimroll/claimroll/PaymentRequestStatus", "ordinal", "()I"⟩ : MethodName)) (y := (⟨"java/lang/Enum", "ordinal", "()I"⟩ : MethodName)) (owner := "java/lang/Enum") hown (mvT hZ (hw _ (List.mem_of_getElem? (i := 20) rfl))) (mvT hZ (hw _ (List.mem_of_getElem? (i := 21) rfl))) (mvT hZ (hw _ (List.mem_of_getElem? (i := 22) rfl))) (by decide) (mvT hZ (hw _ (List.mem_of_getElem? (i := 24) rfl))) (mvT hZ (hw _ (List.mem_of_getElem? (i := 23) rfl))) (backOf (W := 0) (rmo l Z a0 hw [] x0 (0 : Int32) h0 n0 Z0 F0) hZ (hw _ (List.mem_of_getElem? (i := 26) rfl)) (hw _ (List.mem_of_getElem? (i := 25) rfl)) (by decide) (by decide)) qa2 qc2 (g := (mkF m 1 #[.val (.ref x0)] [(.ref x0)])) rfl (by rw [hml]; rfl) (Steps.refl _) (argsL := []) (rest := []) (lenOf pdi0_0 rfl) rfl (by show 2 * 0 + _ ≤ _; exact Nat.le_of_eq rfl) (hb hby di0_1) (fun _ _ => ⟨rfl, e0, (by decide : 0 + 0 ≤ _), (by decide : 0 + 0 ≤ _)⟩)
  dsimp only [Pt.U, Pt.locs, Pt.cells, Pt.slots] at X2 l2 y2 z2 st2 hQ2
  subst l2 y2 z2
  obtain ⟨rfl, Nq2, e2⟩ := hQ2
  have N2 := Fr.app N0 Nq2
  have p3 : ∀ t, Steps p.tables e below (T2.setTop (mkF m 4 #[.val (.ref x0)] [(.int (0 : Int32))])) t → Steps p.tables e below (s₁.setTop (entryFrame m #[(.ref x0)] 1)) t := fun t k => p1 t (st2.trans k)
  have p4 : ∀ t, Steps p.tables e below (T2.setTop (mkF m 55 #[.val (.ref x0)] [(.int (1 : Int32))])) t → Steps p.tables e below (s₁.setTop (entryFrame m #[(.ref x0)] 1)) t := fun t k => p3 t (by
    show Steps p.tables e below (T2.setTop (mkF m 4 #[.val (.ref x0)] [(.int (0 : Int32))])) _
    refine XS.tswIn X2.here hx rfl (pc0 := 4) (pc' := 50) (o := 46) rfl (hb hby di0_4) rfl (by decide) (by decide) (by decide) (by decide) ?_
    show Steps p.tables e below (T2.setTop (mkF m 50 #[.val (.ref x0)] [])) _
    refine XS.iconst X2.here hx rfl (hb hby di0_50) ?_
    show Steps p.tables e below (T2.setTop (mkF m 51 #[.val (.ref x0)] [(.int (1 : Int32))])) _
    refine XS.goto X2.here hx rfl (pc0 := 51) (pc' := 55) rfl (hb hby di0_51) (by decide) (by decide) ?_
    exact k)
  obtain ⟨fs, hr, hrun, hended, hW, hsame⟩ := X2.leave (v := some (.int (1 : Int32))) (fun h => by rw [Bd.returns] at h; cases h)
  refine ⟨_, _, p4 _ ?_, hrun, hended, _, _, rfl, ?_, ⟨_, rfl⟩, hW, hsame.mono (by decide) (by decide)⟩
  · show Steps p.tables e below (T2.setTop (mkF m 55 #[.val (.ref x0)] [(.int (1 : Int32))])) _
    exact retN X2 hx (t := .boolean) Bd.returns (by simp) (hb hby di0_55) hr
  · show Qi0 Z x0 h0 n0 _ T2.heap _
    rw [e2]
    exact ⟨rfl, N2, rfl⟩
theorem di1_0 : decode prog_41_method_5_code 0 = .ok (.aload_n 0, 1) := by decide +kernel
theorem di1_1 : decode prog_41_method_5_code 1 = .ok (.invokevirtual 42, 3) := by decide +kernel
theorem di1_4 : decode prog_41_method_5_code 4 = .ok (.tableswitch 36 0 4 #[46, 46, 50, 50, 50], 36) := by decide +kernel
theorem di1_50 : decode prog_41_method_5_code 50 = .ok (.iconst 1, 1) := by decide +kernel
theorem di1_51 : decode prog_41_method_5_code 51 = .ok (.goto 4, 3) := by decide +kernel
theorem di1_55 : decode prog_41_method_5_code 55 = .ok (.ireturn, 1) := by decide +kernel
theorem pni1 : plainName "com/example/claimroll/claimroll/PaymentRequestStatus" = true := by first | (simp [plainName, overriddenIn]; done) | decide +kernel
theorem pdi1_0 : parseMethodDescriptor "()I" = some ⟨[], some .int⟩ := by decide +kernel
theorem efi1 (m : MethodId) (x0 : Addr) : entryFrame m #[(.ref x0)] 1 = mkF m 0 #[.val (.ref x0)] [] := by first | (simp [entryFrame, mkF, argsToLocals, Value.category]; done) | rfl
def Qi1 (Z : State) (x0 : Addr) (h0 : Heap) (n0 : Nat) (v : Option Value) (h : Heap) (L : List Loc) : Prop := v = some (.int (1 : Int32)) ∧ Fr n0 L ∧ h = h0
set_option maxRecDepth 65536 in
set_option maxHeartbeats 40000000 in
theorem rmi1 (l : Launch) (Z : State) (a0 : Array Value) (hw : ∀ d ∈ tables_1, d.before a0 Z = true) (ws : List Jvm.Cond) (x0 : Addr) (h0 : Heap) (n0 : Nat) (Z0 : n0 ≤ h0.size) (E0 : Exa Z h0 x0 "com/example/claimroll/claimroll/PaymentRequestStatus") (F0 : Fld Z h0 x0 "java/lang/Enum" "ordinal" "I" (.int (1 : Int32))) :
    MetFree l (⟨"com/example/claimroll/claimroll/PaymentRequestStatus", "isOutstanding", "()Z"⟩ : MethodName) (head1 (Jvm.Cond.code (⟨"com/example/claimroll/claimroll/PaymentRequestStatus", "isOutstanding", "()Z"⟩ : MethodName) prog_41_method_5_code 1 (some .boolean) :: ws) ({ frames := 1, cells := 0, slots := 0, locals := 12 } : Room)) (fun a U => a = #[(.ref x0)] ∧ Z.Warmed39 U.vm ∧ U.heap = h0) (fun _ _ _ _ _ => True) (fun _ U o U' => ∃ v L, o = .returned v ∧ Qi1 Z x0 h0 n0 v U'.heap L ∧ FrameEnd U o U' L ({ frames := 1, cells := 0, slots := 0, locals := 12 } : Room).cells ({ frames := 1, cells := 0, slots := 0, locals := 12 } : Room).slots) := by
  refine MetFree.of_bodySF (plainFor_of_name pni1) hisR ?_
  intro p e s m args below meth c s₁ Bd hml0 hP hK
  obtain ⟨rfl, hZ, hh⟩ := hP
  have hx := Bd.exec
  have hby := Bd.bytes
  have hml : c.maxLocals = 1 := hml0
  have hown : s.vm.findClass "com/example/claimroll/claimroll/PaymentRequestStatus" = some m.cls := findClass_of_methodNamed Bd.named
  have hnm := (name_of_methodNamed Bd.named Bd.method).1
  have X0 : Stand p l e ({ frames := 1, cells := 0, slots := 0, locals := 12 } : Room) s m #[(.ref x0)] below meth c s₁ [] 0 0 := Stand.of_body Bd
  have e0 : s₁.heap = h0 := by rw [← hh, Bd.state]; rfl
  have N0 := Fr.nil n0
  have pre0 : ∀ t, Steps p.tables e below (s₁.setTop (mkF m 0 #[.val (.ref x0)] [])) t → Steps p.tables e below (s₁.setTop (entryFrame m #[(.ref x0)] 1)) t := fun t k => castTop (efi1 m x0) k
  have p1 : ∀ t, Steps p.tables e below (s₁.setTop (mkF m 1 #[.val (.ref x0)] [(.ref x0)])) t → Steps p.tables e below (s₁.setTop (entryFrame m #[(.ref x0)] 1)) t := fun t k => pre0 t (by
    show Steps p.tables e below (s₁.setTop (mkF m 0 #[.val (.ref x0)] [])) _
    refine XS.aloadN X0.here hx rfl (hb hby di1_0) rfl rfl ?_
    exact k)
  obtain ⟨cq2, kq2, qa2, qb2, qc2⟩ := isOf hZ e0 E0
  obtain ⟨_, _, ⟨T2, L2, k2, n2⟩, -, X2, ⟨Lc2, hQ2, l2, y2, z2⟩, st2⟩ := X0.virtualBackUp hx (x := (⟨"com/example/claimroll/claimroll/PaymentRequestStatus", "ordinal", "()I"⟩ : MethodName)) (y := (⟨"java/lang/Enum", "ordinal", "()I"⟩ : MethodName)) (owner := "java/lang/Enum") hown (mvT hZ (hw _ (List.mem_of_getElem? (i := 20) rfl))) (mvT hZ (hw _ (List.mem_of_getElem? (i := 21) rfl))) (mvT hZ (hw _ (List.mem_of_getElem? (i := 22) rfl))) (by decide) (mvT hZ (hw _ (List.mem_of_getElem? (i := 24) rfl))) (mvT hZ (hw _ (List.mem_of_getElem? (i := 23) rfl))) (backOf (W := 0) (rmo l Z a0 hw [] x0 (1 : Int32) h0 n0 Z0 F0) hZ (hw _ (List.mem_of_getElem? (i := 26) rfl)) (hw _ (List.mem_of_getElem? (i := 25) rfl)) (by decide) (by decide)) qa2 qc2 (g := (mkF m 1 #[.val (.ref x0)] [(.ref x0)])) rfl (by rw [hml]; rfl) (Steps.refl _) (argsL := []) (rest := []) (lenOf pdi1_0 rfl) rfl (by show 2 * 0 + _ ≤ _; exact Nat.le_of_eq rfl) (hb hby di1_1) (fun _ _ => ⟨rfl, e0, (by decide : 0 + 0 ≤ _), (by decide : 0 + 0 ≤ _)⟩)
  dsimp only [Pt.U, Pt.locs, Pt.cells, Pt.slots] at X2 l2 y2 z2 st2 hQ2
  subst l2 y2 z2
  obtain ⟨rfl, Nq2, e2⟩ := hQ2
  have N2 := Fr.app N0 Nq2
  have p3 : ∀ t, Steps p.tables e below (T2.setTop (mkF m 4 #[.val (.ref x0)] [(.int (1 : Int32))])) t → Steps p.tables e below (s₁.setTop (entryFrame m #[(.ref x0)] 1)) t := fun t k => p1 t (st2.trans k)
  have p4 : ∀ t, Steps p.tables e below (T2.setTop (mkF m 55 #[.val (.ref x0)] [(.int (1 : Int32))])) t → Steps p.tables e below (s₁.setTop (entryFrame m #[(.ref x0)] 1)) t := fun t k => p3 t (by
    show Steps p.tables e below (T2.setTop (mkF m 4 #[.val (.ref x0)] [(.int (1 : Int32))])) _
    refine XS.tswIn X2.here hx rfl (pc0 := 4) (pc' := 50) (o := 46) rfl (hb hby di1_4) rfl (by decide) (by decide) (by decide) (by decide) ?_
    show Steps p.tables e below (T2.setTop (mkF m 50 #[.val (.ref x0)] [])) _
    refine XS.iconst X2.here hx rfl (hb hby di1_50) ?_
    show Steps p.tables e below (T2.setTop (mkF m 51 #[.val (.ref x0)] [(.int (1 : Int32))])) _
    refine XS.goto X2.here hx rfl (pc0 := 51) (pc' := 55) rfl (hb hby di1_51) (by decide) (by decide) ?_
    exact k)
  obtain ⟨fs, hr, hrun, hended, hW, hsame⟩ := X2.leave (v := some (.int (1 : Int32))) (fun h => by rw [Bd.returns] at h; cases h)
  refine ⟨_, _, p4 _ ?_, hrun, hended, _, _, rfl, ?_, ⟨_, rfl⟩, hW, hsame.mono (by decide) (by decide)⟩
  · show Steps p.tables e below (T2.setTop (mkF m 55 #[.val (.ref x0)] [(.int (1 : Int32))])) _
    exact retN X2 hx (t := .boolean) Bd.returns (by simp) (hb hby di1_55) hr
  · show Qi1 Z x0 h0 n0 _ T2.heap _
    rw [e2]
    exact ⟨rfl, N2, rfl⟩
theorem di2_0 : decode prog_41_method_5_code 0 = .ok (.aload_n 0, 1) := by decide +kernel
theorem di2_1 : decode prog_41_method_5_code 1 = .ok (.invokevirtual 42, 3) := by decide +kernel
theorem di2_4 : decode prog_41_method_5_code 4 = .ok (.tableswitch 36 0 4 #[46, 46, 50, 50, 50], 36) := by decide +kernel
theorem di2_54 : decode prog_41_method_5_code 54 = .ok (.iconst 0, 1) := by decide +kernel
theorem di2_55 : decode prog_41_method_5_code 55 = .ok (.ireturn, 1) := by decide +kernel
theorem pni2 : plainName "com/example/claimroll/claimroll/PaymentRequestStatus" = true := by first | (simp [plainName, overriddenIn]; done) | decide +kernel
theorem pdi2_0 : parseMethodDescriptor "()I" = some ⟨[], some .int⟩ := by decide +kernel
theorem efi2 (m : MethodId) (x0 : Addr) : entryFrame m #[(.ref x0)] 1 = mkF m 0 #[.val (.ref x0)] [] := by first | (simp [entryFrame, mkF, argsToLocals, Value.category]; done) | rfl
def Qi2 (Z : State) (x0 : Addr) (h0 : Heap) (n0 : Nat) (v : Option Value) (h : Heap) (L : List Loc) : Prop := v = some (.int (0 : Int32)) ∧ Fr n0 L ∧ h = h0
set_option maxRecDepth 65536 in
set_option maxHeartbeats 40000000 in
theorem rmi2 (l : Launch) (Z : State) (a0 : Array Value) (hw : ∀ d ∈ tables_1, d.before a0 Z = true) (ws : List Jvm.Cond) (x0 : Addr) (h0 : Heap) (n0 : Nat) (Z0 : n0 ≤ h0.size) (E0 : Exa Z h0 x0 "com/example/claimroll/claimroll/PaymentRequestStatus") (F0 : Fld Z h0 x0 "java/lang/Enum" "ordinal" "I" (.int (2 : Int32))) :
    MetFree l (⟨"com/example/claimroll/claimroll/PaymentRequestStatus", "isOutstanding", "()Z"⟩ : MethodName) (head1 (Jvm.Cond.code (⟨"com/example/claimroll/claimroll/PaymentRequestStatus", "isOutstanding", "()Z"⟩ : MethodName) prog_41_method_5_code 1 (some .boolean) :: ws) ({ frames := 1, cells := 0, slots := 0, locals := 12 } : Room)) (fun a U => a = #[(.ref x0)] ∧ Z.Warmed39 U.vm ∧ U.heap = h0) (fun _ _ _ _ _ => True) (fun _ U o U' => ∃ v L, o = .returned v ∧ Qi2 Z x0 h0 n0 v U'.heap L ∧ FrameEnd U o U' L ({ frames := 1, cells := 0, slots := 0, locals := 12 } : Room).cells ({ frames := 1, cells := 0, slots := 0, locals := 12 } : Room).slots) := by
  refine MetFree.of_bodySF (plainFor_of_name pni2) hisR ?_
  intro p e s m args below meth c s₁ Bd hml0 hP hK
  obtain ⟨rfl, hZ, hh⟩ := hP
  have hx := Bd.exec
  have hby := Bd.bytes
  have hml : c.maxLocals = 1 := hml0
  have hown : s.vm.findClass "com/example/claimroll/claimroll/PaymentRequestStatus" = some m.cls := findClass_of_methodNamed Bd.named
  have hnm := (name_of_methodNamed Bd.named Bd.method).1
  have X0 : Stand p l e ({ frames := 1, cells := 0, slots := 0, locals := 12 } : Room) s m #[(.ref x0)] below meth c s₁ [] 0 0 := Stand.of_body Bd
  have e0 : s₁.heap = h0 := by rw [← hh, Bd.state]; rfl
  have N0 := Fr.nil n0
  have pre0 : ∀ t, Steps p.tables e below (s₁.setTop (mkF m 0 #[.val (.ref x0)] [])) t → Steps p.tables e below (s₁.setTop (entryFrame m #[(.ref x0)] 1)) t := fun t k => castTop (efi2 m x0) k
  have p1 : ∀ t, Steps p.tables e below (s₁.setTop (mkF m 1 #[.val (.ref x0)] [(.ref x0)])) t → Steps p.tables e below (s₁.setTop (entryFrame m #[(.ref x0)] 1)) t := fun t k => pre0 t (by
    show Steps p.tables e below (s₁.setTop (mkF m 0 #[.val (.ref x0)] [])) _
    refine XS.aloadN X0.here hx rfl (hb hby di2_0) rfl rfl ?_
    exact k)
  obtain ⟨cq2, kq2, qa2, qb2, qc2⟩ := isOf hZ e0 E0
  obtain ⟨_, _, ⟨T2, L2, k2, n2⟩, -, X2, ⟨Lc2, hQ2, l2, y2, z2⟩, st2⟩ := X0.virtualBackUp hx (x := (⟨"com/example/claimroll/claimroll/PaymentRequestStatus", "ordinal", "()I"⟩ : MethodName)) (y := (⟨"java/lang/Enum", "ordinal", "()I"⟩ : MethodName)) (owner := "java/lang/Enum") hown (mvT hZ (hw _ (List.mem_of_getElem? (i := 20) rfl))) (mvT hZ (hw _ (List.mem_of_getElem? (i := 21) rfl))) (mvT hZ (hw _ (List.mem_of_getElem? (i := 22) rfl))) (by decide) (mvT hZ (hw _ (List.mem_of_getElem? (i := 24) rfl))) (mvT hZ (hw _ (List.mem_of_getElem? (i := 23) rfl))) (backOf (W := 0) (rmo l Z a0 hw [] x0 (2 : Int32) h0 n0 Z0 F0) hZ (hw _ (List.mem_of_getElem? (i := 26) rfl)) (hw _ (List.mem_of_getElem? (i := 25) rfl)) (by decide) (by decide)) qa2 qc2 (g := (mkF m 1 #[.val (.ref x0)] [(.ref x0)])) rfl (by rw [hml]; rfl) (Steps.refl _) (argsL := []) (rest := []) (lenOf pdi2_0 rfl) rfl (by show 2 * 0 + _ ≤ _; exact Nat.le_of_eq rfl) (hb hby di2_1) (fun _ _ => ⟨rfl, e0, (by decide : 0 + 0 ≤ _), (by decide : 0 + 0 ≤ _)⟩)
  dsimp only [Pt.U, Pt.locs, Pt.cells, Pt.slots] at X2 l2 y2 z2 st2 hQ2
  subst l2 y2 z2
  obtain ⟨rfl, Nq2, e2⟩ := hQ2
  have N2 := Fr.app N0 Nq2
  have p3 : ∀ t, Steps p.tables e below (T2.setTop (mkF m 4 #[.val (.ref x0)] [(.int (2 : Int32))])) t → Steps p.tables e below (s₁.setTop (entryFrame m #[(.ref x0)] 1)) t := fun t k => p1 t (st2.trans k)
  have p4 : ∀ t, Steps p.tables e below (T2.setTop (mkF m 55 #[.val (.ref x0)] [(.int (0 : Int32))])) t → Steps p.tables e below (s₁.setTop (entryFrame m #[(.ref x0)] 1)) t := fun t k => p3 t (by
    show Steps p.tables e below (T2.setTop (mkF m 4 #[.val (.ref x0)] [(.int (2 : Int32))])) _
    refine XS.tswIn X2.here hx rfl (pc0 := 4) (pc' := 54) (o := 50) rfl (hb hby di2_4) rfl (by decide) (by decide) (by decide) (by decide) ?_
    show Steps p.tables e below (T2.setTop (mkF m 54 #[.val (.ref x0)] [])) _
    refine XS.iconst X2.here hx rfl (hb hby di2_54) ?_
    exact k)
  obtain ⟨fs, hr, hrun, hended, hW, hsame⟩ := X2.leave (v := some (.int (0 : Int32))) (fun h => by rw [Bd.returns] at h; cases h)
  refine ⟨_, _, p4 _ ?_, hrun, hended, _, _, rfl, ?_, ⟨_, rfl⟩, hW, hsame.mono (by decide) (by decide)⟩
  · show Steps p.tables e below (T2.setTop (mkF m 55 #[.val (.ref x0)] [(.int (0 : Int32))])) _
    exact retN X2 hx (t := .boolean) Bd.returns (by simp) (hb hby di2_55) hr
  · show Qi2 Z x0 h0 n0 _ T2.heap _
    rw [e2]
    exact ⟨rfl, N2, rfl⟩
theorem di3_0 : decode prog_41_method_5_code 0 = .ok (.aload_n 0, 1) := by decide +kernel
theorem di3_1 : decode prog_41_method_5_code 1 = .ok (.invokevirtual 42, 3) := by decide +kernel
theorem di3_4 : decode prog_41_method_5_code 4 = .ok (.tableswitch 36 0 4 #[46, 46, 50, 50, 50], 36) := by decide +kernel
theorem di3_54 : decode prog_41_method_5_code 54 = .ok (.iconst 0, 1) := by decide +kernel
theorem di3_55 : decode prog_41_method_5_code 55 = .ok (.ireturn, 1) := by decide +kernel
theorem pni3 : plainName "com/example/claimroll/claimroll/PaymentRequestStatus" = true := by first | (simp [plainName, overriddenIn]; done) | decide +kernel
theorem pdi3_0 : parseMethodDescriptor "()I" = some ⟨[], some .int⟩ := by decide +kernel
theorem efi3 (m : MethodId) (x0 : Addr) : entryFrame m #[(.ref x0)] 1 = mkF m 0 #[.val (.ref x0)] [] := by first | (simp [entryFrame, mkF, argsToLocals, Value.category]; done) | rfl
def Qi3 (Z : State) (x0 : Addr) (h0 : Heap) (n0 : Nat) (v : Option Value) (h : Heap) (L : List Loc) : Prop := v = some (.int (0 : Int32)) ∧ Fr n0 L ∧ h = h0
set_option maxRecDepth 65536 in
set_option maxHeartbeats 40000000 in
theorem rmi3 (l : Launch) (Z : State) (a0 : Array Value) (hw : ∀ d ∈ tables_1, d.before a0 Z = true) (ws : List Jvm.Cond) (x0 : Addr) (h0 : Heap) (n0 : Nat) (Z0 : n0 ≤ h0.size) (E0 : Exa Z h0 x0 "com/example/claimroll/claimroll/PaymentRequestStatus") (F0 : Fld Z h0 x0 "java/lang/Enum" "ordinal" "I" (.int (3 : Int32))) :
    MetFree l (⟨"com/example/claimroll/claimroll/PaymentRequestStatus", "isOutstanding", "()Z"⟩ : MethodName) (head1 (Jvm.Cond.code (⟨"com/example/claimroll/claimroll/PaymentRequestStatus", "isOutstanding", "()Z"⟩ : MethodName) prog_41_method_5_code 1 (some .boolean) :: ws) ({ frames := 1, cells := 0, slots := 0, locals := 12 } : Room)) (fun a U => a = #[(.ref x0)] ∧ Z.Warmed39 U.vm ∧ U.heap = h0) (fun _ _ _ _ _ => True) (fun _ U o U' => ∃ v L, o = .returned v ∧ Qi3 Z x0 h0 n0 v U'.heap L ∧ FrameEnd U o U' L ({ frames := 1, cells := 0, slots := 0, locals := 12 } : Room).cells ({ frames := 1, cells := 0, slots := 0, locals := 12 } : Room).slots) := by
  refine MetFree.of_bodySF (plainFor_of_name pni3) hisR ?_
  intro p e s m args below meth c s₁ Bd hml0 hP hK
  obtain ⟨rfl, hZ, hh⟩ := hP
  have hx := Bd.exec
  have hby := Bd.bytes
  have hml : c.maxLocals = 1 := hml0
  have hown : s.vm.findClass "com/example/claimroll/claimroll/PaymentRequestStatus" = some m.cls := findClass_of_methodNamed Bd.named
  have hnm := (name_of_methodNamed Bd.named Bd.method).1
  have X0 : Stand p l e ({ frames := 1, cells := 0, slots := 0, locals := 12 } : Room) s m #[(.ref x0)] below meth c s₁ [] 0 0 := Stand.of_body Bd
  have e0 : s₁.heap = h0 := by rw [← hh, Bd.state]; rfl
  have N0 := Fr.nil n0
  have pre0 : ∀ t, Steps p.tables e below (s₁.setTop (mkF m 0 #[.val (.ref x0)] [])) t → Steps p.tables e below (s₁.setTop (entryFrame m #[(.ref x0)] 1)) t := fun t k => castTop (efi3 m x0) k
  have p1 : ∀ t, Steps p.tables e below (s₁.setTop (mkF m 1 #[.val (.ref x0)] [(.ref x0)])) t → Steps p.tables e below (s₁.setTop (entryFrame m #[(.ref x0)] 1)) t := fun t k => pre0 t (by
    show Steps p.tables e below (s₁.setTop (mkF m 0 #[.val (.ref x0)] [])) _
    refine XS.aloadN X0.here hx rfl (hb hby di3_0) rfl rfl ?_
    exact k)
  obtain ⟨cq2, kq2, qa2, qb2, qc2⟩ := isOf hZ e0 E0
  obtain ⟨_, _, ⟨T2, L2, k2, n2⟩, -, X2, ⟨Lc2, hQ2, l2, y2, z2⟩, st2⟩ := X0.virtualBackUp hx (x := (⟨"com/example/claimroll/claimroll/PaymentRequestStatus", "ordinal", "()I"⟩ : MethodName)) (y := (⟨"java/lang/Enum", "ordinal", "()I"⟩ : MethodName)) (owner := "java/lang/Enum") hown (mvT hZ (hw _ (List.mem_of_getElem? (i := 20) rfl))) (mvT hZ (hw _ (List.mem_of_getElem? (i := 21) rfl))) (mvT hZ (hw _ (List.mem_of_getElem? (i := 22) rfl))) (by decide) (mvT hZ (hw _ (List.mem_of_getElem? (i := 24) rfl))) (mvT hZ (hw _ (List.mem_of_getElem? (i := 23) rfl))) (backOf (W := 0) (rmo l Z a0 hw [] x0 (3 : Int32) h0 n0 Z0 F0) hZ (hw _ (List.mem_of_getElem? (i := 26) rfl)) (hw _ (List.mem_of_getElem? (i := 25) rfl)) (by decide) (by decide)) qa2 qc2 (g := (mkF m 1 #[.val (.ref x0)] [(.ref x0)])) rfl (by rw [hml]; rfl) (Steps.refl _) (argsL := []) (rest := []) (lenOf pdi3_0 rfl) rfl (by show 2 * 0 + _ ≤ _; exact Nat.le_of_eq rfl) (hb hby di3_1) (fun _ _ => ⟨rfl, e0, (by decide : 0 + 0 ≤ _), (by decide : 0 + 0 ≤ _)⟩)
  dsimp only [Pt.U, Pt.locs, Pt.cells, Pt.slots] at X2 l2 y2 z2 st2 hQ2
  subst l2 y2 z2
  obtain ⟨rfl, Nq2, e2⟩ := hQ2
  have N2 := Fr.app N0 Nq2
  have p3 : ∀ t, Steps p.tables e below (T2.setTop (mkF m 4 #[.val (.ref x0)] [(.int (3 : Int32))])) t → Steps p.tables e below (s₁.setTop (entryFrame m #[(.ref x0)] 1)) t := fun t k => p1 t (st2.trans k)
  have p4 : ∀ t, Steps p.tables e below (T2.setTop (mkF m 55 #[.val (.ref x0)] [(.int (0 : Int32))])) t → Steps p.tables e below (s₁.setTop (entryFrame m #[(.ref x0)] 1)) t := fun t k => p3 t (by
    show Steps p.tables e below (T2.setTop (mkF m 4 #[.val (.ref x0)] [(.int (3 : Int32))])) _
    refine XS.tswIn X2.here hx rfl (pc0 := 4) (pc' := 54) (o := 50) rfl (hb hby di3_4) rfl (by decide) (by decide) (by decide) (by decide) ?_
    show Steps p.tables e below (T2.setTop (mkF m 54 #[.val (.ref x0)] [])) _
    refine XS.iconst X2.here hx rfl (hb hby di3_54) ?_
    exact k)
  obtain ⟨fs, hr, hrun, hended, hW, hsame⟩ := X2.leave (v := some (.int (0 : Int32))) (fun h => by rw [Bd.returns] at h; cases h)
  refine ⟨_, _, p4 _ ?_, hrun, hended, _, _, rfl, ?_, ⟨_, rfl⟩, hW, hsame.mono (by decide) (by decide)⟩
  · show Steps p.tables e below (T2.setTop (mkF m 55 #[.val (.ref x0)] [(.int (0 : Int32))])) _
    exact retN X2 hx (t := .boolean) Bd.returns (by simp) (hb hby di3_55) hr
  · show Qi3 Z x0 h0 n0 _ T2.heap _
    rw [e2]
    exact ⟨rfl, N2, rfl⟩
theorem di4_0 : decode prog_41_method_5_code 0 = .ok (.aload_n 0, 1) := by decide +kernel
theorem di4_1 : decode prog_41_method_5_code 1 = .ok (.invokevirtual 42, 3) := by decide +kernel
theorem di4_4 : decode prog_41_method_5_code 4 = .ok (.tableswitch 36 0 4 #[46, 46, 50, 50, 50], 36) := by decide +kernel
theorem di4_54 : decode prog_41_method_5_code 54 = .ok (.iconst 0, 1) := by decide +kernel
theorem di4_55 : decode prog_41_method_5_code 55 = .ok (.ireturn, 1) := by decide +kernel
theorem pni4 : plainName "com/example/claimroll/claimroll/PaymentRequestStatus" = true := by first | (simp [plainName, overriddenIn]; done) | decide +kernel
theorem pdi4_0 : parseMethodDescriptor "()I" = some ⟨[], some .int⟩ := by decide +kernel
theorem efi4 (m : MethodId) (x0 : Addr) : entryFrame m #[(.ref x0)] 1 = mkF m 0 #[.val (.ref x0)] [] := by first | (simp [entryFrame, mkF, argsToLocals, Value.category]; done) | rfl
def Qi4 (Z : State) (x0 : Addr) (h0 : Heap) (n0 : Nat) (v : Option Value) (h : Heap) (L : List Loc) : Prop := v = some (.int (0 : Int32)) ∧ Fr n0 L ∧ h = h0
set_option maxRecDepth 65536 in
set_option maxHeartbeats 40000000 in
theorem rmi4 (l : Launch) (Z : State) (a0 : Array Value) (hw : ∀ d ∈ tables_1, d.before a0 Z = true) (ws : List Jvm.Cond) (x0 : Addr) (h0 : Heap) (n0 : Nat) (Z0 : n0 ≤ h0.size) (E0 : Exa Z h0 x0 "com/example/claimroll/claimroll/PaymentRequestStatus") (F0 : Fld Z h0 x0 "java/lang/Enum" "ordinal" "I" (.int (4 : Int32))) :
    MetFree l (⟨"com/example/claimroll/claimroll/PaymentRequestStatus", "isOutstanding", "()Z"⟩ : MethodName) (head1 (Jvm.Cond.code (⟨"com/example/claimroll/claimroll/PaymentRequestStatus", "isOutstanding", "()Z"⟩ : MethodName) prog_41_method_5_code 1 (some .boolean) :: ws) ({ frames := 1, cells := 0, slots := 0, locals := 12 } : Room)) (fun a U => a = #[(.ref x0)] ∧ Z.Warmed39 U.vm ∧ U.heap = h0) (fun _ _ _ _ _ => True) (fun _ U o U' => ∃ v L, o = .returned v ∧ Qi4 Z x0 h0 n0 v U'.heap L ∧ FrameEnd U o U' L ({ frames := 1, cells := 0, slots := 0, locals := 12 } : Room).cells ({ frames := 1, cells := 0, slots := 0, locals := 12 } : Room).slots) := by
  refine MetFree.of_bodySF (plainFor_of_name pni4) hisR ?_
  intro p e s m args below meth c s₁ Bd hml0 hP hK
  obtain ⟨rfl, hZ, hh⟩ := hP
  have hx := Bd.exec
  have hby := Bd.bytes
  have hml : c.maxLocals = 1 := hml0
  have hown : s.vm.findClass "com/example/claimroll/claimroll/PaymentRequestStatus" = some m.cls := findClass_of_methodNamed Bd.named
  have hnm := (name_of_methodNamed Bd.named Bd.method).1
  have X0 : Stand p l e ({ frames := 1, cells := 0, slots := 0, locals := 12 } : Room) s m #[(.ref x0)] below meth c s₁ [] 0 0 := Stand.of_body Bd
  have e0 : s₁.heap = h0 := by rw [← hh, Bd.state]; rfl
  have N0 := Fr.nil n0
  have pre0 : ∀ t, Steps p.tables e below (s₁.setTop (mkF m 0 #[.val (.ref x0)] [])) t → Steps p.tables e below (s₁.setTop (entryFrame m #[(.ref x0)] 1)) t := fun t k => castTop (efi4 m x0) k
  have p1 : ∀ t, Steps p.tables e below (s₁.setTop (mkF m 1 #[.val (.ref x0)] [(.ref x0)])) t → Steps p.tables e below (s₁.setTop (entryFrame m #[(.ref x0)] 1)) t := fun t k => pre0 t (by
    show Steps p.tables e below (s₁.setTop (mkF m 0 #[.val (.ref x0)] [])) _
    refine XS.aloadN X0.here hx rfl (hb hby di4_0) rfl rfl ?_
    exact k)
  obtain ⟨cq2, kq2, qa2, qb2, qc2⟩ := isOf hZ e0 E0
  obtain ⟨_, _, ⟨T2, L2, k2, n2⟩, -, X2, ⟨Lc2, hQ2, l2, y2, z2⟩, st2⟩ := X0.virtualBackUp hx (x := (⟨"com/example/claimroll/claimroll/PaymentRequestStatus", "ordinal", "()I"⟩ : MethodName)) (y := (⟨"java/lang/Enum", "ordinal", "()I"⟩ : MethodName)) (owner := "java/lang/Enum") hown (mvT hZ (hw _ (List.mem_of_getElem? (i := 20) rfl))) (mvT hZ (hw _ (List.mem_of_getElem? (i := 21) rfl))) (mvT hZ (hw _ (List.mem_of_getElem? (i := 22) rfl))) (by decide) (mvT hZ (hw _ (List.mem_of_getElem? (i := 24) rfl))) (mvT hZ (hw _ (List.mem_of_getElem? (i := 23) rfl))) (backOf (W := 0) (rmo l Z a0 hw [] x0 (4 : Int32) h0 n0 Z0 F0) hZ (hw _ (List.mem_of_getElem? (i := 26) rfl)) (hw _ (List.mem_of_getElem? (i := 25) rfl)) (by decide) (by decide)) qa2 qc2 (g := (mkF m 1 #[.val (.ref x0)] [(.ref x0)])) rfl (by rw [hml]; rfl) (Steps.refl _) (argsL := []) (rest := []) (lenOf pdi4_0 rfl) rfl (by show 2 * 0 + _ ≤ _; exact Nat.le_of_eq rfl) (hb hby di4_1) (fun _ _ => ⟨rfl, e0, (by decide : 0 + 0 ≤ _), (by decide : 0 + 0 ≤ _)⟩)
  dsimp only [Pt.U, Pt.locs, Pt.cells, Pt.slots] at X2 l2 y2 z2 st2 hQ2
  subst l2 y2 z2
  obtain ⟨rfl, Nq2, e2⟩ := hQ2
  have N2 := Fr.app N0 Nq2
  have p3 : ∀ t, Steps p.tables e below (T2.setTop (mkF m 4 #[.val (.ref x0)] [(.int (4 : Int32))])) t → Steps p.tables e below (s₁.setTop (entryFrame m #[(.ref x0)] 1)) t := fun t k => p1 t (st2.trans k)
  have p4 : ∀ t, Steps p.tables e below (T2.setTop (mkF m 55 #[.val (.ref x0)] [(.int (0 : Int32))])) t → Steps p.tables e below (s₁.setTop (entryFrame m #[(.ref x0)] 1)) t := fun t k => p3 t (by
    show Steps p.tables e below (T2.setTop (mkF m 4 #[.val (.ref x0)] [(.int (4 : Int32))])) _
    refine XS.tswIn X2.here hx rfl (pc0 := 4) (pc' := 54) (o := 50) rfl (hb hby di4_4) rfl (by decide) (by decide) (by decide) (by decide) ?_
    show Steps p.tables e below (T2.setTop (mkF m 54 #[.val (.ref x0)] [])) _
    refine XS.iconst X2.here hx rfl (hb hby di4_54) ?_
    exact k)
  obtain ⟨fs, hr, hrun, hended, hW, hsame⟩ := X2.leave (v := some (.int (0 : Int32))) (fun h => by rw [Bd.returns] at h; cases h)
  refine ⟨_, _, p4 _ ?_, hrun, hended, _, _, rfl, ?_, ⟨_, rfl⟩, hW, hsame.mono (by decide) (by decide)⟩
  · show Steps p.tables e below (T2.setTop (mkF m 55 #[.val (.ref x0)] [(.int (0 : Int32))])) _
    exact retN X2 hx (t := .boolean) Bd.returns (by simp) (hb hby di4_55) hr
  · show Qi4 Z x0 h0 n0 _ T2.heap _
    rw [e2]
    exact ⟨rfl, N2, rfl⟩
theorem pn0 : plainName "com/example/claimroll/claimroll/PaymentRequestStatusIsOutstandingPinLaw" = true := by first | (simp [plainName, overriddenIn]; done) | decide +kernel
theorem pd0_0 : parseMethodDescriptor "()Z" = some ⟨[], some .boolean⟩ := by decide +kernel
theorem ef0 (m : MethodId) (x0 : Int32) : entryFrame m #[(.int x0)] maxLocals = mkF m 0 #[.val (.int x0), .unset, .unset, .unset, .unset, .unset] [] := by first | (simp [entryFrame, mkF, argsToLocals, Value.category, maxLocals]; done) | rfl
def Q0 (Z : State) (x0 : Int32) (a_AWAITING_APPROVAL : Addr) (a_PENDING_PAYMENT : Addr) (a_REJECTED : Addr) (a_PAID : Addr) (a_CANCELLED : Addr) (h0 : Heap) (n0 : Nat) (v : Option Value) (h : Heap) (L : List Loc) : Prop := v = some (.int (1 : Int32)) ∧ Fr n0 L
set_option maxRecDepth 65536 in
set_option maxHeartbeats 40000000 in
theorem rm0 (l : Launch) (Z : State) (a0 : Array Value) (hw : ∀ d ∈ tables_1, d.before a0 Z = true) (ws : List Jvm.Cond) (x0 : Int32) (a_AWAITING_APPROVAL : Addr) (a_PENDING_PAYMENT : Addr) (a_REJECTED : Addr) (a_PAID : Addr) (a_CANCELLED : Addr) (h0 : Heap) (n0 : Nat) (Z0 : n0 ≤ h0.size) (S_AWAITING_APPROVAL : Sta Z h0 "com/example/claimroll/claimroll/PaymentRequestStatus" "AWAITING_APPROVAL" "Lcom/example/claimroll/claimroll/PaymentRequestStatus;" (.ref a_AWAITING_APPROVAL)) (S_PENDING_PAYMENT : Sta Z h0 "com/example/claimroll/claimroll/PaymentRequestStatus" "PENDING_PAYMENT" "Lcom/example/claimroll/claimroll/PaymentRequestStatus;" (.ref a_PENDING_PAYMENT)) (S_REJECTED : Sta Z h0 "com/example/claimroll/claimroll/PaymentRequestStatus" "REJECTED" "Lcom/example/claimroll/claimroll/PaymentRequestStatus;" (.ref a_REJECTED)) (S_PAID : Sta Z h0 "com/example/claimroll/claimroll/PaymentRequestStatus" "PAID" "Lcom/example/claimroll/claimroll/PaymentRequestStatus;" (.ref a_PAID)) (S_CANCELLED : Sta Z h0 "com/example/claimroll/claimroll/PaymentRequestStatus" "CANCELLED" "Lcom/example/claimroll/claimroll/PaymentRequestStatus;" (.ref a_CANCELLED)) (E_AWAITING_APPROVAL : Exa Z h0 a_AWAITING_APPROVAL "com/example/claimroll/claimroll/PaymentRequestStatus") (E_PENDING_PAYMENT : Exa Z h0 a_PENDING_PAYMENT "com/example/claimroll/claimroll/PaymentRequestStatus") (E_REJECTED : Exa Z h0 a_REJECTED "com/example/claimroll/claimroll/PaymentRequestStatus") (E_PAID : Exa Z h0 a_PAID "com/example/claimroll/claimroll/PaymentRequestStatus") (E_CANCELLED : Exa Z h0 a_CANCELLED "com/example/claimroll/claimroll/PaymentRequestStatus") (O_ordinal_AWAITING_APPROVAL : Fld Z h0 a_AWAITING_APPROVAL "java/lang/Enum" "ordinal" "I" (.int (0 : Int32))) (O_ordinal_PENDING_PAYMENT : Fld Z h0 a_PENDING_PAYMENT "java/lang/Enum" "ordinal" "I" (.int (1 : Int32))) (O_ordinal_REJECTED : Fld Z h0 a_REJECTED "java/lang/Enum" "ordinal" "I" (.int (2 : Int32))) (O_ordinal_PAID : Fld Z h0 a_PAID "java/lang/Enum" "ordinal" "I" (.int (3 : Int32))) (O_ordinal_CANCELLED : Fld Z h0 a_CANCELLED "java/lang/Enum" "ordinal" "I" (.int (4 : Int32))) :
    MetFree l x (head1 (Jvm.Cond.code x code maxLocals ret :: ws) room_1) (fun a U => a = #[(.int x0)] ∧ Z.Warmed39 U.vm ∧ U.heap = h0) (fun _ _ _ _ _ => True) (fun _ U o U' => ∃ v L, o = .returned v ∧ Q0 Z x0 a_AWAITING_APPROVAL a_PENDING_PAYMENT a_REJECTED a_PAID a_CANCELLED h0 n0 v U'.heap L ∧ FrameEnd U o U' L room_1.cells room_1.slots) := by
  refine MetFree.of_bodySF (plainFor_of_name pn0) hisR ?_
  intro p e s m args below meth c s₁ Bd hml0 hP hK
  obtain ⟨rfl, hZ, hh⟩ := hP
  have hx := Bd.exec
  have hby := Bd.bytes
  have hml : c.maxLocals = 6 := hml0
  have hown : s.vm.findClass "com/example/claimroll/claimroll/PaymentRequestStatusIsOutstandingPinLaw" = some m.cls := findClass_of_methodNamed Bd.named
  have hnm := (name_of_methodNamed Bd.named Bd.method).1
  have X0 : Stand p l e room_1 s m #[(.int x0)] below meth c s₁ [] 0 0 := Stand.of_body Bd
  have e0 : s₁.heap = h0 := by rw [← hh, Bd.state]; rfl
  have N0 := Fr.nil n0
  have pre0 : ∀ t, Steps p.tables e below (s₁.setTop (mkF m 0 #[.val (.int x0), .unset, .unset, .unset, .unset, .unset] [])) t → Steps p.tables e below (s₁.setTop (entryFrame m #[(.int x0)] maxLocals)) t := fun t k => castTop (ef0 m x0) k
  have p1 : ∀ t, Steps p.tables e below (s₁.setTop (mkF m 1 #[.val (.int x0), .unset, .unset, .unset, .unset, .unset] [(.int (5 : Int32))])) t → Steps p.tables e below (s₁.setTop (entryFrame m #[(.int x0)] maxLocals)) t := fun t k => pre0 t (by
    show Steps p.tables e below (s₁.setTop (mkF m 0 #[.val (.int x0), .unset, .unset, .unset, .unset, .unset] [])) _
    refine XS.iconst X0.here hx rfl (hb hby at_0) ?_
    exact k)
  obtain ⟨T2, h2, k2, X2, e2, E2, A2, O2, st2⟩ := newR X0 hx hZ hown (hw _ (List.mem_of_getElem? (i := 0) rfl)) (hw _ (List.mem_of_getElem? (i := 1) rfl)) e0 (g := (mkF m 1 #[.val (.int x0), .unset, .unset, .unset, .unset, .unset] [(.int (5 : Int32))])) rfl (hb hby at_1) rfl (by decide) (cap := 5) (by decide) (by decide) (by decide) (by decide)
  obtain ⟨b2, g2⟩ : ∃ z, z = h0.size := ⟨_, rfl⟩
  rw [← g2] at A2 st2
  have gn_b2 : n0 ≤ b2 := Nat.le_trans Z0 (Nat.le_of_eq g2.symm)
  have ne3 : a_AWAITING_APPROVAL ≠ b2 := Nat.ne_of_lt (Nat.lt_of_lt_of_le E_AWAITING_APPROVAL.lt (Nat.le_of_eq g2.symm))
  have ne4 : a_CANCELLED ≠ b2 := Nat.ne_of_lt (Nat.lt_of_lt_of_le E_CANCELLED.lt (Nat.le_of_eq g2.symm))
  have ne5 : a_PAID ≠ b2 := Nat.ne_of_lt (Nat.lt_of_lt_of_le E_PAID.lt (Nat.le_of_eq g2.symm))
  have ne6 : a_PENDING_PAYMENT ≠ b2 := Nat.ne_of_lt (Nat.lt_of_lt_of_le E_PENDING_PAYMENT.lt (Nat.le_of_eq g2.symm))
  have ne7 : a_REJECTED ≠ b2 := Nat.ne_of_lt (Nat.lt_of_lt_of_le E_REJECTED.lt (Nat.le_of_eq g2.symm))
  have f8 := S_AWAITING_APPROVAL.ext E2
  have f9 := E_AWAITING_APPROVAL.ext E2
  have f10 := O_ordinal_AWAITING_APPROVAL.ext E2
  have f11 := S_PENDING_PAYMENT.ext E2
  have f12 := E_PENDING_PAYMENT.ext E2
  have f13 := O_ordinal_PENDING_PAYMENT.ext E2
  have f14 := S_REJECTED.ext E2
  have f15 := E_REJECTED.ext E2
  have f16 := O_ordinal_REJECTED.ext E2
  have f17 := S_PAID.ext E2
  have f18 := E_PAID.ext E2
  have f19 := O_ordinal_PAID.ext E2
  have f20 := S_CANCELLED.ext E2
  have f21 := E_CANCELLED.ext E2
  have f22 := O_ordinal_CANCELLED.ext E2
  have Z2 := Nat.le_trans Z0 E2.1
  have VV2 : Arv Z h2 b2 k2 (.object "com/example/claimroll/claimroll/PaymentRequestStatus") (5 : Int32) [.null, .null, .null, .null, .null] .null := (Arv.new A2 (by decide)).pad (pad_rep [] .null 5)
  have p23 : ∀ t, Steps p.tables e below (T2.setTop (mkF m 4 #[.val (.int x0), .unset, .unset, .unset, .unset, .unset] [(.ref b2)])) t → Steps p.tables e below (s₁.setTop (entryFrame m #[(.int x0)] maxLocals)) t := fun t k => p1 t (st2 t k)
  have p24 : ∀ t, Steps p.tables e below (T2.setTop (mkF m 6 #[.val (.int x0), .unset, .unset, .unset, .unset, .unset] [(.int (0 : Int32)), (.ref b2), (.ref b2)])) t → Steps p.tables e below (s₁.setTop (entryFrame m #[(.int x0)] maxLocals)) t := fun t k => p23 t (by
    show Steps p.tables e below (T2.setTop (mkF m 4 #[.val (.int x0), .unset, .unset, .unset, .unset, .unset] [(.ref b2)])) _
    refine XS.dup X2.here hx rfl (hb hby at_4) rfl rfl ?_
    show Steps p.tables e below (T2.setTop (mkF m 5 #[.val (.int x0), .unset, .unset, .unset, .unset, .unset] [(.ref b2), (.ref b2)])) _
    refine XS.iconst X2.here hx rfl (hb hby at_5) ?_
    exact k)
  obtain ⟨T25, X25, e25, st25⟩ := getS2 X2 hx hZ hown (host := "") (Or.inl (hw _ (List.mem_of_getElem? (i := 2) rfl))) Via.refl e2 f8 (g := (mkF m 6 #[.val (.int x0), .unset, .unset, .unset, .unset, .unset] [(.int (0 : Int32)), (.ref b2), (.ref b2)])) rfl (hb hby at_6)
  have p26 : ∀ t, Steps p.tables e below (T25.setTop (mkF m 9 #[.val (.int x0), .unset, .unset, .unset, .unset, .unset] [(.ref a_AWAITING_APPROVAL), (.int (0 : Int32)), (.ref b2), (.ref b2)])) t → Steps p.tables e below (s₁.setTop (entryFrame m #[(.int x0)] maxLocals)) t := fun t k => p24 t (st25 t k)
  obtain ⟨cl27, Ar27, q27, Sz27, Ng27, Hs27, G27⟩ := id VV2
  have hin27 : ¬ ((0 : Int32) < 0 ∨ cl27.slots.size ≤ ((0 : Int32)).toNatClampNeg) := inb_of Sz27 (⟨by decide, by decide⟩)
  obtain ⟨T27, h27, X27, e27, W27, st27⟩ := stR X25 hx hZ e25 Ar27 (j := (0 : Int32)) hin27 rfl (Sto.ofV Ar27 q27 O2 (Ins.self f9)) (g := (mkF m 9 #[.val (.int x0), .unset, .unset, .unset, .unset, .unset] [(.ref a_AWAITING_APPROVAL), (.int (0 : Int32)), (.ref b2), (.ref b2)])) rfl rfl (hb hby at_9)
  have VV27 : Arv Z h27 b2 k2 (.object "com/example/claimroll/claimroll/PaymentRequestStatus") (5 : Int32) [(.ref a_AWAITING_APPROVAL), .null, .null, .null, .null] .null := Arv.set Ar27 q27 Sz27 Ng27 Hs27 G27 rfl W27 0 (by decide) (Nat.le_of_ble_eq_true rfl)
  have f28 := f8.wr W27
  have f29 := f9.wr W27
  have f30 := f10.other W27 (Or.inl ne3)
  have f31 := f11.wr W27
  have f32 := f12.wr W27
  have f33 := f13.other W27 (Or.inl ne6)
  have f34 := f14.wr W27
  have f35 := f15.wr W27
  have f36 := f16.other W27 (Or.inl ne7)
  have f37 := f17.wr W27
  have f38 := f18.wr W27
  have f39 := f19.other W27 (Or.inl ne5)
  have f40 := f20.wr W27
  have f41 := f21.wr W27
  have f42 := f22.other W27 (Or.inl ne4)
  have Z27 := Nat.le_trans Z2 (Keep.of_wr W27).1
  have N27 := Fr.snoc X27 N0 gn_b2
  have p43 : ∀ t, Steps p.tables e below (T27.setTop (mkF m 10 #[.val (.int x0), .unset, .unset, .unset, .unset, .unset] [(.ref b2)])) t → Steps p.tables e below (s₁.setTop (entryFrame m #[(.int x0)] maxLocals)) t := fun t k => p26 t (st27 t k)
  have p44 : ∀ t, Steps p.tables e below (T27.setTop (mkF m 12 #[.val (.int x0), .unset, .unset, .unset, .unset, .unset] [(.int (1 : Int32)), (.ref b2), (.ref b2)])) t → Steps p.tables e below (s₁.setTop (entryFrame m #[(.int x0)] maxLocals)) t := fun t k => p43 t (by
    show Steps p.tables e below (T27.setTop (mkF m 10 #[.val (.int x0), .unset, .unset, .unset, .unset, .unset] [(.ref b2)])) _
    refine XS.dup X27.here hx rfl (hb hby at_10) rfl rfl ?_
    show Steps p.tables e below (T27.setTop (mkF m 11 #[.val (.int x0), .unset, .unset, .unset, .unset, .unset] [(.ref b2), (.ref b2)])) _
    refine XS.iconst X27.here hx rfl (hb hby at_11) ?_
    exact k)
  obtain ⟨T45, X45, e45, st45⟩ := getS2 X27 hx hZ hown (host := "") (Or.inl (hw _ (List.mem_of_getElem? (i := 6) rfl))) Via.refl e27 f31 (g := (mkF m 12 #[.val (.int x0), .unset, .unset, .unset, .unset, .unset] [(.int (1 : Int32)), (.ref b2), (.ref b2)])) rfl (hb hby at_12)
  have p46 : ∀ t, Steps p.tables e below (T45.setTop (mkF m 15 #[.val (.int x0), .unset, .unset, .unset, .unset, .unset] [(.ref a_PENDING_PAYMENT), (.int (1 : Int32)), (.ref b2), (.ref b2)])) t → Steps p.tables e below (s₁.setTop (entryFrame m #[(.int x0)] maxLocals)) t := fun t k => p44 t (st45 t k)
  obtain ⟨cl47, Ar47, q47, Sz47, Ng47, Hs47, G47⟩ := id VV27
  have hin47 : ¬ ((1 : Int32) < 0 ∨ cl47.slots.size ≤ ((1 : Int32)).toNatClampNeg) := inb_of Sz47 (⟨by decide, by decide⟩)
  obtain ⟨T47, h47, X47, e47, W47, st47⟩ := stR X45 hx hZ e45 Ar47 (j := (1 : Int32)) hin47 rfl (Sto.ofV Ar47 q47 O2 (Ins.self f32)) (g := (mkF m 15 #[.val (.int x0), .unset, .unset, .unset, .unset, .unset] [(.ref a_PENDING_PAYMENT), (.int (1 : Int32)), (.ref b2), (.ref b2)])) rfl rfl (hb hby at_15)
  have VV47 : Arv Z h47 b2 k2 (.object "com/example/claimroll/claimroll/PaymentRequestStatus") (5 : Int32) [(.ref a_AWAITING_APPROVAL), (.ref a_PENDING_PAYMENT), .null, .null, .null] .null := Arv.set Ar47 q47 Sz47 Ng47 Hs47 G47 rfl W47 1 (by decide) (Nat.le_of_ble_eq_true rfl)
  have f48 := f28.wr W47
  have f49 := f29.wr W47
  have f50 := f30.other W47 (Or.inl ne3)
  have f51 := f31.wr W47
  have f52 := f32.wr W47
  have f53 := f33.other W47 (Or.inl ne6)
  have f54 := f34.wr W47
  have f55 := f35.wr W47
  have f56 := f36.other W47 (Or.inl ne7)
  have f57 := f37.wr W47
  have f58 := f38.wr W47
  have f59 := f39.other W47 (Or.inl ne5)
  have f60 := f40.wr W47
  have f61 := f41.wr W47
  have f62 := f42.other W47 (Or.inl ne4)
  have Z47 := Nat.le_trans Z27 (Keep.of_wr W47).1
  have N47 := Fr.snoc X47 N27 gn_b2
  have p63 : ∀ t, Steps p.tables e below (T47.setTop (mkF m 16 #[.val (.int x0), .unset, .unset, .unset, .unset, .unset] [(.ref b2)])) t → Steps p.tables e below (s₁.setTop (entryFrame m #[(.int x0)] maxLocals)) t := fun t k => p46 t (st47 t k)
  have p64 : ∀ t, Steps p.tables e below (T47.setTop (mkF m 18 #[.val (.int x0), .unset, .unset, .unset, .unset, .unset] [(.int (2 : Int32)), (.ref b2), (.ref b2)])) t → Steps p.tables e below (s₁.setTop (entryFrame m #[(.int x0)] maxLocals)) t := fun t k => p63 t (by
    show Steps p.tables e below (T47.setTop (mkF m 16 #[.val (.int x0), .unset, .unset, .unset, .unset, .unset] [(.ref b2)])) _
    refine XS.dup X47.here hx rfl (hb hby at_16) rfl rfl ?_
    show Steps p.tables e below (T47.setTop (mkF m 17 #[.val (.int x0), .unset, .unset, .unset, .unset, .unset] [(.ref b2), (.ref b2)])) _
    refine XS.iconst X47.here hx rfl (hb hby at_17) ?_
    exact k)
  obtain ⟨T65, X65, e65, st65⟩ := getS2 X47 hx hZ hown (host := "") (Or.inl (hw _ (List.mem_of_getElem? (i := 8) rfl))) Via.refl e47 f54 (g := (mkF m 18 #[.val (.int x0), .unset, .unset, .unset, .unset, .unset] [(.int (2 : Int32)), (.ref b2), (.ref b2)])) rfl (hb hby at_18)
  have p66 : ∀ t, Steps p.tables e below (T65.setTop (mkF m 21 #[.val (.int x0), .unset, .unset, .unset, .unset, .unset] [(.ref a_REJECTED), (.int (2 : Int32)), (.ref b2), (.ref b2)])) t → Steps p.tables e below (s₁.setTop (entryFrame m #[(.int x0)] maxLocals)) t := fun t k => p64 t (st65 t k)
  obtain ⟨cl67, Ar67, q67, Sz67, Ng67, Hs67, G67⟩ := id VV47
  have hin67 : ¬ ((2 : Int32) < 0 ∨ cl67.slots.size ≤ ((2 : Int32)).toNatClampNeg) := inb_of Sz67 (⟨by decide, by decide⟩)
  obtain ⟨T67, h67, X67, e67, W67, st67⟩ := stR X65 hx hZ e65 Ar67 (j := (2 : Int32)) hin67 rfl (Sto.ofV Ar67 q67 O2 (Ins.self f55)) (g := (mkF m 21 #[.val (.int x0), .unset, .unset, .unset, .unset, .unset] [(.ref a_REJECTED), (.int (2 : Int32)), (.ref b2), (.ref b2)])) rfl rfl (hb hby at_21)
  have VV67 : Arv Z h67 b2 k2 (.object "com/example/claimroll/claimroll/PaymentRequestStatus") (5 : Int32) [(.ref a_AWAITING_APPROVAL), (.ref a_PENDING_PAYMENT), (.ref a_REJECTED), .null, .null] .null := Arv.set Ar67 q67 Sz67 Ng67 Hs67 G67 rfl W67 2 (by decide) (Nat.le_of_ble_eq_true rfl)
  have f68 := f48.wr W67
  have f69 := f49.wr W67
  have f70 := f50.other W67 (Or.inl ne3)
  have f71 := f51.wr W67
  have f72 := f52.wr W67
  have f73 := f53.other W67 (Or.inl ne6)
  have f74 := f54.wr W67
  have f75 := f55.wr W67
  have f76 := f56.other W67 (Or.inl ne7)
  have f77 := f57.wr W67
  have f78 := f58.wr W67
  have f79 := f59.other W67 (Or.inl ne5)
  have f80 := f60.wr W67
  have f81 := f61.wr W67
  have f82 := f62.other W67 (Or.inl ne4)
  have Z67 := Nat.le_trans Z47 (Keep.of_wr W67).1
  have N67 := Fr.snoc X67 N47 gn_b2
  have p83 : ∀ t, Steps p.tables e below (T67.setTop (mkF m 22 #[.val (.int x0), .unset, .unset, .unset, .unset, .unset] [(.ref b2)])) t → Steps p.tables e below (s₁.setTop (entryFrame m #[(.int x0)] maxLocals)) t := fun t k => p66 t (st67 t k)
  have p84 : ∀ t, Steps p.tables e below (T67.setTop (mkF m 24 #[.val (.int x0), .unset, .unset, .unset, .unset, .unset] [(.int (3 : Int32)), (.ref b2), (.ref b2)])) t → Steps p.tables e below (s₁.setTop (entryFrame m #[(.int x0)] maxLocals)) t := fun t k => p83 t (by
    show Steps p.tables e below (T67.setTop (mkF m 22 #[.val (.int x0), .unset, .unset, .unset, .unset, .unset] [(.ref b2)])) _
    refine XS.dup X67.here hx rfl (hb hby at_22) rfl rfl ?_
    show Steps p.tables e below (T67.setTop (mkF m 23 #[.val (.int x0), .unset, .unset, .unset, .unset, .unset] [(.ref b2), (.ref b2)])) _
    refine XS.iconst X67.here hx rfl (hb hby at_23) ?_
    exact k)
  obtain ⟨T85, X85, e85, st85⟩ := getS2 X67 hx hZ hown (host := "") (Or.inl (hw _ (List.mem_of_getElem? (i := 10) rfl))) Via.refl e67 f77 (g := (mkF m 24 #[.val (.int x0), .unset, .unset, .unset, .unset, .unset] [(.int (3 : Int32)), (.ref b2), (.ref b2)])) rfl (hb hby at_24)
  have p86 : ∀ t, Steps p.tables e below (T85.setTop (mkF m 27 #[.val (.int x0), .unset, .unset, .unset, .unset, .unset] [(.ref a_PAID), (.int (3 : Int32)), (.ref b2), (.ref b2)])) t → Steps p.tables e below (s₁.setTop (entryFrame m #[(.int x0)] maxLocals)) t := fun t k => p84 t (st85 t k)
  obtain ⟨cl87, Ar87, q87, Sz87, Ng87, Hs87, G87⟩ := id VV67
  have hin87 : ¬ ((3 : Int32) < 0 ∨ cl87.slots.size ≤ ((3 : Int32)).toNatClampNeg) := inb_of Sz87 (⟨by decide, by decide⟩)
  obtain ⟨T87, h87, X87, e87, W87, st87⟩ := stR X85 hx hZ e85 Ar87 (j := (3 : Int32)) hin87 rfl (Sto.ofV Ar87 q87 O2 (Ins.self f78)) (g := (mkF m 27 #[.val (.int x0), .unset, .unset, .unset, .unset, .unset] [(.ref a_PAID), (.int (3 : Int32)), (.ref b2), (.ref b2)])) rfl rfl (hb hby at_27)
  have VV87 : Arv Z h87 b2 k2 (.object "com/example/claimroll/claimroll/PaymentRequestStatus") (5 : Int32) [(.ref a_AWAITING_APPROVAL), (.ref a_PENDING_PAYMENT), (.ref a_REJECTED), (.ref a_PAID), .null] .null := Arv.set Ar87 q87 Sz87 Ng87 Hs87 G87 rfl W87 3 (by decide) (Nat.le_of_ble_eq_true rfl)
  have f88 := f68.wr W87
  have f89 := f69.wr W87
  have f90 := f70.other W87 (Or.inl ne3)
  have f91 := f71.wr W87
  have f92 := f72.wr W87
  have f93 := f73.other W87 (Or.inl ne6)
  have f94 := f74.wr W87
  have f95 := f75.wr W87
  have f96 := f76.other W87 (Or.inl ne7)
  have f97 := f77.wr W87
  have f98 := f78.wr W87
  have f99 := f79.other W87 (Or.inl ne5)
  have f100 := f80.wr W87
  have f101 := f81.wr W87
  have f102 := f82.other W87 (Or.inl ne4)
  have Z87 := Nat.le_trans Z67 (Keep.of_wr W87).1
  have N87 := Fr.snoc X87 N67 gn_b2
  have p103 : ∀ t, Steps p.tables e below (T87.setTop (mkF m 28 #[.val (.int x0), .unset, .unset, .unset, .unset, .unset] [(.ref b2)])) t → Steps p.tables e below (s₁.setTop (entryFrame m #[(.int x0)] maxLocals)) t := fun t k => p86 t (st87 t k)
  have p104 : ∀ t, Steps p.tables e below (T87.setTop (mkF m 30 #[.val (.int x0), .unset, .unset, .unset, .unset, .unset] [(.int (4 : Int32)), (.ref b2), (.ref b2)])) t → Steps p.tables e below (s₁.setTop (entryFrame m #[(.int x0)] maxLocals)) t := fun t k => p103 t (by
    show Steps p.tables e below (T87.setTop (mkF m 28 #[.val (.int x0), .unset, .unset, .unset, .unset, .unset] [(.ref b2)])) _
    refine XS.dup X87.here hx rfl (hb hby at_28) rfl rfl ?_
    show Steps p.tables e below (T87.setTop (mkF m 29 #[.val (.int x0), .unset, .unset, .unset, .unset, .unset] [(.ref b2), (.ref b2)])) _
    refine XS.iconst X87.here hx rfl (hb hby at_29) ?_
    exact k)
  obtain ⟨T105, X105, e105, st105⟩ := getS2 X87 hx hZ hown (host := "") (Or.inl (hw _ (List.mem_of_getElem? (i := 12) rfl))) Via.refl e87 f100 (g := (mkF m 30 #[.val (.int x0), .unset, .unset, .unset, .unset, .unset] [(.int (4 : Int32)), (.ref b2), (.ref b2)])) rfl (hb hby at_30)
  have p106 : ∀ t, Steps p.tables e below (T105.setTop (mkF m 33 #[.val (.int x0), .unset, .unset, .unset, .unset, .unset] [(.ref a_CANCELLED), (.int (4 : Int32)), (.ref b2), (.ref b2)])) t → Steps p.tables e below (s₁.setTop (entryFrame m #[(.int x0)] maxLocals)) t := fun t k => p104 t (st105 t k)
  obtain ⟨cl107, Ar107, q107, Sz107, Ng107, Hs107, G107⟩ := id VV87
  have hin107 : ¬ ((4 : Int32) < 0 ∨ cl107.slots.size ≤ ((4 : Int32)).toNatClampNeg) := inb_of Sz107 (⟨by decide, by decide⟩)
  obtain ⟨T107, h107, X107, e107, W107, st107⟩ := stR X105 hx hZ e105 Ar107 (j := (4 : Int32)) hin107 rfl (Sto.ofV Ar107 q107 O2 (Ins.self f101)) (g := (mkF m 33 #[.val (.int x0), .unset, .unset, .unset, .unset, .unset] [(.ref a_CANCELLED), (.int (4 : Int32)), (.ref b2), (.ref b2)])) rfl rfl (hb hby at_33)
  have VV107 : Arv Z h107 b2 k2 (.object "com/example/claimroll/claimroll/PaymentRequestStatus") (5 : Int32) [(.ref a_AWAITING_APPROVAL), (.ref a_PENDING_PAYMENT), (.ref a_REJECTED), (.ref a_PAID), (.ref a_CANCELLED)] .null := Arv.set Ar107 q107 Sz107 Ng107 Hs107 G107 rfl W107 4 (by decide) (Nat.le_of_ble_eq_true rfl)
  have f108 := f88.wr W107
  have f109 := f89.wr W107
  have f110 := f90.other W107 (Or.inl ne3)
  have f111 := f91.wr W107
  have f112 := f92.wr W107
  have f113 := f93.other W107 (Or.inl ne6)
  have f114 := f94.wr W107
  have f115 := f95.wr W107
  have f116 := f96.other W107 (Or.inl ne7)
  have f117 := f97.wr W107
  have f118 := f98.wr W107
  have f119 := f99.other W107 (Or.inl ne5)
  have f120 := f100.wr W107
  have f121 := f101.wr W107
  have f122 := f102.other W107 (Or.inl ne4)
  have Z107 := Nat.le_trans Z87 (Keep.of_wr W107).1
  have N107 := Fr.snoc X107 N87 gn_b2
  have p123 : ∀ t, Steps p.tables e below (T107.setTop (mkF m 34 #[.val (.int x0), .unset, .unset, .unset, .unset, .unset] [(.ref b2)])) t → Steps p.tables e below (s₁.setTop (entryFrame m #[(.int x0)] maxLocals)) t := fun t k => p106 t (st107 t k)
  have p124 : ∀ t, Steps p.tables e below (T107.setTop (mkF m 42 #[.val (.int x0), .val (.ref b2), .val (.int ((x0 &&& (2147483647 : Int32)) % (5 : Int32))), .unset, .unset, .unset] [])) t → Steps p.tables e below (s₁.setTop (entryFrame m #[(.int x0)] maxLocals)) t := fun t k => p123 t (by
    show Steps p.tables e below (T107.setTop (mkF m 34 #[.val (.int x0), .unset, .unset, .unset, .unset, .unset] [(.ref b2)])) _
    refine XS.astoreN X107.here hx rfl (hb hby at_34) rfl rfl (l' := #[.val (.int x0), .val (.ref b2), .unset, .unset, .unset, .unset]) rfl ?_
    show Steps p.tables e below (T107.setTop (mkF m 35 #[.val (.int x0), .val (.ref b2), .unset, .unset, .unset, .unset] [])) _
    refine XS.iloadN X107.here hx rfl (hb hby at_35) rfl ?_
    show Steps p.tables e below (T107.setTop (mkF m 36 #[.val (.int x0), .val (.ref b2), .unset, .unset, .unset, .unset] [(.int x0)])) _
    refine X107.ldcInt hx hown (mvT hZ (hw _ (List.mem_of_getElem? (i := 14) rfl))) (g := (mkF m 36 #[.val (.int x0), .val (.ref b2), .unset, .unset, .unset, .unset] [(.int x0)])) rfl (hb hby at_36) _ ?_
    show Steps p.tables e below (T107.setTop (mkF m 38 #[.val (.int x0), .val (.ref b2), .unset, .unset, .unset, .unset] [(.int (2147483647 : Int32)), (.int x0)])) _
    refine XS.iand X107.here hx rfl (hb hby at_38) rfl ?_
    show Steps p.tables e below (T107.setTop (mkF m 39 #[.val (.int x0), .val (.ref b2), .unset, .unset, .unset, .unset] [(.int (x0 &&& (2147483647 : Int32)))])) _
    refine XS.iconst X107.here hx rfl (hb hby at_39) ?_
    show Steps p.tables e below (T107.setTop (mkF m 40 #[.val (.int x0), .val (.ref b2), .unset, .unset, .unset, .unset] [(.int (5 : Int32)), (.int (x0 &&& (2147483647 : Int32)))])) _
    refine iremM X107 hx rfl (hb hby at_40) rfl (by decide) ?_
    show Steps p.tables e below (T107.setTop (mkF m 41 #[.val (.int x0), .val (.ref b2), .unset, .unset, .unset, .unset] [(.int ((x0 &&& (2147483647 : Int32)) % (5 : Int32)))])) _
    refine XS.istoreN X107.here hx rfl (hb hby at_41) rfl (l' := #[.val (.int x0), .val (.ref b2), .val (.int ((x0 &&& (2147483647 : Int32)) % (5 : Int32))), .unset, .unset, .unset]) rfl ?_
    exact k)
  obtain ⟨vk, hvk⟩ : ∃ z : Int32, z = ((x0 &&& (2147483647 : Int32)) % (5 : Int32)) := ⟨_, rfl⟩
  have p125 : ∀ t, Steps p.tables e below (T107.setTop (mkF m 42 #[.val (.int x0), .val (.ref b2), .val (.int vk), .unset, .unset, .unset] [])) t → Steps p.tables e below (s₁.setTop (entryFrame m #[(.int x0)] maxLocals)) t := by
    intro t k; subst hvk; exact p124 t k
  rcases own_k5 hvk with rfl | rfl | rfl | rfl | rfl
  · have p126 : ∀ t, Steps p.tables e below (T107.setTop (mkF m 82 #[.val (.int x0), .val (.ref b2), .val (.int (0 : Int32)), .val (.int (1 : Int32)), .val (.int (0 : Int32)), .val (.int (1 : Int32))] [(.int (0 : Int32)), (.ref b2)])) t → Steps p.tables e below (s₁.setTop (entryFrame m #[(.int x0)] maxLocals)) t := fun t k => p125 t (by
      show Steps p.tables e below (T107.setTop (mkF m 42 #[.val (.int x0), .val (.ref b2), .val (.int (0 : Int32)), .unset, .unset, .unset] [])) _
      refine XS.iloadN X107.here hx rfl (hb hby at_42) rfl ?_
      show Steps p.tables e below (T107.setTop (mkF m 43 #[.val (.int x0), .val (.ref b2), .val (.int (0 : Int32)), .unset, .unset, .unset] [(.int (0 : Int32))])) _
      refine XS.ifNo X107.here hx rfl (hb hby at_43) rfl ((if0 _ _).trans (teq (rfl)).2) ?_
      show Steps p.tables e below (T107.setTop (mkF m 46 #[.val (.int x0), .val (.ref b2), .val (.int (0 : Int32)), .unset, .unset, .unset] [])) _
      refine XS.iconst X107.here hx rfl (hb hby at_46) ?_
      show Steps p.tables e below (T107.setTop (mkF m 47 #[.val (.int x0), .val (.ref b2), .val (.int (0 : Int32)), .unset, .unset, .unset] [(.int (1 : Int32))])) _
      refine XS.goto X107.here hx rfl (pc0 := 47) (pc' := 51) rfl (hb hby at_47) (by decide) (by decide) ?_
      show Steps p.tables e below (T107.setTop (mkF m 51 #[.val (.int x0), .val (.ref b2), .val (.int (0 : Int32)), .unset, .unset, .unset] [(.int (1 : Int32))])) _
      refine XS.istoreN X107.here hx rfl (hb hby at_51) rfl (l' := #[.val (.int x0), .val (.ref b2), .val (.int (0 : Int32)), .val (.int (1 : Int32)), .unset, .unset]) rfl ?_
      show Steps p.tables e below (T107.setTop (mkF m 52 #[.val (.int x0), .val (.ref b2), .val (.int (0 : Int32)), .val (.int (1 : Int32)), .unset, .unset] [])) _
      refine XS.iloadN X107.here hx rfl (hb hby at_52) rfl ?_
      show Steps p.tables e below (T107.setTop (mkF m 53 #[.val (.int x0), .val (.ref b2), .val (.int (0 : Int32)), .val (.int (1 : Int32)), .unset, .unset] [(.int (0 : Int32))])) _
      refine XS.iconst X107.here hx rfl (hb hby at_53) ?_
      show Steps p.tables e below (T107.setTop (mkF m 54 #[.val (.int x0), .val (.ref b2), .val (.int (0 : Int32)), .val (.int (1 : Int32)), .unset, .unset] [(.int (1 : Int32)), (.int (0 : Int32))])) _
      refine XS.icmpYes X107.here hx rfl (pc0 := 54) (pc' := 61) rfl (hb hby at_54) rfl ((feq (by decide)).2) (by decide) (by decide) ?_
      show Steps p.tables e below (T107.setTop (mkF m 61 #[.val (.int x0), .val (.ref b2), .val (.int (0 : Int32)), .val (.int (1 : Int32)), .unset, .unset] [])) _
      refine XS.iconst X107.here hx rfl (hb hby at_61) ?_
      show Steps p.tables e below (T107.setTop (mkF m 62 #[.val (.int x0), .val (.ref b2), .val (.int (0 : Int32)), .val (.int (1 : Int32)), .unset, .unset] [(.int (0 : Int32))])) _
      refine XS.istore X107.here hx rfl (hb hby at_62) rfl (l' := #[.val (.int x0), .val (.ref b2), .val (.int (0 : Int32)), .val (.int (1 : Int32)), .val (.int (0 : Int32)), .unset]) rfl ?_
      show Steps p.tables e below (T107.setTop (mkF m 64 #[.val (.int x0), .val (.ref b2), .val (.int (0 : Int32)), .val (.int (1 : Int32)), .val (.int (0 : Int32)), .unset] [])) _
      refine XS.iloadN X107.here hx rfl (hb hby at_64) rfl ?_
      show Steps p.tables e below (T107.setTop (mkF m 65 #[.val (.int x0), .val (.ref b2), .val (.int (0 : Int32)), .val (.int (1 : Int32)), .val (.int (0 : Int32)), .unset] [(.int (1 : Int32))])) _
      refine XS.ifYes X107.here hx rfl (pc0 := 65) (pc' := 73) rfl (hb hby at_65) rfl ((if0 _ _).trans (feq (by decide)).2) (by decide) (by decide) ?_
      show Steps p.tables e below (T107.setTop (mkF m 73 #[.val (.int x0), .val (.ref b2), .val (.int (0 : Int32)), .val (.int (1 : Int32)), .val (.int (0 : Int32)), .unset] [])) _
      refine XS.iconst X107.here hx rfl (hb hby at_73) ?_
      show Steps p.tables e below (T107.setTop (mkF m 74 #[.val (.int x0), .val (.ref b2), .val (.int (0 : Int32)), .val (.int (1 : Int32)), .val (.int (0 : Int32)), .unset] [(.int (1 : Int32))])) _
      refine XS.goto X107.here hx rfl (pc0 := 74) (pc' := 78) rfl (hb hby at_74) (by decide) (by decide) ?_
      show Steps p.tables e below (T107.setTop (mkF m 78 #[.val (.int x0), .val (.ref b2), .val (.int (0 : Int32)), .val (.int (1 : Int32)), .val (.int (0 : Int32)), .unset] [(.int (1 : Int32))])) _
      refine XS.istore X107.here hx rfl (hb hby at_78) rfl (l' := #[.val (.int x0), .val (.ref b2), .val (.int (0 : Int32)), .val (.int (1 : Int32)), .val (.int (0 : Int32)), .val (.int (1 : Int32))]) rfl ?_
      show Steps p.tables e below (T107.setTop (mkF m 80 #[.val (.int x0), .val (.ref b2), .val (.int (0 : Int32)), .val (.int (1 : Int32)), .val (.int (0 : Int32)), .val (.int (1 : Int32))] [])) _
      refine XS.aloadN X107.here hx rfl (hb hby at_80) rfl rfl ?_
      show Steps p.tables e below (T107.setTop (mkF m 81 #[.val (.int x0), .val (.ref b2), .val (.int (0 : Int32)), .val (.int (1 : Int32)), .val (.int (0 : Int32)), .val (.int (1 : Int32))] [(.ref b2)])) _
      refine XS.iloadN X107.here hx rfl (hb hby at_81) rfl ?_
      exact k)
    obtain ⟨cl127, Ar127, q127, Sz127, Ng127, Hs127, G127⟩ := id VV107
    have hin127 : ¬ ((0 : Int32) < 0 ∨ cl127.slots.size ≤ ((0 : Int32)).toNatClampNeg) := inb_of Sz127 ⟨by decide, by decide⟩
    have hat127 : cl127.slots[((0 : Int32)).toNatClampNeg]? = some (.ref a_AWAITING_APPROVAL) := Hs127.at hin127 (rfl)
    have p128 : ∀ t, Steps p.tables e below (T107.setTop (mkF m 83 #[.val (.int x0), .val (.ref b2), .val (.int (0 : Int32)), .val (.int (1 : Int32)), .val (.int (0 : Int32)), .val (.int (1 : Int32))] [(.ref a_AWAITING_APPROVAL)])) t → Steps p.tables e below (s₁.setTop (entryFrame m #[(.int x0)] maxLocals)) t := fun t k => p126 t (by
      show Steps p.tables e below (T107.setTop (mkF m 82 #[.val (.int x0), .val (.ref b2), .val (.int (0 : Int32)), .val (.int (1 : Int32)), .val (.int (0 : Int32)), .val (.int (1 : Int32))] [(.int (0 : Int32)), (.ref b2)])) _
      refine X107.aaload hx (j := (0 : Int32)) (v := (.ref a_AWAITING_APPROVAL)) (by rw [e107]; exact Ar127.1) (State.isArrayOf_alike hZ.alike Ar127.2.1) rfl Ar127.2.2 hin127 hat127 (g := (mkF m 82 #[.val (.int x0), .val (.ref b2), .val (.int (0 : Int32)), .val (.int (1 : Int32)), .val (.int (0 : Int32)), .val (.int (1 : Int32))] [(.int (0 : Int32)), (.ref b2)])) rfl rfl (hb hby at_82) _ ?_
      exact k)
    obtain ⟨cq129, kq129, qa129, qb129, qc129⟩ := isOf hZ e107 f109
    obtain ⟨_, _, ⟨T129, L129, k129, n129⟩, -, X129, ⟨Lc129, hQ129, l129, y129, z129⟩, st129⟩ := X107.virtualBack hx (y := (⟨"com/example/claimroll/claimroll/PaymentRequestStatus", "isOutstanding", "()Z"⟩ : MethodName)) (z := (⟨"com/example/claimroll/claimroll/PaymentRequestStatus", "isOutstanding", "()Z"⟩ : MethodName)) hown (mvT hZ (hw _ (List.mem_of_getElem? (i := 15) rfl))) (mvT hZ (hw _ (List.mem_of_getElem? (i := 16) rfl))) (notFace_of_selects (args := #[]) (mvT hZ (hw _ (List.mem_of_getElem? (i := 18) rfl)))) (mvT hZ (hw _ (List.mem_of_getElem? (i := 18) rfl))) (mvT hZ (hw _ (List.mem_of_getElem? (i := 17) rfl))) (by decide) (backOf (W := 0) (rmi0 l Z a0 hw [] a_AWAITING_APPROVAL  h107 n0 Z107 f109 f110) hZ (hw _ (List.mem_of_getElem? (i := 19) rfl)) (hw _ (List.mem_of_getElem? (i := 3) rfl)) (by decide) (by decide)) qa129 qc129 (g := (mkF m 83 #[.val (.int x0), .val (.ref b2), .val (.int (0 : Int32)), .val (.int (1 : Int32)), .val (.int (0 : Int32)), .val (.int (1 : Int32))] [(.ref a_AWAITING_APPROVAL)])) rfl (by rw [hml]; rfl) (Steps.refl _) (argsL := []) (rest := []) (lenOf pd0_0 rfl) rfl (by show 2 * 0 + _ ≤ _; exact Nat.le_of_eq rfl) (hb hby at_83) (fun _ _ => ⟨rfl, e107, (by decide : 1 + 0 ≤ _), (by decide : 5 + 0 ≤ _)⟩)
    dsimp only [Pt.U, Pt.locs, Pt.cells, Pt.slots] at X129 l129 y129 z129 st129 hQ129
    subst l129 y129 z129
    obtain ⟨rfl, Nq129, e129⟩ := hQ129
    have N129 := Fr.app N107 Nq129
    have p130 : ∀ t, Steps p.tables e below (T129.setTop (mkF m 86 #[.val (.int x0), .val (.ref b2), .val (.int (0 : Int32)), .val (.int (1 : Int32)), .val (.int (0 : Int32)), .val (.int (1 : Int32))] [(.int (1 : Int32))])) t → Steps p.tables e below (s₁.setTop (entryFrame m #[(.int x0)] maxLocals)) t := fun t k => p128 t (st129.trans k)
    have p131 : ∀ t, Steps p.tables e below (T129.setTop (mkF m 96 #[.val (.int x0), .val (.ref b2), .val (.int (0 : Int32)), .val (.int (1 : Int32)), .val (.int (0 : Int32)), .val (.int (1 : Int32))] [(.int (1 : Int32))])) t → Steps p.tables e below (s₁.setTop (entryFrame m #[(.int x0)] maxLocals)) t := fun t k => p130 t (by
      show Steps p.tables e below (T129.setTop (mkF m 86 #[.val (.int x0), .val (.ref b2), .val (.int (0 : Int32)), .val (.int (1 : Int32)), .val (.int (0 : Int32)), .val (.int (1 : Int32))] [(.int (1 : Int32))])) _
      refine XS.iload X129.here hx rfl (hb hby at_86) rfl ?_
      show Steps p.tables e below (T129.setTop (mkF m 88 #[.val (.int x0), .val (.ref b2), .val (.int (0 : Int32)), .val (.int (1 : Int32)), .val (.int (0 : Int32)), .val (.int (1 : Int32))] [(.int (1 : Int32)), (.int (1 : Int32))])) _
      refine XS.icmpNo X129.here hx rfl (hb hby at_88) rfl ((teq (rfl)).2) ?_
      show Steps p.tables e below (T129.setTop (mkF m 91 #[.val (.int x0), .val (.ref b2), .val (.int (0 : Int32)), .val (.int (1 : Int32)), .val (.int (0 : Int32)), .val (.int (1 : Int32))] [])) _
      refine XS.iconst X129.here hx rfl (hb hby at_91) ?_
      show Steps p.tables e below (T129.setTop (mkF m 92 #[.val (.int x0), .val (.ref b2), .val (.int (0 : Int32)), .val (.int (1 : Int32)), .val (.int (0 : Int32)), .val (.int (1 : Int32))] [(.int (1 : Int32))])) _
      refine XS.goto X129.here hx rfl (pc0 := 92) (pc' := 96) rfl (hb hby at_92) (by decide) (by decide) ?_
      exact k)
    obtain ⟨fs, hr, hrun, hended, hW, hsame⟩ := X129.leave (v := some (.int (1 : Int32))) (fun h => by rw [Bd.returns] at h; cases h)
    refine ⟨_, _, p131 _ ?_, hrun, hended, _, _, rfl, ?_, ⟨_, rfl⟩, hW, hsame.mono (by decide) (by decide)⟩
    · show Steps p.tables e below (T129.setTop (mkF m 96 #[.val (.int x0), .val (.ref b2), .val (.int (0 : Int32)), .val (.int (1 : Int32)), .val (.int (0 : Int32)), .val (.int (1 : Int32))] [(.int (1 : Int32))])) _
      exact retN X129 hx (t := .boolean) Bd.returns (by simp) (hb hby at_96) hr
    · show Q0 Z x0 a_AWAITING_APPROVAL a_PENDING_PAYMENT a_REJECTED a_PAID a_CANCELLED h0 n0 _ T129.heap _
      rw [e129]
      exact ⟨rfl, N129⟩
  · have p132 : ∀ t, Steps p.tables e below (T107.setTop (mkF m 82 #[.val (.int x0), .val (.ref b2), .val (.int (1 : Int32)), .val (.int (0 : Int32)), .val (.int (1 : Int32)), .val (.int (1 : Int32))] [(.int (1 : Int32)), (.ref b2)])) t → Steps p.tables e below (s₁.setTop (entryFrame m #[(.int x0)] maxLocals)) t := fun t k => p125 t (by
      show Steps p.tables e below (T107.setTop (mkF m 42 #[.val (.int x0), .val (.ref b2), .val (.int (1 : Int32)), .unset, .unset, .unset] [])) _
      refine XS.iloadN X107.here hx rfl (hb hby at_42) rfl ?_
      show Steps p.tables e below (T107.setTop (mkF m 43 #[.val (.int x0), .val (.ref b2), .val (.int (1 : Int32)), .unset, .unset, .unset] [(.int (1 : Int32))])) _
      refine XS.ifYes X107.here hx rfl (pc0 := 43) (pc' := 50) rfl (hb hby at_43) rfl ((if0 _ _).trans (feq (by decide)).2) (by decide) (by decide) ?_
      show Steps p.tables e below (T107.setTop (mkF m 50 #[.val (.int x0), .val (.ref b2), .val (.int (1 : Int32)), .unset, .unset, .unset] [])) _
      refine XS.iconst X107.here hx rfl (hb hby at_50) ?_
      show Steps p.tables e below (T107.setTop (mkF m 51 #[.val (.int x0), .val (.ref b2), .val (.int (1 : Int32)), .unset, .unset, .unset] [(.int (0 : Int32))])) _
      refine XS.istoreN X107.here hx rfl (hb hby at_51) rfl (l' := #[.val (.int x0), .val (.ref b2), .val (.int (1 : Int32)), .val (.int (0 : Int32)), .unset, .unset]) rfl ?_
      show Steps p.tables e below (T107.setTop (mkF m 52 #[.val (.int x0), .val (.ref b2), .val (.int (1 : Int32)), .val (.int (0 : Int32)), .unset, .unset] [])) _
      refine XS.iloadN X107.here hx rfl (hb hby at_52) rfl ?_
      show Steps p.tables e below (T107.setTop (mkF m 53 #[.val (.int x0), .val (.ref b2), .val (.int (1 : Int32)), .val (.int (0 : Int32)), .unset, .unset] [(.int (1 : Int32))])) _
      refine XS.iconst X107.here hx rfl (hb hby at_53) ?_
      show Steps p.tables e below (T107.setTop (mkF m 54 #[.val (.int x0), .val (.ref b2), .val (.int (1 : Int32)), .val (.int (0 : Int32)), .unset, .unset] [(.int (1 : Int32)), (.int (1 : Int32))])) _
      refine XS.icmpNo X107.here hx rfl (hb hby at_54) rfl ((teq (rfl)).2) ?_
      show Steps p.tables e below (T107.setTop (mkF m 57 #[.val (.int x0), .val (.ref b2), .val (.int (1 : Int32)), .val (.int (0 : Int32)), .unset, .unset] [])) _
      refine XS.iconst X107.here hx rfl (hb hby at_57) ?_
      show Steps p.tables e below (T107.setTop (mkF m 58 #[.val (.int x0), .val (.ref b2), .val (.int (1 : Int32)), .val (.int (0 : Int32)), .unset, .unset] [(.int (1 : Int32))])) _
      refine XS.goto X107.here hx rfl (pc0 := 58) (pc' := 62) rfl (hb hby at_58) (by decide) (by decide) ?_
      show Steps p.tables e below (T107.setTop (mkF m 62 #[.val (.int x0), .val (.ref b2), .val (.int (1 : Int32)), .val (.int (0 : Int32)), .unset, .unset] [(.int (1 : Int32))])) _
      refine XS.istore X107.here hx rfl (hb hby at_62) rfl (l' := #[.val (.int x0), .val (.ref b2), .val (.int (1 : Int32)), .val (.int (0 : Int32)), .val (.int (1 : Int32)), .unset]) rfl ?_
      show Steps p.tables e below (T107.setTop (mkF m 64 #[.val (.int x0), .val (.ref b2), .val (.int (1 : Int32)), .val (.int (0 : Int32)), .val (.int (1 : Int32)), .unset] [])) _
      refine XS.iloadN X107.here hx rfl (hb hby at_64) rfl ?_
      show Steps p.tables e below (T107.setTop (mkF m 65 #[.val (.int x0), .val (.ref b2), .val (.int (1 : Int32)), .val (.int (0 : Int32)), .val (.int (1 : Int32)), .unset] [(.int (0 : Int32))])) _
      refine XS.ifNo X107.here hx rfl (hb hby at_65) rfl ((if0 _ _).trans (teq (rfl)).2) ?_
      show Steps p.tables e below (T107.setTop (mkF m 68 #[.val (.int x0), .val (.ref b2), .val (.int (1 : Int32)), .val (.int (0 : Int32)), .val (.int (1 : Int32)), .unset] [])) _
      refine XS.iload X107.here hx rfl (hb hby at_68) rfl ?_
      show Steps p.tables e below (T107.setTop (mkF m 70 #[.val (.int x0), .val (.ref b2), .val (.int (1 : Int32)), .val (.int (0 : Int32)), .val (.int (1 : Int32)), .unset] [(.int (1 : Int32))])) _
      refine XS.ifNo X107.here hx rfl (hb hby at_70) rfl ((if0 _ _).trans (feq (by decide)).1) ?_
      show Steps p.tables e below (T107.setTop (mkF m 73 #[.val (.int x0), .val (.ref b2), .val (.int (1 : Int32)), .val (.int (0 : Int32)), .val (.int (1 : Int32)), .unset] [])) _
      refine XS.iconst X107.here hx rfl (hb hby at_73) ?_
      show Steps p.tables e below (T107.setTop (mkF m 74 #[.val (.int x0), .val (.ref b2), .val (.int (1 : Int32)), .val (.int (0 : Int32)), .val (.int (1 : Int32)), .unset] [(.int (1 : Int32))])) _
      refine XS.goto X107.here hx rfl (pc0 := 74) (pc' := 78) rfl (hb hby at_74) (by decide) (by decide) ?_
      show Steps p.tables e below (T107.setTop (mkF m 78 #[.val (.int x0), .val (.ref b2), .val (.int (1 : Int32)), .val (.int (0 : Int32)), .val (.int (1 : Int32)), .unset] [(.int (1 : Int32))])) _
      refine XS.istore X107.here hx rfl (hb hby at_78) rfl (l' := #[.val (.int x0), .val (.ref b2), .val (.int (1 : Int32)), .val (.int (0 : Int32)), .val (.int (1 : Int32)), .val (.int (1 : Int32))]) rfl ?_
      show Steps p.tables e below (T107.setTop (mkF m 80 #[.val (.int x0), .val (.ref b2), .val (.int (1 : Int32)), .val (.int (0 : Int32)), .val (.int (1 : Int32)), .val (.int (1 : Int32))] [])) _
      refine XS.aloadN X107.here hx rfl (hb hby at_80) rfl rfl ?_
      show Steps p.tables e below (T107.setTop (mkF m 81 #[.val (.int x0), .val (.ref b2), .val (.int (1 : Int32)), .val (.int (0 : Int32)), .val (.int (1 : Int32)), .val (.int (1 : Int32))] [(.ref b2)])) _
      refine XS.iloadN X107.here hx rfl (hb hby at_81) rfl ?_
      exact k)
    obtain ⟨cl133, Ar133, q133, Sz133, Ng133, Hs133, G133⟩ := id VV107
    have hin133 : ¬ ((1 : Int32) < 0 ∨ cl133.slots.size ≤ ((1 : Int32)).toNatClampNeg) := inb_of Sz133 ⟨by decide, by decide⟩
    have hat133 : cl133.slots[((1 : Int32)).toNatClampNeg]? = some (.ref a_PENDING_PAYMENT) := Hs133.at hin133 (rfl)
    have p134 : ∀ t, Steps p.tables e below (T107.setTop (mkF m 83 #[.val (.int x0), .val (.ref b2), .val (.int (1 : Int32)), .val (.int (0 : Int32)), .val (.int (1 : Int32)), .val (.int (1 : Int32))] [(.ref a_PENDING_PAYMENT)])) t → Steps p.tables e below (s₁.setTop (entryFrame m #[(.int x0)] maxLocals)) t := fun t k => p132 t (by
      show Steps p.tables e below (T107.setTop (mkF m 82 #[.val (.int x0), .val (.ref b2), .val (.int (1 : Int32)), .val (.int (0 : Int32)), .val (.int (1 : Int32)), .val (.int (1 : Int32))] [(.int (1 : Int32)), (.ref b2)])) _
      refine X107.aaload hx (j := (1 : Int32)) (v := (.ref a_PENDING_PAYMENT)) (by rw [e107]; exact Ar133.1) (State.isArrayOf_alike hZ.alike Ar133.2.1) rfl Ar133.2.2 hin133 hat133 (g := (mkF m 82 #[.val (.int x0), .val (.ref b2), .val (.int (1 : Int32)), .val (.int (0 : Int32)), .val (.int (1 : Int32)), .val (.int (1 : Int32))] [(.int (1 : Int32)), (.ref b2)])) rfl rfl (hb hby at_82) _ ?_
      exact k)
    obtain ⟨cq135, kq135, qa135, qb135, qc135⟩ := isOf hZ e107 f112
    obtain ⟨_, _, ⟨T135, L135, k135, n135⟩, -, X135, ⟨Lc135, hQ135, l135, y135, z135⟩, st135⟩ := X107.virtualBack hx (y := (⟨"com/example/claimroll/claimroll/PaymentRequestStatus", "isOutstanding", "()Z"⟩ : MethodName)) (z := (⟨"com/example/claimroll/claimroll/PaymentRequestStatus", "isOutstanding", "()Z"⟩ : MethodName)) hown (mvT hZ (hw _ (List.mem_of_getElem? (i := 15) rfl))) (mvT hZ (hw _ (List.mem_of_getElem? (i := 16) rfl))) (notFace_of_selects (args := #[]) (mvT hZ (hw _ (List.mem_of_getElem? (i := 18) rfl)))) (mvT hZ (hw _ (List.mem_of_getElem? (i := 18) rfl))) (mvT hZ (hw _ (List.mem_of_getElem? (i := 17) rfl))) (by decide) (backOf (W := 0) (rmi1 l Z a0 hw [] a_PENDING_PAYMENT  h107 n0 Z107 f112 f113) hZ (hw _ (List.mem_of_getElem? (i := 19) rfl)) (hw _ (List.mem_of_getElem? (i := 3) rfl)) (by decide) (by decide)) qa135 qc135 (g := (mkF m 83 #[.val (.int x0), .val (.ref b2), .val (.int (1 : Int32)), .val (.int (0 : Int32)), .val (.int (1 : Int32)), .val (.int (1 : Int32))] [(.ref a_PENDING_PAYMENT)])) rfl (by rw [hml]; rfl) (Steps.refl _) (argsL := []) (rest := []) (lenOf pd0_0 rfl) rfl (by show 2 * 0 + _ ≤ _; exact Nat.le_of_eq rfl) (hb hby at_83) (fun _ _ => ⟨rfl, e107, (by decide : 1 + 0 ≤ _), (by decide : 5 + 0 ≤ _)⟩)
    dsimp only [Pt.U, Pt.locs, Pt.cells, Pt.slots] at X135 l135 y135 z135 st135 hQ135
    subst l135 y135 z135
    obtain ⟨rfl, Nq135, e135⟩ := hQ135
    have N135 := Fr.app N107 Nq135
    have p136 : ∀ t, Steps p.tables e below (T135.setTop (mkF m 86 #[.val (.int x0), .val (.ref b2), .val (.int (1 : Int32)), .val (.int (0 : Int32)), .val (.int (1 : Int32)), .val (.int (1 : Int32))] [(.int (1 : Int32))])) t → Steps p.tables e below (s₁.setTop (entryFrame m #[(.int x0)] maxLocals)) t := fun t k => p134 t (st135.trans k)
    have p137 : ∀ t, Steps p.tables e below (T135.setTop (mkF m 96 #[.val (.int x0), .val (.ref b2), .val (.int (1 : Int32)), .val (.int (0 : Int32)), .val (.int (1 : Int32)), .val (.int (1 : Int32))] [(.int (1 : Int32))])) t → Steps p.tables e below (s₁.setTop (entryFrame m #[(.int x0)] maxLocals)) t := fun t k => p136 t (by
      show Steps p.tables e below (T135.setTop (mkF m 86 #[.val (.int x0), .val (.ref b2), .val (.int (1 : Int32)), .val (.int (0 : Int32)), .val (.int (1 : Int32)), .val (.int (1 : Int32))] [(.int (1 : Int32))])) _
      refine XS.iload X135.here hx rfl (hb hby at_86) rfl ?_
      show Steps p.tables e below (T135.setTop (mkF m 88 #[.val (.int x0), .val (.ref b2), .val (.int (1 : Int32)), .val (.int (0 : Int32)), .val (.int (1 : Int32)), .val (.int (1 : Int32))] [(.int (1 : Int32)), (.int (1 : Int32))])) _
      refine XS.icmpNo X135.here hx rfl (hb hby at_88) rfl ((teq (rfl)).2) ?_
      show Steps p.tables e below (T135.setTop (mkF m 91 #[.val (.int x0), .val (.ref b2), .val (.int (1 : Int32)), .val (.int (0 : Int32)), .val (.int (1 : Int32)), .val (.int (1 : Int32))] [])) _
      refine XS.iconst X135.here hx rfl (hb hby at_91) ?_
      show Steps p.tables e below (T135.setTop (mkF m 92 #[.val (.int x0), .val (.ref b2), .val (.int (1 : Int32)), .val (.int (0 : Int32)), .val (.int (1 : Int32)), .val (.int (1 : Int32))] [(.int (1 : Int32))])) _
      refine XS.goto X135.here hx rfl (pc0 := 92) (pc' := 96) rfl (hb hby at_92) (by decide) (by decide) ?_
      exact k)
    obtain ⟨fs, hr, hrun, hended, hW, hsame⟩ := X135.leave (v := some (.int (1 : Int32))) (fun h => by rw [Bd.returns] at h; cases h)
    refine ⟨_, _, p137 _ ?_, hrun, hended, _, _, rfl, ?_, ⟨_, rfl⟩, hW, hsame.mono (by decide) (by decide)⟩
    · show Steps p.tables e below (T135.setTop (mkF m 96 #[.val (.int x0), .val (.ref b2), .val (.int (1 : Int32)), .val (.int (0 : Int32)), .val (.int (1 : Int32)), .val (.int (1 : Int32))] [(.int (1 : Int32))])) _
      exact retN X135 hx (t := .boolean) Bd.returns (by simp) (hb hby at_96) hr
    · show Q0 Z x0 a_AWAITING_APPROVAL a_PENDING_PAYMENT a_REJECTED a_PAID a_CANCELLED h0 n0 _ T135.heap _
      rw [e135]
      exact ⟨rfl, N135⟩
  · have p138 : ∀ t, Steps p.tables e below (T107.setTop (mkF m 82 #[.val (.int x0), .val (.ref b2), .val (.int (2 : Int32)), .val (.int (0 : Int32)), .val (.int (0 : Int32)), .val (.int (0 : Int32))] [(.int (2 : Int32)), (.ref b2)])) t → Steps p.tables e below (s₁.setTop (entryFrame m #[(.int x0)] maxLocals)) t := fun t k => p125 t (by
      show Steps p.tables e below (T107.setTop (mkF m 42 #[.val (.int x0), .val (.ref b2), .val (.int (2 : Int32)), .unset, .unset, .unset] [])) _
      refine XS.iloadN X107.here hx rfl (hb hby at_42) rfl ?_
      show Steps p.tables e below (T107.setTop (mkF m 43 #[.val (.int x0), .val (.ref b2), .val (.int (2 : Int32)), .unset, .unset, .unset] [(.int (2 : Int32))])) _
      refine XS.ifYes X107.here hx rfl (pc0 := 43) (pc' := 50) rfl (hb hby at_43) rfl ((if0 _ _).trans (feq (by decide)).2) (by decide) (by decide) ?_
      show Steps p.tables e below (T107.setTop (mkF m 50 #[.val (.int x0), .val (.ref b2), .val (.int (2 : Int32)), .unset, .unset, .unset] [])) _
      refine XS.iconst X107.here hx rfl (hb hby at_50) ?_
      show Steps p.tables e below (T107.setTop (mkF m 51 #[.val (.int x0), .val (.ref b2), .val (.int (2 : Int32)), .unset, .unset, .unset] [(.int (0 : Int32))])) _
      refine XS.istoreN X107.here hx rfl (hb hby at_51) rfl (l' := #[.val (.int x0), .val (.ref b2), .val (.int (2 : Int32)), .val (.int (0 : Int32)), .unset, .unset]) rfl ?_
      show Steps p.tables e below (T107.setTop (mkF m 52 #[.val (.int x0), .val (.ref b2), .val (.int (2 : Int32)), .val (.int (0 : Int32)), .unset, .unset] [])) _
      refine XS.iloadN X107.here hx rfl (hb hby at_52) rfl ?_
      show Steps p.tables e below (T107.setTop (mkF m 53 #[.val (.int x0), .val (.ref b2), .val (.int (2 : Int32)), .val (.int (0 : Int32)), .unset, .unset] [(.int (2 : Int32))])) _
      refine XS.iconst X107.here hx rfl (hb hby at_53) ?_
      show Steps p.tables e below (T107.setTop (mkF m 54 #[.val (.int x0), .val (.ref b2), .val (.int (2 : Int32)), .val (.int (0 : Int32)), .unset, .unset] [(.int (1 : Int32)), (.int (2 : Int32))])) _
      refine XS.icmpYes X107.here hx rfl (pc0 := 54) (pc' := 61) rfl (hb hby at_54) rfl ((feq (by decide)).2) (by decide) (by decide) ?_
      show Steps p.tables e below (T107.setTop (mkF m 61 #[.val (.int x0), .val (.ref b2), .val (.int (2 : Int32)), .val (.int (0 : Int32)), .unset, .unset] [])) _
      refine XS.iconst X107.here hx rfl (hb hby at_61) ?_
      show Steps p.tables e below (T107.setTop (mkF m 62 #[.val (.int x0), .val (.ref b2), .val (.int (2 : Int32)), .val (.int (0 : Int32)), .unset, .unset] [(.int (0 : Int32))])) _
      refine XS.istore X107.here hx rfl (hb hby at_62) rfl (l' := #[.val (.int x0), .val (.ref b2), .val (.int (2 : Int32)), .val (.int (0 : Int32)), .val (.int (0 : Int32)), .unset]) rfl ?_
      show Steps p.tables e below (T107.setTop (mkF m 64 #[.val (.int x0), .val (.ref b2), .val (.int (2 : Int32)), .val (.int (0 : Int32)), .val (.int (0 : Int32)), .unset] [])) _
      refine XS.iloadN X107.here hx rfl (hb hby at_64) rfl ?_
      show Steps p.tables e below (T107.setTop (mkF m 65 #[.val (.int x0), .val (.ref b2), .val (.int (2 : Int32)), .val (.int (0 : Int32)), .val (.int (0 : Int32)), .unset] [(.int (0 : Int32))])) _
      refine XS.ifNo X107.here hx rfl (hb hby at_65) rfl ((if0 _ _).trans (teq (rfl)).2) ?_
      show Steps p.tables e below (T107.setTop (mkF m 68 #[.val (.int x0), .val (.ref b2), .val (.int (2 : Int32)), .val (.int (0 : Int32)), .val (.int (0 : Int32)), .unset] [])) _
      refine XS.iload X107.here hx rfl (hb hby at_68) rfl ?_
      show Steps p.tables e below (T107.setTop (mkF m 70 #[.val (.int x0), .val (.ref b2), .val (.int (2 : Int32)), .val (.int (0 : Int32)), .val (.int (0 : Int32)), .unset] [(.int (0 : Int32))])) _
      refine XS.ifYes X107.here hx rfl (pc0 := 70) (pc' := 77) rfl (hb hby at_70) rfl ((if0 _ _).trans (teq (rfl)).1) (by decide) (by decide) ?_
      show Steps p.tables e below (T107.setTop (mkF m 77 #[.val (.int x0), .val (.ref b2), .val (.int (2 : Int32)), .val (.int (0 : Int32)), .val (.int (0 : Int32)), .unset] [])) _
      refine XS.iconst X107.here hx rfl (hb hby at_77) ?_
      show Steps p.tables e below (T107.setTop (mkF m 78 #[.val (.int x0), .val (.ref b2), .val (.int (2 : Int32)), .val (.int (0 : Int32)), .val (.int (0 : Int32)), .unset] [(.int (0 : Int32))])) _
      refine XS.istore X107.here hx rfl (hb hby at_78) rfl (l' := #[.val (.int x0), .val (.ref b2), .val (.int (2 : Int32)), .val (.int (0 : Int32)), .val (.int (0 : Int32)), .val (.int (0 : Int32))]) rfl ?_
      show Steps p.tables e below (T107.setTop (mkF m 80 #[.val (.int x0), .val (.ref b2), .val (.int (2 : Int32)), .val (.int (0 : Int32)), .val (.int (0 : Int32)), .val (.int (0 : Int32))] [])) _
      refine XS.aloadN X107.here hx rfl (hb hby at_80) rfl rfl ?_
      show Steps p.tables e below (T107.setTop (mkF m 81 #[.val (.int x0), .val (.ref b2), .val (.int (2 : Int32)), .val (.int (0 : Int32)), .val (.int (0 : Int32)), .val (.int (0 : Int32))] [(.ref b2)])) _
      refine XS.iloadN X107.here hx rfl (hb hby at_81) rfl ?_
      exact k)
    obtain ⟨cl139, Ar139, q139, Sz139, Ng139, Hs139, G139⟩ := id VV107
    have hin139 : ¬ ((2 : Int32) < 0 ∨ cl139.slots.size ≤ ((2 : Int32)).toNatClampNeg) := inb_of Sz139 ⟨by decide, by decide⟩
    have hat139 : cl139.slots[((2 : Int32)).toNatClampNeg]? = some (.ref a_REJECTED) := Hs139.at hin139 (rfl)
    have p140 : ∀ t, Steps p.tables e below (T107.setTop (mkF m 83 #[.val (.int x0), .val (.ref b2), .val (.int (2 : Int32)), .val (.int (0 : Int32)), .val (.int (0 : Int32)), .val (.int (0 : Int32))] [(.ref a_REJECTED)])) t → Steps p.tables e below (s₁.setTop (entryFrame m #[(.int x0)] maxLocals)) t := fun t k => p138 t (by
      show Steps p.tables e below (T107.setTop (mkF m 82 #[.val (.int x0), .val (.ref b2), .val (.int (2 : Int32)), .val (.int (0 : Int32)), .val (.int (0 : Int32)), .val (.int (0 : Int32))] [(.int (2 : Int32)), (.ref b2)])) _
      refine X107.aaload hx (j := (2 : Int32)) (v := (.ref a_REJECTED)) (by rw [e107]; exact Ar139.1) (State.isArrayOf_alike hZ.alike Ar139.2.1) rfl Ar139.2.2 hin139 hat139 (g := (mkF m 82 #[.val (.int x0), .val (.ref b2), .val (.int (2 : Int32)), .val (.int (0 : Int32)), .val (.int (0 : Int32)), .val (.int (0 : Int32))] [(.int (2 : Int32)), (.ref b2)])) rfl rfl (hb hby at_82) _ ?_
      exact k)
    obtain ⟨cq141, kq141, qa141, qb141, qc141⟩ := isOf hZ e107 f115
    obtain ⟨_, _, ⟨T141, L141, k141, n141⟩, -, X141, ⟨Lc141, hQ141, l141, y141, z141⟩, st141⟩ := X107.virtualBack hx (y := (⟨"com/example/claimroll/claimroll/PaymentRequestStatus", "isOutstanding", "()Z"⟩ : MethodName)) (z := (⟨"com/example/claimroll/claimroll/PaymentRequestStatus", "isOutstanding", "()Z"⟩ : MethodName)) hown (mvT hZ (hw _ (List.mem_of_getElem? (i := 15) rfl))) (mvT hZ (hw _ (List.mem_of_getElem? (i := 16) rfl))) (notFace_of_selects (args := #[]) (mvT hZ (hw _ (List.mem_of_getElem? (i := 18) rfl)))) (mvT hZ (hw _ (List.mem_of_getElem? (i := 18) rfl))) (mvT hZ (hw _ (List.mem_of_getElem? (i := 17) rfl))) (by decide) (backOf (W := 0) (rmi2 l Z a0 hw [] a_REJECTED  h107 n0 Z107 f115 f116) hZ (hw _ (List.mem_of_getElem? (i := 19) rfl)) (hw _ (List.mem_of_getElem? (i := 3) rfl)) (by decide) (by decide)) qa141 qc141 (g := (mkF m 83 #[.val (.int x0), .val (.ref b2), .val (.int (2 : Int32)), .val (.int (0 : Int32)), .val (.int (0 : Int32)), .val (.int (0 : Int32))] [(.ref a_REJECTED)])) rfl (by rw [hml]; rfl) (Steps.refl _) (argsL := []) (rest := []) (lenOf pd0_0 rfl) rfl (by show 2 * 0 + _ ≤ _; exact Nat.le_of_eq rfl) (hb hby at_83) (fun _ _ => ⟨rfl, e107, (by decide : 1 + 0 ≤ _), (by decide : 5 + 0 ≤ _)⟩)
    dsimp only [Pt.U, Pt.locs, Pt.cells, Pt.slots] at X141 l141 y141 z141 st141 hQ141
    subst l141 y141 z141
    obtain ⟨rfl, Nq141, e141⟩ := hQ141
    have N141 := Fr.app N107 Nq141
    have p142 : ∀ t, Steps p.tables e below (T141.setTop (mkF m 86 #[.val (.int x0), .val (.ref b2), .val (.int (2 : Int32)), .val (.int (0 : Int32)), .val (.int (0 : Int32)), .val (.int (0 : Int32))] [(.int (0 : Int32))])) t → Steps p.tables e below (s₁.setTop (entryFrame m #[(.int x0)] maxLocals)) t := fun t k => p140 t (st141.trans k)
    have p143 : ∀ t, Steps p.tables e below (T141.setTop (mkF m 96 #[.val (.int x0), .val (.ref b2), .val (.int (2 : Int32)), .val (.int (0 : Int32)), .val (.int (0 : Int32)), .val (.int (0 : Int32))] [(.int (1 : Int32))])) t → Steps p.tables e below (s₁.setTop (entryFrame m #[(.int x0)] maxLocals)) t := fun t k => p142 t (by
      show Steps p.tables e below (T141.setTop (mkF m 86 #[.val (.int x0), .val (.ref b2), .val (.int (2 : Int32)), .val (.int (0 : Int32)), .val (.int (0 : Int32)), .val (.int (0 : Int32))] [(.int (0 : Int32))])) _
      refine XS.iload X141.here hx rfl (hb hby at_86) rfl ?_
      show Steps p.tables e below (T141.setTop (mkF m 88 #[.val (.int x0), .val (.ref b2), .val (.int (2 : Int32)), .val (.int (0 : Int32)), .val (.int (0 : Int32)), .val (.int (0 : Int32))] [(.int (0 : Int32)), (.int (0 : Int32))])) _
      refine XS.icmpNo X141.here hx rfl (hb hby at_88) rfl ((teq (rfl)).2) ?_
      show Steps p.tables e below (T141.setTop (mkF m 91 #[.val (.int x0), .val (.ref b2), .val (.int (2 : Int32)), .val (.int (0 : Int32)), .val (.int (0 : Int32)), .val (.int (0 : Int32))] [])) _
      refine XS.iconst X141.here hx rfl (hb hby at_91) ?_
      show Steps p.tables e below (T141.setTop (mkF m 92 #[.val (.int x0), .val (.ref b2), .val (.int (2 : Int32)), .val (.int (0 : Int32)), .val (.int (0 : Int32)), .val (.int (0 : Int32))] [(.int (1 : Int32))])) _
      refine XS.goto X141.here hx rfl (pc0 := 92) (pc' := 96) rfl (hb hby at_92) (by decide) (by decide) ?_
      exact k)
    obtain ⟨fs, hr, hrun, hended, hW, hsame⟩ := X141.leave (v := some (.int (1 : Int32))) (fun h => by rw [Bd.returns] at h; cases h)
    refine ⟨_, _, p143 _ ?_, hrun, hended, _, _, rfl, ?_, ⟨_, rfl⟩, hW, hsame.mono (by decide) (by decide)⟩
    · show Steps p.tables e below (T141.setTop (mkF m 96 #[.val (.int x0), .val (.ref b2), .val (.int (2 : Int32)), .val (.int (0 : Int32)), .val (.int (0 : Int32)), .val (.int (0 : Int32))] [(.int (1 : Int32))])) _
      exact retN X141 hx (t := .boolean) Bd.returns (by simp) (hb hby at_96) hr
    · show Q0 Z x0 a_AWAITING_APPROVAL a_PENDING_PAYMENT a_REJECTED a_PAID a_CANCELLED h0 n0 _ T141.heap _
      rw [e141]
      exact ⟨rfl, N141⟩
  · have p144 : ∀ t, Steps p.tables e below (T107.setTop (mkF m 82 #[.val (.int x0), .val (.ref b2), .val (.int (3 : Int32)), .val (.int (0 : Int32)), .val (.int (0 : Int32)), .val (.int (0 : Int32))] [(.int (3 : Int32)), (.ref b2)])) t → Steps p.tables e below (s₁.setTop (entryFrame m #[(.int x0)] maxLocals)) t := fun t k => p125 t (by
      show Steps p.tables e below (T107.setTop (mkF m 42 #[.val (.int x0), .val (.ref b2), .val (.int (3 : Int32)), .unset, .unset, .unset] [])) _
      refine XS.iloadN X107.here hx rfl (hb hby at_42) rfl ?_
      show Steps p.tables e below (T107.setTop (mkF m 43 #[.val (.int x0), .val (.ref b2), .val (.int (3 : Int32)), .unset, .unset, .unset] [(.int (3 : Int32))])) _
      refine XS.ifYes X107.here hx rfl (pc0 := 43) (pc' := 50) rfl (hb hby at_43) rfl ((if0 _ _).trans (feq (by decide)).2) (by decide) (by decide) ?_
      show Steps p.tables e below (T107.setTop (mkF m 50 #[.val (.int x0), .val (.ref b2), .val (.int (3 : Int32)), .unset, .unset, .unset] [])) _
      refine XS.iconst X107.here hx rfl (hb hby at_50) ?_
      show Steps p.tables e below (T107.setTop (mkF m 51 #[.val (.int x0), .val (.ref b2), .val (.int (3 : Int32)), .unset, .unset, .unset] [(.int (0 : Int32))])) _
      refine XS.istoreN X107.here hx rfl (hb hby at_51) rfl (l' := #[.val (.int x0), .val (.ref b2), .val (.int (3 : Int32)), .val (.int (0 : Int32)), .unset, .unset]) rfl ?_
      show Steps p.tables e below (T107.setTop (mkF m 52 #[.val (.int x0), .val (.ref b2), .val (.int (3 : Int32)), .val (.int (0 : Int32)), .unset, .unset] [])) _
      refine XS.iloadN X107.here hx rfl (hb hby at_52) rfl ?_
      show Steps p.tables e below (T107.setTop (mkF m 53 #[.val (.int x0), .val (.ref b2), .val (.int (3 : Int32)), .val (.int (0 : Int32)), .unset, .unset] [(.int (3 : Int32))])) _
      refine XS.iconst X107.here hx rfl (hb hby at_53) ?_
      show Steps p.tables e below (T107.setTop (mkF m 54 #[.val (.int x0), .val (.ref b2), .val (.int (3 : Int32)), .val (.int (0 : Int32)), .unset, .unset] [(.int (1 : Int32)), (.int (3 : Int32))])) _
      refine XS.icmpYes X107.here hx rfl (pc0 := 54) (pc' := 61) rfl (hb hby at_54) rfl ((feq (by decide)).2) (by decide) (by decide) ?_
      show Steps p.tables e below (T107.setTop (mkF m 61 #[.val (.int x0), .val (.ref b2), .val (.int (3 : Int32)), .val (.int (0 : Int32)), .unset, .unset] [])) _
      refine XS.iconst X107.here hx rfl (hb hby at_61) ?_
      show Steps p.tables e below (T107.setTop (mkF m 62 #[.val (.int x0), .val (.ref b2), .val (.int (3 : Int32)), .val (.int (0 : Int32)), .unset, .unset] [(.int (0 : Int32))])) _
      refine XS.istore X107.here hx rfl (hb hby at_62) rfl (l' := #[.val (.int x0), .val (.ref b2), .val (.int (3 : Int32)), .val (.int (0 : Int32)), .val (.int (0 : Int32)), .unset]) rfl ?_
      show Steps p.tables e below (T107.setTop (mkF m 64 #[.val (.int x0), .val (.ref b2), .val (.int (3 : Int32)), .val (.int (0 : Int32)), .val (.int (0 : Int32)), .unset] [])) _
      refine XS.iloadN X107.here hx rfl (hb hby at_64) rfl ?_
      show Steps p.tables e below (T107.setTop (mkF m 65 #[.val (.int x0), .val (.ref b2), .val (.int (3 : Int32)), .val (.int (0 : Int32)), .val (.int (0 : Int32)), .unset] [(.int (0 : Int32))])) _
      refine XS.ifNo X107.here hx rfl (hb hby at_65) rfl ((if0 _ _).trans (teq (rfl)).2) ?_
      show Steps p.tables e below (T107.setTop (mkF m 68 #[.val (.int x0), .val (.ref b2), .val (.int (3 : Int32)), .val (.int (0 : Int32)), .val (.int (0 : Int32)), .unset] [])) _
      refine XS.iload X107.here hx rfl (hb hby at_68) rfl ?_
      show Steps p.tables e below (T107.setTop (mkF m 70 #[.val (.int x0), .val (.ref b2), .val (.int (3 : Int32)), .val (.int (0 : Int32)), .val (.int (0 : Int32)), .unset] [(.int (0 : Int32))])) _
      refine XS.ifYes X107.here hx rfl (pc0 := 70) (pc' := 77) rfl (hb hby at_70) rfl ((if0 _ _).trans (teq (rfl)).1) (by decide) (by decide) ?_
      show Steps p.tables e below (T107.setTop (mkF m 77 #[.val (.int x0), .val (.ref b2), .val (.int (3 : Int32)), .val (.int (0 : Int32)), .val (.int (0 : Int32)), .unset] [])) _
      refine XS.iconst X107.here hx rfl (hb hby at_77) ?_
      show Steps p.tables e below (T107.setTop (mkF m 78 #[.val (.int x0), .val (.ref b2), .val (.int (3 : Int32)), .val (.int (0 : Int32)), .val (.int (0 : Int32)), .unset] [(.int (0 : Int32))])) _
      refine XS.istore X107.here hx rfl (hb hby at_78) rfl (l' := #[.val (.int x0), .val (.ref b2), .val (.int (3 : Int32)), .val (.int (0 : Int32)), .val (.int (0 : Int32)), .val (.int (0 : Int32))]) rfl ?_
      show Steps p.tables e below (T107.setTop (mkF m 80 #[.val (.int x0), .val (.ref b2), .val (.int (3 : Int32)), .val (.int (0 : Int32)), .val (.int (0 : Int32)), .val (.int (0 : Int32))] [])) _
      refine XS.aloadN X107.here hx rfl (hb hby at_80) rfl rfl ?_
      show Steps p.tables e below (T107.setTop (mkF m 81 #[.val (.int x0), .val (.ref b2), .val (.int (3 : Int32)), .val (.int (0 : Int32)), .val (.int (0 : Int32)), .val (.int (0 : Int32))] [(.ref b2)])) _
      refine XS.iloadN X107.here hx rfl (hb hby at_81) rfl ?_
      exact k)
    obtain ⟨cl145, Ar145, q145, Sz145, Ng145, Hs145, G145⟩ := id VV107
    have hin145 : ¬ ((3 : Int32) < 0 ∨ cl145.slots.size ≤ ((3 : Int32)).toNatClampNeg) := inb_of Sz145 ⟨by decide, by decide⟩
    have hat145 : cl145.slots[((3 : Int32)).toNatClampNeg]? = some (.ref a_PAID) := Hs145.at hin145 (rfl)
    have p146 : ∀ t, Steps p.tables e below (T107.setTop (mkF m 83 #[.val (.int x0), .val (.ref b2), .val (.int (3 : Int32)), .val (.int (0 : Int32)), .val (.int (0 : Int32)), .val (.int (0 : Int32))] [(.ref a_PAID)])) t → Steps p.tables e below (s₁.setTop (entryFrame m #[(.int x0)] maxLocals)) t := fun t k => p144 t (by
      show Steps p.tables e below (T107.setTop (mkF m 82 #[.val (.int x0), .val (.ref b2), .val (.int (3 : Int32)), .val (.int (0 : Int32)), .val (.int (0 : Int32)), .val (.int (0 : Int32))] [(.int (3 : Int32)), (.ref b2)])) _
      refine X107.aaload hx (j := (3 : Int32)) (v := (.ref a_PAID)) (by rw [e107]; exact Ar145.1) (State.isArrayOf_alike hZ.alike Ar145.2.1) rfl Ar145.2.2 hin145 hat145 (g := (mkF m 82 #[.val (.int x0), .val (.ref b2), .val (.int (3 : Int32)), .val (.int (0 : Int32)), .val (.int (0 : Int32)), .val (.int (0 : Int32))] [(.int (3 : Int32)), (.ref b2)])) rfl rfl (hb hby at_82) _ ?_
      exact k)
    obtain ⟨cq147, kq147, qa147, qb147, qc147⟩ := isOf hZ e107 f118
    obtain ⟨_, _, ⟨T147, L147, k147, n147⟩, -, X147, ⟨Lc147, hQ147, l147, y147, z147⟩, st147⟩ := X107.virtualBack hx (y := (⟨"com/example/claimroll/claimroll/PaymentRequestStatus", "isOutstanding", "()Z"⟩ : MethodName)) (z := (⟨"com/example/claimroll/claimroll/PaymentRequestStatus", "isOutstanding", "()Z"⟩ : MethodName)) hown (mvT hZ (hw _ (List.mem_of_getElem? (i := 15) rfl))) (mvT hZ (hw _ (List.mem_of_getElem? (i := 16) rfl))) (notFace_of_selects (args := #[]) (mvT hZ (hw _ (List.mem_of_getElem? (i := 18) rfl)))) (mvT hZ (hw _ (List.mem_of_getElem? (i := 18) rfl))) (mvT hZ (hw _ (List.mem_of_getElem? (i := 17) rfl))) (by decide) (backOf (W := 0) (rmi3 l Z a0 hw [] a_PAID  h107 n0 Z107 f118 f119) hZ (hw _ (List.mem_of_getElem? (i := 19) rfl)) (hw _ (List.mem_of_getElem? (i := 3) rfl)) (by decide) (by decide)) qa147 qc147 (g := (mkF m 83 #[.val (.int x0), .val (.ref b2), .val (.int (3 : Int32)), .val (.int (0 : Int32)), .val (.int (0 : Int32)), .val (.int (0 : Int32))] [(.ref a_PAID)])) rfl (by rw [hml]; rfl) (Steps.refl _) (argsL := []) (rest := []) (lenOf pd0_0 rfl) rfl (by show 2 * 0 + _ ≤ _; exact Nat.le_of_eq rfl) (hb hby at_83) (fun _ _ => ⟨rfl, e107, (by decide : 1 + 0 ≤ _), (by decide : 5 + 0 ≤ _)⟩)
    dsimp only [Pt.U, Pt.locs, Pt.cells, Pt.slots] at X147 l147 y147 z147 st147 hQ147
    subst l147 y147 z147
    obtain ⟨rfl, Nq147, e147⟩ := hQ147
    have N147 := Fr.app N107 Nq147
    have p148 : ∀ t, Steps p.tables e below (T147.setTop (mkF m 86 #[.val (.int x0), .val (.ref b2), .val (.int (3 : Int32)), .val (.int (0 : Int32)), .val (.int (0 : Int32)), .val (.int (0 : Int32))] [(.int (0 : Int32))])) t → Steps p.tables e below (s₁.setTop (entryFrame m #[(.int x0)] maxLocals)) t := fun t k => p146 t (st147.trans k)
    have p149 : ∀ t, Steps p.tables e below (T147.setTop (mkF m 96 #[.val (.int x0), .val (.ref b2), .val (.int (3 : Int32)), .val (.int (0 : Int32)), .val (.int (0 : Int32)), .val (.int (0 : Int32))] [(.int (1 : Int32))])) t → Steps p.tables e below (s₁.setTop (entryFrame m #[(.int x0)] maxLocals)) t := fun t k => p148 t (by
      show Steps p.tables e below (T147.setTop (mkF m 86 #[.val (.int x0), .val (.ref b2), .val (.int (3 : Int32)), .val (.int (0 : Int32)), .val (.int (0 : Int32)), .val (.int (0 : Int32))] [(.int (0 : Int32))])) _
      refine XS.iload X147.here hx rfl (hb hby at_86) rfl ?_
      show Steps p.tables e below (T147.setTop (mkF m 88 #[.val (.int x0), .val (.ref b2), .val (.int (3 : Int32)), .val (.int (0 : Int32)), .val (.int (0 : Int32)), .val (.int (0 : Int32))] [(.int (0 : Int32)), (.int (0 : Int32))])) _
      refine XS.icmpNo X147.here hx rfl (hb hby at_88) rfl ((teq (rfl)).2) ?_
      show Steps p.tables e below (T147.setTop (mkF m 91 #[.val (.int x0), .val (.ref b2), .val (.int (3 : Int32)), .val (.int (0 : Int32)), .val (.int (0 : Int32)), .val (.int (0 : Int32))] [])) _
      refine XS.iconst X147.here hx rfl (hb hby at_91) ?_
      show Steps p.tables e below (T147.setTop (mkF m 92 #[.val (.int x0), .val (.ref b2), .val (.int (3 : Int32)), .val (.int (0 : Int32)), .val (.int (0 : Int32)), .val (.int (0 : Int32))] [(.int (1 : Int32))])) _
      refine XS.goto X147.here hx rfl (pc0 := 92) (pc' := 96) rfl (hb hby at_92) (by decide) (by decide) ?_
      exact k)
    obtain ⟨fs, hr, hrun, hended, hW, hsame⟩ := X147.leave (v := some (.int (1 : Int32))) (fun h => by rw [Bd.returns] at h; cases h)
    refine ⟨_, _, p149 _ ?_, hrun, hended, _, _, rfl, ?_, ⟨_, rfl⟩, hW, hsame.mono (by decide) (by decide)⟩
    · show Steps p.tables e below (T147.setTop (mkF m 96 #[.val (.int x0), .val (.ref b2), .val (.int (3 : Int32)), .val (.int (0 : Int32)), .val (.int (0 : Int32)), .val (.int (0 : Int32))] [(.int (1 : Int32))])) _
      exact retN X147 hx (t := .boolean) Bd.returns (by simp) (hb hby at_96) hr
    · show Q0 Z x0 a_AWAITING_APPROVAL a_PENDING_PAYMENT a_REJECTED a_PAID a_CANCELLED h0 n0 _ T147.heap _
      rw [e147]
      exact ⟨rfl, N147⟩
  · have p150 : ∀ t, Steps p.tables e below (T107.setTop (mkF m 82 #[.val (.int x0), .val (.ref b2), .val (.int (4 : Int32)), .val (.int (0 : Int32)), .val (.int (0 : Int32)), .val (.int (0 : Int32))] [(.int (4 : Int32)), (.ref b2)])) t → Steps p.tables e below (s₁.setTop (entryFrame m #[(.int x0)] maxLocals)) t := fun t k => p125 t (by
      show Steps p.tables e below (T107.setTop (mkF m 42 #[.val (.int x0), .val (.ref b2), .val (.int (4 : Int32)), .unset, .unset, .unset] [])) _
      refine XS.iloadN X107.here hx rfl (hb hby at_42) rfl ?_
      show Steps p.tables e below (T107.setTop (mkF m 43 #[.val (.int x0), .val (.ref b2), .val (.int (4 : Int32)), .unset, .unset, .unset] [(.int (4 : Int32))])) _
      refine XS.ifYes X107.here hx rfl (pc0 := 43) (pc' := 50) rfl (hb hby at_43) rfl ((if0 _ _).trans (feq (by decide)).2) (by decide) (by decide) ?_
      show Steps p.tables e below (T107.setTop (mkF m 50 #[.val (.int x0), .val (.ref b2), .val (.int (4 : Int32)), .unset, .unset, .unset] [])) _
      refine XS.iconst X107.here hx rfl (hb hby at_50) ?_
      show Steps p.tables e below (T107.setTop (mkF m 51 #[.val (.int x0), .val (.ref b2), .val (.int (4 : Int32)), .unset, .unset, .unset] [(.int (0 : Int32))])) _
      refine XS.istoreN X107.here hx rfl (hb hby at_51) rfl (l' := #[.val (.int x0), .val (.ref b2), .val (.int (4 : Int32)), .val (.int (0 : Int32)), .unset, .unset]) rfl ?_
      show Steps p.tables e below (T107.setTop (mkF m 52 #[.val (.int x0), .val (.ref b2), .val (.int (4 : Int32)), .val (.int (0 : Int32)), .unset, .unset] [])) _
      refine XS.iloadN X107.here hx rfl (hb hby at_52) rfl ?_
      show Steps p.tables e below (T107.setTop (mkF m 53 #[.val (.int x0), .val (.ref b2), .val (.int (4 : Int32)), .val (.int (0 : Int32)), .unset, .unset] [(.int (4 : Int32))])) _
      refine XS.iconst X107.here hx rfl (hb hby at_53) ?_
      show Steps p.tables e below (T107.setTop (mkF m 54 #[.val (.int x0), .val (.ref b2), .val (.int (4 : Int32)), .val (.int (0 : Int32)), .unset, .unset] [(.int (1 : Int32)), (.int (4 : Int32))])) _
      refine XS.icmpYes X107.here hx rfl (pc0 := 54) (pc' := 61) rfl (hb hby at_54) rfl ((feq (by decide)).2) (by decide) (by decide) ?_
      show Steps p.tables e below (T107.setTop (mkF m 61 #[.val (.int x0), .val (.ref b2), .val (.int (4 : Int32)), .val (.int (0 : Int32)), .unset, .unset] [])) _
      refine XS.iconst X107.here hx rfl (hb hby at_61) ?_
      show Steps p.tables e below (T107.setTop (mkF m 62 #[.val (.int x0), .val (.ref b2), .val (.int (4 : Int32)), .val (.int (0 : Int32)), .unset, .unset] [(.int (0 : Int32))])) _
      refine XS.istore X107.here hx rfl (hb hby at_62) rfl (l' := #[.val (.int x0), .val (.ref b2), .val (.int (4 : Int32)), .val (.int (0 : Int32)), .val (.int (0 : Int32)), .unset]) rfl ?_
      show Steps p.tables e below (T107.setTop (mkF m 64 #[.val (.int x0), .val (.ref b2), .val (.int (4 : Int32)), .val (.int (0 : Int32)), .val (.int (0 : Int32)), .unset] [])) _
      refine XS.iloadN X107.here hx rfl (hb hby at_64) rfl ?_
      show Steps p.tables e below (T107.setTop (mkF m 65 #[.val (.int x0), .val (.ref b2), .val (.int (4 : Int32)), .val (.int (0 : Int32)), .val (.int (0 : Int32)), .unset] [(.int (0 : Int32))])) _
      refine XS.ifNo X107.here hx rfl (hb hby at_65) rfl ((if0 _ _).trans (teq (rfl)).2) ?_
      show Steps p.tables e below (T107.setTop (mkF m 68 #[.val (.int x0), .val (.ref b2), .val (.int (4 : Int32)), .val (.int (0 : Int32)), .val (.int (0 : Int32)), .unset] [])) _
      refine XS.iload X107.here hx rfl (hb hby at_68) rfl ?_
      show Steps p.tables e below (T107.setTop (mkF m 70 #[.val (.int x0), .val (.ref b2), .val (.int (4 : Int32)), .val (.int (0 : Int32)), .val (.int (0 : Int32)), .unset] [(.int (0 : Int32))])) _
      refine XS.ifYes X107.here hx rfl (pc0 := 70) (pc' := 77) rfl (hb hby at_70) rfl ((if0 _ _).trans (teq (rfl)).1) (by decide) (by decide) ?_
      show Steps p.tables e below (T107.setTop (mkF m 77 #[.val (.int x0), .val (.ref b2), .val (.int (4 : Int32)), .val (.int (0 : Int32)), .val (.int (0 : Int32)), .unset] [])) _
      refine XS.iconst X107.here hx rfl (hb hby at_77) ?_
      show Steps p.tables e below (T107.setTop (mkF m 78 #[.val (.int x0), .val (.ref b2), .val (.int (4 : Int32)), .val (.int (0 : Int32)), .val (.int (0 : Int32)), .unset] [(.int (0 : Int32))])) _
      refine XS.istore X107.here hx rfl (hb hby at_78) rfl (l' := #[.val (.int x0), .val (.ref b2), .val (.int (4 : Int32)), .val (.int (0 : Int32)), .val (.int (0 : Int32)), .val (.int (0 : Int32))]) rfl ?_
      show Steps p.tables e below (T107.setTop (mkF m 80 #[.val (.int x0), .val (.ref b2), .val (.int (4 : Int32)), .val (.int (0 : Int32)), .val (.int (0 : Int32)), .val (.int (0 : Int32))] [])) _
      refine XS.aloadN X107.here hx rfl (hb hby at_80) rfl rfl ?_
      show Steps p.tables e below (T107.setTop (mkF m 81 #[.val (.int x0), .val (.ref b2), .val (.int (4 : Int32)), .val (.int (0 : Int32)), .val (.int (0 : Int32)), .val (.int (0 : Int32))] [(.ref b2)])) _
      refine XS.iloadN X107.here hx rfl (hb hby at_81) rfl ?_
      exact k)
    obtain ⟨cl151, Ar151, q151, Sz151, Ng151, Hs151, G151⟩ := id VV107
    have hin151 : ¬ ((4 : Int32) < 0 ∨ cl151.slots.size ≤ ((4 : Int32)).toNatClampNeg) := inb_of Sz151 ⟨by decide, by decide⟩
    have hat151 : cl151.slots[((4 : Int32)).toNatClampNeg]? = some (.ref a_CANCELLED) := Hs151.at hin151 (rfl)
    have p152 : ∀ t, Steps p.tables e below (T107.setTop (mkF m 83 #[.val (.int x0), .val (.ref b2), .val (.int (4 : Int32)), .val (.int (0 : Int32)), .val (.int (0 : Int32)), .val (.int (0 : Int32))] [(.ref a_CANCELLED)])) t → Steps p.tables e below (s₁.setTop (entryFrame m #[(.int x0)] maxLocals)) t := fun t k => p150 t (by
      show Steps p.tables e below (T107.setTop (mkF m 82 #[.val (.int x0), .val (.ref b2), .val (.int (4 : Int32)), .val (.int (0 : Int32)), .val (.int (0 : Int32)), .val (.int (0 : Int32))] [(.int (4 : Int32)), (.ref b2)])) _
      refine X107.aaload hx (j := (4 : Int32)) (v := (.ref a_CANCELLED)) (by rw [e107]; exact Ar151.1) (State.isArrayOf_alike hZ.alike Ar151.2.1) rfl Ar151.2.2 hin151 hat151 (g := (mkF m 82 #[.val (.int x0), .val (.ref b2), .val (.int (4 : Int32)), .val (.int (0 : Int32)), .val (.int (0 : Int32)), .val (.int (0 : Int32))] [(.int (4 : Int32)), (.ref b2)])) rfl rfl (hb hby at_82) _ ?_
      exact k)
    obtain ⟨cq153, kq153, qa153, qb153, qc153⟩ := isOf hZ e107 f121
    obtain ⟨_, _, ⟨T153, L153, k153, n153⟩, -, X153, ⟨Lc153, hQ153, l153, y153, z153⟩, st153⟩ := X107.virtualBack hx (y := (⟨"com/example/claimroll/claimroll/PaymentRequestStatus", "isOutstanding", "()Z"⟩ : MethodName)) (z := (⟨"com/example/claimroll/claimroll/PaymentRequestStatus", "isOutstanding", "()Z"⟩ : MethodName)) hown (mvT hZ (hw _ (List.mem_of_getElem? (i := 15) rfl))) (mvT hZ (hw _ (List.mem_of_getElem? (i := 16) rfl))) (notFace_of_selects (args := #[]) (mvT hZ (hw _ (List.mem_of_getElem? (i := 18) rfl)))) (mvT hZ (hw _ (List.mem_of_getElem? (i := 18) rfl))) (mvT hZ (hw _ (List.mem_of_getElem? (i := 17) rfl))) (by decide) (backOf (W := 0) (rmi4 l Z a0 hw [] a_CANCELLED  h107 n0 Z107 f121 f122) hZ (hw _ (List.mem_of_getElem? (i := 19) rfl)) (hw _ (List.mem_of_getElem? (i := 3) rfl)) (by decide) (by decide)) qa153 qc153 (g := (mkF m 83 #[.val (.int x0), .val (.ref b2), .val (.int (4 : Int32)), .val (.int (0 : Int32)), .val (.int (0 : Int32)), .val (.int (0 : Int32))] [(.ref a_CANCELLED)])) rfl (by rw [hml]; rfl) (Steps.refl _) (argsL := []) (rest := []) (lenOf pd0_0 rfl) rfl (by show 2 * 0 + _ ≤ _; exact Nat.le_of_eq rfl) (hb hby at_83) (fun _ _ => ⟨rfl, e107, (by decide : 1 + 0 ≤ _), (by decide : 5 + 0 ≤ _)⟩)
    dsimp only [Pt.U, Pt.locs, Pt.cells, Pt.slots] at X153 l153 y153 z153 st153 hQ153
    subst l153 y153 z153
    obtain ⟨rfl, Nq153, e153⟩ := hQ153
    have N153 := Fr.app N107 Nq153
    have p154 : ∀ t, Steps p.tables e below (T153.setTop (mkF m 86 #[.val (.int x0), .val (.ref b2), .val (.int (4 : Int32)), .val (.int (0 : Int32)), .val (.int (0 : Int32)), .val (.int (0 : Int32))] [(.int (0 : Int32))])) t → Steps p.tables e below (s₁.setTop (entryFrame m #[(.int x0)] maxLocals)) t := fun t k => p152 t (st153.trans k)
    have p155 : ∀ t, Steps p.tables e below (T153.setTop (mkF m 96 #[.val (.int x0), .val (.ref b2), .val (.int (4 : Int32)), .val (.int (0 : Int32)), .val (.int (0 : Int32)), .val (.int (0 : Int32))] [(.int (1 : Int32))])) t → Steps p.tables e below (s₁.setTop (entryFrame m #[(.int x0)] maxLocals)) t := fun t k => p154 t (by
      show Steps p.tables e below (T153.setTop (mkF m 86 #[.val (.int x0), .val (.ref b2), .val (.int (4 : Int32)), .val (.int (0 : Int32)), .val (.int (0 : Int32)), .val (.int (0 : Int32))] [(.int (0 : Int32))])) _
      refine XS.iload X153.here hx rfl (hb hby at_86) rfl ?_
      show Steps p.tables e below (T153.setTop (mkF m 88 #[.val (.int x0), .val (.ref b2), .val (.int (4 : Int32)), .val (.int (0 : Int32)), .val (.int (0 : Int32)), .val (.int (0 : Int32))] [(.int (0 : Int32)), (.int (0 : Int32))])) _
      refine XS.icmpNo X153.here hx rfl (hb hby at_88) rfl ((teq (rfl)).2) ?_
      show Steps p.tables e below (T153.setTop (mkF m 91 #[.val (.int x0), .val (.ref b2), .val (.int (4 : Int32)), .val (.int (0 : Int32)), .val (.int (0 : Int32)), .val (.int (0 : Int32))] [])) _
      refine XS.iconst X153.here hx rfl (hb hby at_91) ?_
      show Steps p.tables e below (T153.setTop (mkF m 92 #[.val (.int x0), .val (.ref b2), .val (.int (4 : Int32)), .val (.int (0 : Int32)), .val (.int (0 : Int32)), .val (.int (0 : Int32))] [(.int (1 : Int32))])) _
      refine XS.goto X153.here hx rfl (pc0 := 92) (pc' := 96) rfl (hb hby at_92) (by decide) (by decide) ?_
      exact k)
    obtain ⟨fs, hr, hrun, hended, hW, hsame⟩ := X153.leave (v := some (.int (1 : Int32))) (fun h => by rw [Bd.returns] at h; cases h)
    refine ⟨_, _, p155 _ ?_, hrun, hended, _, _, rfl, ?_, ⟨_, rfl⟩, hW, hsame.mono (by decide) (by decide)⟩
    · show Steps p.tables e below (T153.setTop (mkF m 96 #[.val (.int x0), .val (.ref b2), .val (.int (4 : Int32)), .val (.int (0 : Int32)), .val (.int (0 : Int32)), .val (.int (0 : Int32))] [(.int (1 : Int32))])) _
      exact retN X153 hx (t := .boolean) Bd.returns (by simp) (hb hby at_96) hr
    · show Q0 Z x0 a_AWAITING_APPROVAL a_PENDING_PAYMENT a_REJECTED a_PAID a_CANCELLED h0 n0 _ T153.heap _
      rw [e153]
      exact ⟨rfl, N153⟩
set_option maxRecDepth 65536 in
set_option maxHeartbeats 40000000 in
theorem comes_1 {Post : Tables → Env → Array Value → State → Outcome → State → Prop} (hpost : ∀ tb e args s v u, (limb_1_1.after args s (.returned v) u = true ∧ limb_1_2.after args s (.returned v) u = true ∧ True) → FrameEnd s (.returned v) u (Jvm.fieldLocs frame_1_writes args s ++ Jvm.arrayLocs frame_1_arrays args s ++ Jvm.staticLocs frame_1_statics s) 16 128 → Post tb e args s (.returned v) u) :
    ArmFor flags0 classFile x code maxLocals ret World_1 tables_1 room_1 Calls_1 rest_1 Pre_1 Post := by
  intro l hfl _ _ p e ha hc hk s m args below hf hA hF happ hP
  obtain ⟨hcalls, hrest, hpre⟩ := hP
  obtain ⟨-, -, -, hnamed, -, -, -, hat⟩ := (Spec.applies_iff hf).mp happ
  obtain ⟨hg, hn⟩ := and_e (Cond.before_iff.mp (show (Jvm.Cond.and given_1 narrow_1).before args s = true from hpre))
  obtain ⟨hcount, ga0⟩ := and_e hg
  obtain ⟨w0, rfl⟩ : ∃ w0 : Value, args = #[w0] := by
    have hs : args.size = 1 := by simpa [Cond.value, given_1] using hcount
    obtain ⟨L⟩ := args
    match L, hs with
    | [w0], _ => exact ⟨w0, rfl⟩
  have hw := fun d (hd : d ∈ tables_1) => atoms_spec (ws := Jvm.Cond.code x code maxLocals ret :: tables_1) hat d (List.mem_cons_of_mem _ hd)
  have hfit : Fit s := fun {y c} hc i hi => by
    obtain ⟨ha, rfl⟩ := Array.getElem?_eq_some_iff.mp hc
    have q := List.all_eq_true.mp ((Array.all_eq_true_iff_forall_mem.mp hF) _ (Array.getElem_mem ha)) i (List.mem_range.mpr hi)
    simpa [Array.getElem?_eq_getElem hi] using q
  obtain ⟨i0, ei0⟩ := is_v ga0
  obtain rfl : w0 = (.int i0) := Option.some.inj ei0
  obtain ⟨nn0, nr0⟩ := and_e hn
  obtain ⟨nn1, nr1⟩ := and_e nr0
  obtain ⟨nn2, nr2⟩ := and_e nr1
  obtain ⟨nn3, nr3⟩ := and_e nr2
  obtain ⟨nn4, nr4⟩ := and_e nr3
  obtain ⟨nn5, nr5⟩ := and_e nr4
  obtain ⟨nn6, nr6⟩ := and_e nr5
  obtain ⟨nn7, nr7⟩ := and_e nr6
  obtain ⟨nn8, nr8⟩ := and_e nr7
  obtain ⟨a_AWAITING_APPROVAL, ev_AWAITING_APPROVAL⟩ := exa_v nn0
  have S_AWAITING_APPROVAL : Sta s s.heap "com/example/claimroll/claimroll/PaymentRequestStatus" "AWAITING_APPROVAL" "Lcom/example/claimroll/claimroll/PaymentRequestStatus;" (.ref a_AWAITING_APPROVAL) := Sta.start ev_AWAITING_APPROVAL (Or.inr ⟨(hw _ (List.mem_of_getElem? (i := 3) rfl)), (hw _ (List.mem_of_getElem? (i := 4) rfl))⟩)
  have E_AWAITING_APPROVAL : Exa s s.heap a_AWAITING_APPROVAL "com/example/claimroll/claimroll/PaymentRequestStatus" := Exa.start ev_AWAITING_APPROVAL nn0
  obtain ⟨a_PENDING_PAYMENT, ev_PENDING_PAYMENT⟩ := exa_v nn1
  have S_PENDING_PAYMENT : Sta s s.heap "com/example/claimroll/claimroll/PaymentRequestStatus" "PENDING_PAYMENT" "Lcom/example/claimroll/claimroll/PaymentRequestStatus;" (.ref a_PENDING_PAYMENT) := Sta.start ev_PENDING_PAYMENT (Or.inr ⟨(hw _ (List.mem_of_getElem? (i := 3) rfl)), (hw _ (List.mem_of_getElem? (i := 7) rfl))⟩)
  have E_PENDING_PAYMENT : Exa s s.heap a_PENDING_PAYMENT "com/example/claimroll/claimroll/PaymentRequestStatus" := Exa.start ev_PENDING_PAYMENT nn1
  obtain ⟨a_REJECTED, ev_REJECTED⟩ := exa_v nn2
  have S_REJECTED : Sta s s.heap "com/example/claimroll/claimroll/PaymentRequestStatus" "REJECTED" "Lcom/example/claimroll/claimroll/PaymentRequestStatus;" (.ref a_REJECTED) := Sta.start ev_REJECTED (Or.inr ⟨(hw _ (List.mem_of_getElem? (i := 3) rfl)), (hw _ (List.mem_of_getElem? (i := 9) rfl))⟩)
  have E_REJECTED : Exa s s.heap a_REJECTED "com/example/claimroll/claimroll/PaymentRequestStatus" := Exa.start ev_REJECTED nn2
  obtain ⟨a_PAID, ev_PAID⟩ := exa_v nn3
  have S_PAID : Sta s s.heap "com/example/claimroll/claimroll/PaymentRequestStatus" "PAID" "Lcom/example/claimroll/claimroll/PaymentRequestStatus;" (.ref a_PAID) := Sta.start ev_PAID (Or.inr ⟨(hw _ (List.mem_of_getElem? (i := 3) rfl)), (hw _ (List.mem_of_getElem? (i := 11) rfl))⟩)
  have E_PAID : Exa s s.heap a_PAID "com/example/claimroll/claimroll/PaymentRequestStatus" := Exa.start ev_PAID nn3
  obtain ⟨a_CANCELLED, ev_CANCELLED⟩ := exa_v nn4
  have S_CANCELLED : Sta s s.heap "com/example/claimroll/claimroll/PaymentRequestStatus" "CANCELLED" "Lcom/example/claimroll/claimroll/PaymentRequestStatus;" (.ref a_CANCELLED) := Sta.start ev_CANCELLED (Or.inr ⟨(hw _ (List.mem_of_getElem? (i := 3) rfl)), (hw _ (List.mem_of_getElem? (i := 13) rfl))⟩)
  have E_CANCELLED : Exa s s.heap a_CANCELLED "com/example/claimroll/claimroll/PaymentRequestStatus" := Exa.start ev_CANCELLED nn4
  have O_ordinal_AWAITING_APPROVAL : Fld s s.heap a_AWAITING_APPROVAL "java/lang/Enum" "ordinal" "I" (.int (0 : Int32)) := Fld.start ((fld_at ev_AWAITING_APPROVAL).symm.trans (eqv_i (Term.int_eval (0)) nn5))
  have O_ordinal_PAID : Fld s s.heap a_PAID "java/lang/Enum" "ordinal" "I" (.int (3 : Int32)) := Fld.start ((fld_at ev_PAID).symm.trans (eqv_i (Term.int_eval (3)) nn6))
  have O_ordinal_PENDING_PAYMENT : Fld s s.heap a_PENDING_PAYMENT "java/lang/Enum" "ordinal" "I" (.int (1 : Int32)) := Fld.start ((fld_at ev_PENDING_PAYMENT).symm.trans (eqv_i (Term.int_eval (1)) nn7))
  have O_ordinal_CANCELLED : Fld s s.heap a_CANCELLED "java/lang/Enum" "ordinal" "I" (.int (4 : Int32)) := Fld.start ((fld_at ev_CANCELLED).symm.trans (eqv_i (Term.int_eval (4)) nn8))
  have O_ordinal_REJECTED : Fld s s.heap a_REJECTED "java/lang/Enum" "ordinal" "I" (.int (2 : Int32)) := Fld.start ((fld_at ev_REJECTED).symm.trans (eqv_i (Term.int_eval (2)) nr8))
  obtain ⟨n, o, h1, h2, h3, _, L, rfl, ⟨rfl, N⟩, hq⟩ := rm0 l s _ hw tables_1 i0 a_AWAITING_APPROVAL a_PENDING_PAYMENT a_REJECTED a_PAID a_CANCELLED s.heap s.heap.size (Nat.le_refl _) S_AWAITING_APPROVAL S_PENDING_PAYMENT S_REJECTED S_PAID S_CANCELLED E_AWAITING_APPROVAL E_PENDING_PAYMENT E_REJECTED E_PAID E_CANCELLED O_ordinal_AWAITING_APPROVAL O_ordinal_PENDING_PAYMENT O_ordinal_REJECTED O_ordinal_PAID O_ordinal_CANCELLED p e ha hc hk s m _ below hf ((Spec.applies_iff_loose hf).mp happ).1 ⟨rfl, State.Warmed39.refl s, rfl⟩ trivial
  refine ⟨n, _, h1, h2, h3, hpost _ _ _ _ _ _ ⟨Cond.after_iff.mpr rfl, Cond.after_iff.mpr (eq_i res_at (Term.int_eval (1)) rfl), trivial⟩ ⟨hq.1, hq.2.1, (hq.2.2.sift fun y hy => Or.inr (N y hy)).mono (by decide) (by decide)⟩⟩
theorem main_1_1 : Claimed_1_1 := comes_1 fun _ _ _ _ _ _ h hF => ⟨h.1, hF⟩
theorem main_1_2 : Claimed_1_2 := comes_1 fun _ _ _ _ _ _ h hF => ⟨h.2.1, hF⟩
end Jvm.Pilot.@@N@@
namespace Jvm.Pilot.@@N@@
open Jvm Jvm.ClassFile Sem Op Lib Jvm.Free Jvm.Stand Jvm.Pilot.@@N@@.Jvm.D
/-! MADE BY PROGRAM (witnessworld.py) out of the Statement's table words and the real class files: 12 classes; the members and pool entries that the words name. The judged class is class 1, her method 1. -/
namespace start1
open Jvm.ClassFile
def u (s : String) : CpInfo := .utf8 (stringToUtf16 s)
/-- a pool by its gaps: so many unusable entries, then the entry; so many at the end -/
def gap : Nat → List CpInfo → List CpInfo
  | 0, r => r
  | n + 1, r => .unusable :: gap n r
def poolList (es : List (Nat × CpInfo)) (last : Nat) : List CpInfo := es.foldr (fun e r => gap e.1 (e.2 :: r)) (gap last [])
def pool (es : List (Nat × CpInfo)) (last : Nat) : Array CpInfo := ⟨poolList es last⟩
def fileOf (pool : Array CpInfo) (this : Nat) (attrs : Array Attribute := #[]) (ms : Array MethodInfo := #[]) (fl : Nat := 33) (sup : Nat := 0) (ifs : Array Nat := #[]) (fds : Array FieldInfo := #[]) : ClassFile where
  minorVersion := 0
  majorVersion := 65
  constantPool := pool
  accessFlags := fl
  thisClass := this
  superClass := sup
  interfaces := ifs
  fields := fds
  methods := ms
  attributes := attrs
def plain (name : String) (sup : Option ClassId) : Class where
  name := name
  kind := .ordinary
  loader := none
  accessFlags := 33
  super := sup
  interfaces := #[]
  cf := none
  fields := #[]
  methods := #[]
  instanceTypes := #[]
  staticTypes := #[]
  resolved := #[]
  callSites := []
  init := .initialized
  statics := none
  mirror := none

def pool0 : Array CpInfo := pool [(5, u "<init>"), (0, u "()V"), (1, .class_ 10), (1, u "java/lang/Object")] 113

def k0m0 : Method := { name := "<init>", desc := "()V", sig := { parameters := [], returnType := none }, accessFlags := 1, code := none }
/-- java/lang/Object -/
def k0 : Class := { plain "java/lang/Object" none with
  accessFlags := 33
  interfaces := #[]
  cf := some (fileOf pool0 8 #[] #[{ accessFlags := 1, nameIndex := 5, descriptorIndex := 6, attributes := #[] }] 33 0 #[] #[])
  fields := #[]
  methods := #[k0m0]
  instanceTypes := #[]
  staticTypes := #[]
  resolved := Array.replicate 124 none
  statics := none }

def pool1 : Array CpInfo := pool [(2, .class_ 4), (1, u "java/lang/Object"), (0, u "<init>"), (0, u "()V"), (0, .class_ 8), (0, u "com/example/claimroll/claimroll/PaymentRequestStatus"), (0, .fieldref 7 10), (0, .nameAndType 11 12), (0, u "AWAITING_APPROVAL"), (0, u "Lcom/example/claimroll/claimroll/PaymentRequestStatus;"), (0, .fieldref 7 14), (0, .nameAndType 15 12), (0, u "PENDING_PAYMENT"), (0, .fieldref 7 17), (0, .nameAndType 18 12), (0, u "REJECTED"), (0, .fieldref 7 20), (0, .nameAndType 21 12), (0, u "PAID"), (0, .fieldref 7 23), (0, .nameAndType 24 12), (0, u "CANCELLED"), (0, .integer 2147483647), (0, .methodref 7 27), (0, .nameAndType 28 29), (0, u "isOutstanding"), (0, u "()Z"), (0, .class_ 31), (0, u "com/example/claimroll/claimroll/PaymentRequestStatusIsOutstandingPinLaw"), (2, u "law"), (0, u "(I)Z")] 5

def k1m0 : Method := { name := "<init>", desc := "()V", sig := { parameters := [], returnType := none }, accessFlags := 1, code := none }
def k1c1 : Code := { maxStack := 4, maxLocals := 6, code := code, exceptionTable := #[], attributes := #[] }
def k1m1 : Method := { name := "law", desc := "(I)Z", sig := { parameters := [.int], returnType := some .boolean }, accessFlags := 9, code := some k1c1 }
/-- com/example/claimroll/claimroll/PaymentRequestStatusIsOutstandingPinLaw -/
def k1 : Class := { plain "com/example/claimroll/claimroll/PaymentRequestStatusIsOutstandingPinLaw" (some 0) with
  accessFlags := 49
  interfaces := #[]
  cf := some (fileOf pool1 30 #[] #[{ accessFlags := 1, nameIndex := 5, descriptorIndex := 6, attributes := #[] }, { accessFlags := 9, nameIndex := 34, descriptorIndex := 35, attributes := #[] }] 49 2 #[] #[])
  fields := #[]
  methods := #[k1m0, k1m1]
  instanceTypes := #[]
  staticTypes := #[]
  resolved := Array.replicate 41 none
  statics := none }

def pool2 : Array CpInfo := pool [(1, .class_ 2), (0, u "java/lang/constant/Constable"), (0, .class_ 4), (0, u "java/lang/Object")] 6

/-- java/lang/constant/Constable -/
def k2 : Class := { plain "java/lang/constant/Constable" (some 0) with
  accessFlags := 1537
  interfaces := #[]
  cf := some (fileOf pool2 1 #[] #[] 1537 3 #[] #[])
  fields := #[]
  methods := #[]
  instanceTypes := #[]
  staticTypes := #[]
  resolved := Array.replicate 11 none
  statics := none }

def pool3 : Array CpInfo := pool [(1, .class_ 2), (0, u "java/lang/Comparable"), (0, .class_ 4), (0, u "java/lang/Object")] 7

/-- java/lang/Comparable -/
def k3 : Class := { plain "java/lang/Comparable" (some 0) with
  accessFlags := 1537
  interfaces := #[]
  cf := some (fileOf pool3 1 #[] #[] 1537 3 #[] #[])
  fields := #[]
  methods := #[]
  instanceTypes := #[]
  staticTypes := #[]
  resolved := Array.replicate 12 none
  statics := none }

def pool4 : Array CpInfo := pool [(1, .class_ 2), (0, u "java/io/Serializable"), (0, .class_ 4), (0, u "java/lang/Object")] 2

/-- java/io/Serializable -/
def k4 : Class := { plain "java/io/Serializable" (some 0) with
  accessFlags := 1537
  interfaces := #[]
  cf := some (fileOf pool4 1 #[] #[] 1537 3 #[] #[])
  fields := #[]
  methods := #[]
  instanceTypes := #[]
  staticTypes := #[]
  resolved := Array.replicate 7 none
  statics := none }

def pool5 : Array CpInfo := pool [(2, .class_ 4), (1, u "java/lang/Enum"), (0, u "name"), (0, u "Ljava/lang/String;"), (0, .fieldref 2 8), (0, .nameAndType 9 10), (0, u "ordinal"), (0, u "I"), (1, .class_ 14), (1, u "java/lang/Object"), (4, u "hash"), (86, .class_ 108), (1, u "java/lang/Enum$EnumDesc"), (2, .class_ 112), (0, u "java/lang/constant/Constable"), (0, .class_ 114), (0, u "java/lang/Comparable"), (0, .class_ 116), (0, u "java/io/Serializable"), (9, u "()I")] 77

def k5c0 : Code := { maxStack := 1, maxLocals := 1, code := jdk_37_method_2_code, exceptionTable := #[], attributes := #[] }
def k5m0 : Method := { name := "ordinal", desc := "()I", sig := { parameters := [], returnType := some .int }, accessFlags := 17, code := some k5c0 }
/-- java/lang/Enum -/
def k5 : Class := { plain "java/lang/Enum" (some 0) with
  accessFlags := 1057
  interfaces := #[2, 3, 4]
  cf := some (fileOf pool5 2 #[.nestMembers #[106]] #[{ accessFlags := 17, nameIndex := 9, descriptorIndex := 126, attributes := #[] }] 1057 12 #[111, 113, 115] #[{ accessFlags := 18, nameIndex := 5, descriptorIndex := 6, attributes := #[] }, { accessFlags := 18, nameIndex := 9, descriptorIndex := 10, attributes := #[] }, { accessFlags := 2, nameIndex := 19, descriptorIndex := 10, attributes := #[] }])
  fields := #[{ name := "name", type := (.object "java/lang/String"), accessFlags := 18, slot := 0, constantValue := 0 }, { name := "ordinal", type := .int, accessFlags := 18, slot := 1, constantValue := 0 }, { name := "hash", type := .int, accessFlags := 2, slot := 2, constantValue := 0 }]
  methods := #[k5m0]
  instanceTypes := #[(.object "java/lang/String"), .int, .int]
  staticTypes := #[]
  resolved := Array.replicate 204 none
  statics := none }

def pool6 : Array CpInfo := pool [(9, .class_ 10), (0, u "com/example/claimroll/claimroll/Labelled"), (31, .class_ 43), (0, u "java/lang/Object")] 12

/-- com/example/claimroll/claimroll/Labelled -/
def k6 : Class := { plain "com/example/claimroll/claimroll/Labelled" (some 0) with
  accessFlags := 1536
  interfaces := #[]
  cf := some (fileOf pool6 9 #[] #[] 1536 42 #[] #[])
  fields := #[]
  methods := #[]
  instanceTypes := #[]
  staticTypes := #[]
  resolved := Array.replicate 56 none
  statics := none }

def pool7 : Array CpInfo := pool [(1, .class_ 2), (0, u "com/example/claimroll/claimroll/PaymentRequestStatus"), (2, u "AWAITING_APPROVAL"), (0, u "Lcom/example/claimroll/claimroll/PaymentRequestStatus;"), (2, u "PENDING_PAYMENT"), (2, u "REJECTED"), (2, u "PAID"), (2, u "CANCELLED"), (2, u "$VALUES"), (0, u "[Lcom/example/claimroll/claimroll/PaymentRequestStatus;"), (6, .class_ 31), (1, u "java/lang/Enum"), (8, u "label"), (0, u "Ljava/lang/String;"), (0, .methodref 1 43), (0, .nameAndType 44 45), (0, u "ordinal"), (0, u "()I"), (27, .class_ 74), (0, u "com/example/claimroll/claimroll/Labelled"), (8, u "isOutstanding"), (0, u "()Z")] 6

def k7c0 : Code := { maxStack := 4, maxLocals := 1, code := prog_41_method_5_code, exceptionTable := #[], attributes := #[] }
def k7m0 : Method := { name := "isOutstanding", desc := "()Z", sig := { parameters := [], returnType := some .boolean }, accessFlags := 0, code := some k7c0 }
/-- com/example/claimroll/claimroll/PaymentRequestStatus -/
def k7 : Class := { plain "com/example/claimroll/claimroll/PaymentRequestStatus" (some 5) with
  accessFlags := 16432
  interfaces := #[6]
  cf := some (fileOf pool7 1 #[] #[{ accessFlags := 0, nameIndex := 83, descriptorIndex := 84, attributes := #[] }] 16432 29 #[73] #[{ accessFlags := 16409, nameIndex := 5, descriptorIndex := 6, attributes := #[] }, { accessFlags := 16409, nameIndex := 9, descriptorIndex := 6, attributes := #[] }, { accessFlags := 16409, nameIndex := 12, descriptorIndex := 6, attributes := #[] }, { accessFlags := 16409, nameIndex := 15, descriptorIndex := 6, attributes := #[] }, { accessFlags := 16409, nameIndex := 18, descriptorIndex := 6, attributes := #[] }, { accessFlags := 18, nameIndex := 40, descriptorIndex := 41, attributes := #[] }, { accessFlags := 4122, nameIndex := 21, descriptorIndex := 22, attributes := #[] }])
  fields := #[{ name := "AWAITING_APPROVAL", type := (.object "com/example/claimroll/claimroll/PaymentRequestStatus"), accessFlags := 16409, slot := 0, constantValue := 0 }, { name := "PENDING_PAYMENT", type := (.object "com/example/claimroll/claimroll/PaymentRequestStatus"), accessFlags := 16409, slot := 1, constantValue := 0 }, { name := "REJECTED", type := (.object "com/example/claimroll/claimroll/PaymentRequestStatus"), accessFlags := 16409, slot := 2, constantValue := 0 }, { name := "PAID", type := (.object "com/example/claimroll/claimroll/PaymentRequestStatus"), accessFlags := 16409, slot := 3, constantValue := 0 }, { name := "CANCELLED", type := (.object "com/example/claimroll/claimroll/PaymentRequestStatus"), accessFlags := 16409, slot := 4, constantValue := 0 }, { name := "label", type := (.object "java/lang/String"), accessFlags := 18, slot := 3, constantValue := 0 }, { name := "$VALUES", type := (.array (.object "com/example/claimroll/claimroll/PaymentRequestStatus")), accessFlags := 4122, slot := 5, constantValue := 0 }]
  methods := #[k7m0]
  instanceTypes := #[(.object "java/lang/String"), .int, .int, (.object "java/lang/String")]
  staticTypes := #[(.object "com/example/claimroll/claimroll/PaymentRequestStatus"), (.object "com/example/claimroll/claimroll/PaymentRequestStatus"), (.object "com/example/claimroll/claimroll/PaymentRequestStatus"), (.object "com/example/claimroll/claimroll/PaymentRequestStatus"), (.object "com/example/claimroll/claimroll/PaymentRequestStatus"), (.array (.object "com/example/claimroll/claimroll/PaymentRequestStatus"))]
  resolved := Array.replicate 91 none
  statics := some 0 }

def pool8 : Array CpInfo := pool [(1, u "java/lang/Cloneable"), (0, .class_ 1), (0, u "java/lang/Object"), (0, .class_ 3)] 3

/-- java/lang/Cloneable -/
def k8 : Class := { plain "java/lang/Cloneable" (some 0) with
  accessFlags := 1537
  interfaces := #[]
  cf := some (fileOf pool8 2 #[] #[] 1537 4 #[] #[])
  fields := #[]
  methods := #[]
  instanceTypes := #[]
  staticTypes := #[]
  resolved := Array.replicate 8 none
  statics := none }

/-- the primitive byte -/
def k9 : Class := { plain "byte" none with kind := .primitive 'B', accessFlags := 0x411 }
/-- [B -/
def k10 : Class := { plain "[B" (some 0) with kind := .array 9 .byte, interfaces := #[8, 4], accessFlags := 1041 }

/-- [Lcom/example/claimroll/claimroll/PaymentRequestStatus; -/
def k11 : Class := { plain "[Lcom/example/claimroll/claimroll/PaymentRequestStatus;" (some 0) with kind := .array 7 (.object "com/example/claimroll/claimroll/PaymentRequestStatus"), interfaces := #[8, 4], accessFlags := 1041 }

def heap : Heap := #[{ cls := 7, slots := #[.ref 1, .ref 2, .ref 3, .ref 4, .ref 5, .null], vm := .statics 7 },
  { cls := 7, slots := #[.null, .int 0, .int 0, .null], vm := .none },
  { cls := 7, slots := #[.null, .int 1, .int 0, .null], vm := .none },
  { cls := 7, slots := #[.null, .int 2, .int 0, .null], vm := .none },
  { cls := 7, slots := #[.null, .int 3, .int 0, .null], vm := .none },
  { cls := 7, slots := #[.null, .int 4, .int 0, .null], vm := .none }]
def classes : Array Class := #[k0, k1, k2, k3, k4, k5, k6, k7, k8, k9, k10, k11]
def interned : List (Array UInt16 × Addr) := []
def slotsUsed : Nat := 26
def theMethod : MethodId := ⟨1, 1⟩
def args0 : Array Value := #[.int 3]
def aboutOver (below : List Frame) : State where
  vm := { classes := classes, interned := interned.toArray }
  heap := heap
  slotsUsed := slotsUsed
  threads := #[{ frames := .invoking theMethod args0 :: below }]
def below0 : List Frame := [.native { method := ⟨0, 0⟩, args := #[] }]
def about1 : State := aboutOver below0
def p0 : Program := .bare "" "" ""
def e0 : Env := launch0.env 0 0 0
theorem w_frames : about1.frames = Frame.invoking theMethod args0 :: below0 := rfl
set_option maxRecDepth 65536 in
theorem w_args : argsFit about1.vm theMethod args0 = true := by decide +kernel
set_option maxRecDepth 65536 in
theorem w_heap : heapFits about1 = true := by decide +kernel
set_option maxRecDepth 65536 in
theorem w_runnable : about1.curStatus? = some .runnable := by decide +kernel
set_option maxRecDepth 65536 in
theorem w_alone : about1.alone = true := by decide +kernel
set_option maxRecDepth 65536 in
theorem w_named : about1.methodNamed? x = some theMethod := by decide +kernel
set_option maxRecDepth 65536 in
theorem w_hears : about1.hears theMethod below0 = true := by decide +kernel
set_option maxRecDepth 65536 in
theorem w_ripe : about1.ripe theMethod args0 below0 = true := by decide +kernel
theorem w_running : about1.status = .running := rfl
set_option maxRecDepth 65536 in
theorem w_room : about1.hasRoom e0.platform room_1 = true :=
  launch0.hasRoom_least _ room_1 (by decide +kernel) (by decide +kernel) (by decide +kernel) (by decide +kernel) (by decide +kernel) (by decide +kernel)
theorem allAtoms_all (ts : List Jvm.Cond) (a : Array Jvm.Value) (st : Jvm.State) : (allAtoms ts).before a st = ts.all (fun c => c.before a st) := by
  induction ts with
  | nil => rfl
  | cons c t ih =>
    show (Jvm.Cond.and c (allAtoms t)).before a st = _
    rw [Jvm.Cond.before_and, ih, List.all_cons]
def words1 : List Jvm.Cond := Jvm.Cond.code x code maxLocals ret :: tables_1
/-- a 'code' word, met by the world's own term for the bytes: nothing is compared byte by byte -/
theorem code_word {y : MethodName} {bytes : ByteArray} {mx : Nat} {rt : Option FieldType} {a : Array Value} {s : State} {m : MethodId} {meth : Method} {c : Code} (h1 : s.methodNamed? y = some m) (h2 : s.vm.method? m = some meth) (h3 : meth.code = some c) (h4 : c.code = bytes)
    (h5 : (c.maxLocals == mx && c.exceptionTable.isEmpty && decide (c.maxStack ≤ mostOperands) && decide (meth.sig.returnType = rt) && !meth.locks && decide (parseMethodDescriptor y.desc = some meth.sig)) = true) : (Jvm.Cond.code y bytes mx rt).before a s = true := by
  simp only [Bool.and_eq_true, beq_iff_eq, Bool.not_eq_true', decide_eq_true_eq] at h5
  obtain ⟨⟨⟨⟨⟨g1, g2⟩, g3⟩, g4⟩, g5⟩, g6⟩ := h5
  simp [Cond.before, Cond.holds, Cond.value, h1, h2, h3, h4, g1, g2, g3, g4, g5, g6]
def isCode : Jvm.Cond → Bool
  | .code _ _ _ _ => true
  | _ => false
theorem all_split {L : List Jvm.Cond} {P : Jvm.Cond → Bool} (h1 : L.all (fun c => isCode c || P c) = true) (h2 : ∀ c ∈ L.filter isCode, P c = true) : L.all P = true := by
  refine List.all_eq_true.mpr fun c hc => ?_
  have h := List.all_eq_true.mp h1 c hc
  rcases Bool.eq_false_or_eq_true (isCode c) with hi | hi
  · exact h2 c (List.mem_filter.mpr ⟨hc, hi⟩)
  · simpa [hi] using h
set_option maxRecDepth 65536 in
theorem w_c0 : (Jvm.Cond.code x code maxLocals ret).before args0 about1 = true := code_word (m := ⟨1, 1⟩) (meth := k1m1) (c := k1c1) (by decide +kernel) rfl rfl rfl (by decide +kernel)
set_option maxRecDepth 65536 in
theorem w_c1 : (Jvm.Cond.code ({ cls := "com/example/claimroll/claimroll/PaymentRequestStatus", name := "isOutstanding", desc := "()Z" } : Jvm.MethodName) prog_41_method_5_code (1 : Nat) (Option.some Jvm.ClassFile.FieldType.boolean)).before args0 about1 = true := code_word (m := ⟨7, 0⟩) (meth := k7m0) (c := k7c0) (by decide +kernel) rfl rfl rfl (by decide +kernel)
set_option maxRecDepth 65536 in
theorem w_c2 : (Jvm.Cond.code ({ cls := "java/lang/Enum", name := "ordinal", desc := "()I" } : Jvm.MethodName) jdk_37_method_2_code (1 : Nat) (Option.some Jvm.ClassFile.FieldType.int)).before args0 about1 = true := code_word (m := ⟨5, 0⟩) (meth := k5m0) (c := k5c0) (by decide +kernel) rfl rfl rfl (by decide +kernel)
def codes1 : List Jvm.Cond := [Jvm.Cond.code x code maxLocals ret, Jvm.Cond.code ({ cls := "com/example/claimroll/claimroll/PaymentRequestStatus", name := "isOutstanding", desc := "()Z" } : Jvm.MethodName) prog_41_method_5_code (1 : Nat) (Option.some Jvm.ClassFile.FieldType.boolean), Jvm.Cond.code ({ cls := "java/lang/Enum", name := "ordinal", desc := "()I" } : Jvm.MethodName) jdk_37_method_2_code (1 : Nat) (Option.some Jvm.ClassFile.FieldType.int)]
set_option maxRecDepth 65536 in
theorem codes_eq : words1.filter isCode = codes1 := rfl
theorem w_codes : ∀ c ∈ words1.filter isCode, c.before args0 about1 = true := by
  rw [codes_eq]
  intro c hc
  simp only [codes1, List.mem_cons, List.not_mem_nil, or_false] at hc
  rcases hc with rfl | rfl | rfl
  · exact w_c0
  · exact w_c1
  · exact w_c2
set_option maxRecDepth 65536 in
theorem w_t1 : (words1.take 24).all (fun c => isCode c || c.before args0 about1) = true := by decide +kernel
set_option maxRecDepth 65536 in
theorem w_t2 : (words1.drop 24).all (fun c => isCode c || c.before args0 about1) = true := by decide +kernel
theorem w_tables : (allAtoms (Jvm.Cond.code x code maxLocals ret :: tables_1)).before args0 about1 = true := by
  rw [allAtoms_all]
  show words1.all (fun c => c.before args0 about1) = true
  refine all_split ?_ w_codes
  rw [← List.take_append_drop 24 words1, List.all_append, w_t1, w_t2]
  rfl
set_option maxRecDepth 65536 in
theorem w_case : (Jvm.Cond.and given_1 narrow_1).before args0 about1 = true := by decide +kernel
theorem w_applies : (headSpec (Jvm.Cond.code x code maxLocals ret :: tables_1) room_1).applies x e0.platform about1 = true :=
  (Spec.applies_iff w_frames).mpr ⟨w_running, w_runnable, w_alone, w_named, w_hears, w_ripe, w_room, w_tables⟩
theorem atStart : AtStart classFile x code maxLocals ret World_1 tables_1 room_1 Calls_1 rest_1 Pre_1 launch0 p0 e0 about1 theMethod args0 below0 :=
  ⟨lists_1, trivial, launch0.admits_env _ _ _, launch0.least_env, fairChoices_fair.cas, fairChoices_fair.clock, w_frames, w_args, w_heap, w_applies, trivial, trivial, w_case⟩
end start1
theorem witness_1 : WitnessClaimed_1 := ⟨start1.p0, start1.e0, start1.about1, start1.theMethod, start1.args0, start1.below0, start1.atStart⟩
end Jvm.Pilot.@@N@@
