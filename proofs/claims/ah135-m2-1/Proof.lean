import JvmDerived
import JvmDerived.Pilot.@@N@@Statement
import JvmDerived.Pilot.@@N@@Code
set_option linter.unusedVariables false
set_option linter.unusedSimpArgs false
namespace Jvm.Pilot.@@N@@
open Jvm Jvm.ClassFile Sem Op Lib Jvm.Free Jvm.Stand Jvm.LawKit Jvm.RoadKit Bundle Jvm.Pilot.@@N@@.Jvm.D

def own_gz (y0 y1 : Int32) : Int32 := if (y0 &&& (255 : Int32)) = (31 : Int32) then (if (y1 &&& (255 : Int32)) = (139 : Int32) then 1 else 0) else 0
theorem own_m255 (x : Int32) : (x &&& (255 : Int32)).toInt = x.toInt % 256 := c_mask x 255 8 (by decide) (by decide)
theorem own_n3 {n x : Int32} (h : n = (x &&& (3 : Int32))) : n = (0 : Int32) ∨ n = (1 : Int32) ∨ n = (2 : Int32) ∨ n = (3 : Int32) := by
  have e := c_mask x 3 2 (by decide) (by decide); rw [← h] at e
  simp only [← Int32.toInt_inj]
  have l0 : (0 : Int32).toInt = 0 := by decide
  have l1 : (1 : Int32).toInt = 1 := by decide
  have l2 : (2 : Int32).toInt = 2 := by decide
  have l3 : (3 : Int32).toInt = 3 := by decide
  omega
theorem own_lits : (31 : Int32).toInt = 31 ∧ (139 : Int32).toInt = 139 ∧ (-117 : Int32).toInt = -117 := by decide
theorem own_gzv {a b : Int32} (ha : -128 ≤ a.toInt ∧ a.toInt < 128) (hb' : -128 ≤ b.toInt ∧ b.toInt < 128) : own_gz (a.toInt8.toInt32) (b.toInt8.toInt32) = if a = (31 : Int32) then (if b = (-117 : Int32) then 1 else 0) else 0 := by
  obtain ⟨l1, l2, l3⟩ := own_lits
  have e1 := c_i2b a; have e2 := c_i2b b; have m1 := own_m255 (a.toInt8.toInt32); have m2 := own_m255 (b.toInt8.toInt32)
  have q1 : ((a.toInt8.toInt32) &&& (255 : Int32)) = (31 : Int32) ↔ a = (31 : Int32) := by simp only [← Int32.toInt_inj]; omega
  have q2 : ((b.toInt8.toInt32) &&& (255 : Int32)) = (139 : Int32) ↔ b = (-117 : Int32) := by simp only [← Int32.toInt_inj]; omega
  unfold own_gz; simp only [q1, q2]
theorem dg0_0 : decode prog_46_method_2_code 0 = .ok (.aload_n 0, 1) := by decide +kernel
theorem dg0_1 : decode prog_46_method_2_code 1 = .ok (.arraylength, 1) := by decide +kernel
theorem dg0_2 : decode prog_46_method_2_code 2 = .ok (.iconst 2, 1) := by decide +kernel
theorem dg0_3 : decode prog_46_method_2_code 3 = .ok (.if_icmp .lt 32, 3) := by decide +kernel
theorem dg0_35 : decode prog_46_method_2_code 35 = .ok (.iconst 0, 1) := by decide +kernel
theorem dg0_36 : decode prog_46_method_2_code 36 = .ok (.ireturn, 1) := by decide +kernel
theorem png0 : plainName "com/example/kalchas/kalchas/io/GzipDecoder" = true := by first | (simp [plainName, overriddenIn]; done) | decide +kernel
theorem efg0 (m : MethodId) (x0 : Addr) : entryFrame m #[(.ref x0)] 1 = mkF m 0 #[.val (.ref x0)] [] := by first | (simp [entryFrame, mkF, argsToLocals, Value.category]; done) | rfl
def Qg0 (Z : State) (x0 : Addr) (kk : ClassId) (h0 : Heap) (n0 : Nat) (v : Option Value) (h : Heap) (L : List Loc) : Prop := v = some (.int (0 : Int32)) ∧ Fr n0 L ∧ h = h0
set_option maxRecDepth 65536 in
set_option maxHeartbeats 40000000 in
theorem rmg0 (l : Launch) (Z : State) (a0 : Array Value) (hw : ∀ d ∈ tables_1, d.before a0 Z = true) (ws : List Jvm.Cond) (x0 : Addr) (kk : ClassId) (h0 : Heap) (n0 : Nat) (Z0 : n0 ≤ h0.size) (V0 : Arv Z h0 x0 kk .byte (0 : Int32) [] (.int (0 : Int32))) :
    MetFree l (⟨"com/example/kalchas/kalchas/io/GzipDecoder", "isGzip", "([B)Z"⟩ : MethodName) (head1 (Jvm.Cond.code (⟨"com/example/kalchas/kalchas/io/GzipDecoder", "isGzip", "([B)Z"⟩ : MethodName) prog_46_method_2_code 1 (some .boolean) :: ws) ({ frames := 0, cells := 0, slots := 0, locals := 0 } : Room)) (fun a U => a = #[(.ref x0)] ∧ Z.Warmed39 U.vm ∧ U.heap = h0) (fun _ _ _ _ _ => True) (fun _ U o U' => ∃ v L, o = .returned v ∧ Qg0 Z x0 kk h0 n0 v U'.heap L ∧ FrameEnd U o U' L ({ frames := 0, cells := 0, slots := 0, locals := 0 } : Room).cells ({ frames := 0, cells := 0, slots := 0, locals := 0 } : Room).slots) := by
  refine MetFree.of_bodySF (plainFor_of_name png0) hisR ?_
  intro p e s m args below meth c s₁ Bd hml0 hP hK
  obtain ⟨rfl, hZ, hh⟩ := hP
  have hx := Bd.exec
  have hby := Bd.bytes
  have hml : c.maxLocals = 1 := hml0
  have hown : s.vm.findClass "com/example/kalchas/kalchas/io/GzipDecoder" = some m.cls := findClass_of_methodNamed Bd.named
  have hnm := (name_of_methodNamed Bd.named Bd.method).1
  have X0 : Stand p l e ({ frames := 0, cells := 0, slots := 0, locals := 0 } : Room) s m #[(.ref x0)] below meth c s₁ [] 0 0 := Stand.of_body Bd
  have e0 : s₁.heap = h0 := by rw [← hh, Bd.state]; rfl
  have N0 := Fr.nil n0
  have pre0 : ∀ t, Steps p.tables e below (s₁.setTop (mkF m 0 #[.val (.ref x0)] [])) t → Steps p.tables e below (s₁.setTop (entryFrame m #[(.ref x0)] 1)) t := fun t k => castTop (efg0 m x0) k
  have p1 : ∀ t, Steps p.tables e below (s₁.setTop (mkF m 1 #[.val (.ref x0)] [(.ref x0)])) t → Steps p.tables e below (s₁.setTop (entryFrame m #[(.ref x0)] 1)) t := fun t k => pre0 t (by
    show Steps p.tables e below (s₁.setTop (mkF m 0 #[.val (.ref x0)] [])) _
    refine XS.aloadN X0.here hx rfl (hb hby dg0_0) rfl rfl ?_
    exact k)
  obtain ⟨cl2, Ar2, -, Sz2, Ng2, -, -⟩ := id V0
  have p3 : ∀ t, Steps p.tables e below (s₁.setTop (mkF m 36 #[.val (.ref x0)] [(.int (0 : Int32))])) t → Steps p.tables e below (s₁.setTop (entryFrame m #[(.ref x0)] 1)) t := fun t k => p1 t (by
    show Steps p.tables e below (s₁.setTop (mkF m 1 #[.val (.ref x0)] [(.ref x0)])) _
    refine X0.arraylength hx (by rw [e0]; exact Ar2.1) (State.isArrayOf_alike hZ.alike Ar2.2.1) (g := (mkF m 1 #[.val (.ref x0)] [(.ref x0)])) rfl rfl (hb hby dg0_1) _ ?_
    rw [len_of Sz2 Ng2]
    show Steps p.tables e below (s₁.setTop (mkF m 2 #[.val (.ref x0)] [(.int (0 : Int32))])) _
    refine XS.iconst X0.here hx rfl (hb hby dg0_2) ?_
    show Steps p.tables e below (s₁.setTop (mkF m 3 #[.val (.ref x0)] [(.int (2 : Int32)), (.int (0 : Int32))])) _
    refine XS.icmpYes X0.here hx rfl (pc0 := 3) (pc' := 35) rfl (hb hby dg0_3) rfl ((tlt (by decide)).1) (by decide) (by decide) ?_
    show Steps p.tables e below (s₁.setTop (mkF m 35 #[.val (.ref x0)] [])) _
    refine XS.iconst X0.here hx rfl (hb hby dg0_35) ?_
    exact k)
  obtain ⟨fs, hr, hrun, hended, hW, hsame⟩ := X0.leave (v := some (.int (0 : Int32))) (fun h => by rw [Bd.returns] at h; cases h)
  refine ⟨_, _, p3 _ ?_, hrun, hended, _, _, rfl, ?_, ⟨_, rfl⟩, hW, hsame.mono (by decide) (by decide)⟩
  · show Steps p.tables e below (s₁.setTop (mkF m 36 #[.val (.ref x0)] [(.int (0 : Int32))])) _
    exact retN X0 hx (t := .boolean) Bd.returns (by simp) (hb hby dg0_36) hr
  · show Qg0 Z x0 kk h0 n0 _ s₁.heap _
    rw [e0]
    exact ⟨rfl, N0, rfl⟩
theorem dg1_0 : decode prog_46_method_2_code 0 = .ok (.aload_n 0, 1) := by decide +kernel
theorem dg1_1 : decode prog_46_method_2_code 1 = .ok (.arraylength, 1) := by decide +kernel
theorem dg1_2 : decode prog_46_method_2_code 2 = .ok (.iconst 2, 1) := by decide +kernel
theorem dg1_3 : decode prog_46_method_2_code 3 = .ok (.if_icmp .lt 32, 3) := by decide +kernel
theorem dg1_35 : decode prog_46_method_2_code 35 = .ok (.iconst 0, 1) := by decide +kernel
theorem dg1_36 : decode prog_46_method_2_code 36 = .ok (.ireturn, 1) := by decide +kernel
theorem png1 : plainName "com/example/kalchas/kalchas/io/GzipDecoder" = true := by first | (simp [plainName, overriddenIn]; done) | decide +kernel
theorem efg1 (m : MethodId) (x0 : Addr) : entryFrame m #[(.ref x0)] 1 = mkF m 0 #[.val (.ref x0)] [] := by first | (simp [entryFrame, mkF, argsToLocals, Value.category]; done) | rfl
def Qg1 (Z : State) (x0 : Addr) (kk : ClassId) (y0 : Int32) (h0 : Heap) (n0 : Nat) (v : Option Value) (h : Heap) (L : List Loc) : Prop := v = some (.int (0 : Int32)) ∧ Fr n0 L ∧ h = h0
set_option maxRecDepth 65536 in
set_option maxHeartbeats 40000000 in
theorem rmg1 (l : Launch) (Z : State) (a0 : Array Value) (hw : ∀ d ∈ tables_1, d.before a0 Z = true) (ws : List Jvm.Cond) (x0 : Addr) (kk : ClassId) (y0 : Int32) (h0 : Heap) (n0 : Nat) (Z0 : n0 ≤ h0.size) (V0 : Arv Z h0 x0 kk .byte (1 : Int32) [(.int y0)] (.int (0 : Int32))) :
    MetFree l (⟨"com/example/kalchas/kalchas/io/GzipDecoder", "isGzip", "([B)Z"⟩ : MethodName) (head1 (Jvm.Cond.code (⟨"com/example/kalchas/kalchas/io/GzipDecoder", "isGzip", "([B)Z"⟩ : MethodName) prog_46_method_2_code 1 (some .boolean) :: ws) ({ frames := 0, cells := 0, slots := 0, locals := 0 } : Room)) (fun a U => a = #[(.ref x0)] ∧ Z.Warmed39 U.vm ∧ U.heap = h0) (fun _ _ _ _ _ => True) (fun _ U o U' => ∃ v L, o = .returned v ∧ Qg1 Z x0 kk y0 h0 n0 v U'.heap L ∧ FrameEnd U o U' L ({ frames := 0, cells := 0, slots := 0, locals := 0 } : Room).cells ({ frames := 0, cells := 0, slots := 0, locals := 0 } : Room).slots) := by
  refine MetFree.of_bodySF (plainFor_of_name png1) hisR ?_
  intro p e s m args below meth c s₁ Bd hml0 hP hK
  obtain ⟨rfl, hZ, hh⟩ := hP
  have hx := Bd.exec
  have hby := Bd.bytes
  have hml : c.maxLocals = 1 := hml0
  have hown : s.vm.findClass "com/example/kalchas/kalchas/io/GzipDecoder" = some m.cls := findClass_of_methodNamed Bd.named
  have hnm := (name_of_methodNamed Bd.named Bd.method).1
  have X0 : Stand p l e ({ frames := 0, cells := 0, slots := 0, locals := 0 } : Room) s m #[(.ref x0)] below meth c s₁ [] 0 0 := Stand.of_body Bd
  have e0 : s₁.heap = h0 := by rw [← hh, Bd.state]; rfl
  have N0 := Fr.nil n0
  have pre0 : ∀ t, Steps p.tables e below (s₁.setTop (mkF m 0 #[.val (.ref x0)] [])) t → Steps p.tables e below (s₁.setTop (entryFrame m #[(.ref x0)] 1)) t := fun t k => castTop (efg1 m x0) k
  have p1 : ∀ t, Steps p.tables e below (s₁.setTop (mkF m 1 #[.val (.ref x0)] [(.ref x0)])) t → Steps p.tables e below (s₁.setTop (entryFrame m #[(.ref x0)] 1)) t := fun t k => pre0 t (by
    show Steps p.tables e below (s₁.setTop (mkF m 0 #[.val (.ref x0)] [])) _
    refine XS.aloadN X0.here hx rfl (hb hby dg1_0) rfl rfl ?_
    exact k)
  obtain ⟨cl2, Ar2, -, Sz2, Ng2, -, -⟩ := id V0
  have p3 : ∀ t, Steps p.tables e below (s₁.setTop (mkF m 36 #[.val (.ref x0)] [(.int (0 : Int32))])) t → Steps p.tables e below (s₁.setTop (entryFrame m #[(.ref x0)] 1)) t := fun t k => p1 t (by
    show Steps p.tables e below (s₁.setTop (mkF m 1 #[.val (.ref x0)] [(.ref x0)])) _
    refine X0.arraylength hx (by rw [e0]; exact Ar2.1) (State.isArrayOf_alike hZ.alike Ar2.2.1) (g := (mkF m 1 #[.val (.ref x0)] [(.ref x0)])) rfl rfl (hb hby dg1_1) _ ?_
    rw [len_of Sz2 Ng2]
    show Steps p.tables e below (s₁.setTop (mkF m 2 #[.val (.ref x0)] [(.int (1 : Int32))])) _
    refine XS.iconst X0.here hx rfl (hb hby dg1_2) ?_
    show Steps p.tables e below (s₁.setTop (mkF m 3 #[.val (.ref x0)] [(.int (2 : Int32)), (.int (1 : Int32))])) _
    refine XS.icmpYes X0.here hx rfl (pc0 := 3) (pc' := 35) rfl (hb hby dg1_3) rfl ((tlt (by decide)).1) (by decide) (by decide) ?_
    show Steps p.tables e below (s₁.setTop (mkF m 35 #[.val (.ref x0)] [])) _
    refine XS.iconst X0.here hx rfl (hb hby dg1_35) ?_
    exact k)
  obtain ⟨fs, hr, hrun, hended, hW, hsame⟩ := X0.leave (v := some (.int (0 : Int32))) (fun h => by rw [Bd.returns] at h; cases h)
  refine ⟨_, _, p3 _ ?_, hrun, hended, _, _, rfl, ?_, ⟨_, rfl⟩, hW, hsame.mono (by decide) (by decide)⟩
  · show Steps p.tables e below (s₁.setTop (mkF m 36 #[.val (.ref x0)] [(.int (0 : Int32))])) _
    exact retN X0 hx (t := .boolean) Bd.returns (by simp) (hb hby dg1_36) hr
  · show Qg1 Z x0 kk y0 h0 n0 _ s₁.heap _
    rw [e0]
    exact ⟨rfl, N0, rfl⟩
theorem dg2_0 : decode prog_46_method_2_code 0 = .ok (.aload_n 0, 1) := by decide +kernel
theorem dg2_1 : decode prog_46_method_2_code 1 = .ok (.arraylength, 1) := by decide +kernel
theorem dg2_2 : decode prog_46_method_2_code 2 = .ok (.iconst 2, 1) := by decide +kernel
theorem dg2_3 : decode prog_46_method_2_code 3 = .ok (.if_icmp .lt 32, 3) := by decide +kernel
theorem dg2_6 : decode prog_46_method_2_code 6 = .ok (.aload_n 0, 1) := by decide +kernel
theorem dg2_7 : decode prog_46_method_2_code 7 = .ok (.iconst 0, 1) := by decide +kernel
theorem dg2_8 : decode prog_46_method_2_code 8 = .ok (.baload, 1) := by decide +kernel
theorem dg2_9 : decode prog_46_method_2_code 9 = .ok (.sipush 255, 3) := by decide +kernel
theorem dg2_12 : decode prog_46_method_2_code 12 = .ok (.iand, 1) := by decide +kernel
theorem dg2_13 : decode prog_46_method_2_code 13 = .ok (.bipush 31, 2) := by decide +kernel
theorem dg2_15 : decode prog_46_method_2_code 15 = .ok (.if_icmp .ne 20, 3) := by decide +kernel
theorem dg2_18 : decode prog_46_method_2_code 18 = .ok (.aload_n 0, 1) := by decide +kernel
theorem dg2_19 : decode prog_46_method_2_code 19 = .ok (.iconst 1, 1) := by decide +kernel
theorem dg2_20 : decode prog_46_method_2_code 20 = .ok (.baload, 1) := by decide +kernel
theorem dg2_21 : decode prog_46_method_2_code 21 = .ok (.sipush 255, 3) := by decide +kernel
theorem dg2_24 : decode prog_46_method_2_code 24 = .ok (.iand, 1) := by decide +kernel
theorem dg2_25 : decode prog_46_method_2_code 25 = .ok (.sipush 139, 3) := by decide +kernel
theorem dg2_28 : decode prog_46_method_2_code 28 = .ok (.if_icmp .ne 7, 3) := by decide +kernel
theorem dg2_31 : decode prog_46_method_2_code 31 = .ok (.iconst 1, 1) := by decide +kernel
theorem dg2_32 : decode prog_46_method_2_code 32 = .ok (.goto 4, 3) := by decide +kernel
theorem dg2_35 : decode prog_46_method_2_code 35 = .ok (.iconst 0, 1) := by decide +kernel
theorem dg2_36 : decode prog_46_method_2_code 36 = .ok (.ireturn, 1) := by decide +kernel
theorem png2 : plainName "com/example/kalchas/kalchas/io/GzipDecoder" = true := by first | (simp [plainName, overriddenIn]; done) | decide +kernel
theorem efg2 (m : MethodId) (x0 : Addr) : entryFrame m #[(.ref x0)] 1 = mkF m 0 #[.val (.ref x0)] [] := by first | (simp [entryFrame, mkF, argsToLocals, Value.category]; done) | rfl
def Qg2 (Z : State) (x0 : Addr) (kk : ClassId) (y0 : Int32) (y1 : Int32) (h0 : Heap) (n0 : Nat) (v : Option Value) (h : Heap) (L : List Loc) : Prop := v = some (.int (own_gz y0 y1)) ∧ Fr n0 L ∧ h = h0
set_option maxRecDepth 65536 in
set_option maxHeartbeats 40000000 in
theorem rmg2 (l : Launch) (Z : State) (a0 : Array Value) (hw : ∀ d ∈ tables_1, d.before a0 Z = true) (ws : List Jvm.Cond) (x0 : Addr) (kk : ClassId) (y0 : Int32) (y1 : Int32) (h0 : Heap) (n0 : Nat) (Z0 : n0 ≤ h0.size) (V0 : Arv Z h0 x0 kk .byte (2 : Int32) [(.int y0), (.int y1)] (.int (0 : Int32))) :
    MetFree l (⟨"com/example/kalchas/kalchas/io/GzipDecoder", "isGzip", "([B)Z"⟩ : MethodName) (head1 (Jvm.Cond.code (⟨"com/example/kalchas/kalchas/io/GzipDecoder", "isGzip", "([B)Z"⟩ : MethodName) prog_46_method_2_code 1 (some .boolean) :: ws) ({ frames := 0, cells := 0, slots := 0, locals := 0 } : Room)) (fun a U => a = #[(.ref x0)] ∧ Z.Warmed39 U.vm ∧ U.heap = h0) (fun _ _ _ _ _ => True) (fun _ U o U' => ∃ v L, o = .returned v ∧ Qg2 Z x0 kk y0 y1 h0 n0 v U'.heap L ∧ FrameEnd U o U' L ({ frames := 0, cells := 0, slots := 0, locals := 0 } : Room).cells ({ frames := 0, cells := 0, slots := 0, locals := 0 } : Room).slots) := by
  refine MetFree.of_bodySF (plainFor_of_name png2) hisR ?_
  intro p e s m args below meth c s₁ Bd hml0 hP hK
  obtain ⟨rfl, hZ, hh⟩ := hP
  have hx := Bd.exec
  have hby := Bd.bytes
  have hml : c.maxLocals = 1 := hml0
  have hown : s.vm.findClass "com/example/kalchas/kalchas/io/GzipDecoder" = some m.cls := findClass_of_methodNamed Bd.named
  have hnm := (name_of_methodNamed Bd.named Bd.method).1
  have X0 : Stand p l e ({ frames := 0, cells := 0, slots := 0, locals := 0 } : Room) s m #[(.ref x0)] below meth c s₁ [] 0 0 := Stand.of_body Bd
  have e0 : s₁.heap = h0 := by rw [← hh, Bd.state]; rfl
  have N0 := Fr.nil n0
  have pre0 : ∀ t, Steps p.tables e below (s₁.setTop (mkF m 0 #[.val (.ref x0)] [])) t → Steps p.tables e below (s₁.setTop (entryFrame m #[(.ref x0)] 1)) t := fun t k => castTop (efg2 m x0) k
  have p1 : ∀ t, Steps p.tables e below (s₁.setTop (mkF m 1 #[.val (.ref x0)] [(.ref x0)])) t → Steps p.tables e below (s₁.setTop (entryFrame m #[(.ref x0)] 1)) t := fun t k => pre0 t (by
    show Steps p.tables e below (s₁.setTop (mkF m 0 #[.val (.ref x0)] [])) _
    refine XS.aloadN X0.here hx rfl (hb hby dg2_0) rfl rfl ?_
    exact k)
  obtain ⟨cl2, Ar2, -, Sz2, Ng2, -, -⟩ := id V0
  have p3 : ∀ t, Steps p.tables e below (s₁.setTop (mkF m 8 #[.val (.ref x0)] [(.int (0 : Int32)), (.ref x0)])) t → Steps p.tables e below (s₁.setTop (entryFrame m #[(.ref x0)] 1)) t := fun t k => p1 t (by
    show Steps p.tables e below (s₁.setTop (mkF m 1 #[.val (.ref x0)] [(.ref x0)])) _
    refine X0.arraylength hx (by rw [e0]; exact Ar2.1) (State.isArrayOf_alike hZ.alike Ar2.2.1) (g := (mkF m 1 #[.val (.ref x0)] [(.ref x0)])) rfl rfl (hb hby dg2_1) _ ?_
    rw [len_of Sz2 Ng2]
    show Steps p.tables e below (s₁.setTop (mkF m 2 #[.val (.ref x0)] [(.int (2 : Int32))])) _
    refine XS.iconst X0.here hx rfl (hb hby dg2_2) ?_
    show Steps p.tables e below (s₁.setTop (mkF m 3 #[.val (.ref x0)] [(.int (2 : Int32)), (.int (2 : Int32))])) _
    refine XS.icmpNo X0.here hx rfl (hb hby dg2_3) rfl ((flt (by decide)).1) ?_
    show Steps p.tables e below (s₁.setTop (mkF m 6 #[.val (.ref x0)] [])) _
    refine XS.aloadN X0.here hx rfl (hb hby dg2_6) rfl rfl ?_
    show Steps p.tables e below (s₁.setTop (mkF m 7 #[.val (.ref x0)] [(.ref x0)])) _
    refine XS.iconst X0.here hx rfl (hb hby dg2_7) ?_
    exact k)
  obtain ⟨cl4, Ar4, q4, Sz4, Ng4, Hs4, G4⟩ := id V0
  have hin4 : ¬ ((0 : Int32) < 0 ∨ cl4.slots.size ≤ ((0 : Int32)).toNatClampNeg) := inb_of Sz4 ⟨by decide, by decide⟩
  have hat4 : cl4.slots[((0 : Int32)).toNatClampNeg]? = some (.int y0) := Hs4.at hin4 (rfl)
  have p5 : ∀ t, Steps p.tables e below (s₁.setTop (mkF m 15 #[.val (.ref x0)] [(.int (31 : Int32)), (.int (y0 &&& (255 : Int32)))])) t → Steps p.tables e below (s₁.setTop (entryFrame m #[(.ref x0)] 1)) t := fun t k => p3 t (by
    show Steps p.tables e below (s₁.setTop (mkF m 8 #[.val (.ref x0)] [(.int (0 : Int32)), (.ref x0)])) _
    refine X0.baloadBytes hx (j := (0 : Int32)) (v := (.int y0)) (by rw [e0]; exact Ar4.1) (State.isArrayOf_alike hZ.alike Ar4.2.1) Ar4.2.2 hin4 hat4 (g := (mkF m 8 #[.val (.ref x0)] [(.int (0 : Int32)), (.ref x0)])) rfl rfl (hb hby dg2_8) _ ?_
    show Steps p.tables e below (s₁.setTop (mkF m 9 #[.val (.ref x0)] [(.int y0)])) _
    refine XS.sipush X0.here hx rfl (hb hby dg2_9) ?_
    show Steps p.tables e below (s₁.setTop (mkF m 12 #[.val (.ref x0)] [(.int (255 : Int32)), (.int y0)])) _
    refine XS.iand X0.here hx rfl (hb hby dg2_12) rfl ?_
    show Steps p.tables e below (s₁.setTop (mkF m 13 #[.val (.ref x0)] [(.int (y0 &&& (255 : Int32)))])) _
    refine XS.bipush X0.here hx rfl (hb hby dg2_13) ?_
    exact k)
  by_cases hc15 : (y0 &&& (255 : Int32)) = (31 : Int32)
  · have p6 : ∀ t, Steps p.tables e below (s₁.setTop (mkF m 20 #[.val (.ref x0)] [(.int (1 : Int32)), (.ref x0)])) t → Steps p.tables e below (s₁.setTop (entryFrame m #[(.ref x0)] 1)) t := fun t k => p5 t (by
      show Steps p.tables e below (s₁.setTop (mkF m 15 #[.val (.ref x0)] [(.int (31 : Int32)), (.int (y0 &&& (255 : Int32)))])) _
      refine XS.icmpNo X0.here hx rfl (hb hby dg2_15) rfl ((teq (hc15)).2) ?_
      show Steps p.tables e below (s₁.setTop (mkF m 18 #[.val (.ref x0)] [])) _
      refine XS.aloadN X0.here hx rfl (hb hby dg2_18) rfl rfl ?_
      show Steps p.tables e below (s₁.setTop (mkF m 19 #[.val (.ref x0)] [(.ref x0)])) _
      refine XS.iconst X0.here hx rfl (hb hby dg2_19) ?_
      exact k)
    obtain ⟨cl7, Ar7, q7, Sz7, Ng7, Hs7, G7⟩ := id V0
    have hin7 : ¬ ((1 : Int32) < 0 ∨ cl7.slots.size ≤ ((1 : Int32)).toNatClampNeg) := inb_of Sz7 ⟨by decide, by decide⟩
    have hat7 : cl7.slots[((1 : Int32)).toNatClampNeg]? = some (.int y1) := Hs7.at hin7 (rfl)
    have p8 : ∀ t, Steps p.tables e below (s₁.setTop (mkF m 28 #[.val (.ref x0)] [(.int (139 : Int32)), (.int (y1 &&& (255 : Int32)))])) t → Steps p.tables e below (s₁.setTop (entryFrame m #[(.ref x0)] 1)) t := fun t k => p6 t (by
      show Steps p.tables e below (s₁.setTop (mkF m 20 #[.val (.ref x0)] [(.int (1 : Int32)), (.ref x0)])) _
      refine X0.baloadBytes hx (j := (1 : Int32)) (v := (.int y1)) (by rw [e0]; exact Ar7.1) (State.isArrayOf_alike hZ.alike Ar7.2.1) Ar7.2.2 hin7 hat7 (g := (mkF m 20 #[.val (.ref x0)] [(.int (1 : Int32)), (.ref x0)])) rfl rfl (hb hby dg2_20) _ ?_
      show Steps p.tables e below (s₁.setTop (mkF m 21 #[.val (.ref x0)] [(.int y1)])) _
      refine XS.sipush X0.here hx rfl (hb hby dg2_21) ?_
      show Steps p.tables e below (s₁.setTop (mkF m 24 #[.val (.ref x0)] [(.int (255 : Int32)), (.int y1)])) _
      refine XS.iand X0.here hx rfl (hb hby dg2_24) rfl ?_
      show Steps p.tables e below (s₁.setTop (mkF m 25 #[.val (.ref x0)] [(.int (y1 &&& (255 : Int32)))])) _
      refine XS.sipush X0.here hx rfl (hb hby dg2_25) ?_
      exact k)
    by_cases hc28 : (y1 &&& (255 : Int32)) = (139 : Int32)
    · have p9 : ∀ t, Steps p.tables e below (s₁.setTop (mkF m 36 #[.val (.ref x0)] [(.int (1 : Int32))])) t → Steps p.tables e below (s₁.setTop (entryFrame m #[(.ref x0)] 1)) t := fun t k => p8 t (by
        show Steps p.tables e below (s₁.setTop (mkF m 28 #[.val (.ref x0)] [(.int (139 : Int32)), (.int (y1 &&& (255 : Int32)))])) _
        refine XS.icmpNo X0.here hx rfl (hb hby dg2_28) rfl ((teq (hc28)).2) ?_
        show Steps p.tables e below (s₁.setTop (mkF m 31 #[.val (.ref x0)] [])) _
        refine XS.iconst X0.here hx rfl (hb hby dg2_31) ?_
        show Steps p.tables e below (s₁.setTop (mkF m 32 #[.val (.ref x0)] [(.int (1 : Int32))])) _
        refine XS.goto X0.here hx rfl (pc0 := 32) (pc' := 36) rfl (hb hby dg2_32) (by decide) (by decide) ?_
        exact k)
      obtain ⟨fs, hr, hrun, hended, hW, hsame⟩ := X0.leave (v := some (.int (1 : Int32))) (fun h => by rw [Bd.returns] at h; cases h)
      refine ⟨_, _, p9 _ ?_, hrun, hended, _, _, rfl, ?_, ⟨_, rfl⟩, hW, hsame.mono (by decide) (by decide)⟩
      · show Steps p.tables e below (s₁.setTop (mkF m 36 #[.val (.ref x0)] [(.int (1 : Int32))])) _
        exact retN X0 hx (t := .boolean) Bd.returns (by simp) (hb hby dg2_36) hr
      · show Qg2 Z x0 kk y0 y1 h0 n0 _ s₁.heap _
        rw [e0]
        exact ⟨by unfold own_gz; rw [if_pos hc15, if_pos hc28], N0, rfl⟩
    · have p10 : ∀ t, Steps p.tables e below (s₁.setTop (mkF m 36 #[.val (.ref x0)] [(.int (0 : Int32))])) t → Steps p.tables e below (s₁.setTop (entryFrame m #[(.ref x0)] 1)) t := fun t k => p8 t (by
        show Steps p.tables e below (s₁.setTop (mkF m 28 #[.val (.ref x0)] [(.int (139 : Int32)), (.int (y1 &&& (255 : Int32)))])) _
        refine XS.icmpYes X0.here hx rfl (pc0 := 28) (pc' := 35) rfl (hb hby dg2_28) rfl ((feq (hc28)).2) (by decide) (by decide) ?_
        show Steps p.tables e below (s₁.setTop (mkF m 35 #[.val (.ref x0)] [])) _
        refine XS.iconst X0.here hx rfl (hb hby dg2_35) ?_
        exact k)
      obtain ⟨fs, hr, hrun, hended, hW, hsame⟩ := X0.leave (v := some (.int (0 : Int32))) (fun h => by rw [Bd.returns] at h; cases h)
      refine ⟨_, _, p10 _ ?_, hrun, hended, _, _, rfl, ?_, ⟨_, rfl⟩, hW, hsame.mono (by decide) (by decide)⟩
      · show Steps p.tables e below (s₁.setTop (mkF m 36 #[.val (.ref x0)] [(.int (0 : Int32))])) _
        exact retN X0 hx (t := .boolean) Bd.returns (by simp) (hb hby dg2_36) hr
      · show Qg2 Z x0 kk y0 y1 h0 n0 _ s₁.heap _
        rw [e0]
        exact ⟨by unfold own_gz; rw [if_pos hc15, if_neg hc28], N0, rfl⟩
  · have p11 : ∀ t, Steps p.tables e below (s₁.setTop (mkF m 36 #[.val (.ref x0)] [(.int (0 : Int32))])) t → Steps p.tables e below (s₁.setTop (entryFrame m #[(.ref x0)] 1)) t := fun t k => p5 t (by
      show Steps p.tables e below (s₁.setTop (mkF m 15 #[.val (.ref x0)] [(.int (31 : Int32)), (.int (y0 &&& (255 : Int32)))])) _
      refine XS.icmpYes X0.here hx rfl (pc0 := 15) (pc' := 35) rfl (hb hby dg2_15) rfl ((feq (hc15)).2) (by decide) (by decide) ?_
      show Steps p.tables e below (s₁.setTop (mkF m 35 #[.val (.ref x0)] [])) _
      refine XS.iconst X0.here hx rfl (hb hby dg2_35) ?_
      exact k)
    obtain ⟨fs, hr, hrun, hended, hW, hsame⟩ := X0.leave (v := some (.int (0 : Int32))) (fun h => by rw [Bd.returns] at h; cases h)
    refine ⟨_, _, p11 _ ?_, hrun, hended, _, _, rfl, ?_, ⟨_, rfl⟩, hW, hsame.mono (by decide) (by decide)⟩
    · show Steps p.tables e below (s₁.setTop (mkF m 36 #[.val (.ref x0)] [(.int (0 : Int32))])) _
      exact retN X0 hx (t := .boolean) Bd.returns (by simp) (hb hby dg2_36) hr
    · show Qg2 Z x0 kk y0 y1 h0 n0 _ s₁.heap _
      rw [e0]
      exact ⟨by unfold own_gz; rw [if_neg hc15], N0, rfl⟩
theorem dg3_0 : decode prog_46_method_2_code 0 = .ok (.aload_n 0, 1) := by decide +kernel
theorem dg3_1 : decode prog_46_method_2_code 1 = .ok (.arraylength, 1) := by decide +kernel
theorem dg3_2 : decode prog_46_method_2_code 2 = .ok (.iconst 2, 1) := by decide +kernel
theorem dg3_3 : decode prog_46_method_2_code 3 = .ok (.if_icmp .lt 32, 3) := by decide +kernel
theorem dg3_6 : decode prog_46_method_2_code 6 = .ok (.aload_n 0, 1) := by decide +kernel
theorem dg3_7 : decode prog_46_method_2_code 7 = .ok (.iconst 0, 1) := by decide +kernel
theorem dg3_8 : decode prog_46_method_2_code 8 = .ok (.baload, 1) := by decide +kernel
theorem dg3_9 : decode prog_46_method_2_code 9 = .ok (.sipush 255, 3) := by decide +kernel
theorem dg3_12 : decode prog_46_method_2_code 12 = .ok (.iand, 1) := by decide +kernel
theorem dg3_13 : decode prog_46_method_2_code 13 = .ok (.bipush 31, 2) := by decide +kernel
theorem dg3_15 : decode prog_46_method_2_code 15 = .ok (.if_icmp .ne 20, 3) := by decide +kernel
theorem dg3_18 : decode prog_46_method_2_code 18 = .ok (.aload_n 0, 1) := by decide +kernel
theorem dg3_19 : decode prog_46_method_2_code 19 = .ok (.iconst 1, 1) := by decide +kernel
theorem dg3_20 : decode prog_46_method_2_code 20 = .ok (.baload, 1) := by decide +kernel
theorem dg3_21 : decode prog_46_method_2_code 21 = .ok (.sipush 255, 3) := by decide +kernel
theorem dg3_24 : decode prog_46_method_2_code 24 = .ok (.iand, 1) := by decide +kernel
theorem dg3_25 : decode prog_46_method_2_code 25 = .ok (.sipush 139, 3) := by decide +kernel
theorem dg3_28 : decode prog_46_method_2_code 28 = .ok (.if_icmp .ne 7, 3) := by decide +kernel
theorem dg3_31 : decode prog_46_method_2_code 31 = .ok (.iconst 1, 1) := by decide +kernel
theorem dg3_32 : decode prog_46_method_2_code 32 = .ok (.goto 4, 3) := by decide +kernel
theorem dg3_35 : decode prog_46_method_2_code 35 = .ok (.iconst 0, 1) := by decide +kernel
theorem dg3_36 : decode prog_46_method_2_code 36 = .ok (.ireturn, 1) := by decide +kernel
theorem png3 : plainName "com/example/kalchas/kalchas/io/GzipDecoder" = true := by first | (simp [plainName, overriddenIn]; done) | decide +kernel
theorem efg3 (m : MethodId) (x0 : Addr) : entryFrame m #[(.ref x0)] 1 = mkF m 0 #[.val (.ref x0)] [] := by first | (simp [entryFrame, mkF, argsToLocals, Value.category]; done) | rfl
def Qg3 (Z : State) (x0 : Addr) (kk : ClassId) (y0 : Int32) (y1 : Int32) (y2 : Int32) (h0 : Heap) (n0 : Nat) (v : Option Value) (h : Heap) (L : List Loc) : Prop := v = some (.int (own_gz y0 y1)) ∧ Fr n0 L ∧ h = h0
set_option maxRecDepth 65536 in
set_option maxHeartbeats 40000000 in
theorem rmg3 (l : Launch) (Z : State) (a0 : Array Value) (hw : ∀ d ∈ tables_1, d.before a0 Z = true) (ws : List Jvm.Cond) (x0 : Addr) (kk : ClassId) (y0 : Int32) (y1 : Int32) (y2 : Int32) (h0 : Heap) (n0 : Nat) (Z0 : n0 ≤ h0.size) (V0 : Arv Z h0 x0 kk .byte (3 : Int32) [(.int y0), (.int y1), (.int y2)] (.int (0 : Int32))) :
    MetFree l (⟨"com/example/kalchas/kalchas/io/GzipDecoder", "isGzip", "([B)Z"⟩ : MethodName) (head1 (Jvm.Cond.code (⟨"com/example/kalchas/kalchas/io/GzipDecoder", "isGzip", "([B)Z"⟩ : MethodName) prog_46_method_2_code 1 (some .boolean) :: ws) ({ frames := 0, cells := 0, slots := 0, locals := 0 } : Room)) (fun a U => a = #[(.ref x0)] ∧ Z.Warmed39 U.vm ∧ U.heap = h0) (fun _ _ _ _ _ => True) (fun _ U o U' => ∃ v L, o = .returned v ∧ Qg3 Z x0 kk y0 y1 y2 h0 n0 v U'.heap L ∧ FrameEnd U o U' L ({ frames := 0, cells := 0, slots := 0, locals := 0 } : Room).cells ({ frames := 0, cells := 0, slots := 0, locals := 0 } : Room).slots) := by
  refine MetFree.of_bodySF (plainFor_of_name png3) hisR ?_
  intro p e s m args below meth c s₁ Bd hml0 hP hK
  obtain ⟨rfl, hZ, hh⟩ := hP
  have hx := Bd.exec
  have hby := Bd.bytes
  have hml : c.maxLocals = 1 := hml0
  have hown : s.vm.findClass "com/example/kalchas/kalchas/io/GzipDecoder" = some m.cls := findClass_of_methodNamed Bd.named
  have hnm := (name_of_methodNamed Bd.named Bd.method).1
  have X0 : Stand p l e ({ frames := 0, cells := 0, slots := 0, locals := 0 } : Room) s m #[(.ref x0)] below meth c s₁ [] 0 0 := Stand.of_body Bd
  have e0 : s₁.heap = h0 := by rw [← hh, Bd.state]; rfl
  have N0 := Fr.nil n0
  have pre0 : ∀ t, Steps p.tables e below (s₁.setTop (mkF m 0 #[.val (.ref x0)] [])) t → Steps p.tables e below (s₁.setTop (entryFrame m #[(.ref x0)] 1)) t := fun t k => castTop (efg3 m x0) k
  have p1 : ∀ t, Steps p.tables e below (s₁.setTop (mkF m 1 #[.val (.ref x0)] [(.ref x0)])) t → Steps p.tables e below (s₁.setTop (entryFrame m #[(.ref x0)] 1)) t := fun t k => pre0 t (by
    show Steps p.tables e below (s₁.setTop (mkF m 0 #[.val (.ref x0)] [])) _
    refine XS.aloadN X0.here hx rfl (hb hby dg3_0) rfl rfl ?_
    exact k)
  obtain ⟨cl2, Ar2, -, Sz2, Ng2, -, -⟩ := id V0
  have p3 : ∀ t, Steps p.tables e below (s₁.setTop (mkF m 8 #[.val (.ref x0)] [(.int (0 : Int32)), (.ref x0)])) t → Steps p.tables e below (s₁.setTop (entryFrame m #[(.ref x0)] 1)) t := fun t k => p1 t (by
    show Steps p.tables e below (s₁.setTop (mkF m 1 #[.val (.ref x0)] [(.ref x0)])) _
    refine X0.arraylength hx (by rw [e0]; exact Ar2.1) (State.isArrayOf_alike hZ.alike Ar2.2.1) (g := (mkF m 1 #[.val (.ref x0)] [(.ref x0)])) rfl rfl (hb hby dg3_1) _ ?_
    rw [len_of Sz2 Ng2]
    show Steps p.tables e below (s₁.setTop (mkF m 2 #[.val (.ref x0)] [(.int (3 : Int32))])) _
    refine XS.iconst X0.here hx rfl (hb hby dg3_2) ?_
    show Steps p.tables e below (s₁.setTop (mkF m 3 #[.val (.ref x0)] [(.int (2 : Int32)), (.int (3 : Int32))])) _
    refine XS.icmpNo X0.here hx rfl (hb hby dg3_3) rfl ((flt (by decide)).1) ?_
    show Steps p.tables e below (s₁.setTop (mkF m 6 #[.val (.ref x0)] [])) _
    refine XS.aloadN X0.here hx rfl (hb hby dg3_6) rfl rfl ?_
    show Steps p.tables e below (s₁.setTop (mkF m 7 #[.val (.ref x0)] [(.ref x0)])) _
    refine XS.iconst X0.here hx rfl (hb hby dg3_7) ?_
    exact k)
  obtain ⟨cl4, Ar4, q4, Sz4, Ng4, Hs4, G4⟩ := id V0
  have hin4 : ¬ ((0 : Int32) < 0 ∨ cl4.slots.size ≤ ((0 : Int32)).toNatClampNeg) := inb_of Sz4 ⟨by decide, by decide⟩
  have hat4 : cl4.slots[((0 : Int32)).toNatClampNeg]? = some (.int y0) := Hs4.at hin4 (rfl)
  have p5 : ∀ t, Steps p.tables e below (s₁.setTop (mkF m 15 #[.val (.ref x0)] [(.int (31 : Int32)), (.int (y0 &&& (255 : Int32)))])) t → Steps p.tables e below (s₁.setTop (entryFrame m #[(.ref x0)] 1)) t := fun t k => p3 t (by
    show Steps p.tables e below (s₁.setTop (mkF m 8 #[.val (.ref x0)] [(.int (0 : Int32)), (.ref x0)])) _
    refine X0.baloadBytes hx (j := (0 : Int32)) (v := (.int y0)) (by rw [e0]; exact Ar4.1) (State.isArrayOf_alike hZ.alike Ar4.2.1) Ar4.2.2 hin4 hat4 (g := (mkF m 8 #[.val (.ref x0)] [(.int (0 : Int32)), (.ref x0)])) rfl rfl (hb hby dg3_8) _ ?_
    show Steps p.tables e below (s₁.setTop (mkF m 9 #[.val (.ref x0)] [(.int y0)])) _
    refine XS.sipush X0.here hx rfl (hb hby dg3_9) ?_
    show Steps p.tables e below (s₁.setTop (mkF m 12 #[.val (.ref x0)] [(.int (255 : Int32)), (.int y0)])) _
    refine XS.iand X0.here hx rfl (hb hby dg3_12) rfl ?_
    show Steps p.tables e below (s₁.setTop (mkF m 13 #[.val (.ref x0)] [(.int (y0 &&& (255 : Int32)))])) _
    refine XS.bipush X0.here hx rfl (hb hby dg3_13) ?_
    exact k)
  by_cases hc15 : (y0 &&& (255 : Int32)) = (31 : Int32)
  · have p6 : ∀ t, Steps p.tables e below (s₁.setTop (mkF m 20 #[.val (.ref x0)] [(.int (1 : Int32)), (.ref x0)])) t → Steps p.tables e below (s₁.setTop (entryFrame m #[(.ref x0)] 1)) t := fun t k => p5 t (by
      show Steps p.tables e below (s₁.setTop (mkF m 15 #[.val (.ref x0)] [(.int (31 : Int32)), (.int (y0 &&& (255 : Int32)))])) _
      refine XS.icmpNo X0.here hx rfl (hb hby dg3_15) rfl ((teq (hc15)).2) ?_
      show Steps p.tables e below (s₁.setTop (mkF m 18 #[.val (.ref x0)] [])) _
      refine XS.aloadN X0.here hx rfl (hb hby dg3_18) rfl rfl ?_
      show Steps p.tables e below (s₁.setTop (mkF m 19 #[.val (.ref x0)] [(.ref x0)])) _
      refine XS.iconst X0.here hx rfl (hb hby dg3_19) ?_
      exact k)
    obtain ⟨cl7, Ar7, q7, Sz7, Ng7, Hs7, G7⟩ := id V0
    have hin7 : ¬ ((1 : Int32) < 0 ∨ cl7.slots.size ≤ ((1 : Int32)).toNatClampNeg) := inb_of Sz7 ⟨by decide, by decide⟩
    have hat7 : cl7.slots[((1 : Int32)).toNatClampNeg]? = some (.int y1) := Hs7.at hin7 (rfl)
    have p8 : ∀ t, Steps p.tables e below (s₁.setTop (mkF m 28 #[.val (.ref x0)] [(.int (139 : Int32)), (.int (y1 &&& (255 : Int32)))])) t → Steps p.tables e below (s₁.setTop (entryFrame m #[(.ref x0)] 1)) t := fun t k => p6 t (by
      show Steps p.tables e below (s₁.setTop (mkF m 20 #[.val (.ref x0)] [(.int (1 : Int32)), (.ref x0)])) _
      refine X0.baloadBytes hx (j := (1 : Int32)) (v := (.int y1)) (by rw [e0]; exact Ar7.1) (State.isArrayOf_alike hZ.alike Ar7.2.1) Ar7.2.2 hin7 hat7 (g := (mkF m 20 #[.val (.ref x0)] [(.int (1 : Int32)), (.ref x0)])) rfl rfl (hb hby dg3_20) _ ?_
      show Steps p.tables e below (s₁.setTop (mkF m 21 #[.val (.ref x0)] [(.int y1)])) _
      refine XS.sipush X0.here hx rfl (hb hby dg3_21) ?_
      show Steps p.tables e below (s₁.setTop (mkF m 24 #[.val (.ref x0)] [(.int (255 : Int32)), (.int y1)])) _
      refine XS.iand X0.here hx rfl (hb hby dg3_24) rfl ?_
      show Steps p.tables e below (s₁.setTop (mkF m 25 #[.val (.ref x0)] [(.int (y1 &&& (255 : Int32)))])) _
      refine XS.sipush X0.here hx rfl (hb hby dg3_25) ?_
      exact k)
    by_cases hc28 : (y1 &&& (255 : Int32)) = (139 : Int32)
    · have p9 : ∀ t, Steps p.tables e below (s₁.setTop (mkF m 36 #[.val (.ref x0)] [(.int (1 : Int32))])) t → Steps p.tables e below (s₁.setTop (entryFrame m #[(.ref x0)] 1)) t := fun t k => p8 t (by
        show Steps p.tables e below (s₁.setTop (mkF m 28 #[.val (.ref x0)] [(.int (139 : Int32)), (.int (y1 &&& (255 : Int32)))])) _
        refine XS.icmpNo X0.here hx rfl (hb hby dg3_28) rfl ((teq (hc28)).2) ?_
        show Steps p.tables e below (s₁.setTop (mkF m 31 #[.val (.ref x0)] [])) _
        refine XS.iconst X0.here hx rfl (hb hby dg3_31) ?_
        show Steps p.tables e below (s₁.setTop (mkF m 32 #[.val (.ref x0)] [(.int (1 : Int32))])) _
        refine XS.goto X0.here hx rfl (pc0 := 32) (pc' := 36) rfl (hb hby dg3_32) (by decide) (by decide) ?_
        exact k)
      obtain ⟨fs, hr, hrun, hended, hW, hsame⟩ := X0.leave (v := some (.int (1 : Int32))) (fun h => by rw [Bd.returns] at h; cases h)
      refine ⟨_, _, p9 _ ?_, hrun, hended, _, _, rfl, ?_, ⟨_, rfl⟩, hW, hsame.mono (by decide) (by decide)⟩
      · show Steps p.tables e below (s₁.setTop (mkF m 36 #[.val (.ref x0)] [(.int (1 : Int32))])) _
        exact retN X0 hx (t := .boolean) Bd.returns (by simp) (hb hby dg3_36) hr
      · show Qg3 Z x0 kk y0 y1 y2 h0 n0 _ s₁.heap _
        rw [e0]
        exact ⟨by unfold own_gz; rw [if_pos hc15, if_pos hc28], N0, rfl⟩
    · have p10 : ∀ t, Steps p.tables e below (s₁.setTop (mkF m 36 #[.val (.ref x0)] [(.int (0 : Int32))])) t → Steps p.tables e below (s₁.setTop (entryFrame m #[(.ref x0)] 1)) t := fun t k => p8 t (by
        show Steps p.tables e below (s₁.setTop (mkF m 28 #[.val (.ref x0)] [(.int (139 : Int32)), (.int (y1 &&& (255 : Int32)))])) _
        refine XS.icmpYes X0.here hx rfl (pc0 := 28) (pc' := 35) rfl (hb hby dg3_28) rfl ((feq (hc28)).2) (by decide) (by decide) ?_
        show Steps p.tables e below (s₁.setTop (mkF m 35 #[.val (.ref x0)] [])) _
        refine XS.iconst X0.here hx rfl (hb hby dg3_35) ?_
        exact k)
      obtain ⟨fs, hr, hrun, hended, hW, hsame⟩ := X0.leave (v := some (.int (0 : Int32))) (fun h => by rw [Bd.returns] at h; cases h)
      refine ⟨_, _, p10 _ ?_, hrun, hended, _, _, rfl, ?_, ⟨_, rfl⟩, hW, hsame.mono (by decide) (by decide)⟩
      · show Steps p.tables e below (s₁.setTop (mkF m 36 #[.val (.ref x0)] [(.int (0 : Int32))])) _
        exact retN X0 hx (t := .boolean) Bd.returns (by simp) (hb hby dg3_36) hr
      · show Qg3 Z x0 kk y0 y1 y2 h0 n0 _ s₁.heap _
        rw [e0]
        exact ⟨by unfold own_gz; rw [if_pos hc15, if_neg hc28], N0, rfl⟩
  · have p11 : ∀ t, Steps p.tables e below (s₁.setTop (mkF m 36 #[.val (.ref x0)] [(.int (0 : Int32))])) t → Steps p.tables e below (s₁.setTop (entryFrame m #[(.ref x0)] 1)) t := fun t k => p5 t (by
      show Steps p.tables e below (s₁.setTop (mkF m 15 #[.val (.ref x0)] [(.int (31 : Int32)), (.int (y0 &&& (255 : Int32)))])) _
      refine XS.icmpYes X0.here hx rfl (pc0 := 15) (pc' := 35) rfl (hb hby dg3_15) rfl ((feq (hc15)).2) (by decide) (by decide) ?_
      show Steps p.tables e below (s₁.setTop (mkF m 35 #[.val (.ref x0)] [])) _
      refine XS.iconst X0.here hx rfl (hb hby dg3_35) ?_
      exact k)
    obtain ⟨fs, hr, hrun, hended, hW, hsame⟩ := X0.leave (v := some (.int (0 : Int32))) (fun h => by rw [Bd.returns] at h; cases h)
    refine ⟨_, _, p11 _ ?_, hrun, hended, _, _, rfl, ?_, ⟨_, rfl⟩, hW, hsame.mono (by decide) (by decide)⟩
    · show Steps p.tables e below (s₁.setTop (mkF m 36 #[.val (.ref x0)] [(.int (0 : Int32))])) _
      exact retN X0 hx (t := .boolean) Bd.returns (by simp) (hb hby dg3_36) hr
    · show Qg3 Z x0 kk y0 y1 y2 h0 n0 _ s₁.heap _
      rw [e0]
      exact ⟨by unfold own_gz; rw [if_neg hc15], N0, rfl⟩
theorem pn0 : plainName "com/example/kalchas/kalchas/io/GzipDecoderIsGzipPinLaw" = true := by first | (simp [plainName, overriddenIn]; done) | decide +kernel
theorem pd0_0 : parseMethodDescriptor "([B)Z" = some ⟨[(.array .byte)], some .boolean⟩ := by decide +kernel
theorem ef0 (m : MethodId) (x0 : Int32) (x1 : Int32) (x2 : Int32) (x3 : Int32) : entryFrame m #[(.int x0), (.int x1), (.int x2), (.int x3)] maxLocals = mkF m 0 #[.val (.int x0), .val (.int x1), .val (.int x2), .val (.int x3), .unset, .unset, .unset, .unset, .unset, .unset] [] := by first | (simp [entryFrame, mkF, argsToLocals, Value.category, maxLocals]; done) | rfl
def Q0 (Z : State) (x0 : Int32) (x1 : Int32) (x2 : Int32) (x3 : Int32) (h0 : Heap) (n0 : Nat) (v : Option Value) (h : Heap) (L : List Loc) : Prop := v = some (.int (1 : Int32)) ∧ Fr n0 L
set_option maxRecDepth 65536 in
set_option maxHeartbeats 40000000 in
theorem rm0 (l : Launch) (Z : State) (a0 : Array Value) (hw : ∀ d ∈ tables_1, d.before a0 Z = true) (ws : List Jvm.Cond) (x0 : Int32) (x1 : Int32) (x2 : Int32) (x3 : Int32) (h0 : Heap) (n0 : Nat) (Z0 : n0 ≤ h0.size) :
    MetFree l x (head1 (Jvm.Cond.code x code maxLocals ret :: ws) room_1) (fun a U => a = #[(.int x0), (.int x1), (.int x2), (.int x3)] ∧ Z.Warmed39 U.vm ∧ U.heap = h0) (fun _ _ _ _ _ => True) (fun _ U o U' => ∃ v L, o = .returned v ∧ Q0 Z x0 x1 x2 x3 h0 n0 v U'.heap L ∧ FrameEnd U o U' L room_1.cells room_1.slots) := by
  refine MetFree.of_bodySF (plainFor_of_name pn0) hisR ?_
  intro p e s m args below meth c s₁ Bd hml0 hP hK
  obtain ⟨rfl, hZ, hh⟩ := hP
  have hx := Bd.exec
  have hby := Bd.bytes
  have hml : c.maxLocals = 10 := hml0
  have hown : s.vm.findClass "com/example/kalchas/kalchas/io/GzipDecoderIsGzipPinLaw" = some m.cls := findClass_of_methodNamed Bd.named
  have hnm := (name_of_methodNamed Bd.named Bd.method).1
  have X0 : Stand p l e room_1 s m #[(.int x0), (.int x1), (.int x2), (.int x3)] below meth c s₁ [] 0 0 := Stand.of_body Bd
  have e0 : s₁.heap = h0 := by rw [← hh, Bd.state]; rfl
  have N0 := Fr.nil n0
  have pre0 : ∀ t, Steps p.tables e below (s₁.setTop (mkF m 0 #[.val (.int x0), .val (.int x1), .val (.int x2), .val (.int x3), .unset, .unset, .unset, .unset, .unset, .unset] [])) t → Steps p.tables e below (s₁.setTop (entryFrame m #[(.int x0), (.int x1), (.int x2), (.int x3)] maxLocals)) t := fun t k => castTop (ef0 m x0 x1 x2 x3) k
  have p1 : ∀ t, Steps p.tables e below (s₁.setTop (mkF m 5 #[.val (.int x0), .val (.int x1), .val (.int x2), .val (.int x3), .val (.int (x0 &&& (3 : Int32))), .unset, .unset, .unset, .unset, .unset] [])) t → Steps p.tables e below (s₁.setTop (entryFrame m #[(.int x0), (.int x1), (.int x2), (.int x3)] maxLocals)) t := fun t k => pre0 t (by
    show Steps p.tables e below (s₁.setTop (mkF m 0 #[.val (.int x0), .val (.int x1), .val (.int x2), .val (.int x3), .unset, .unset, .unset, .unset, .unset, .unset] [])) _
    refine XS.iloadN X0.here hx rfl (hb hby at_0) rfl ?_
    show Steps p.tables e below (s₁.setTop (mkF m 1 #[.val (.int x0), .val (.int x1), .val (.int x2), .val (.int x3), .unset, .unset, .unset, .unset, .unset, .unset] [(.int x0)])) _
    refine XS.iconst X0.here hx rfl (hb hby at_1) ?_
    show Steps p.tables e below (s₁.setTop (mkF m 2 #[.val (.int x0), .val (.int x1), .val (.int x2), .val (.int x3), .unset, .unset, .unset, .unset, .unset, .unset] [(.int (3 : Int32)), (.int x0)])) _
    refine XS.iand X0.here hx rfl (hb hby at_2) rfl ?_
    show Steps p.tables e below (s₁.setTop (mkF m 3 #[.val (.int x0), .val (.int x1), .val (.int x2), .val (.int x3), .unset, .unset, .unset, .unset, .unset, .unset] [(.int (x0 &&& (3 : Int32)))])) _
    refine XS.istore X0.here hx rfl (hb hby at_3) rfl (l' := #[.val (.int x0), .val (.int x1), .val (.int x2), .val (.int x3), .val (.int (x0 &&& (3 : Int32))), .unset, .unset, .unset, .unset, .unset]) rfl ?_
    exact k)
  obtain ⟨vn, hvn⟩ : ∃ z : Int32, z = (x0 &&& (3 : Int32)) := ⟨_, rfl⟩
  have p2 : ∀ t, Steps p.tables e below (s₁.setTop (mkF m 5 #[.val (.int x0), .val (.int x1), .val (.int x2), .val (.int x3), .val (.int vn), .unset, .unset, .unset, .unset, .unset] [])) t → Steps p.tables e below (s₁.setTop (entryFrame m #[(.int x0), (.int x1), (.int x2), (.int x3)] maxLocals)) t := by
    intro t k; subst hvn; exact p1 t k
  obtain ⟨vb0, hvb0, p3⟩ : ∃ (vb0 : Int32), (-128 ≤ vb0.toInt ∧ vb0.toInt < 128) ∧ ∀ t, Steps p.tables e below (s₁.setTop (mkF m 18 #[.val (.int x0), .val (.int x1), .val (.int x2), .val (.int x3), .val (.int vn), .unset, .unset, .unset, .unset, .unset] [(.int vb0)])) t → Steps p.tables e below (s₁.setTop (entryFrame m #[(.int x0), (.int x1), (.int x2), (.int x3)] maxLocals)) t := by
    have p4 : ∀ t, Steps p.tables e below (s₁.setTop (mkF m 8 #[.val (.int x0), .val (.int x1), .val (.int x2), .val (.int x3), .val (.int vn), .unset, .unset, .unset, .unset, .unset] [(.int (x0 &&& (4 : Int32)))])) t → Steps p.tables e below (s₁.setTop (entryFrame m #[(.int x0), (.int x1), (.int x2), (.int x3)] maxLocals)) t := fun t k => p2 t (by
      show Steps p.tables e below (s₁.setTop (mkF m 5 #[.val (.int x0), .val (.int x1), .val (.int x2), .val (.int x3), .val (.int vn), .unset, .unset, .unset, .unset, .unset] [])) _
      refine XS.iloadN X0.here hx rfl (hb hby at_5) rfl ?_
      show Steps p.tables e below (s₁.setTop (mkF m 6 #[.val (.int x0), .val (.int x1), .val (.int x2), .val (.int x3), .val (.int vn), .unset, .unset, .unset, .unset, .unset] [(.int x0)])) _
      refine XS.iconst X0.here hx rfl (hb hby at_6) ?_
      show Steps p.tables e below (s₁.setTop (mkF m 7 #[.val (.int x0), .val (.int x1), .val (.int x2), .val (.int x3), .val (.int vn), .unset, .unset, .unset, .unset, .unset] [(.int (4 : Int32)), (.int x0)])) _
      refine XS.iand X0.here hx rfl (hb hby at_7) rfl ?_
      exact k)
    by_cases hc8 : (x0 &&& (4 : Int32)) = (0 : Int32)
    · have p5 : ∀ t, Steps p.tables e below (s₁.setTop (mkF m 18 #[.val (.int x0), .val (.int x1), .val (.int x2), .val (.int x3), .val (.int vn), .unset, .unset, .unset, .unset, .unset] [(.int (x1.toInt8.toInt32))])) t → Steps p.tables e below (s₁.setTop (entryFrame m #[(.int x0), (.int x1), (.int x2), (.int x3)] maxLocals)) t := fun t k => p4 t (by
        show Steps p.tables e below (s₁.setTop (mkF m 8 #[.val (.int x0), .val (.int x1), .val (.int x2), .val (.int x3), .val (.int vn), .unset, .unset, .unset, .unset, .unset] [(.int (x0 &&& (4 : Int32)))])) _
        refine XS.ifYes X0.here hx rfl (pc0 := 8) (pc' := 16) rfl (hb hby at_8) rfl ((if0 _ _).trans (teq (hc8)).1) (by decide) (by decide) ?_
        show Steps p.tables e below (s₁.setTop (mkF m 16 #[.val (.int x0), .val (.int x1), .val (.int x2), .val (.int x3), .val (.int vn), .unset, .unset, .unset, .unset, .unset] [])) _
        refine XS.iloadN X0.here hx rfl (hb hby at_16) rfl ?_
        show Steps p.tables e below (s₁.setTop (mkF m 17 #[.val (.int x0), .val (.int x1), .val (.int x2), .val (.int x3), .val (.int vn), .unset, .unset, .unset, .unset, .unset] [(.int x1)])) _
        refine XS.i2b X0.here hx rfl (hb hby at_17) rfl ?_
        exact k)
      exact ⟨(x1.toInt8.toInt32), ⟨(c_i2b x1).2.1, (c_i2b x1).2.2⟩, p5⟩
    · have p6 : ∀ t, Steps p.tables e below (s₁.setTop (mkF m 18 #[.val (.int x0), .val (.int x1), .val (.int x2), .val (.int x3), .val (.int vn), .unset, .unset, .unset, .unset, .unset] [(.int (31 : Int32))])) t → Steps p.tables e below (s₁.setTop (entryFrame m #[(.int x0), (.int x1), (.int x2), (.int x3)] maxLocals)) t := fun t k => p4 t (by
        show Steps p.tables e below (s₁.setTop (mkF m 8 #[.val (.int x0), .val (.int x1), .val (.int x2), .val (.int x3), .val (.int vn), .unset, .unset, .unset, .unset, .unset] [(.int (x0 &&& (4 : Int32)))])) _
        refine XS.ifNo X0.here hx rfl (hb hby at_8) rfl ((if0 _ _).trans (feq (hc8)).1) ?_
        show Steps p.tables e below (s₁.setTop (mkF m 11 #[.val (.int x0), .val (.int x1), .val (.int x2), .val (.int x3), .val (.int vn), .unset, .unset, .unset, .unset, .unset] [])) _
        refine XS.bipush X0.here hx rfl (hb hby at_11) ?_
        show Steps p.tables e below (s₁.setTop (mkF m 13 #[.val (.int x0), .val (.int x1), .val (.int x2), .val (.int x3), .val (.int vn), .unset, .unset, .unset, .unset, .unset] [(.int (31 : Int32))])) _
        refine XS.goto X0.here hx rfl (pc0 := 13) (pc' := 18) rfl (hb hby at_13) (by decide) (by decide) ?_
        exact k)
      exact ⟨(31 : Int32), by decide, p6⟩
  have p7 : ∀ t, Steps p.tables e below (s₁.setTop (mkF m 20 #[.val (.int x0), .val (.int x1), .val (.int x2), .val (.int x3), .val (.int vn), .val (.int vb0), .unset, .unset, .unset, .unset] [])) t → Steps p.tables e below (s₁.setTop (entryFrame m #[(.int x0), (.int x1), (.int x2), (.int x3)] maxLocals)) t := fun t k => p3 t (by
    show Steps p.tables e below (s₁.setTop (mkF m 18 #[.val (.int x0), .val (.int x1), .val (.int x2), .val (.int x3), .val (.int vn), .unset, .unset, .unset, .unset, .unset] [(.int vb0)])) _
    refine XS.istore X0.here hx rfl (hb hby at_18) rfl (l' := #[.val (.int x0), .val (.int x1), .val (.int x2), .val (.int x3), .val (.int vn), .val (.int vb0), .unset, .unset, .unset, .unset]) rfl ?_
    exact k)
  obtain ⟨vb1, hvb1, p8⟩ : ∃ (vb1 : Int32), (-128 ≤ vb1.toInt ∧ vb1.toInt < 128) ∧ ∀ t, Steps p.tables e below (s₁.setTop (mkF m 34 #[.val (.int x0), .val (.int x1), .val (.int x2), .val (.int x3), .val (.int vn), .val (.int vb0), .unset, .unset, .unset, .unset] [(.int vb1)])) t → Steps p.tables e below (s₁.setTop (entryFrame m #[(.int x0), (.int x1), (.int x2), (.int x3)] maxLocals)) t := by
    have p9 : ∀ t, Steps p.tables e below (s₁.setTop (mkF m 24 #[.val (.int x0), .val (.int x1), .val (.int x2), .val (.int x3), .val (.int vn), .val (.int vb0), .unset, .unset, .unset, .unset] [(.int (x0 &&& (8 : Int32)))])) t → Steps p.tables e below (s₁.setTop (entryFrame m #[(.int x0), (.int x1), (.int x2), (.int x3)] maxLocals)) t := fun t k => p7 t (by
      show Steps p.tables e below (s₁.setTop (mkF m 20 #[.val (.int x0), .val (.int x1), .val (.int x2), .val (.int x3), .val (.int vn), .val (.int vb0), .unset, .unset, .unset, .unset] [])) _
      refine XS.iloadN X0.here hx rfl (hb hby at_20) rfl ?_
      show Steps p.tables e below (s₁.setTop (mkF m 21 #[.val (.int x0), .val (.int x1), .val (.int x2), .val (.int x3), .val (.int vn), .val (.int vb0), .unset, .unset, .unset, .unset] [(.int x0)])) _
      refine XS.bipush X0.here hx rfl (hb hby at_21) ?_
      show Steps p.tables e below (s₁.setTop (mkF m 23 #[.val (.int x0), .val (.int x1), .val (.int x2), .val (.int x3), .val (.int vn), .val (.int vb0), .unset, .unset, .unset, .unset] [(.int (8 : Int32)), (.int x0)])) _
      refine XS.iand X0.here hx rfl (hb hby at_23) rfl ?_
      exact k)
    by_cases hc24 : (x0 &&& (8 : Int32)) = (0 : Int32)
    · have p10 : ∀ t, Steps p.tables e below (s₁.setTop (mkF m 34 #[.val (.int x0), .val (.int x1), .val (.int x2), .val (.int x3), .val (.int vn), .val (.int vb0), .unset, .unset, .unset, .unset] [(.int (x2.toInt8.toInt32))])) t → Steps p.tables e below (s₁.setTop (entryFrame m #[(.int x0), (.int x1), (.int x2), (.int x3)] maxLocals)) t := fun t k => p9 t (by
        show Steps p.tables e below (s₁.setTop (mkF m 24 #[.val (.int x0), .val (.int x1), .val (.int x2), .val (.int x3), .val (.int vn), .val (.int vb0), .unset, .unset, .unset, .unset] [(.int (x0 &&& (8 : Int32)))])) _
        refine XS.ifYes X0.here hx rfl (pc0 := 24) (pc' := 32) rfl (hb hby at_24) rfl ((if0 _ _).trans (teq (hc24)).1) (by decide) (by decide) ?_
        show Steps p.tables e below (s₁.setTop (mkF m 32 #[.val (.int x0), .val (.int x1), .val (.int x2), .val (.int x3), .val (.int vn), .val (.int vb0), .unset, .unset, .unset, .unset] [])) _
        refine XS.iloadN X0.here hx rfl (hb hby at_32) rfl ?_
        show Steps p.tables e below (s₁.setTop (mkF m 33 #[.val (.int x0), .val (.int x1), .val (.int x2), .val (.int x3), .val (.int vn), .val (.int vb0), .unset, .unset, .unset, .unset] [(.int x2)])) _
        refine XS.i2b X0.here hx rfl (hb hby at_33) rfl ?_
        exact k)
      exact ⟨(x2.toInt8.toInt32), ⟨(c_i2b x2).2.1, (c_i2b x2).2.2⟩, p10⟩
    · have p11 : ∀ t, Steps p.tables e below (s₁.setTop (mkF m 34 #[.val (.int x0), .val (.int x1), .val (.int x2), .val (.int x3), .val (.int vn), .val (.int vb0), .unset, .unset, .unset, .unset] [(.int (-117 : Int32))])) t → Steps p.tables e below (s₁.setTop (entryFrame m #[(.int x0), (.int x1), (.int x2), (.int x3)] maxLocals)) t := fun t k => p9 t (by
        show Steps p.tables e below (s₁.setTop (mkF m 24 #[.val (.int x0), .val (.int x1), .val (.int x2), .val (.int x3), .val (.int vn), .val (.int vb0), .unset, .unset, .unset, .unset] [(.int (x0 &&& (8 : Int32)))])) _
        refine XS.ifNo X0.here hx rfl (hb hby at_24) rfl ((if0 _ _).trans (feq (hc24)).1) ?_
        show Steps p.tables e below (s₁.setTop (mkF m 27 #[.val (.int x0), .val (.int x1), .val (.int x2), .val (.int x3), .val (.int vn), .val (.int vb0), .unset, .unset, .unset, .unset] [])) _
        refine XS.bipush X0.here hx rfl (hb hby at_27) ?_
        show Steps p.tables e below (s₁.setTop (mkF m 29 #[.val (.int x0), .val (.int x1), .val (.int x2), .val (.int x3), .val (.int vn), .val (.int vb0), .unset, .unset, .unset, .unset] [(.int (-117 : Int32))])) _
        refine XS.goto X0.here hx rfl (pc0 := 29) (pc' := 34) rfl (hb hby at_29) (by decide) (by decide) ?_
        exact k)
      exact ⟨(-117 : Int32), by decide, p11⟩
  have p12 : ∀ t, Steps p.tables e below (s₁.setTop (mkF m 42 #[.val (.int x0), .val (.int x1), .val (.int x2), .val (.int x3), .val (.int vn), .val (.int vb0), .val (.int vb1), .val (.int (x3.toInt8.toInt32)), .unset, .unset] [(.int vn)])) t → Steps p.tables e below (s₁.setTop (entryFrame m #[(.int x0), (.int x1), (.int x2), (.int x3)] maxLocals)) t := fun t k => p8 t (by
    show Steps p.tables e below (s₁.setTop (mkF m 34 #[.val (.int x0), .val (.int x1), .val (.int x2), .val (.int x3), .val (.int vn), .val (.int vb0), .unset, .unset, .unset, .unset] [(.int vb1)])) _
    refine XS.istore X0.here hx rfl (hb hby at_34) rfl (l' := #[.val (.int x0), .val (.int x1), .val (.int x2), .val (.int x3), .val (.int vn), .val (.int vb0), .val (.int vb1), .unset, .unset, .unset]) rfl ?_
    show Steps p.tables e below (s₁.setTop (mkF m 36 #[.val (.int x0), .val (.int x1), .val (.int x2), .val (.int x3), .val (.int vn), .val (.int vb0), .val (.int vb1), .unset, .unset, .unset] [])) _
    refine XS.iloadN X0.here hx rfl (hb hby at_36) rfl ?_
    show Steps p.tables e below (s₁.setTop (mkF m 37 #[.val (.int x0), .val (.int x1), .val (.int x2), .val (.int x3), .val (.int vn), .val (.int vb0), .val (.int vb1), .unset, .unset, .unset] [(.int x3)])) _
    refine XS.i2b X0.here hx rfl (hb hby at_37) rfl ?_
    show Steps p.tables e below (s₁.setTop (mkF m 38 #[.val (.int x0), .val (.int x1), .val (.int x2), .val (.int x3), .val (.int vn), .val (.int vb0), .val (.int vb1), .unset, .unset, .unset] [(.int (x3.toInt8.toInt32))])) _
    refine XS.istore X0.here hx rfl (hb hby at_38) rfl (l' := #[.val (.int x0), .val (.int x1), .val (.int x2), .val (.int x3), .val (.int vn), .val (.int vb0), .val (.int vb1), .val (.int (x3.toInt8.toInt32)), .unset, .unset]) rfl ?_
    show Steps p.tables e below (s₁.setTop (mkF m 40 #[.val (.int x0), .val (.int x1), .val (.int x2), .val (.int x3), .val (.int vn), .val (.int vb0), .val (.int vb1), .val (.int (x3.toInt8.toInt32)), .unset, .unset] [])) _
    refine XS.iload X0.here hx rfl (hb hby at_40) rfl ?_
    exact k)
  rcases own_n3 hvn with rfl | rfl | rfl | rfl
  · obtain ⟨T13, h13, k13, X13, e13, E13, A13, st13⟩ := newP X0 hx hZ (hw _ (List.mem_of_getElem? (i := 0) rfl)) e0 (g := (mkF m 42 #[.val (.int x0), .val (.int x1), .val (.int x2), .val (.int x3), .val (.int (0 : Int32)), .val (.int vb0), .val (.int vb1), .val (.int (x3.toInt8.toInt32)), .unset, .unset] [(.int (0 : Int32))])) rfl (hb hby at_42) rfl (by decide) (cap := 0) (by decide) (by decide) (by decide) (by decide)
    obtain ⟨b13, g13⟩ : ∃ z, z = h0.size := ⟨_, rfl⟩
    rw [← g13] at A13 st13
    have gn_b13 : n0 ≤ b13 := Nat.le_trans Z0 (Nat.le_of_eq g13.symm)
    have Z13 := Nat.le_trans Z0 E13.1
    have VV13 : Arv Z h13 b13 k13 .byte (0 : Int32) [] (.int (0 : Int32)) := (Arv.new A13 (by decide)).pad (pad_rep [] (.int (0 : Int32)) 0)
    have p14 : ∀ t, Steps p.tables e below (T13.setTop (mkF m 44 #[.val (.int x0), .val (.int x1), .val (.int x2), .val (.int x3), .val (.int (0 : Int32)), .val (.int vb0), .val (.int vb1), .val (.int (x3.toInt8.toInt32)), .unset, .unset] [(.ref b13)])) t → Steps p.tables e below (s₁.setTop (entryFrame m #[(.int x0), (.int x1), (.int x2), (.int x3)] maxLocals)) t := fun t k => p12 t (st13 t k)
    have p15 : ∀ t, Steps p.tables e below (T13.setTop (mkF m 110 #[.val (.int x0), .val (.int x1), .val (.int x2), .val (.int x3), .val (.int (0 : Int32)), .val (.int vb0), .val (.int vb1), .val (.int (x3.toInt8.toInt32)), .val (.ref b13), .val (.int (0 : Int32))] [(.ref b13)])) t → Steps p.tables e below (s₁.setTop (entryFrame m #[(.int x0), (.int x1), (.int x2), (.int x3)] maxLocals)) t := fun t k => p14 t (by
      show Steps p.tables e below (T13.setTop (mkF m 44 #[.val (.int x0), .val (.int x1), .val (.int x2), .val (.int x3), .val (.int (0 : Int32)), .val (.int vb0), .val (.int vb1), .val (.int (x3.toInt8.toInt32)), .unset, .unset] [(.ref b13)])) _
      refine XS.astore X13.here hx rfl (hb hby at_44) rfl rfl (l' := #[.val (.int x0), .val (.int x1), .val (.int x2), .val (.int x3), .val (.int (0 : Int32)), .val (.int vb0), .val (.int vb1), .val (.int (x3.toInt8.toInt32)), .val (.ref b13), .unset]) rfl ?_
      show Steps p.tables e below (T13.setTop (mkF m 46 #[.val (.int x0), .val (.int x1), .val (.int x2), .val (.int x3), .val (.int (0 : Int32)), .val (.int vb0), .val (.int vb1), .val (.int (x3.toInt8.toInt32)), .val (.ref b13), .unset] [])) _
      refine XS.iload X13.here hx rfl (hb hby at_46) rfl ?_
      show Steps p.tables e below (T13.setTop (mkF m 48 #[.val (.int x0), .val (.int x1), .val (.int x2), .val (.int x3), .val (.int (0 : Int32)), .val (.int vb0), .val (.int vb1), .val (.int (x3.toInt8.toInt32)), .val (.ref b13), .unset] [(.int (0 : Int32))])) _
      refine XS.ifYes X13.here hx rfl (pc0 := 48) (pc' := 57) rfl (hb hby at_48) rfl ((if0 _ _).trans (flt (by decide)).2.2.2) (by decide) (by decide) ?_
      show Steps p.tables e below (T13.setTop (mkF m 57 #[.val (.int x0), .val (.int x1), .val (.int x2), .val (.int x3), .val (.int (0 : Int32)), .val (.int vb0), .val (.int vb1), .val (.int (x3.toInt8.toInt32)), .val (.ref b13), .unset] [])) _
      refine XS.iload X13.here hx rfl (hb hby at_57) rfl ?_
      show Steps p.tables e below (T13.setTop (mkF m 59 #[.val (.int x0), .val (.int x1), .val (.int x2), .val (.int x3), .val (.int (0 : Int32)), .val (.int vb0), .val (.int vb1), .val (.int (x3.toInt8.toInt32)), .val (.ref b13), .unset] [(.int (0 : Int32))])) _
      refine XS.iconst X13.here hx rfl (hb hby at_59) ?_
      show Steps p.tables e below (T13.setTop (mkF m 60 #[.val (.int x0), .val (.int x1), .val (.int x2), .val (.int x3), .val (.int (0 : Int32)), .val (.int vb0), .val (.int vb1), .val (.int (x3.toInt8.toInt32)), .val (.ref b13), .unset] [(.int (1 : Int32)), (.int (0 : Int32))])) _
      refine XS.icmpYes X13.here hx rfl (pc0 := 60) (pc' := 69) rfl (hb hby at_60) rfl ((flt (by decide)).2.2.2) (by decide) (by decide) ?_
      show Steps p.tables e below (T13.setTop (mkF m 69 #[.val (.int x0), .val (.int x1), .val (.int x2), .val (.int x3), .val (.int (0 : Int32)), .val (.int vb0), .val (.int vb1), .val (.int (x3.toInt8.toInt32)), .val (.ref b13), .unset] [])) _
      refine XS.iload X13.here hx rfl (hb hby at_69) rfl ?_
      show Steps p.tables e below (T13.setTop (mkF m 71 #[.val (.int x0), .val (.int x1), .val (.int x2), .val (.int x3), .val (.int (0 : Int32)), .val (.int vb0), .val (.int vb1), .val (.int (x3.toInt8.toInt32)), .val (.ref b13), .unset] [(.int (0 : Int32))])) _
      refine XS.iconst X13.here hx rfl (hb hby at_71) ?_
      show Steps p.tables e below (T13.setTop (mkF m 72 #[.val (.int x0), .val (.int x1), .val (.int x2), .val (.int x3), .val (.int (0 : Int32)), .val (.int vb0), .val (.int vb1), .val (.int (x3.toInt8.toInt32)), .val (.ref b13), .unset] [(.int (2 : Int32)), (.int (0 : Int32))])) _
      refine XS.icmpYes X13.here hx rfl (pc0 := 72) (pc' := 81) rfl (hb hby at_72) rfl ((flt (by decide)).2.2.2) (by decide) (by decide) ?_
      show Steps p.tables e below (T13.setTop (mkF m 81 #[.val (.int x0), .val (.int x1), .val (.int x2), .val (.int x3), .val (.int (0 : Int32)), .val (.int vb0), .val (.int vb1), .val (.int (x3.toInt8.toInt32)), .val (.ref b13), .unset] [])) _
      refine XS.iload X13.here hx rfl (hb hby at_81) rfl ?_
      show Steps p.tables e below (T13.setTop (mkF m 83 #[.val (.int x0), .val (.int x1), .val (.int x2), .val (.int x3), .val (.int (0 : Int32)), .val (.int vb0), .val (.int vb1), .val (.int (x3.toInt8.toInt32)), .val (.ref b13), .unset] [(.int (0 : Int32))])) _
      refine XS.iconst X13.here hx rfl (hb hby at_83) ?_
      show Steps p.tables e below (T13.setTop (mkF m 84 #[.val (.int x0), .val (.int x1), .val (.int x2), .val (.int x3), .val (.int (0 : Int32)), .val (.int vb0), .val (.int vb1), .val (.int (x3.toInt8.toInt32)), .val (.ref b13), .unset] [(.int (2 : Int32)), (.int (0 : Int32))])) _
      refine XS.icmpYes X13.here hx rfl (pc0 := 84) (pc' := 105) rfl (hb hby at_84) rfl ((tlt (by decide)).1) (by decide) (by decide) ?_
      show Steps p.tables e below (T13.setTop (mkF m 105 #[.val (.int x0), .val (.int x1), .val (.int x2), .val (.int x3), .val (.int (0 : Int32)), .val (.int vb0), .val (.int vb1), .val (.int (x3.toInt8.toInt32)), .val (.ref b13), .unset] [])) _
      refine XS.iconst X13.here hx rfl (hb hby at_105) ?_
      show Steps p.tables e below (T13.setTop (mkF m 106 #[.val (.int x0), .val (.int x1), .val (.int x2), .val (.int x3), .val (.int (0 : Int32)), .val (.int vb0), .val (.int vb1), .val (.int (x3.toInt8.toInt32)), .val (.ref b13), .unset] [(.int (0 : Int32))])) _
      refine XS.istore X13.here hx rfl (hb hby at_106) rfl (l' := #[.val (.int x0), .val (.int x1), .val (.int x2), .val (.int x3), .val (.int (0 : Int32)), .val (.int vb0), .val (.int vb1), .val (.int (x3.toInt8.toInt32)), .val (.ref b13), .val (.int (0 : Int32))]) rfl ?_
      show Steps p.tables e below (T13.setTop (mkF m 108 #[.val (.int x0), .val (.int x1), .val (.int x2), .val (.int x3), .val (.int (0 : Int32)), .val (.int vb0), .val (.int vb1), .val (.int (x3.toInt8.toInt32)), .val (.ref b13), .val (.int (0 : Int32))] [])) _
      refine XS.aload X13.here hx rfl (hb hby at_108) rfl rfl ?_
      exact k)
    obtain ⟨_, _, ⟨T16, L16, k16, n16⟩, -, X16, ⟨Lc16, hQ16, l16, y16, z16⟩, st16⟩ := Jvm.LawKit.callS X13 hx (y := (⟨"com/example/kalchas/kalchas/io/GzipDecoder", "isGzip", "([B)Z"⟩ : MethodName)) hown (mvT hZ (hw _ (List.mem_of_getElem? (i := 1) rfl))) (mvT hZ (hw _ (List.mem_of_getElem? (i := 2) rfl))) (mvT hZ (hw _ (List.mem_of_getElem? (i := 3) rfl))) (mvT hZ (hw _ (List.mem_of_getElem? (i := 4) rfl))) (by decide) (backOf (W := 0) (rmg0 l Z a0 hw [] b13 k13  h13 n0 Z13 VV13) hZ (hw _ (List.mem_of_getElem? (i := 4) rfl)) (hw _ (List.mem_of_getElem? (i := 3) rfl)) (by decide) (by decide)) (g := (mkF m 110 #[.val (.int x0), .val (.int x1), .val (.int x2), .val (.int x3), .val (.int (0 : Int32)), .val (.int vb0), .val (.int vb1), .val (.int (x3.toInt8.toInt32)), .val (.ref b13), .val (.int (0 : Int32))] [(.ref b13)])) rfl (by rw [hml]; rfl) (argsL := [(.ref b13)]) (rest := []) (lenOf pd0_0 rfl) rfl (by show 2 * 0 + _ ≤ _; exact Nat.le_of_eq rfl) (hb hby at_110) (fun _ _ => ⟨rfl, e13, (by decide : 1 + 0 ≤ _), (by decide : 0 + 0 ≤ _)⟩)
    dsimp only [Pt.U, Pt.locs, Pt.cells, Pt.slots] at X16 l16 y16 z16 st16 hQ16
    subst l16 y16 z16
    obtain ⟨rfl, Nq16, e16⟩ := hQ16
    have N16 := Fr.app N0 Nq16
    have p17 : ∀ t, Steps p.tables e below (T16.setTop (mkF m 113 #[.val (.int x0), .val (.int x1), .val (.int x2), .val (.int x3), .val (.int (0 : Int32)), .val (.int vb0), .val (.int vb1), .val (.int (x3.toInt8.toInt32)), .val (.ref b13), .val (.int (0 : Int32))] [(.int (0 : Int32))])) t → Steps p.tables e below (s₁.setTop (entryFrame m #[(.int x0), (.int x1), (.int x2), (.int x3)] maxLocals)) t := fun t k => p15 t (st16 _ k)
    have p18 : ∀ t, Steps p.tables e below (T16.setTop (mkF m 123 #[.val (.int x0), .val (.int x1), .val (.int x2), .val (.int x3), .val (.int (0 : Int32)), .val (.int vb0), .val (.int vb1), .val (.int (x3.toInt8.toInt32)), .val (.ref b13), .val (.int (0 : Int32))] [(.int (1 : Int32))])) t → Steps p.tables e below (s₁.setTop (entryFrame m #[(.int x0), (.int x1), (.int x2), (.int x3)] maxLocals)) t := fun t k => p17 t (by
      show Steps p.tables e below (T16.setTop (mkF m 113 #[.val (.int x0), .val (.int x1), .val (.int x2), .val (.int x3), .val (.int (0 : Int32)), .val (.int vb0), .val (.int vb1), .val (.int (x3.toInt8.toInt32)), .val (.ref b13), .val (.int (0 : Int32))] [(.int (0 : Int32))])) _
      refine XS.iload X16.here hx rfl (hb hby at_113) rfl ?_
      show Steps p.tables e below (T16.setTop (mkF m 115 #[.val (.int x0), .val (.int x1), .val (.int x2), .val (.int x3), .val (.int (0 : Int32)), .val (.int vb0), .val (.int vb1), .val (.int (x3.toInt8.toInt32)), .val (.ref b13), .val (.int (0 : Int32))] [(.int (0 : Int32)), (.int (0 : Int32))])) _
      refine XS.icmpNo X16.here hx rfl (hb hby at_115) rfl ((teq (rfl)).2) ?_
      show Steps p.tables e below (T16.setTop (mkF m 118 #[.val (.int x0), .val (.int x1), .val (.int x2), .val (.int x3), .val (.int (0 : Int32)), .val (.int vb0), .val (.int vb1), .val (.int (x3.toInt8.toInt32)), .val (.ref b13), .val (.int (0 : Int32))] [])) _
      refine XS.iconst X16.here hx rfl (hb hby at_118) ?_
      show Steps p.tables e below (T16.setTop (mkF m 119 #[.val (.int x0), .val (.int x1), .val (.int x2), .val (.int x3), .val (.int (0 : Int32)), .val (.int vb0), .val (.int vb1), .val (.int (x3.toInt8.toInt32)), .val (.ref b13), .val (.int (0 : Int32))] [(.int (1 : Int32))])) _
      refine XS.goto X16.here hx rfl (pc0 := 119) (pc' := 123) rfl (hb hby at_119) (by decide) (by decide) ?_
      exact k)
    obtain ⟨fs, hr, hrun, hended, hW, hsame⟩ := X16.leave (v := some (.int (1 : Int32))) (fun h => by rw [Bd.returns] at h; cases h)
    refine ⟨_, _, p18 _ ?_, hrun, hended, _, _, rfl, ?_, ⟨_, rfl⟩, hW, hsame.mono (by decide) (by decide)⟩
    · show Steps p.tables e below (T16.setTop (mkF m 123 #[.val (.int x0), .val (.int x1), .val (.int x2), .val (.int x3), .val (.int (0 : Int32)), .val (.int vb0), .val (.int vb1), .val (.int (x3.toInt8.toInt32)), .val (.ref b13), .val (.int (0 : Int32))] [(.int (1 : Int32))])) _
      exact retN X16 hx (t := .boolean) Bd.returns (by simp) (hb hby at_123) hr
    · show Q0 Z x0 x1 x2 x3 h0 n0 _ T16.heap _
      rw [e16]
      exact ⟨rfl, N16⟩
  · obtain ⟨T19, h19, k19, X19, e19, E19, A19, st19⟩ := newP X0 hx hZ (hw _ (List.mem_of_getElem? (i := 0) rfl)) e0 (g := (mkF m 42 #[.val (.int x0), .val (.int x1), .val (.int x2), .val (.int x3), .val (.int (1 : Int32)), .val (.int vb0), .val (.int vb1), .val (.int (x3.toInt8.toInt32)), .unset, .unset] [(.int (1 : Int32))])) rfl (hb hby at_42) rfl (by decide) (cap := 1) (by decide) (by decide) (by decide) (by decide)
    obtain ⟨b19, g19⟩ : ∃ z, z = h0.size := ⟨_, rfl⟩
    rw [← g19] at A19 st19
    have gn_b19 : n0 ≤ b19 := Nat.le_trans Z0 (Nat.le_of_eq g19.symm)
    have Z19 := Nat.le_trans Z0 E19.1
    have VV19 : Arv Z h19 b19 k19 .byte (1 : Int32) [(.int (0 : Int32))] (.int (0 : Int32)) := (Arv.new A19 (by decide)).pad (pad_rep [] (.int (0 : Int32)) 1)
    have p20 : ∀ t, Steps p.tables e below (T19.setTop (mkF m 44 #[.val (.int x0), .val (.int x1), .val (.int x2), .val (.int x3), .val (.int (1 : Int32)), .val (.int vb0), .val (.int vb1), .val (.int (x3.toInt8.toInt32)), .unset, .unset] [(.ref b19)])) t → Steps p.tables e below (s₁.setTop (entryFrame m #[(.int x0), (.int x1), (.int x2), (.int x3)] maxLocals)) t := fun t k => p12 t (st19 t k)
    have p21 : ∀ t, Steps p.tables e below (T19.setTop (mkF m 56 #[.val (.int x0), .val (.int x1), .val (.int x2), .val (.int x3), .val (.int (1 : Int32)), .val (.int vb0), .val (.int vb1), .val (.int (x3.toInt8.toInt32)), .val (.ref b19), .unset] [(.int vb0), (.int (0 : Int32)), (.ref b19)])) t → Steps p.tables e below (s₁.setTop (entryFrame m #[(.int x0), (.int x1), (.int x2), (.int x3)] maxLocals)) t := fun t k => p20 t (by
      show Steps p.tables e below (T19.setTop (mkF m 44 #[.val (.int x0), .val (.int x1), .val (.int x2), .val (.int x3), .val (.int (1 : Int32)), .val (.int vb0), .val (.int vb1), .val (.int (x3.toInt8.toInt32)), .unset, .unset] [(.ref b19)])) _
      refine XS.astore X19.here hx rfl (hb hby at_44) rfl rfl (l' := #[.val (.int x0), .val (.int x1), .val (.int x2), .val (.int x3), .val (.int (1 : Int32)), .val (.int vb0), .val (.int vb1), .val (.int (x3.toInt8.toInt32)), .val (.ref b19), .unset]) rfl ?_
      show Steps p.tables e below (T19.setTop (mkF m 46 #[.val (.int x0), .val (.int x1), .val (.int x2), .val (.int x3), .val (.int (1 : Int32)), .val (.int vb0), .val (.int vb1), .val (.int (x3.toInt8.toInt32)), .val (.ref b19), .unset] [])) _
      refine XS.iload X19.here hx rfl (hb hby at_46) rfl ?_
      show Steps p.tables e below (T19.setTop (mkF m 48 #[.val (.int x0), .val (.int x1), .val (.int x2), .val (.int x3), .val (.int (1 : Int32)), .val (.int vb0), .val (.int vb1), .val (.int (x3.toInt8.toInt32)), .val (.ref b19), .unset] [(.int (1 : Int32))])) _
      refine XS.ifNo X19.here hx rfl (hb hby at_48) rfl ((if0 _ _).trans (tlt (by decide)).2.2.2) ?_
      show Steps p.tables e below (T19.setTop (mkF m 51 #[.val (.int x0), .val (.int x1), .val (.int x2), .val (.int x3), .val (.int (1 : Int32)), .val (.int vb0), .val (.int vb1), .val (.int (x3.toInt8.toInt32)), .val (.ref b19), .unset] [])) _
      refine XS.aload X19.here hx rfl (hb hby at_51) rfl rfl ?_
      show Steps p.tables e below (T19.setTop (mkF m 53 #[.val (.int x0), .val (.int x1), .val (.int x2), .val (.int x3), .val (.int (1 : Int32)), .val (.int vb0), .val (.int vb1), .val (.int (x3.toInt8.toInt32)), .val (.ref b19), .unset] [(.ref b19)])) _
      refine XS.iconst X19.here hx rfl (hb hby at_53) ?_
      show Steps p.tables e below (T19.setTop (mkF m 54 #[.val (.int x0), .val (.int x1), .val (.int x2), .val (.int x3), .val (.int (1 : Int32)), .val (.int vb0), .val (.int vb1), .val (.int (x3.toInt8.toInt32)), .val (.ref b19), .unset] [(.int (0 : Int32)), (.ref b19)])) _
      refine XS.iload X19.here hx rfl (hb hby at_54) rfl ?_
      exact k)
    obtain ⟨cl22, Ar22, q22, Sz22, Ng22, Hs22, G22⟩ := id VV19
    have hin22 : ¬ ((0 : Int32) < 0 ∨ cl22.slots.size ≤ ((0 : Int32)).toNatClampNeg) := inb_of Sz22 (⟨by decide, by decide⟩)
    obtain ⟨T22, h22, X22, e22, W22, st22⟩ := stB X19 hx hZ e19 Ar22 (j := (0 : Int32)) hin22 (g := (mkF m 56 #[.val (.int x0), .val (.int x1), .val (.int x2), .val (.int x3), .val (.int (1 : Int32)), .val (.int vb0), .val (.int vb1), .val (.int (x3.toInt8.toInt32)), .val (.ref b19), .unset] [(.int vb0), (.int (0 : Int32)), (.ref b19)])) rfl rfl (hb hby at_56)
    have VV22 : Arv Z h22 b19 k19 .byte (1 : Int32) [(.int (vb0.toInt8.toInt32))] (.int (0 : Int32)) := Arv.set Ar22 q22 Sz22 Ng22 Hs22 G22 (fits_nar_byte _) W22 0 (by decide) (Nat.le_of_ble_eq_true rfl)
    have Z22 := Nat.le_trans Z19 (Keep.of_wr W22).1
    have N22 := Fr.snoc X22 N0 gn_b19
    have p23 : ∀ t, Steps p.tables e below (T22.setTop (mkF m 57 #[.val (.int x0), .val (.int x1), .val (.int x2), .val (.int x3), .val (.int (1 : Int32)), .val (.int vb0), .val (.int vb1), .val (.int (x3.toInt8.toInt32)), .val (.ref b19), .unset] [])) t → Steps p.tables e below (s₁.setTop (entryFrame m #[(.int x0), (.int x1), (.int x2), (.int x3)] maxLocals)) t := fun t k => p21 t (st22 t k)
    have p24 : ∀ t, Steps p.tables e below (T22.setTop (mkF m 110 #[.val (.int x0), .val (.int x1), .val (.int x2), .val (.int x3), .val (.int (1 : Int32)), .val (.int vb0), .val (.int vb1), .val (.int (x3.toInt8.toInt32)), .val (.ref b19), .val (.int (0 : Int32))] [(.ref b19)])) t → Steps p.tables e below (s₁.setTop (entryFrame m #[(.int x0), (.int x1), (.int x2), (.int x3)] maxLocals)) t := fun t k => p23 t (by
      show Steps p.tables e below (T22.setTop (mkF m 57 #[.val (.int x0), .val (.int x1), .val (.int x2), .val (.int x3), .val (.int (1 : Int32)), .val (.int vb0), .val (.int vb1), .val (.int (x3.toInt8.toInt32)), .val (.ref b19), .unset] [])) _
      refine XS.iload X22.here hx rfl (hb hby at_57) rfl ?_
      show Steps p.tables e below (T22.setTop (mkF m 59 #[.val (.int x0), .val (.int x1), .val (.int x2), .val (.int x3), .val (.int (1 : Int32)), .val (.int vb0), .val (.int vb1), .val (.int (x3.toInt8.toInt32)), .val (.ref b19), .unset] [(.int (1 : Int32))])) _
      refine XS.iconst X22.here hx rfl (hb hby at_59) ?_
      show Steps p.tables e below (T22.setTop (mkF m 60 #[.val (.int x0), .val (.int x1), .val (.int x2), .val (.int x3), .val (.int (1 : Int32)), .val (.int vb0), .val (.int vb1), .val (.int (x3.toInt8.toInt32)), .val (.ref b19), .unset] [(.int (1 : Int32)), (.int (1 : Int32))])) _
      refine XS.icmpYes X22.here hx rfl (pc0 := 60) (pc' := 69) rfl (hb hby at_60) rfl ((flt (by decide)).2.2.2) (by decide) (by decide) ?_
      show Steps p.tables e below (T22.setTop (mkF m 69 #[.val (.int x0), .val (.int x1), .val (.int x2), .val (.int x3), .val (.int (1 : Int32)), .val (.int vb0), .val (.int vb1), .val (.int (x3.toInt8.toInt32)), .val (.ref b19), .unset] [])) _
      refine XS.iload X22.here hx rfl (hb hby at_69) rfl ?_
      show Steps p.tables e below (T22.setTop (mkF m 71 #[.val (.int x0), .val (.int x1), .val (.int x2), .val (.int x3), .val (.int (1 : Int32)), .val (.int vb0), .val (.int vb1), .val (.int (x3.toInt8.toInt32)), .val (.ref b19), .unset] [(.int (1 : Int32))])) _
      refine XS.iconst X22.here hx rfl (hb hby at_71) ?_
      show Steps p.tables e below (T22.setTop (mkF m 72 #[.val (.int x0), .val (.int x1), .val (.int x2), .val (.int x3), .val (.int (1 : Int32)), .val (.int vb0), .val (.int vb1), .val (.int (x3.toInt8.toInt32)), .val (.ref b19), .unset] [(.int (2 : Int32)), (.int (1 : Int32))])) _
      refine XS.icmpYes X22.here hx rfl (pc0 := 72) (pc' := 81) rfl (hb hby at_72) rfl ((flt (by decide)).2.2.2) (by decide) (by decide) ?_
      show Steps p.tables e below (T22.setTop (mkF m 81 #[.val (.int x0), .val (.int x1), .val (.int x2), .val (.int x3), .val (.int (1 : Int32)), .val (.int vb0), .val (.int vb1), .val (.int (x3.toInt8.toInt32)), .val (.ref b19), .unset] [])) _
      refine XS.iload X22.here hx rfl (hb hby at_81) rfl ?_
      show Steps p.tables e below (T22.setTop (mkF m 83 #[.val (.int x0), .val (.int x1), .val (.int x2), .val (.int x3), .val (.int (1 : Int32)), .val (.int vb0), .val (.int vb1), .val (.int (x3.toInt8.toInt32)), .val (.ref b19), .unset] [(.int (1 : Int32))])) _
      refine XS.iconst X22.here hx rfl (hb hby at_83) ?_
      show Steps p.tables e below (T22.setTop (mkF m 84 #[.val (.int x0), .val (.int x1), .val (.int x2), .val (.int x3), .val (.int (1 : Int32)), .val (.int vb0), .val (.int vb1), .val (.int (x3.toInt8.toInt32)), .val (.ref b19), .unset] [(.int (2 : Int32)), (.int (1 : Int32))])) _
      refine XS.icmpYes X22.here hx rfl (pc0 := 84) (pc' := 105) rfl (hb hby at_84) rfl ((tlt (by decide)).1) (by decide) (by decide) ?_
      show Steps p.tables e below (T22.setTop (mkF m 105 #[.val (.int x0), .val (.int x1), .val (.int x2), .val (.int x3), .val (.int (1 : Int32)), .val (.int vb0), .val (.int vb1), .val (.int (x3.toInt8.toInt32)), .val (.ref b19), .unset] [])) _
      refine XS.iconst X22.here hx rfl (hb hby at_105) ?_
      show Steps p.tables e below (T22.setTop (mkF m 106 #[.val (.int x0), .val (.int x1), .val (.int x2), .val (.int x3), .val (.int (1 : Int32)), .val (.int vb0), .val (.int vb1), .val (.int (x3.toInt8.toInt32)), .val (.ref b19), .unset] [(.int (0 : Int32))])) _
      refine XS.istore X22.here hx rfl (hb hby at_106) rfl (l' := #[.val (.int x0), .val (.int x1), .val (.int x2), .val (.int x3), .val (.int (1 : Int32)), .val (.int vb0), .val (.int vb1), .val (.int (x3.toInt8.toInt32)), .val (.ref b19), .val (.int (0 : Int32))]) rfl ?_
      show Steps p.tables e below (T22.setTop (mkF m 108 #[.val (.int x0), .val (.int x1), .val (.int x2), .val (.int x3), .val (.int (1 : Int32)), .val (.int vb0), .val (.int vb1), .val (.int (x3.toInt8.toInt32)), .val (.ref b19), .val (.int (0 : Int32))] [])) _
      refine XS.aload X22.here hx rfl (hb hby at_108) rfl rfl ?_
      exact k)
    obtain ⟨_, _, ⟨T25, L25, k25, n25⟩, -, X25, ⟨Lc25, hQ25, l25, y25, z25⟩, st25⟩ := Jvm.LawKit.callS X22 hx (y := (⟨"com/example/kalchas/kalchas/io/GzipDecoder", "isGzip", "([B)Z"⟩ : MethodName)) hown (mvT hZ (hw _ (List.mem_of_getElem? (i := 1) rfl))) (mvT hZ (hw _ (List.mem_of_getElem? (i := 2) rfl))) (mvT hZ (hw _ (List.mem_of_getElem? (i := 3) rfl))) (mvT hZ (hw _ (List.mem_of_getElem? (i := 4) rfl))) (by decide) (backOf (W := 0) (rmg1 l Z a0 hw [] b19 k19 (vb0.toInt8.toInt32) h22 n0 Z22 VV22) hZ (hw _ (List.mem_of_getElem? (i := 4) rfl)) (hw _ (List.mem_of_getElem? (i := 3) rfl)) (by decide) (by decide)) (g := (mkF m 110 #[.val (.int x0), .val (.int x1), .val (.int x2), .val (.int x3), .val (.int (1 : Int32)), .val (.int vb0), .val (.int vb1), .val (.int (x3.toInt8.toInt32)), .val (.ref b19), .val (.int (0 : Int32))] [(.ref b19)])) rfl (by rw [hml]; rfl) (argsL := [(.ref b19)]) (rest := []) (lenOf pd0_0 rfl) rfl (by show 2 * 0 + _ ≤ _; exact Nat.le_of_eq rfl) (hb hby at_110) (fun _ _ => ⟨rfl, e22, (by decide : 1 + 0 ≤ _), (by decide : 1 + 0 ≤ _)⟩)
    dsimp only [Pt.U, Pt.locs, Pt.cells, Pt.slots] at X25 l25 y25 z25 st25 hQ25
    subst l25 y25 z25
    obtain ⟨rfl, Nq25, e25⟩ := hQ25
    have N25 := Fr.app N22 Nq25
    have p26 : ∀ t, Steps p.tables e below (T25.setTop (mkF m 113 #[.val (.int x0), .val (.int x1), .val (.int x2), .val (.int x3), .val (.int (1 : Int32)), .val (.int vb0), .val (.int vb1), .val (.int (x3.toInt8.toInt32)), .val (.ref b19), .val (.int (0 : Int32))] [(.int (0 : Int32))])) t → Steps p.tables e below (s₁.setTop (entryFrame m #[(.int x0), (.int x1), (.int x2), (.int x3)] maxLocals)) t := fun t k => p24 t (st25 _ k)
    have p27 : ∀ t, Steps p.tables e below (T25.setTop (mkF m 123 #[.val (.int x0), .val (.int x1), .val (.int x2), .val (.int x3), .val (.int (1 : Int32)), .val (.int vb0), .val (.int vb1), .val (.int (x3.toInt8.toInt32)), .val (.ref b19), .val (.int (0 : Int32))] [(.int (1 : Int32))])) t → Steps p.tables e below (s₁.setTop (entryFrame m #[(.int x0), (.int x1), (.int x2), (.int x3)] maxLocals)) t := fun t k => p26 t (by
      show Steps p.tables e below (T25.setTop (mkF m 113 #[.val (.int x0), .val (.int x1), .val (.int x2), .val (.int x3), .val (.int (1 : Int32)), .val (.int vb0), .val (.int vb1), .val (.int (x3.toInt8.toInt32)), .val (.ref b19), .val (.int (0 : Int32))] [(.int (0 : Int32))])) _
      refine XS.iload X25.here hx rfl (hb hby at_113) rfl ?_
      show Steps p.tables e below (T25.setTop (mkF m 115 #[.val (.int x0), .val (.int x1), .val (.int x2), .val (.int x3), .val (.int (1 : Int32)), .val (.int vb0), .val (.int vb1), .val (.int (x3.toInt8.toInt32)), .val (.ref b19), .val (.int (0 : Int32))] [(.int (0 : Int32)), (.int (0 : Int32))])) _
      refine XS.icmpNo X25.here hx rfl (hb hby at_115) rfl ((teq (rfl)).2) ?_
      show Steps p.tables e below (T25.setTop (mkF m 118 #[.val (.int x0), .val (.int x1), .val (.int x2), .val (.int x3), .val (.int (1 : Int32)), .val (.int vb0), .val (.int vb1), .val (.int (x3.toInt8.toInt32)), .val (.ref b19), .val (.int (0 : Int32))] [])) _
      refine XS.iconst X25.here hx rfl (hb hby at_118) ?_
      show Steps p.tables e below (T25.setTop (mkF m 119 #[.val (.int x0), .val (.int x1), .val (.int x2), .val (.int x3), .val (.int (1 : Int32)), .val (.int vb0), .val (.int vb1), .val (.int (x3.toInt8.toInt32)), .val (.ref b19), .val (.int (0 : Int32))] [(.int (1 : Int32))])) _
      refine XS.goto X25.here hx rfl (pc0 := 119) (pc' := 123) rfl (hb hby at_119) (by decide) (by decide) ?_
      exact k)
    obtain ⟨fs, hr, hrun, hended, hW, hsame⟩ := X25.leave (v := some (.int (1 : Int32))) (fun h => by rw [Bd.returns] at h; cases h)
    refine ⟨_, _, p27 _ ?_, hrun, hended, _, _, rfl, ?_, ⟨_, rfl⟩, hW, hsame.mono (by decide) (by decide)⟩
    · show Steps p.tables e below (T25.setTop (mkF m 123 #[.val (.int x0), .val (.int x1), .val (.int x2), .val (.int x3), .val (.int (1 : Int32)), .val (.int vb0), .val (.int vb1), .val (.int (x3.toInt8.toInt32)), .val (.ref b19), .val (.int (0 : Int32))] [(.int (1 : Int32))])) _
      exact retN X25 hx (t := .boolean) Bd.returns (by simp) (hb hby at_123) hr
    · show Q0 Z x0 x1 x2 x3 h0 n0 _ T25.heap _
      rw [e25]
      exact ⟨rfl, N25⟩
  · obtain ⟨T28, h28, k28, X28, e28, E28, A28, st28⟩ := newP X0 hx hZ (hw _ (List.mem_of_getElem? (i := 0) rfl)) e0 (g := (mkF m 42 #[.val (.int x0), .val (.int x1), .val (.int x2), .val (.int x3), .val (.int (2 : Int32)), .val (.int vb0), .val (.int vb1), .val (.int (x3.toInt8.toInt32)), .unset, .unset] [(.int (2 : Int32))])) rfl (hb hby at_42) rfl (by decide) (cap := 2) (by decide) (by decide) (by decide) (by decide)
    obtain ⟨b28, g28⟩ : ∃ z, z = h0.size := ⟨_, rfl⟩
    rw [← g28] at A28 st28
    have gn_b28 : n0 ≤ b28 := Nat.le_trans Z0 (Nat.le_of_eq g28.symm)
    have Z28 := Nat.le_trans Z0 E28.1
    have VV28 : Arv Z h28 b28 k28 .byte (2 : Int32) [(.int (0 : Int32)), (.int (0 : Int32))] (.int (0 : Int32)) := (Arv.new A28 (by decide)).pad (pad_rep [] (.int (0 : Int32)) 2)
    have p29 : ∀ t, Steps p.tables e below (T28.setTop (mkF m 44 #[.val (.int x0), .val (.int x1), .val (.int x2), .val (.int x3), .val (.int (2 : Int32)), .val (.int vb0), .val (.int vb1), .val (.int (x3.toInt8.toInt32)), .unset, .unset] [(.ref b28)])) t → Steps p.tables e below (s₁.setTop (entryFrame m #[(.int x0), (.int x1), (.int x2), (.int x3)] maxLocals)) t := fun t k => p12 t (st28 t k)
    have p30 : ∀ t, Steps p.tables e below (T28.setTop (mkF m 56 #[.val (.int x0), .val (.int x1), .val (.int x2), .val (.int x3), .val (.int (2 : Int32)), .val (.int vb0), .val (.int vb1), .val (.int (x3.toInt8.toInt32)), .val (.ref b28), .unset] [(.int vb0), (.int (0 : Int32)), (.ref b28)])) t → Steps p.tables e below (s₁.setTop (entryFrame m #[(.int x0), (.int x1), (.int x2), (.int x3)] maxLocals)) t := fun t k => p29 t (by
      show Steps p.tables e below (T28.setTop (mkF m 44 #[.val (.int x0), .val (.int x1), .val (.int x2), .val (.int x3), .val (.int (2 : Int32)), .val (.int vb0), .val (.int vb1), .val (.int (x3.toInt8.toInt32)), .unset, .unset] [(.ref b28)])) _
      refine XS.astore X28.here hx rfl (hb hby at_44) rfl rfl (l' := #[.val (.int x0), .val (.int x1), .val (.int x2), .val (.int x3), .val (.int (2 : Int32)), .val (.int vb0), .val (.int vb1), .val (.int (x3.toInt8.toInt32)), .val (.ref b28), .unset]) rfl ?_
      show Steps p.tables e below (T28.setTop (mkF m 46 #[.val (.int x0), .val (.int x1), .val (.int x2), .val (.int x3), .val (.int (2 : Int32)), .val (.int vb0), .val (.int vb1), .val (.int (x3.toInt8.toInt32)), .val (.ref b28), .unset] [])) _
      refine XS.iload X28.here hx rfl (hb hby at_46) rfl ?_
      show Steps p.tables e below (T28.setTop (mkF m 48 #[.val (.int x0), .val (.int x1), .val (.int x2), .val (.int x3), .val (.int (2 : Int32)), .val (.int vb0), .val (.int vb1), .val (.int (x3.toInt8.toInt32)), .val (.ref b28), .unset] [(.int (2 : Int32))])) _
      refine XS.ifNo X28.here hx rfl (hb hby at_48) rfl ((if0 _ _).trans (tlt (by decide)).2.2.2) ?_
      show Steps p.tables e below (T28.setTop (mkF m 51 #[.val (.int x0), .val (.int x1), .val (.int x2), .val (.int x3), .val (.int (2 : Int32)), .val (.int vb0), .val (.int vb1), .val (.int (x3.toInt8.toInt32)), .val (.ref b28), .unset] [])) _
      refine XS.aload X28.here hx rfl (hb hby at_51) rfl rfl ?_
      show Steps p.tables e below (T28.setTop (mkF m 53 #[.val (.int x0), .val (.int x1), .val (.int x2), .val (.int x3), .val (.int (2 : Int32)), .val (.int vb0), .val (.int vb1), .val (.int (x3.toInt8.toInt32)), .val (.ref b28), .unset] [(.ref b28)])) _
      refine XS.iconst X28.here hx rfl (hb hby at_53) ?_
      show Steps p.tables e below (T28.setTop (mkF m 54 #[.val (.int x0), .val (.int x1), .val (.int x2), .val (.int x3), .val (.int (2 : Int32)), .val (.int vb0), .val (.int vb1), .val (.int (x3.toInt8.toInt32)), .val (.ref b28), .unset] [(.int (0 : Int32)), (.ref b28)])) _
      refine XS.iload X28.here hx rfl (hb hby at_54) rfl ?_
      exact k)
    obtain ⟨cl31, Ar31, q31, Sz31, Ng31, Hs31, G31⟩ := id VV28
    have hin31 : ¬ ((0 : Int32) < 0 ∨ cl31.slots.size ≤ ((0 : Int32)).toNatClampNeg) := inb_of Sz31 (⟨by decide, by decide⟩)
    obtain ⟨T31, h31, X31, e31, W31, st31⟩ := stB X28 hx hZ e28 Ar31 (j := (0 : Int32)) hin31 (g := (mkF m 56 #[.val (.int x0), .val (.int x1), .val (.int x2), .val (.int x3), .val (.int (2 : Int32)), .val (.int vb0), .val (.int vb1), .val (.int (x3.toInt8.toInt32)), .val (.ref b28), .unset] [(.int vb0), (.int (0 : Int32)), (.ref b28)])) rfl rfl (hb hby at_56)
    have VV31 : Arv Z h31 b28 k28 .byte (2 : Int32) [(.int (vb0.toInt8.toInt32)), (.int (0 : Int32))] (.int (0 : Int32)) := Arv.set Ar31 q31 Sz31 Ng31 Hs31 G31 (fits_nar_byte _) W31 0 (by decide) (Nat.le_of_ble_eq_true rfl)
    have Z31 := Nat.le_trans Z28 (Keep.of_wr W31).1
    have N31 := Fr.snoc X31 N0 gn_b28
    have p32 : ∀ t, Steps p.tables e below (T31.setTop (mkF m 57 #[.val (.int x0), .val (.int x1), .val (.int x2), .val (.int x3), .val (.int (2 : Int32)), .val (.int vb0), .val (.int vb1), .val (.int (x3.toInt8.toInt32)), .val (.ref b28), .unset] [])) t → Steps p.tables e below (s₁.setTop (entryFrame m #[(.int x0), (.int x1), (.int x2), (.int x3)] maxLocals)) t := fun t k => p30 t (st31 t k)
    have p33 : ∀ t, Steps p.tables e below (T31.setTop (mkF m 68 #[.val (.int x0), .val (.int x1), .val (.int x2), .val (.int x3), .val (.int (2 : Int32)), .val (.int vb0), .val (.int vb1), .val (.int (x3.toInt8.toInt32)), .val (.ref b28), .unset] [(.int vb1), (.int (1 : Int32)), (.ref b28)])) t → Steps p.tables e below (s₁.setTop (entryFrame m #[(.int x0), (.int x1), (.int x2), (.int x3)] maxLocals)) t := fun t k => p32 t (by
      show Steps p.tables e below (T31.setTop (mkF m 57 #[.val (.int x0), .val (.int x1), .val (.int x2), .val (.int x3), .val (.int (2 : Int32)), .val (.int vb0), .val (.int vb1), .val (.int (x3.toInt8.toInt32)), .val (.ref b28), .unset] [])) _
      refine XS.iload X31.here hx rfl (hb hby at_57) rfl ?_
      show Steps p.tables e below (T31.setTop (mkF m 59 #[.val (.int x0), .val (.int x1), .val (.int x2), .val (.int x3), .val (.int (2 : Int32)), .val (.int vb0), .val (.int vb1), .val (.int (x3.toInt8.toInt32)), .val (.ref b28), .unset] [(.int (2 : Int32))])) _
      refine XS.iconst X31.here hx rfl (hb hby at_59) ?_
      show Steps p.tables e below (T31.setTop (mkF m 60 #[.val (.int x0), .val (.int x1), .val (.int x2), .val (.int x3), .val (.int (2 : Int32)), .val (.int vb0), .val (.int vb1), .val (.int (x3.toInt8.toInt32)), .val (.ref b28), .unset] [(.int (1 : Int32)), (.int (2 : Int32))])) _
      refine XS.icmpNo X31.here hx rfl (hb hby at_60) rfl ((tlt (by decide)).2.2.2) ?_
      show Steps p.tables e below (T31.setTop (mkF m 63 #[.val (.int x0), .val (.int x1), .val (.int x2), .val (.int x3), .val (.int (2 : Int32)), .val (.int vb0), .val (.int vb1), .val (.int (x3.toInt8.toInt32)), .val (.ref b28), .unset] [])) _
      refine XS.aload X31.here hx rfl (hb hby at_63) rfl rfl ?_
      show Steps p.tables e below (T31.setTop (mkF m 65 #[.val (.int x0), .val (.int x1), .val (.int x2), .val (.int x3), .val (.int (2 : Int32)), .val (.int vb0), .val (.int vb1), .val (.int (x3.toInt8.toInt32)), .val (.ref b28), .unset] [(.ref b28)])) _
      refine XS.iconst X31.here hx rfl (hb hby at_65) ?_
      show Steps p.tables e below (T31.setTop (mkF m 66 #[.val (.int x0), .val (.int x1), .val (.int x2), .val (.int x3), .val (.int (2 : Int32)), .val (.int vb0), .val (.int vb1), .val (.int (x3.toInt8.toInt32)), .val (.ref b28), .unset] [(.int (1 : Int32)), (.ref b28)])) _
      refine XS.iload X31.here hx rfl (hb hby at_66) rfl ?_
      exact k)
    obtain ⟨cl34, Ar34, q34, Sz34, Ng34, Hs34, G34⟩ := id VV31
    have hin34 : ¬ ((1 : Int32) < 0 ∨ cl34.slots.size ≤ ((1 : Int32)).toNatClampNeg) := inb_of Sz34 (⟨by decide, by decide⟩)
    obtain ⟨T34, h34, X34, e34, W34, st34⟩ := stB X31 hx hZ e31 Ar34 (j := (1 : Int32)) hin34 (g := (mkF m 68 #[.val (.int x0), .val (.int x1), .val (.int x2), .val (.int x3), .val (.int (2 : Int32)), .val (.int vb0), .val (.int vb1), .val (.int (x3.toInt8.toInt32)), .val (.ref b28), .unset] [(.int vb1), (.int (1 : Int32)), (.ref b28)])) rfl rfl (hb hby at_68)
    have VV34 : Arv Z h34 b28 k28 .byte (2 : Int32) [(.int (vb0.toInt8.toInt32)), (.int (vb1.toInt8.toInt32))] (.int (0 : Int32)) := Arv.set Ar34 q34 Sz34 Ng34 Hs34 G34 (fits_nar_byte _) W34 1 (by decide) (Nat.le_of_ble_eq_true rfl)
    have Z34 := Nat.le_trans Z31 (Keep.of_wr W34).1
    have N34 := Fr.snoc X34 N31 gn_b28
    have p35 : ∀ t, Steps p.tables e below (T34.setTop (mkF m 69 #[.val (.int x0), .val (.int x1), .val (.int x2), .val (.int x3), .val (.int (2 : Int32)), .val (.int vb0), .val (.int vb1), .val (.int (x3.toInt8.toInt32)), .val (.ref b28), .unset] [])) t → Steps p.tables e below (s₁.setTop (entryFrame m #[(.int x0), (.int x1), (.int x2), (.int x3)] maxLocals)) t := fun t k => p33 t (st34 t k)
    have p36 : ∀ t, Steps p.tables e below (T34.setTop (mkF m 91 #[.val (.int x0), .val (.int x1), .val (.int x2), .val (.int x3), .val (.int (2 : Int32)), .val (.int vb0), .val (.int vb1), .val (.int (x3.toInt8.toInt32)), .val (.ref b28), .unset] [(.int (31 : Int32)), (.int vb0)])) t → Steps p.tables e below (s₁.setTop (entryFrame m #[(.int x0), (.int x1), (.int x2), (.int x3)] maxLocals)) t := fun t k => p35 t (by
      show Steps p.tables e below (T34.setTop (mkF m 69 #[.val (.int x0), .val (.int x1), .val (.int x2), .val (.int x3), .val (.int (2 : Int32)), .val (.int vb0), .val (.int vb1), .val (.int (x3.toInt8.toInt32)), .val (.ref b28), .unset] [])) _
      refine XS.iload X34.here hx rfl (hb hby at_69) rfl ?_
      show Steps p.tables e below (T34.setTop (mkF m 71 #[.val (.int x0), .val (.int x1), .val (.int x2), .val (.int x3), .val (.int (2 : Int32)), .val (.int vb0), .val (.int vb1), .val (.int (x3.toInt8.toInt32)), .val (.ref b28), .unset] [(.int (2 : Int32))])) _
      refine XS.iconst X34.here hx rfl (hb hby at_71) ?_
      show Steps p.tables e below (T34.setTop (mkF m 72 #[.val (.int x0), .val (.int x1), .val (.int x2), .val (.int x3), .val (.int (2 : Int32)), .val (.int vb0), .val (.int vb1), .val (.int (x3.toInt8.toInt32)), .val (.ref b28), .unset] [(.int (2 : Int32)), (.int (2 : Int32))])) _
      refine XS.icmpYes X34.here hx rfl (pc0 := 72) (pc' := 81) rfl (hb hby at_72) rfl ((flt (by decide)).2.2.2) (by decide) (by decide) ?_
      show Steps p.tables e below (T34.setTop (mkF m 81 #[.val (.int x0), .val (.int x1), .val (.int x2), .val (.int x3), .val (.int (2 : Int32)), .val (.int vb0), .val (.int vb1), .val (.int (x3.toInt8.toInt32)), .val (.ref b28), .unset] [])) _
      refine XS.iload X34.here hx rfl (hb hby at_81) rfl ?_
      show Steps p.tables e below (T34.setTop (mkF m 83 #[.val (.int x0), .val (.int x1), .val (.int x2), .val (.int x3), .val (.int (2 : Int32)), .val (.int vb0), .val (.int vb1), .val (.int (x3.toInt8.toInt32)), .val (.ref b28), .unset] [(.int (2 : Int32))])) _
      refine XS.iconst X34.here hx rfl (hb hby at_83) ?_
      show Steps p.tables e below (T34.setTop (mkF m 84 #[.val (.int x0), .val (.int x1), .val (.int x2), .val (.int x3), .val (.int (2 : Int32)), .val (.int vb0), .val (.int vb1), .val (.int (x3.toInt8.toInt32)), .val (.ref b28), .unset] [(.int (2 : Int32)), (.int (2 : Int32))])) _
      refine XS.icmpNo X34.here hx rfl (hb hby at_84) rfl ((flt (by decide)).1) ?_
      show Steps p.tables e below (T34.setTop (mkF m 87 #[.val (.int x0), .val (.int x1), .val (.int x2), .val (.int x3), .val (.int (2 : Int32)), .val (.int vb0), .val (.int vb1), .val (.int (x3.toInt8.toInt32)), .val (.ref b28), .unset] [])) _
      refine XS.iload X34.here hx rfl (hb hby at_87) rfl ?_
      show Steps p.tables e below (T34.setTop (mkF m 89 #[.val (.int x0), .val (.int x1), .val (.int x2), .val (.int x3), .val (.int (2 : Int32)), .val (.int vb0), .val (.int vb1), .val (.int (x3.toInt8.toInt32)), .val (.ref b28), .unset] [(.int vb0)])) _
      refine XS.bipush X34.here hx rfl (hb hby at_89) ?_
      exact k)
    by_cases hc91 : vb0 = (31 : Int32)
    · have p37 : ∀ t, Steps p.tables e below (T34.setTop (mkF m 98 #[.val (.int x0), .val (.int x1), .val (.int x2), .val (.int x3), .val (.int (2 : Int32)), .val (.int vb0), .val (.int vb1), .val (.int (x3.toInt8.toInt32)), .val (.ref b28), .unset] [(.int (-117 : Int32)), (.int vb1)])) t → Steps p.tables e below (s₁.setTop (entryFrame m #[(.int x0), (.int x1), (.int x2), (.int x3)] maxLocals)) t := fun t k => p36 t (by
        show Steps p.tables e below (T34.setTop (mkF m 91 #[.val (.int x0), .val (.int x1), .val (.int x2), .val (.int x3), .val (.int (2 : Int32)), .val (.int vb0), .val (.int vb1), .val (.int (x3.toInt8.toInt32)), .val (.ref b28), .unset] [(.int (31 : Int32)), (.int vb0)])) _
        refine XS.icmpNo X34.here hx rfl (hb hby at_91) rfl ((teq (hc91)).2) ?_
        show Steps p.tables e below (T34.setTop (mkF m 94 #[.val (.int x0), .val (.int x1), .val (.int x2), .val (.int x3), .val (.int (2 : Int32)), .val (.int vb0), .val (.int vb1), .val (.int (x3.toInt8.toInt32)), .val (.ref b28), .unset] [])) _
        refine XS.iload X34.here hx rfl (hb hby at_94) rfl ?_
        show Steps p.tables e below (T34.setTop (mkF m 96 #[.val (.int x0), .val (.int x1), .val (.int x2), .val (.int x3), .val (.int (2 : Int32)), .val (.int vb0), .val (.int vb1), .val (.int (x3.toInt8.toInt32)), .val (.ref b28), .unset] [(.int vb1)])) _
        refine XS.bipush X34.here hx rfl (hb hby at_96) ?_
        exact k)
      by_cases hc98 : vb1 = (-117 : Int32)
      · have p38 : ∀ t, Steps p.tables e below (T34.setTop (mkF m 110 #[.val (.int x0), .val (.int x1), .val (.int x2), .val (.int x3), .val (.int (2 : Int32)), .val (.int vb0), .val (.int vb1), .val (.int (x3.toInt8.toInt32)), .val (.ref b28), .val (.int (1 : Int32))] [(.ref b28)])) t → Steps p.tables e below (s₁.setTop (entryFrame m #[(.int x0), (.int x1), (.int x2), (.int x3)] maxLocals)) t := fun t k => p37 t (by
          show Steps p.tables e below (T34.setTop (mkF m 98 #[.val (.int x0), .val (.int x1), .val (.int x2), .val (.int x3), .val (.int (2 : Int32)), .val (.int vb0), .val (.int vb1), .val (.int (x3.toInt8.toInt32)), .val (.ref b28), .unset] [(.int (-117 : Int32)), (.int vb1)])) _
          refine XS.icmpNo X34.here hx rfl (hb hby at_98) rfl ((teq (hc98)).2) ?_
          show Steps p.tables e below (T34.setTop (mkF m 101 #[.val (.int x0), .val (.int x1), .val (.int x2), .val (.int x3), .val (.int (2 : Int32)), .val (.int vb0), .val (.int vb1), .val (.int (x3.toInt8.toInt32)), .val (.ref b28), .unset] [])) _
          refine XS.iconst X34.here hx rfl (hb hby at_101) ?_
          show Steps p.tables e below (T34.setTop (mkF m 102 #[.val (.int x0), .val (.int x1), .val (.int x2), .val (.int x3), .val (.int (2 : Int32)), .val (.int vb0), .val (.int vb1), .val (.int (x3.toInt8.toInt32)), .val (.ref b28), .unset] [(.int (1 : Int32))])) _
          refine XS.goto X34.here hx rfl (pc0 := 102) (pc' := 106) rfl (hb hby at_102) (by decide) (by decide) ?_
          show Steps p.tables e below (T34.setTop (mkF m 106 #[.val (.int x0), .val (.int x1), .val (.int x2), .val (.int x3), .val (.int (2 : Int32)), .val (.int vb0), .val (.int vb1), .val (.int (x3.toInt8.toInt32)), .val (.ref b28), .unset] [(.int (1 : Int32))])) _
          refine XS.istore X34.here hx rfl (hb hby at_106) rfl (l' := #[.val (.int x0), .val (.int x1), .val (.int x2), .val (.int x3), .val (.int (2 : Int32)), .val (.int vb0), .val (.int vb1), .val (.int (x3.toInt8.toInt32)), .val (.ref b28), .val (.int (1 : Int32))]) rfl ?_
          show Steps p.tables e below (T34.setTop (mkF m 108 #[.val (.int x0), .val (.int x1), .val (.int x2), .val (.int x3), .val (.int (2 : Int32)), .val (.int vb0), .val (.int vb1), .val (.int (x3.toInt8.toInt32)), .val (.ref b28), .val (.int (1 : Int32))] [])) _
          refine XS.aload X34.here hx rfl (hb hby at_108) rfl rfl ?_
          exact k)
        obtain ⟨_, _, ⟨T39, L39, k39, n39⟩, -, X39, ⟨Lc39, hQ39, l39, y39, z39⟩, st39⟩ := Jvm.LawKit.callS X34 hx (y := (⟨"com/example/kalchas/kalchas/io/GzipDecoder", "isGzip", "([B)Z"⟩ : MethodName)) hown (mvT hZ (hw _ (List.mem_of_getElem? (i := 1) rfl))) (mvT hZ (hw _ (List.mem_of_getElem? (i := 2) rfl))) (mvT hZ (hw _ (List.mem_of_getElem? (i := 3) rfl))) (mvT hZ (hw _ (List.mem_of_getElem? (i := 4) rfl))) (by decide) (backOf (W := 0) (rmg2 l Z a0 hw [] b28 k28 (vb0.toInt8.toInt32) (vb1.toInt8.toInt32) h34 n0 Z34 VV34) hZ (hw _ (List.mem_of_getElem? (i := 4) rfl)) (hw _ (List.mem_of_getElem? (i := 3) rfl)) (by decide) (by decide)) (g := (mkF m 110 #[.val (.int x0), .val (.int x1), .val (.int x2), .val (.int x3), .val (.int (2 : Int32)), .val (.int vb0), .val (.int vb1), .val (.int (x3.toInt8.toInt32)), .val (.ref b28), .val (.int (1 : Int32))] [(.ref b28)])) rfl (by rw [hml]; rfl) (argsL := [(.ref b28)]) (rest := []) (lenOf pd0_0 rfl) rfl (by show 2 * 0 + _ ≤ _; exact Nat.le_of_eq rfl) (hb hby at_110) (fun _ _ => ⟨rfl, e34, (by decide : 1 + 0 ≤ _), (by decide : 2 + 0 ≤ _)⟩)
        dsimp only [Pt.U, Pt.locs, Pt.cells, Pt.slots] at X39 l39 y39 z39 st39 hQ39
        subst l39 y39 z39
        obtain ⟨rfl, Nq39, e39⟩ := hQ39
        have N39 := Fr.app N34 Nq39
        have p40 : ∀ t, Steps p.tables e below (T39.setTop (mkF m 113 #[.val (.int x0), .val (.int x1), .val (.int x2), .val (.int x3), .val (.int (2 : Int32)), .val (.int vb0), .val (.int vb1), .val (.int (x3.toInt8.toInt32)), .val (.ref b28), .val (.int (1 : Int32))] [(.int (own_gz (vb0.toInt8.toInt32) (vb1.toInt8.toInt32)))])) t → Steps p.tables e below (s₁.setTop (entryFrame m #[(.int x0), (.int x1), (.int x2), (.int x3)] maxLocals)) t := fun t k => p38 t (st39 _ k)
        have p41 : ∀ t, Steps p.tables e below (T39.setTop (mkF m 123 #[.val (.int x0), .val (.int x1), .val (.int x2), .val (.int x3), .val (.int (2 : Int32)), .val (.int vb0), .val (.int vb1), .val (.int (x3.toInt8.toInt32)), .val (.ref b28), .val (.int (1 : Int32))] [(.int (1 : Int32))])) t → Steps p.tables e below (s₁.setTop (entryFrame m #[(.int x0), (.int x1), (.int x2), (.int x3)] maxLocals)) t := fun t k => p40 t (by
          show Steps p.tables e below (T39.setTop (mkF m 113 #[.val (.int x0), .val (.int x1), .val (.int x2), .val (.int x3), .val (.int (2 : Int32)), .val (.int vb0), .val (.int vb1), .val (.int (x3.toInt8.toInt32)), .val (.ref b28), .val (.int (1 : Int32))] [(.int (own_gz (vb0.toInt8.toInt32) (vb1.toInt8.toInt32)))])) _
          refine XS.iload X39.here hx rfl (hb hby at_113) rfl ?_
          show Steps p.tables e below (T39.setTop (mkF m 115 #[.val (.int x0), .val (.int x1), .val (.int x2), .val (.int x3), .val (.int (2 : Int32)), .val (.int vb0), .val (.int vb1), .val (.int (x3.toInt8.toInt32)), .val (.ref b28), .val (.int (1 : Int32))] [(.int (1 : Int32)), (.int (own_gz (vb0.toInt8.toInt32) (vb1.toInt8.toInt32)))])) _
          refine XS.icmpNo X39.here hx rfl (hb hby at_115) rfl ((teq ((own_gzv hvb0 hvb1).trans (by rw [if_pos hc91, if_pos hc98]))).2) ?_
          show Steps p.tables e below (T39.setTop (mkF m 118 #[.val (.int x0), .val (.int x1), .val (.int x2), .val (.int x3), .val (.int (2 : Int32)), .val (.int vb0), .val (.int vb1), .val (.int (x3.toInt8.toInt32)), .val (.ref b28), .val (.int (1 : Int32))] [])) _
          refine XS.iconst X39.here hx rfl (hb hby at_118) ?_
          show Steps p.tables e below (T39.setTop (mkF m 119 #[.val (.int x0), .val (.int x1), .val (.int x2), .val (.int x3), .val (.int (2 : Int32)), .val (.int vb0), .val (.int vb1), .val (.int (x3.toInt8.toInt32)), .val (.ref b28), .val (.int (1 : Int32))] [(.int (1 : Int32))])) _
          refine XS.goto X39.here hx rfl (pc0 := 119) (pc' := 123) rfl (hb hby at_119) (by decide) (by decide) ?_
          exact k)
        obtain ⟨fs, hr, hrun, hended, hW, hsame⟩ := X39.leave (v := some (.int (1 : Int32))) (fun h => by rw [Bd.returns] at h; cases h)
        refine ⟨_, _, p41 _ ?_, hrun, hended, _, _, rfl, ?_, ⟨_, rfl⟩, hW, hsame.mono (by decide) (by decide)⟩
        · show Steps p.tables e below (T39.setTop (mkF m 123 #[.val (.int x0), .val (.int x1), .val (.int x2), .val (.int x3), .val (.int (2 : Int32)), .val (.int vb0), .val (.int vb1), .val (.int (x3.toInt8.toInt32)), .val (.ref b28), .val (.int (1 : Int32))] [(.int (1 : Int32))])) _
          exact retN X39 hx (t := .boolean) Bd.returns (by simp) (hb hby at_123) hr
        · show Q0 Z x0 x1 x2 x3 h0 n0 _ T39.heap _
          rw [e39]
          exact ⟨rfl, N39⟩
      · have p42 : ∀ t, Steps p.tables e below (T34.setTop (mkF m 110 #[.val (.int x0), .val (.int x1), .val (.int x2), .val (.int x3), .val (.int (2 : Int32)), .val (.int vb0), .val (.int vb1), .val (.int (x3.toInt8.toInt32)), .val (.ref b28), .val (.int (0 : Int32))] [(.ref b28)])) t → Steps p.tables e below (s₁.setTop (entryFrame m #[(.int x0), (.int x1), (.int x2), (.int x3)] maxLocals)) t := fun t k => p37 t (by
          show Steps p.tables e below (T34.setTop (mkF m 98 #[.val (.int x0), .val (.int x1), .val (.int x2), .val (.int x3), .val (.int (2 : Int32)), .val (.int vb0), .val (.int vb1), .val (.int (x3.toInt8.toInt32)), .val (.ref b28), .unset] [(.int (-117 : Int32)), (.int vb1)])) _
          refine XS.icmpYes X34.here hx rfl (pc0 := 98) (pc' := 105) rfl (hb hby at_98) rfl ((feq (hc98)).2) (by decide) (by decide) ?_
          show Steps p.tables e below (T34.setTop (mkF m 105 #[.val (.int x0), .val (.int x1), .val (.int x2), .val (.int x3), .val (.int (2 : Int32)), .val (.int vb0), .val (.int vb1), .val (.int (x3.toInt8.toInt32)), .val (.ref b28), .unset] [])) _
          refine XS.iconst X34.here hx rfl (hb hby at_105) ?_
          show Steps p.tables e below (T34.setTop (mkF m 106 #[.val (.int x0), .val (.int x1), .val (.int x2), .val (.int x3), .val (.int (2 : Int32)), .val (.int vb0), .val (.int vb1), .val (.int (x3.toInt8.toInt32)), .val (.ref b28), .unset] [(.int (0 : Int32))])) _
          refine XS.istore X34.here hx rfl (hb hby at_106) rfl (l' := #[.val (.int x0), .val (.int x1), .val (.int x2), .val (.int x3), .val (.int (2 : Int32)), .val (.int vb0), .val (.int vb1), .val (.int (x3.toInt8.toInt32)), .val (.ref b28), .val (.int (0 : Int32))]) rfl ?_
          show Steps p.tables e below (T34.setTop (mkF m 108 #[.val (.int x0), .val (.int x1), .val (.int x2), .val (.int x3), .val (.int (2 : Int32)), .val (.int vb0), .val (.int vb1), .val (.int (x3.toInt8.toInt32)), .val (.ref b28), .val (.int (0 : Int32))] [])) _
          refine XS.aload X34.here hx rfl (hb hby at_108) rfl rfl ?_
          exact k)
        obtain ⟨_, _, ⟨T43, L43, k43, n43⟩, -, X43, ⟨Lc43, hQ43, l43, y43, z43⟩, st43⟩ := Jvm.LawKit.callS X34 hx (y := (⟨"com/example/kalchas/kalchas/io/GzipDecoder", "isGzip", "([B)Z"⟩ : MethodName)) hown (mvT hZ (hw _ (List.mem_of_getElem? (i := 1) rfl))) (mvT hZ (hw _ (List.mem_of_getElem? (i := 2) rfl))) (mvT hZ (hw _ (List.mem_of_getElem? (i := 3) rfl))) (mvT hZ (hw _ (List.mem_of_getElem? (i := 4) rfl))) (by decide) (backOf (W := 0) (rmg2 l Z a0 hw [] b28 k28 (vb0.toInt8.toInt32) (vb1.toInt8.toInt32) h34 n0 Z34 VV34) hZ (hw _ (List.mem_of_getElem? (i := 4) rfl)) (hw _ (List.mem_of_getElem? (i := 3) rfl)) (by decide) (by decide)) (g := (mkF m 110 #[.val (.int x0), .val (.int x1), .val (.int x2), .val (.int x3), .val (.int (2 : Int32)), .val (.int vb0), .val (.int vb1), .val (.int (x3.toInt8.toInt32)), .val (.ref b28), .val (.int (0 : Int32))] [(.ref b28)])) rfl (by rw [hml]; rfl) (argsL := [(.ref b28)]) (rest := []) (lenOf pd0_0 rfl) rfl (by show 2 * 0 + _ ≤ _; exact Nat.le_of_eq rfl) (hb hby at_110) (fun _ _ => ⟨rfl, e34, (by decide : 1 + 0 ≤ _), (by decide : 2 + 0 ≤ _)⟩)
        dsimp only [Pt.U, Pt.locs, Pt.cells, Pt.slots] at X43 l43 y43 z43 st43 hQ43
        subst l43 y43 z43
        obtain ⟨rfl, Nq43, e43⟩ := hQ43
        have N43 := Fr.app N34 Nq43
        have p44 : ∀ t, Steps p.tables e below (T43.setTop (mkF m 113 #[.val (.int x0), .val (.int x1), .val (.int x2), .val (.int x3), .val (.int (2 : Int32)), .val (.int vb0), .val (.int vb1), .val (.int (x3.toInt8.toInt32)), .val (.ref b28), .val (.int (0 : Int32))] [(.int (own_gz (vb0.toInt8.toInt32) (vb1.toInt8.toInt32)))])) t → Steps p.tables e below (s₁.setTop (entryFrame m #[(.int x0), (.int x1), (.int x2), (.int x3)] maxLocals)) t := fun t k => p42 t (st43 _ k)
        have p45 : ∀ t, Steps p.tables e below (T43.setTop (mkF m 123 #[.val (.int x0), .val (.int x1), .val (.int x2), .val (.int x3), .val (.int (2 : Int32)), .val (.int vb0), .val (.int vb1), .val (.int (x3.toInt8.toInt32)), .val (.ref b28), .val (.int (0 : Int32))] [(.int (1 : Int32))])) t → Steps p.tables e below (s₁.setTop (entryFrame m #[(.int x0), (.int x1), (.int x2), (.int x3)] maxLocals)) t := fun t k => p44 t (by
          show Steps p.tables e below (T43.setTop (mkF m 113 #[.val (.int x0), .val (.int x1), .val (.int x2), .val (.int x3), .val (.int (2 : Int32)), .val (.int vb0), .val (.int vb1), .val (.int (x3.toInt8.toInt32)), .val (.ref b28), .val (.int (0 : Int32))] [(.int (own_gz (vb0.toInt8.toInt32) (vb1.toInt8.toInt32)))])) _
          refine XS.iload X43.here hx rfl (hb hby at_113) rfl ?_
          show Steps p.tables e below (T43.setTop (mkF m 115 #[.val (.int x0), .val (.int x1), .val (.int x2), .val (.int x3), .val (.int (2 : Int32)), .val (.int vb0), .val (.int vb1), .val (.int (x3.toInt8.toInt32)), .val (.ref b28), .val (.int (0 : Int32))] [(.int (0 : Int32)), (.int (own_gz (vb0.toInt8.toInt32) (vb1.toInt8.toInt32)))])) _
          refine XS.icmpNo X43.here hx rfl (hb hby at_115) rfl ((teq ((own_gzv hvb0 hvb1).trans (by rw [if_pos hc91, if_neg hc98]))).2) ?_
          show Steps p.tables e below (T43.setTop (mkF m 118 #[.val (.int x0), .val (.int x1), .val (.int x2), .val (.int x3), .val (.int (2 : Int32)), .val (.int vb0), .val (.int vb1), .val (.int (x3.toInt8.toInt32)), .val (.ref b28), .val (.int (0 : Int32))] [])) _
          refine XS.iconst X43.here hx rfl (hb hby at_118) ?_
          show Steps p.tables e below (T43.setTop (mkF m 119 #[.val (.int x0), .val (.int x1), .val (.int x2), .val (.int x3), .val (.int (2 : Int32)), .val (.int vb0), .val (.int vb1), .val (.int (x3.toInt8.toInt32)), .val (.ref b28), .val (.int (0 : Int32))] [(.int (1 : Int32))])) _
          refine XS.goto X43.here hx rfl (pc0 := 119) (pc' := 123) rfl (hb hby at_119) (by decide) (by decide) ?_
          exact k)
        obtain ⟨fs, hr, hrun, hended, hW, hsame⟩ := X43.leave (v := some (.int (1 : Int32))) (fun h => by rw [Bd.returns] at h; cases h)
        refine ⟨_, _, p45 _ ?_, hrun, hended, _, _, rfl, ?_, ⟨_, rfl⟩, hW, hsame.mono (by decide) (by decide)⟩
        · show Steps p.tables e below (T43.setTop (mkF m 123 #[.val (.int x0), .val (.int x1), .val (.int x2), .val (.int x3), .val (.int (2 : Int32)), .val (.int vb0), .val (.int vb1), .val (.int (x3.toInt8.toInt32)), .val (.ref b28), .val (.int (0 : Int32))] [(.int (1 : Int32))])) _
          exact retN X43 hx (t := .boolean) Bd.returns (by simp) (hb hby at_123) hr
        · show Q0 Z x0 x1 x2 x3 h0 n0 _ T43.heap _
          rw [e43]
          exact ⟨rfl, N43⟩
    · have p46 : ∀ t, Steps p.tables e below (T34.setTop (mkF m 110 #[.val (.int x0), .val (.int x1), .val (.int x2), .val (.int x3), .val (.int (2 : Int32)), .val (.int vb0), .val (.int vb1), .val (.int (x3.toInt8.toInt32)), .val (.ref b28), .val (.int (0 : Int32))] [(.ref b28)])) t → Steps p.tables e below (s₁.setTop (entryFrame m #[(.int x0), (.int x1), (.int x2), (.int x3)] maxLocals)) t := fun t k => p36 t (by
        show Steps p.tables e below (T34.setTop (mkF m 91 #[.val (.int x0), .val (.int x1), .val (.int x2), .val (.int x3), .val (.int (2 : Int32)), .val (.int vb0), .val (.int vb1), .val (.int (x3.toInt8.toInt32)), .val (.ref b28), .unset] [(.int (31 : Int32)), (.int vb0)])) _
        refine XS.icmpYes X34.here hx rfl (pc0 := 91) (pc' := 105) rfl (hb hby at_91) rfl ((feq (hc91)).2) (by decide) (by decide) ?_
        show Steps p.tables e below (T34.setTop (mkF m 105 #[.val (.int x0), .val (.int x1), .val (.int x2), .val (.int x3), .val (.int (2 : Int32)), .val (.int vb0), .val (.int vb1), .val (.int (x3.toInt8.toInt32)), .val (.ref b28), .unset] [])) _
        refine XS.iconst X34.here hx rfl (hb hby at_105) ?_
        show Steps p.tables e below (T34.setTop (mkF m 106 #[.val (.int x0), .val (.int x1), .val (.int x2), .val (.int x3), .val (.int (2 : Int32)), .val (.int vb0), .val (.int vb1), .val (.int (x3.toInt8.toInt32)), .val (.ref b28), .unset] [(.int (0 : Int32))])) _
        refine XS.istore X34.here hx rfl (hb hby at_106) rfl (l' := #[.val (.int x0), .val (.int x1), .val (.int x2), .val (.int x3), .val (.int (2 : Int32)), .val (.int vb0), .val (.int vb1), .val (.int (x3.toInt8.toInt32)), .val (.ref b28), .val (.int (0 : Int32))]) rfl ?_
        show Steps p.tables e below (T34.setTop (mkF m 108 #[.val (.int x0), .val (.int x1), .val (.int x2), .val (.int x3), .val (.int (2 : Int32)), .val (.int vb0), .val (.int vb1), .val (.int (x3.toInt8.toInt32)), .val (.ref b28), .val (.int (0 : Int32))] [])) _
        refine XS.aload X34.here hx rfl (hb hby at_108) rfl rfl ?_
        exact k)
      obtain ⟨_, _, ⟨T47, L47, k47, n47⟩, -, X47, ⟨Lc47, hQ47, l47, y47, z47⟩, st47⟩ := Jvm.LawKit.callS X34 hx (y := (⟨"com/example/kalchas/kalchas/io/GzipDecoder", "isGzip", "([B)Z"⟩ : MethodName)) hown (mvT hZ (hw _ (List.mem_of_getElem? (i := 1) rfl))) (mvT hZ (hw _ (List.mem_of_getElem? (i := 2) rfl))) (mvT hZ (hw _ (List.mem_of_getElem? (i := 3) rfl))) (mvT hZ (hw _ (List.mem_of_getElem? (i := 4) rfl))) (by decide) (backOf (W := 0) (rmg2 l Z a0 hw [] b28 k28 (vb0.toInt8.toInt32) (vb1.toInt8.toInt32) h34 n0 Z34 VV34) hZ (hw _ (List.mem_of_getElem? (i := 4) rfl)) (hw _ (List.mem_of_getElem? (i := 3) rfl)) (by decide) (by decide)) (g := (mkF m 110 #[.val (.int x0), .val (.int x1), .val (.int x2), .val (.int x3), .val (.int (2 : Int32)), .val (.int vb0), .val (.int vb1), .val (.int (x3.toInt8.toInt32)), .val (.ref b28), .val (.int (0 : Int32))] [(.ref b28)])) rfl (by rw [hml]; rfl) (argsL := [(.ref b28)]) (rest := []) (lenOf pd0_0 rfl) rfl (by show 2 * 0 + _ ≤ _; exact Nat.le_of_eq rfl) (hb hby at_110) (fun _ _ => ⟨rfl, e34, (by decide : 1 + 0 ≤ _), (by decide : 2 + 0 ≤ _)⟩)
      dsimp only [Pt.U, Pt.locs, Pt.cells, Pt.slots] at X47 l47 y47 z47 st47 hQ47
      subst l47 y47 z47
      obtain ⟨rfl, Nq47, e47⟩ := hQ47
      have N47 := Fr.app N34 Nq47
      have p48 : ∀ t, Steps p.tables e below (T47.setTop (mkF m 113 #[.val (.int x0), .val (.int x1), .val (.int x2), .val (.int x3), .val (.int (2 : Int32)), .val (.int vb0), .val (.int vb1), .val (.int (x3.toInt8.toInt32)), .val (.ref b28), .val (.int (0 : Int32))] [(.int (own_gz (vb0.toInt8.toInt32) (vb1.toInt8.toInt32)))])) t → Steps p.tables e below (s₁.setTop (entryFrame m #[(.int x0), (.int x1), (.int x2), (.int x3)] maxLocals)) t := fun t k => p46 t (st47 _ k)
      have p49 : ∀ t, Steps p.tables e below (T47.setTop (mkF m 123 #[.val (.int x0), .val (.int x1), .val (.int x2), .val (.int x3), .val (.int (2 : Int32)), .val (.int vb0), .val (.int vb1), .val (.int (x3.toInt8.toInt32)), .val (.ref b28), .val (.int (0 : Int32))] [(.int (1 : Int32))])) t → Steps p.tables e below (s₁.setTop (entryFrame m #[(.int x0), (.int x1), (.int x2), (.int x3)] maxLocals)) t := fun t k => p48 t (by
        show Steps p.tables e below (T47.setTop (mkF m 113 #[.val (.int x0), .val (.int x1), .val (.int x2), .val (.int x3), .val (.int (2 : Int32)), .val (.int vb0), .val (.int vb1), .val (.int (x3.toInt8.toInt32)), .val (.ref b28), .val (.int (0 : Int32))] [(.int (own_gz (vb0.toInt8.toInt32) (vb1.toInt8.toInt32)))])) _
        refine XS.iload X47.here hx rfl (hb hby at_113) rfl ?_
        show Steps p.tables e below (T47.setTop (mkF m 115 #[.val (.int x0), .val (.int x1), .val (.int x2), .val (.int x3), .val (.int (2 : Int32)), .val (.int vb0), .val (.int vb1), .val (.int (x3.toInt8.toInt32)), .val (.ref b28), .val (.int (0 : Int32))] [(.int (0 : Int32)), (.int (own_gz (vb0.toInt8.toInt32) (vb1.toInt8.toInt32)))])) _
        refine XS.icmpNo X47.here hx rfl (hb hby at_115) rfl ((teq ((own_gzv hvb0 hvb1).trans (by rw [if_neg hc91]))).2) ?_
        show Steps p.tables e below (T47.setTop (mkF m 118 #[.val (.int x0), .val (.int x1), .val (.int x2), .val (.int x3), .val (.int (2 : Int32)), .val (.int vb0), .val (.int vb1), .val (.int (x3.toInt8.toInt32)), .val (.ref b28), .val (.int (0 : Int32))] [])) _
        refine XS.iconst X47.here hx rfl (hb hby at_118) ?_
        show Steps p.tables e below (T47.setTop (mkF m 119 #[.val (.int x0), .val (.int x1), .val (.int x2), .val (.int x3), .val (.int (2 : Int32)), .val (.int vb0), .val (.int vb1), .val (.int (x3.toInt8.toInt32)), .val (.ref b28), .val (.int (0 : Int32))] [(.int (1 : Int32))])) _
        refine XS.goto X47.here hx rfl (pc0 := 119) (pc' := 123) rfl (hb hby at_119) (by decide) (by decide) ?_
        exact k)
      obtain ⟨fs, hr, hrun, hended, hW, hsame⟩ := X47.leave (v := some (.int (1 : Int32))) (fun h => by rw [Bd.returns] at h; cases h)
      refine ⟨_, _, p49 _ ?_, hrun, hended, _, _, rfl, ?_, ⟨_, rfl⟩, hW, hsame.mono (by decide) (by decide)⟩
      · show Steps p.tables e below (T47.setTop (mkF m 123 #[.val (.int x0), .val (.int x1), .val (.int x2), .val (.int x3), .val (.int (2 : Int32)), .val (.int vb0), .val (.int vb1), .val (.int (x3.toInt8.toInt32)), .val (.ref b28), .val (.int (0 : Int32))] [(.int (1 : Int32))])) _
        exact retN X47 hx (t := .boolean) Bd.returns (by simp) (hb hby at_123) hr
      · show Q0 Z x0 x1 x2 x3 h0 n0 _ T47.heap _
        rw [e47]
        exact ⟨rfl, N47⟩
  · obtain ⟨T50, h50, k50, X50, e50, E50, A50, st50⟩ := newP X0 hx hZ (hw _ (List.mem_of_getElem? (i := 0) rfl)) e0 (g := (mkF m 42 #[.val (.int x0), .val (.int x1), .val (.int x2), .val (.int x3), .val (.int (3 : Int32)), .val (.int vb0), .val (.int vb1), .val (.int (x3.toInt8.toInt32)), .unset, .unset] [(.int (3 : Int32))])) rfl (hb hby at_42) rfl (by decide) (cap := 3) (by decide) (by decide) (by decide) (by decide)
    obtain ⟨b50, g50⟩ : ∃ z, z = h0.size := ⟨_, rfl⟩
    rw [← g50] at A50 st50
    have gn_b50 : n0 ≤ b50 := Nat.le_trans Z0 (Nat.le_of_eq g50.symm)
    have Z50 := Nat.le_trans Z0 E50.1
    have VV50 : Arv Z h50 b50 k50 .byte (3 : Int32) [(.int (0 : Int32)), (.int (0 : Int32)), (.int (0 : Int32))] (.int (0 : Int32)) := (Arv.new A50 (by decide)).pad (pad_rep [] (.int (0 : Int32)) 3)
    have p51 : ∀ t, Steps p.tables e below (T50.setTop (mkF m 44 #[.val (.int x0), .val (.int x1), .val (.int x2), .val (.int x3), .val (.int (3 : Int32)), .val (.int vb0), .val (.int vb1), .val (.int (x3.toInt8.toInt32)), .unset, .unset] [(.ref b50)])) t → Steps p.tables e below (s₁.setTop (entryFrame m #[(.int x0), (.int x1), (.int x2), (.int x3)] maxLocals)) t := fun t k => p12 t (st50 t k)
    have p52 : ∀ t, Steps p.tables e below (T50.setTop (mkF m 56 #[.val (.int x0), .val (.int x1), .val (.int x2), .val (.int x3), .val (.int (3 : Int32)), .val (.int vb0), .val (.int vb1), .val (.int (x3.toInt8.toInt32)), .val (.ref b50), .unset] [(.int vb0), (.int (0 : Int32)), (.ref b50)])) t → Steps p.tables e below (s₁.setTop (entryFrame m #[(.int x0), (.int x1), (.int x2), (.int x3)] maxLocals)) t := fun t k => p51 t (by
      show Steps p.tables e below (T50.setTop (mkF m 44 #[.val (.int x0), .val (.int x1), .val (.int x2), .val (.int x3), .val (.int (3 : Int32)), .val (.int vb0), .val (.int vb1), .val (.int (x3.toInt8.toInt32)), .unset, .unset] [(.ref b50)])) _
      refine XS.astore X50.here hx rfl (hb hby at_44) rfl rfl (l' := #[.val (.int x0), .val (.int x1), .val (.int x2), .val (.int x3), .val (.int (3 : Int32)), .val (.int vb0), .val (.int vb1), .val (.int (x3.toInt8.toInt32)), .val (.ref b50), .unset]) rfl ?_
      show Steps p.tables e below (T50.setTop (mkF m 46 #[.val (.int x0), .val (.int x1), .val (.int x2), .val (.int x3), .val (.int (3 : Int32)), .val (.int vb0), .val (.int vb1), .val (.int (x3.toInt8.toInt32)), .val (.ref b50), .unset] [])) _
      refine XS.iload X50.here hx rfl (hb hby at_46) rfl ?_
      show Steps p.tables e below (T50.setTop (mkF m 48 #[.val (.int x0), .val (.int x1), .val (.int x2), .val (.int x3), .val (.int (3 : Int32)), .val (.int vb0), .val (.int vb1), .val (.int (x3.toInt8.toInt32)), .val (.ref b50), .unset] [(.int (3 : Int32))])) _
      refine XS.ifNo X50.here hx rfl (hb hby at_48) rfl ((if0 _ _).trans (tlt (by decide)).2.2.2) ?_
      show Steps p.tables e below (T50.setTop (mkF m 51 #[.val (.int x0), .val (.int x1), .val (.int x2), .val (.int x3), .val (.int (3 : Int32)), .val (.int vb0), .val (.int vb1), .val (.int (x3.toInt8.toInt32)), .val (.ref b50), .unset] [])) _
      refine XS.aload X50.here hx rfl (hb hby at_51) rfl rfl ?_
      show Steps p.tables e below (T50.setTop (mkF m 53 #[.val (.int x0), .val (.int x1), .val (.int x2), .val (.int x3), .val (.int (3 : Int32)), .val (.int vb0), .val (.int vb1), .val (.int (x3.toInt8.toInt32)), .val (.ref b50), .unset] [(.ref b50)])) _
      refine XS.iconst X50.here hx rfl (hb hby at_53) ?_
      show Steps p.tables e below (T50.setTop (mkF m 54 #[.val (.int x0), .val (.int x1), .val (.int x2), .val (.int x3), .val (.int (3 : Int32)), .val (.int vb0), .val (.int vb1), .val (.int (x3.toInt8.toInt32)), .val (.ref b50), .unset] [(.int (0 : Int32)), (.ref b50)])) _
      refine XS.iload X50.here hx rfl (hb hby at_54) rfl ?_
      exact k)
    obtain ⟨cl53, Ar53, q53, Sz53, Ng53, Hs53, G53⟩ := id VV50
    have hin53 : ¬ ((0 : Int32) < 0 ∨ cl53.slots.size ≤ ((0 : Int32)).toNatClampNeg) := inb_of Sz53 (⟨by decide, by decide⟩)
    obtain ⟨T53, h53, X53, e53, W53, st53⟩ := stB X50 hx hZ e50 Ar53 (j := (0 : Int32)) hin53 (g := (mkF m 56 #[.val (.int x0), .val (.int x1), .val (.int x2), .val (.int x3), .val (.int (3 : Int32)), .val (.int vb0), .val (.int vb1), .val (.int (x3.toInt8.toInt32)), .val (.ref b50), .unset] [(.int vb0), (.int (0 : Int32)), (.ref b50)])) rfl rfl (hb hby at_56)
    have VV53 : Arv Z h53 b50 k50 .byte (3 : Int32) [(.int (vb0.toInt8.toInt32)), (.int (0 : Int32)), (.int (0 : Int32))] (.int (0 : Int32)) := Arv.set Ar53 q53 Sz53 Ng53 Hs53 G53 (fits_nar_byte _) W53 0 (by decide) (Nat.le_of_ble_eq_true rfl)
    have Z53 := Nat.le_trans Z50 (Keep.of_wr W53).1
    have N53 := Fr.snoc X53 N0 gn_b50
    have p54 : ∀ t, Steps p.tables e below (T53.setTop (mkF m 57 #[.val (.int x0), .val (.int x1), .val (.int x2), .val (.int x3), .val (.int (3 : Int32)), .val (.int vb0), .val (.int vb1), .val (.int (x3.toInt8.toInt32)), .val (.ref b50), .unset] [])) t → Steps p.tables e below (s₁.setTop (entryFrame m #[(.int x0), (.int x1), (.int x2), (.int x3)] maxLocals)) t := fun t k => p52 t (st53 t k)
    have p55 : ∀ t, Steps p.tables e below (T53.setTop (mkF m 68 #[.val (.int x0), .val (.int x1), .val (.int x2), .val (.int x3), .val (.int (3 : Int32)), .val (.int vb0), .val (.int vb1), .val (.int (x3.toInt8.toInt32)), .val (.ref b50), .unset] [(.int vb1), (.int (1 : Int32)), (.ref b50)])) t → Steps p.tables e below (s₁.setTop (entryFrame m #[(.int x0), (.int x1), (.int x2), (.int x3)] maxLocals)) t := fun t k => p54 t (by
      show Steps p.tables e below (T53.setTop (mkF m 57 #[.val (.int x0), .val (.int x1), .val (.int x2), .val (.int x3), .val (.int (3 : Int32)), .val (.int vb0), .val (.int vb1), .val (.int (x3.toInt8.toInt32)), .val (.ref b50), .unset] [])) _
      refine XS.iload X53.here hx rfl (hb hby at_57) rfl ?_
      show Steps p.tables e below (T53.setTop (mkF m 59 #[.val (.int x0), .val (.int x1), .val (.int x2), .val (.int x3), .val (.int (3 : Int32)), .val (.int vb0), .val (.int vb1), .val (.int (x3.toInt8.toInt32)), .val (.ref b50), .unset] [(.int (3 : Int32))])) _
      refine XS.iconst X53.here hx rfl (hb hby at_59) ?_
      show Steps p.tables e below (T53.setTop (mkF m 60 #[.val (.int x0), .val (.int x1), .val (.int x2), .val (.int x3), .val (.int (3 : Int32)), .val (.int vb0), .val (.int vb1), .val (.int (x3.toInt8.toInt32)), .val (.ref b50), .unset] [(.int (1 : Int32)), (.int (3 : Int32))])) _
      refine XS.icmpNo X53.here hx rfl (hb hby at_60) rfl ((tlt (by decide)).2.2.2) ?_
      show Steps p.tables e below (T53.setTop (mkF m 63 #[.val (.int x0), .val (.int x1), .val (.int x2), .val (.int x3), .val (.int (3 : Int32)), .val (.int vb0), .val (.int vb1), .val (.int (x3.toInt8.toInt32)), .val (.ref b50), .unset] [])) _
      refine XS.aload X53.here hx rfl (hb hby at_63) rfl rfl ?_
      show Steps p.tables e below (T53.setTop (mkF m 65 #[.val (.int x0), .val (.int x1), .val (.int x2), .val (.int x3), .val (.int (3 : Int32)), .val (.int vb0), .val (.int vb1), .val (.int (x3.toInt8.toInt32)), .val (.ref b50), .unset] [(.ref b50)])) _
      refine XS.iconst X53.here hx rfl (hb hby at_65) ?_
      show Steps p.tables e below (T53.setTop (mkF m 66 #[.val (.int x0), .val (.int x1), .val (.int x2), .val (.int x3), .val (.int (3 : Int32)), .val (.int vb0), .val (.int vb1), .val (.int (x3.toInt8.toInt32)), .val (.ref b50), .unset] [(.int (1 : Int32)), (.ref b50)])) _
      refine XS.iload X53.here hx rfl (hb hby at_66) rfl ?_
      exact k)
    obtain ⟨cl56, Ar56, q56, Sz56, Ng56, Hs56, G56⟩ := id VV53
    have hin56 : ¬ ((1 : Int32) < 0 ∨ cl56.slots.size ≤ ((1 : Int32)).toNatClampNeg) := inb_of Sz56 (⟨by decide, by decide⟩)
    obtain ⟨T56, h56, X56, e56, W56, st56⟩ := stB X53 hx hZ e53 Ar56 (j := (1 : Int32)) hin56 (g := (mkF m 68 #[.val (.int x0), .val (.int x1), .val (.int x2), .val (.int x3), .val (.int (3 : Int32)), .val (.int vb0), .val (.int vb1), .val (.int (x3.toInt8.toInt32)), .val (.ref b50), .unset] [(.int vb1), (.int (1 : Int32)), (.ref b50)])) rfl rfl (hb hby at_68)
    have VV56 : Arv Z h56 b50 k50 .byte (3 : Int32) [(.int (vb0.toInt8.toInt32)), (.int (vb1.toInt8.toInt32)), (.int (0 : Int32))] (.int (0 : Int32)) := Arv.set Ar56 q56 Sz56 Ng56 Hs56 G56 (fits_nar_byte _) W56 1 (by decide) (Nat.le_of_ble_eq_true rfl)
    have Z56 := Nat.le_trans Z53 (Keep.of_wr W56).1
    have N56 := Fr.snoc X56 N53 gn_b50
    have p57 : ∀ t, Steps p.tables e below (T56.setTop (mkF m 69 #[.val (.int x0), .val (.int x1), .val (.int x2), .val (.int x3), .val (.int (3 : Int32)), .val (.int vb0), .val (.int vb1), .val (.int (x3.toInt8.toInt32)), .val (.ref b50), .unset] [])) t → Steps p.tables e below (s₁.setTop (entryFrame m #[(.int x0), (.int x1), (.int x2), (.int x3)] maxLocals)) t := fun t k => p55 t (st56 t k)
    have p58 : ∀ t, Steps p.tables e below (T56.setTop (mkF m 80 #[.val (.int x0), .val (.int x1), .val (.int x2), .val (.int x3), .val (.int (3 : Int32)), .val (.int vb0), .val (.int vb1), .val (.int (x3.toInt8.toInt32)), .val (.ref b50), .unset] [(.int (x3.toInt8.toInt32)), (.int (2 : Int32)), (.ref b50)])) t → Steps p.tables e below (s₁.setTop (entryFrame m #[(.int x0), (.int x1), (.int x2), (.int x3)] maxLocals)) t := fun t k => p57 t (by
      show Steps p.tables e below (T56.setTop (mkF m 69 #[.val (.int x0), .val (.int x1), .val (.int x2), .val (.int x3), .val (.int (3 : Int32)), .val (.int vb0), .val (.int vb1), .val (.int (x3.toInt8.toInt32)), .val (.ref b50), .unset] [])) _
      refine XS.iload X56.here hx rfl (hb hby at_69) rfl ?_
      show Steps p.tables e below (T56.setTop (mkF m 71 #[.val (.int x0), .val (.int x1), .val (.int x2), .val (.int x3), .val (.int (3 : Int32)), .val (.int vb0), .val (.int vb1), .val (.int (x3.toInt8.toInt32)), .val (.ref b50), .unset] [(.int (3 : Int32))])) _
      refine XS.iconst X56.here hx rfl (hb hby at_71) ?_
      show Steps p.tables e below (T56.setTop (mkF m 72 #[.val (.int x0), .val (.int x1), .val (.int x2), .val (.int x3), .val (.int (3 : Int32)), .val (.int vb0), .val (.int vb1), .val (.int (x3.toInt8.toInt32)), .val (.ref b50), .unset] [(.int (2 : Int32)), (.int (3 : Int32))])) _
      refine XS.icmpNo X56.here hx rfl (hb hby at_72) rfl ((tlt (by decide)).2.2.2) ?_
      show Steps p.tables e below (T56.setTop (mkF m 75 #[.val (.int x0), .val (.int x1), .val (.int x2), .val (.int x3), .val (.int (3 : Int32)), .val (.int vb0), .val (.int vb1), .val (.int (x3.toInt8.toInt32)), .val (.ref b50), .unset] [])) _
      refine XS.aload X56.here hx rfl (hb hby at_75) rfl rfl ?_
      show Steps p.tables e below (T56.setTop (mkF m 77 #[.val (.int x0), .val (.int x1), .val (.int x2), .val (.int x3), .val (.int (3 : Int32)), .val (.int vb0), .val (.int vb1), .val (.int (x3.toInt8.toInt32)), .val (.ref b50), .unset] [(.ref b50)])) _
      refine XS.iconst X56.here hx rfl (hb hby at_77) ?_
      show Steps p.tables e below (T56.setTop (mkF m 78 #[.val (.int x0), .val (.int x1), .val (.int x2), .val (.int x3), .val (.int (3 : Int32)), .val (.int vb0), .val (.int vb1), .val (.int (x3.toInt8.toInt32)), .val (.ref b50), .unset] [(.int (2 : Int32)), (.ref b50)])) _
      refine XS.iload X56.here hx rfl (hb hby at_78) rfl ?_
      exact k)
    obtain ⟨cl59, Ar59, q59, Sz59, Ng59, Hs59, G59⟩ := id VV56
    have hin59 : ¬ ((2 : Int32) < 0 ∨ cl59.slots.size ≤ ((2 : Int32)).toNatClampNeg) := inb_of Sz59 (⟨by decide, by decide⟩)
    obtain ⟨T59, h59, X59, e59, W59, st59⟩ := stB X56 hx hZ e56 Ar59 (j := (2 : Int32)) hin59 (g := (mkF m 80 #[.val (.int x0), .val (.int x1), .val (.int x2), .val (.int x3), .val (.int (3 : Int32)), .val (.int vb0), .val (.int vb1), .val (.int (x3.toInt8.toInt32)), .val (.ref b50), .unset] [(.int (x3.toInt8.toInt32)), (.int (2 : Int32)), (.ref b50)])) rfl rfl (hb hby at_80)
    have VV59 : Arv Z h59 b50 k50 .byte (3 : Int32) [(.int (vb0.toInt8.toInt32)), (.int (vb1.toInt8.toInt32)), (.int ((x3.toInt8.toInt32).toInt8.toInt32))] (.int (0 : Int32)) := Arv.set Ar59 q59 Sz59 Ng59 Hs59 G59 (fits_nar_byte _) W59 2 (by decide) (Nat.le_of_ble_eq_true rfl)
    have Z59 := Nat.le_trans Z56 (Keep.of_wr W59).1
    have N59 := Fr.snoc X59 N56 gn_b50
    have p60 : ∀ t, Steps p.tables e below (T59.setTop (mkF m 81 #[.val (.int x0), .val (.int x1), .val (.int x2), .val (.int x3), .val (.int (3 : Int32)), .val (.int vb0), .val (.int vb1), .val (.int (x3.toInt8.toInt32)), .val (.ref b50), .unset] [])) t → Steps p.tables e below (s₁.setTop (entryFrame m #[(.int x0), (.int x1), (.int x2), (.int x3)] maxLocals)) t := fun t k => p58 t (st59 t k)
    have p61 : ∀ t, Steps p.tables e below (T59.setTop (mkF m 91 #[.val (.int x0), .val (.int x1), .val (.int x2), .val (.int x3), .val (.int (3 : Int32)), .val (.int vb0), .val (.int vb1), .val (.int (x3.toInt8.toInt32)), .val (.ref b50), .unset] [(.int (31 : Int32)), (.int vb0)])) t → Steps p.tables e below (s₁.setTop (entryFrame m #[(.int x0), (.int x1), (.int x2), (.int x3)] maxLocals)) t := fun t k => p60 t (by
      show Steps p.tables e below (T59.setTop (mkF m 81 #[.val (.int x0), .val (.int x1), .val (.int x2), .val (.int x3), .val (.int (3 : Int32)), .val (.int vb0), .val (.int vb1), .val (.int (x3.toInt8.toInt32)), .val (.ref b50), .unset] [])) _
      refine XS.iload X59.here hx rfl (hb hby at_81) rfl ?_
      show Steps p.tables e below (T59.setTop (mkF m 83 #[.val (.int x0), .val (.int x1), .val (.int x2), .val (.int x3), .val (.int (3 : Int32)), .val (.int vb0), .val (.int vb1), .val (.int (x3.toInt8.toInt32)), .val (.ref b50), .unset] [(.int (3 : Int32))])) _
      refine XS.iconst X59.here hx rfl (hb hby at_83) ?_
      show Steps p.tables e below (T59.setTop (mkF m 84 #[.val (.int x0), .val (.int x1), .val (.int x2), .val (.int x3), .val (.int (3 : Int32)), .val (.int vb0), .val (.int vb1), .val (.int (x3.toInt8.toInt32)), .val (.ref b50), .unset] [(.int (2 : Int32)), (.int (3 : Int32))])) _
      refine XS.icmpNo X59.here hx rfl (hb hby at_84) rfl ((flt (by decide)).1) ?_
      show Steps p.tables e below (T59.setTop (mkF m 87 #[.val (.int x0), .val (.int x1), .val (.int x2), .val (.int x3), .val (.int (3 : Int32)), .val (.int vb0), .val (.int vb1), .val (.int (x3.toInt8.toInt32)), .val (.ref b50), .unset] [])) _
      refine XS.iload X59.here hx rfl (hb hby at_87) rfl ?_
      show Steps p.tables e below (T59.setTop (mkF m 89 #[.val (.int x0), .val (.int x1), .val (.int x2), .val (.int x3), .val (.int (3 : Int32)), .val (.int vb0), .val (.int vb1), .val (.int (x3.toInt8.toInt32)), .val (.ref b50), .unset] [(.int vb0)])) _
      refine XS.bipush X59.here hx rfl (hb hby at_89) ?_
      exact k)
    by_cases hc91 : vb0 = (31 : Int32)
    · have p62 : ∀ t, Steps p.tables e below (T59.setTop (mkF m 98 #[.val (.int x0), .val (.int x1), .val (.int x2), .val (.int x3), .val (.int (3 : Int32)), .val (.int vb0), .val (.int vb1), .val (.int (x3.toInt8.toInt32)), .val (.ref b50), .unset] [(.int (-117 : Int32)), (.int vb1)])) t → Steps p.tables e below (s₁.setTop (entryFrame m #[(.int x0), (.int x1), (.int x2), (.int x3)] maxLocals)) t := fun t k => p61 t (by
        show Steps p.tables e below (T59.setTop (mkF m 91 #[.val (.int x0), .val (.int x1), .val (.int x2), .val (.int x3), .val (.int (3 : Int32)), .val (.int vb0), .val (.int vb1), .val (.int (x3.toInt8.toInt32)), .val (.ref b50), .unset] [(.int (31 : Int32)), (.int vb0)])) _
        refine XS.icmpNo X59.here hx rfl (hb hby at_91) rfl ((teq (hc91)).2) ?_
        show Steps p.tables e below (T59.setTop (mkF m 94 #[.val (.int x0), .val (.int x1), .val (.int x2), .val (.int x3), .val (.int (3 : Int32)), .val (.int vb0), .val (.int vb1), .val (.int (x3.toInt8.toInt32)), .val (.ref b50), .unset] [])) _
        refine XS.iload X59.here hx rfl (hb hby at_94) rfl ?_
        show Steps p.tables e below (T59.setTop (mkF m 96 #[.val (.int x0), .val (.int x1), .val (.int x2), .val (.int x3), .val (.int (3 : Int32)), .val (.int vb0), .val (.int vb1), .val (.int (x3.toInt8.toInt32)), .val (.ref b50), .unset] [(.int vb1)])) _
        refine XS.bipush X59.here hx rfl (hb hby at_96) ?_
        exact k)
      by_cases hc98 : vb1 = (-117 : Int32)
      · have p63 : ∀ t, Steps p.tables e below (T59.setTop (mkF m 110 #[.val (.int x0), .val (.int x1), .val (.int x2), .val (.int x3), .val (.int (3 : Int32)), .val (.int vb0), .val (.int vb1), .val (.int (x3.toInt8.toInt32)), .val (.ref b50), .val (.int (1 : Int32))] [(.ref b50)])) t → Steps p.tables e below (s₁.setTop (entryFrame m #[(.int x0), (.int x1), (.int x2), (.int x3)] maxLocals)) t := fun t k => p62 t (by
          show Steps p.tables e below (T59.setTop (mkF m 98 #[.val (.int x0), .val (.int x1), .val (.int x2), .val (.int x3), .val (.int (3 : Int32)), .val (.int vb0), .val (.int vb1), .val (.int (x3.toInt8.toInt32)), .val (.ref b50), .unset] [(.int (-117 : Int32)), (.int vb1)])) _
          refine XS.icmpNo X59.here hx rfl (hb hby at_98) rfl ((teq (hc98)).2) ?_
          show Steps p.tables e below (T59.setTop (mkF m 101 #[.val (.int x0), .val (.int x1), .val (.int x2), .val (.int x3), .val (.int (3 : Int32)), .val (.int vb0), .val (.int vb1), .val (.int (x3.toInt8.toInt32)), .val (.ref b50), .unset] [])) _
          refine XS.iconst X59.here hx rfl (hb hby at_101) ?_
          show Steps p.tables e below (T59.setTop (mkF m 102 #[.val (.int x0), .val (.int x1), .val (.int x2), .val (.int x3), .val (.int (3 : Int32)), .val (.int vb0), .val (.int vb1), .val (.int (x3.toInt8.toInt32)), .val (.ref b50), .unset] [(.int (1 : Int32))])) _
          refine XS.goto X59.here hx rfl (pc0 := 102) (pc' := 106) rfl (hb hby at_102) (by decide) (by decide) ?_
          show Steps p.tables e below (T59.setTop (mkF m 106 #[.val (.int x0), .val (.int x1), .val (.int x2), .val (.int x3), .val (.int (3 : Int32)), .val (.int vb0), .val (.int vb1), .val (.int (x3.toInt8.toInt32)), .val (.ref b50), .unset] [(.int (1 : Int32))])) _
          refine XS.istore X59.here hx rfl (hb hby at_106) rfl (l' := #[.val (.int x0), .val (.int x1), .val (.int x2), .val (.int x3), .val (.int (3 : Int32)), .val (.int vb0), .val (.int vb1), .val (.int (x3.toInt8.toInt32)), .val (.ref b50), .val (.int (1 : Int32))]) rfl ?_
          show Steps p.tables e below (T59.setTop (mkF m 108 #[.val (.int x0), .val (.int x1), .val (.int x2), .val (.int x3), .val (.int (3 : Int32)), .val (.int vb0), .val (.int vb1), .val (.int (x3.toInt8.toInt32)), .val (.ref b50), .val (.int (1 : Int32))] [])) _
          refine XS.aload X59.here hx rfl (hb hby at_108) rfl rfl ?_
          exact k)
        obtain ⟨_, _, ⟨T64, L64, k64, n64⟩, -, X64, ⟨Lc64, hQ64, l64, y64, z64⟩, st64⟩ := Jvm.LawKit.callS X59 hx (y := (⟨"com/example/kalchas/kalchas/io/GzipDecoder", "isGzip", "([B)Z"⟩ : MethodName)) hown (mvT hZ (hw _ (List.mem_of_getElem? (i := 1) rfl))) (mvT hZ (hw _ (List.mem_of_getElem? (i := 2) rfl))) (mvT hZ (hw _ (List.mem_of_getElem? (i := 3) rfl))) (mvT hZ (hw _ (List.mem_of_getElem? (i := 4) rfl))) (by decide) (backOf (W := 0) (rmg3 l Z a0 hw [] b50 k50 (vb0.toInt8.toInt32) (vb1.toInt8.toInt32) ((x3.toInt8.toInt32).toInt8.toInt32) h59 n0 Z59 VV59) hZ (hw _ (List.mem_of_getElem? (i := 4) rfl)) (hw _ (List.mem_of_getElem? (i := 3) rfl)) (by decide) (by decide)) (g := (mkF m 110 #[.val (.int x0), .val (.int x1), .val (.int x2), .val (.int x3), .val (.int (3 : Int32)), .val (.int vb0), .val (.int vb1), .val (.int (x3.toInt8.toInt32)), .val (.ref b50), .val (.int (1 : Int32))] [(.ref b50)])) rfl (by rw [hml]; rfl) (argsL := [(.ref b50)]) (rest := []) (lenOf pd0_0 rfl) rfl (by show 2 * 0 + _ ≤ _; exact Nat.le_of_eq rfl) (hb hby at_110) (fun _ _ => ⟨rfl, e59, (by decide : 1 + 0 ≤ _), (by decide : 3 + 0 ≤ _)⟩)
        dsimp only [Pt.U, Pt.locs, Pt.cells, Pt.slots] at X64 l64 y64 z64 st64 hQ64
        subst l64 y64 z64
        obtain ⟨rfl, Nq64, e64⟩ := hQ64
        have N64 := Fr.app N59 Nq64
        have p65 : ∀ t, Steps p.tables e below (T64.setTop (mkF m 113 #[.val (.int x0), .val (.int x1), .val (.int x2), .val (.int x3), .val (.int (3 : Int32)), .val (.int vb0), .val (.int vb1), .val (.int (x3.toInt8.toInt32)), .val (.ref b50), .val (.int (1 : Int32))] [(.int (own_gz (vb0.toInt8.toInt32) (vb1.toInt8.toInt32)))])) t → Steps p.tables e below (s₁.setTop (entryFrame m #[(.int x0), (.int x1), (.int x2), (.int x3)] maxLocals)) t := fun t k => p63 t (st64 _ k)
        have p66 : ∀ t, Steps p.tables e below (T64.setTop (mkF m 123 #[.val (.int x0), .val (.int x1), .val (.int x2), .val (.int x3), .val (.int (3 : Int32)), .val (.int vb0), .val (.int vb1), .val (.int (x3.toInt8.toInt32)), .val (.ref b50), .val (.int (1 : Int32))] [(.int (1 : Int32))])) t → Steps p.tables e below (s₁.setTop (entryFrame m #[(.int x0), (.int x1), (.int x2), (.int x3)] maxLocals)) t := fun t k => p65 t (by
          show Steps p.tables e below (T64.setTop (mkF m 113 #[.val (.int x0), .val (.int x1), .val (.int x2), .val (.int x3), .val (.int (3 : Int32)), .val (.int vb0), .val (.int vb1), .val (.int (x3.toInt8.toInt32)), .val (.ref b50), .val (.int (1 : Int32))] [(.int (own_gz (vb0.toInt8.toInt32) (vb1.toInt8.toInt32)))])) _
          refine XS.iload X64.here hx rfl (hb hby at_113) rfl ?_
          show Steps p.tables e below (T64.setTop (mkF m 115 #[.val (.int x0), .val (.int x1), .val (.int x2), .val (.int x3), .val (.int (3 : Int32)), .val (.int vb0), .val (.int vb1), .val (.int (x3.toInt8.toInt32)), .val (.ref b50), .val (.int (1 : Int32))] [(.int (1 : Int32)), (.int (own_gz (vb0.toInt8.toInt32) (vb1.toInt8.toInt32)))])) _
          refine XS.icmpNo X64.here hx rfl (hb hby at_115) rfl ((teq ((own_gzv hvb0 hvb1).trans (by rw [if_pos hc91, if_pos hc98]))).2) ?_
          show Steps p.tables e below (T64.setTop (mkF m 118 #[.val (.int x0), .val (.int x1), .val (.int x2), .val (.int x3), .val (.int (3 : Int32)), .val (.int vb0), .val (.int vb1), .val (.int (x3.toInt8.toInt32)), .val (.ref b50), .val (.int (1 : Int32))] [])) _
          refine XS.iconst X64.here hx rfl (hb hby at_118) ?_
          show Steps p.tables e below (T64.setTop (mkF m 119 #[.val (.int x0), .val (.int x1), .val (.int x2), .val (.int x3), .val (.int (3 : Int32)), .val (.int vb0), .val (.int vb1), .val (.int (x3.toInt8.toInt32)), .val (.ref b50), .val (.int (1 : Int32))] [(.int (1 : Int32))])) _
          refine XS.goto X64.here hx rfl (pc0 := 119) (pc' := 123) rfl (hb hby at_119) (by decide) (by decide) ?_
          exact k)
        obtain ⟨fs, hr, hrun, hended, hW, hsame⟩ := X64.leave (v := some (.int (1 : Int32))) (fun h => by rw [Bd.returns] at h; cases h)
        refine ⟨_, _, p66 _ ?_, hrun, hended, _, _, rfl, ?_, ⟨_, rfl⟩, hW, hsame.mono (by decide) (by decide)⟩
        · show Steps p.tables e below (T64.setTop (mkF m 123 #[.val (.int x0), .val (.int x1), .val (.int x2), .val (.int x3), .val (.int (3 : Int32)), .val (.int vb0), .val (.int vb1), .val (.int (x3.toInt8.toInt32)), .val (.ref b50), .val (.int (1 : Int32))] [(.int (1 : Int32))])) _
          exact retN X64 hx (t := .boolean) Bd.returns (by simp) (hb hby at_123) hr
        · show Q0 Z x0 x1 x2 x3 h0 n0 _ T64.heap _
          rw [e64]
          exact ⟨rfl, N64⟩
      · have p67 : ∀ t, Steps p.tables e below (T59.setTop (mkF m 110 #[.val (.int x0), .val (.int x1), .val (.int x2), .val (.int x3), .val (.int (3 : Int32)), .val (.int vb0), .val (.int vb1), .val (.int (x3.toInt8.toInt32)), .val (.ref b50), .val (.int (0 : Int32))] [(.ref b50)])) t → Steps p.tables e below (s₁.setTop (entryFrame m #[(.int x0), (.int x1), (.int x2), (.int x3)] maxLocals)) t := fun t k => p62 t (by
          show Steps p.tables e below (T59.setTop (mkF m 98 #[.val (.int x0), .val (.int x1), .val (.int x2), .val (.int x3), .val (.int (3 : Int32)), .val (.int vb0), .val (.int vb1), .val (.int (x3.toInt8.toInt32)), .val (.ref b50), .unset] [(.int (-117 : Int32)), (.int vb1)])) _
          refine XS.icmpYes X59.here hx rfl (pc0 := 98) (pc' := 105) rfl (hb hby at_98) rfl ((feq (hc98)).2) (by decide) (by decide) ?_
          show Steps p.tables e below (T59.setTop (mkF m 105 #[.val (.int x0), .val (.int x1), .val (.int x2), .val (.int x3), .val (.int (3 : Int32)), .val (.int vb0), .val (.int vb1), .val (.int (x3.toInt8.toInt32)), .val (.ref b50), .unset] [])) _
          refine XS.iconst X59.here hx rfl (hb hby at_105) ?_
          show Steps p.tables e below (T59.setTop (mkF m 106 #[.val (.int x0), .val (.int x1), .val (.int x2), .val (.int x3), .val (.int (3 : Int32)), .val (.int vb0), .val (.int vb1), .val (.int (x3.toInt8.toInt32)), .val (.ref b50), .unset] [(.int (0 : Int32))])) _
          refine XS.istore X59.here hx rfl (hb hby at_106) rfl (l' := #[.val (.int x0), .val (.int x1), .val (.int x2), .val (.int x3), .val (.int (3 : Int32)), .val (.int vb0), .val (.int vb1), .val (.int (x3.toInt8.toInt32)), .val (.ref b50), .val (.int (0 : Int32))]) rfl ?_
          show Steps p.tables e below (T59.setTop (mkF m 108 #[.val (.int x0), .val (.int x1), .val (.int x2), .val (.int x3), .val (.int (3 : Int32)), .val (.int vb0), .val (.int vb1), .val (.int (x3.toInt8.toInt32)), .val (.ref b50), .val (.int (0 : Int32))] [])) _
          refine XS.aload X59.here hx rfl (hb hby at_108) rfl rfl ?_
          exact k)
        obtain ⟨_, _, ⟨T68, L68, k68, n68⟩, -, X68, ⟨Lc68, hQ68, l68, y68, z68⟩, st68⟩ := Jvm.LawKit.callS X59 hx (y := (⟨"com/example/kalchas/kalchas/io/GzipDecoder", "isGzip", "([B)Z"⟩ : MethodName)) hown (mvT hZ (hw _ (List.mem_of_getElem? (i := 1) rfl))) (mvT hZ (hw _ (List.mem_of_getElem? (i := 2) rfl))) (mvT hZ (hw _ (List.mem_of_getElem? (i := 3) rfl))) (mvT hZ (hw _ (List.mem_of_getElem? (i := 4) rfl))) (by decide) (backOf (W := 0) (rmg3 l Z a0 hw [] b50 k50 (vb0.toInt8.toInt32) (vb1.toInt8.toInt32) ((x3.toInt8.toInt32).toInt8.toInt32) h59 n0 Z59 VV59) hZ (hw _ (List.mem_of_getElem? (i := 4) rfl)) (hw _ (List.mem_of_getElem? (i := 3) rfl)) (by decide) (by decide)) (g := (mkF m 110 #[.val (.int x0), .val (.int x1), .val (.int x2), .val (.int x3), .val (.int (3 : Int32)), .val (.int vb0), .val (.int vb1), .val (.int (x3.toInt8.toInt32)), .val (.ref b50), .val (.int (0 : Int32))] [(.ref b50)])) rfl (by rw [hml]; rfl) (argsL := [(.ref b50)]) (rest := []) (lenOf pd0_0 rfl) rfl (by show 2 * 0 + _ ≤ _; exact Nat.le_of_eq rfl) (hb hby at_110) (fun _ _ => ⟨rfl, e59, (by decide : 1 + 0 ≤ _), (by decide : 3 + 0 ≤ _)⟩)
        dsimp only [Pt.U, Pt.locs, Pt.cells, Pt.slots] at X68 l68 y68 z68 st68 hQ68
        subst l68 y68 z68
        obtain ⟨rfl, Nq68, e68⟩ := hQ68
        have N68 := Fr.app N59 Nq68
        have p69 : ∀ t, Steps p.tables e below (T68.setTop (mkF m 113 #[.val (.int x0), .val (.int x1), .val (.int x2), .val (.int x3), .val (.int (3 : Int32)), .val (.int vb0), .val (.int vb1), .val (.int (x3.toInt8.toInt32)), .val (.ref b50), .val (.int (0 : Int32))] [(.int (own_gz (vb0.toInt8.toInt32) (vb1.toInt8.toInt32)))])) t → Steps p.tables e below (s₁.setTop (entryFrame m #[(.int x0), (.int x1), (.int x2), (.int x3)] maxLocals)) t := fun t k => p67 t (st68 _ k)
        have p70 : ∀ t, Steps p.tables e below (T68.setTop (mkF m 123 #[.val (.int x0), .val (.int x1), .val (.int x2), .val (.int x3), .val (.int (3 : Int32)), .val (.int vb0), .val (.int vb1), .val (.int (x3.toInt8.toInt32)), .val (.ref b50), .val (.int (0 : Int32))] [(.int (1 : Int32))])) t → Steps p.tables e below (s₁.setTop (entryFrame m #[(.int x0), (.int x1), (.int x2), (.int x3)] maxLocals)) t := fun t k => p69 t (by
          show Steps p.tables e below (T68.setTop (mkF m 113 #[.val (.int x0), .val (.int x1), .val (.int x2), .val (.int x3), .val (.int (3 : Int32)), .val (.int vb0), .val (.int vb1), .val (.int (x3.toInt8.toInt32)), .val (.ref b50), .val (.int (0 : Int32))] [(.int (own_gz (vb0.toInt8.toInt32) (vb1.toInt8.toInt32)))])) _
          refine XS.iload X68.here hx rfl (hb hby at_113) rfl ?_
          show Steps p.tables e below (T68.setTop (mkF m 115 #[.val (.int x0), .val (.int x1), .val (.int x2), .val (.int x3), .val (.int (3 : Int32)), .val (.int vb0), .val (.int vb1), .val (.int (x3.toInt8.toInt32)), .val (.ref b50), .val (.int (0 : Int32))] [(.int (0 : Int32)), (.int (own_gz (vb0.toInt8.toInt32) (vb1.toInt8.toInt32)))])) _
          refine XS.icmpNo X68.here hx rfl (hb hby at_115) rfl ((teq ((own_gzv hvb0 hvb1).trans (by rw [if_pos hc91, if_neg hc98]))).2) ?_
          show Steps p.tables e below (T68.setTop (mkF m 118 #[.val (.int x0), .val (.int x1), .val (.int x2), .val (.int x3), .val (.int (3 : Int32)), .val (.int vb0), .val (.int vb1), .val (.int (x3.toInt8.toInt32)), .val (.ref b50), .val (.int (0 : Int32))] [])) _
          refine XS.iconst X68.here hx rfl (hb hby at_118) ?_
          show Steps p.tables e below (T68.setTop (mkF m 119 #[.val (.int x0), .val (.int x1), .val (.int x2), .val (.int x3), .val (.int (3 : Int32)), .val (.int vb0), .val (.int vb1), .val (.int (x3.toInt8.toInt32)), .val (.ref b50), .val (.int (0 : Int32))] [(.int (1 : Int32))])) _
          refine XS.goto X68.here hx rfl (pc0 := 119) (pc' := 123) rfl (hb hby at_119) (by decide) (by decide) ?_
          exact k)
        obtain ⟨fs, hr, hrun, hended, hW, hsame⟩ := X68.leave (v := some (.int (1 : Int32))) (fun h => by rw [Bd.returns] at h; cases h)
        refine ⟨_, _, p70 _ ?_, hrun, hended, _, _, rfl, ?_, ⟨_, rfl⟩, hW, hsame.mono (by decide) (by decide)⟩
        · show Steps p.tables e below (T68.setTop (mkF m 123 #[.val (.int x0), .val (.int x1), .val (.int x2), .val (.int x3), .val (.int (3 : Int32)), .val (.int vb0), .val (.int vb1), .val (.int (x3.toInt8.toInt32)), .val (.ref b50), .val (.int (0 : Int32))] [(.int (1 : Int32))])) _
          exact retN X68 hx (t := .boolean) Bd.returns (by simp) (hb hby at_123) hr
        · show Q0 Z x0 x1 x2 x3 h0 n0 _ T68.heap _
          rw [e68]
          exact ⟨rfl, N68⟩
    · have p71 : ∀ t, Steps p.tables e below (T59.setTop (mkF m 110 #[.val (.int x0), .val (.int x1), .val (.int x2), .val (.int x3), .val (.int (3 : Int32)), .val (.int vb0), .val (.int vb1), .val (.int (x3.toInt8.toInt32)), .val (.ref b50), .val (.int (0 : Int32))] [(.ref b50)])) t → Steps p.tables e below (s₁.setTop (entryFrame m #[(.int x0), (.int x1), (.int x2), (.int x3)] maxLocals)) t := fun t k => p61 t (by
        show Steps p.tables e below (T59.setTop (mkF m 91 #[.val (.int x0), .val (.int x1), .val (.int x2), .val (.int x3), .val (.int (3 : Int32)), .val (.int vb0), .val (.int vb1), .val (.int (x3.toInt8.toInt32)), .val (.ref b50), .unset] [(.int (31 : Int32)), (.int vb0)])) _
        refine XS.icmpYes X59.here hx rfl (pc0 := 91) (pc' := 105) rfl (hb hby at_91) rfl ((feq (hc91)).2) (by decide) (by decide) ?_
        show Steps p.tables e below (T59.setTop (mkF m 105 #[.val (.int x0), .val (.int x1), .val (.int x2), .val (.int x3), .val (.int (3 : Int32)), .val (.int vb0), .val (.int vb1), .val (.int (x3.toInt8.toInt32)), .val (.ref b50), .unset] [])) _
        refine XS.iconst X59.here hx rfl (hb hby at_105) ?_
        show Steps p.tables e below (T59.setTop (mkF m 106 #[.val (.int x0), .val (.int x1), .val (.int x2), .val (.int x3), .val (.int (3 : Int32)), .val (.int vb0), .val (.int vb1), .val (.int (x3.toInt8.toInt32)), .val (.ref b50), .unset] [(.int (0 : Int32))])) _
        refine XS.istore X59.here hx rfl (hb hby at_106) rfl (l' := #[.val (.int x0), .val (.int x1), .val (.int x2), .val (.int x3), .val (.int (3 : Int32)), .val (.int vb0), .val (.int vb1), .val (.int (x3.toInt8.toInt32)), .val (.ref b50), .val (.int (0 : Int32))]) rfl ?_
        show Steps p.tables e below (T59.setTop (mkF m 108 #[.val (.int x0), .val (.int x1), .val (.int x2), .val (.int x3), .val (.int (3 : Int32)), .val (.int vb0), .val (.int vb1), .val (.int (x3.toInt8.toInt32)), .val (.ref b50), .val (.int (0 : Int32))] [])) _
        refine XS.aload X59.here hx rfl (hb hby at_108) rfl rfl ?_
        exact k)
      obtain ⟨_, _, ⟨T72, L72, k72, n72⟩, -, X72, ⟨Lc72, hQ72, l72, y72, z72⟩, st72⟩ := Jvm.LawKit.callS X59 hx (y := (⟨"com/example/kalchas/kalchas/io/GzipDecoder", "isGzip", "([B)Z"⟩ : MethodName)) hown (mvT hZ (hw _ (List.mem_of_getElem? (i := 1) rfl))) (mvT hZ (hw _ (List.mem_of_getElem? (i := 2) rfl))) (mvT hZ (hw _ (List.mem_of_getElem? (i := 3) rfl))) (mvT hZ (hw _ (List.mem_of_getElem? (i := 4) rfl))) (by decide) (backOf (W := 0) (rmg3 l Z a0 hw [] b50 k50 (vb0.toInt8.toInt32) (vb1.toInt8.toInt32) ((x3.toInt8.toInt32).toInt8.toInt32) h59 n0 Z59 VV59) hZ (hw _ (List.mem_of_getElem? (i := 4) rfl)) (hw _ (List.mem_of_getElem? (i := 3) rfl)) (by decide) (by decide)) (g := (mkF m 110 #[.val (.int x0), .val (.int x1), .val (.int x2), .val (.int x3), .val (.int (3 : Int32)), .val (.int vb0), .val (.int vb1), .val (.int (x3.toInt8.toInt32)), .val (.ref b50), .val (.int (0 : Int32))] [(.ref b50)])) rfl (by rw [hml]; rfl) (argsL := [(.ref b50)]) (rest := []) (lenOf pd0_0 rfl) rfl (by show 2 * 0 + _ ≤ _; exact Nat.le_of_eq rfl) (hb hby at_110) (fun _ _ => ⟨rfl, e59, (by decide : 1 + 0 ≤ _), (by decide : 3 + 0 ≤ _)⟩)
      dsimp only [Pt.U, Pt.locs, Pt.cells, Pt.slots] at X72 l72 y72 z72 st72 hQ72
      subst l72 y72 z72
      obtain ⟨rfl, Nq72, e72⟩ := hQ72
      have N72 := Fr.app N59 Nq72
      have p73 : ∀ t, Steps p.tables e below (T72.setTop (mkF m 113 #[.val (.int x0), .val (.int x1), .val (.int x2), .val (.int x3), .val (.int (3 : Int32)), .val (.int vb0), .val (.int vb1), .val (.int (x3.toInt8.toInt32)), .val (.ref b50), .val (.int (0 : Int32))] [(.int (own_gz (vb0.toInt8.toInt32) (vb1.toInt8.toInt32)))])) t → Steps p.tables e below (s₁.setTop (entryFrame m #[(.int x0), (.int x1), (.int x2), (.int x3)] maxLocals)) t := fun t k => p71 t (st72 _ k)
      have p74 : ∀ t, Steps p.tables e below (T72.setTop (mkF m 123 #[.val (.int x0), .val (.int x1), .val (.int x2), .val (.int x3), .val (.int (3 : Int32)), .val (.int vb0), .val (.int vb1), .val (.int (x3.toInt8.toInt32)), .val (.ref b50), .val (.int (0 : Int32))] [(.int (1 : Int32))])) t → Steps p.tables e below (s₁.setTop (entryFrame m #[(.int x0), (.int x1), (.int x2), (.int x3)] maxLocals)) t := fun t k => p73 t (by
        show Steps p.tables e below (T72.setTop (mkF m 113 #[.val (.int x0), .val (.int x1), .val (.int x2), .val (.int x3), .val (.int (3 : Int32)), .val (.int vb0), .val (.int vb1), .val (.int (x3.toInt8.toInt32)), .val (.ref b50), .val (.int (0 : Int32))] [(.int (own_gz (vb0.toInt8.toInt32) (vb1.toInt8.toInt32)))])) _
        refine XS.iload X72.here hx rfl (hb hby at_113) rfl ?_
        show Steps p.tables e below (T72.setTop (mkF m 115 #[.val (.int x0), .val (.int x1), .val (.int x2), .val (.int x3), .val (.int (3 : Int32)), .val (.int vb0), .val (.int vb1), .val (.int (x3.toInt8.toInt32)), .val (.ref b50), .val (.int (0 : Int32))] [(.int (0 : Int32)), (.int (own_gz (vb0.toInt8.toInt32) (vb1.toInt8.toInt32)))])) _
        refine XS.icmpNo X72.here hx rfl (hb hby at_115) rfl ((teq ((own_gzv hvb0 hvb1).trans (by rw [if_neg hc91]))).2) ?_
        show Steps p.tables e below (T72.setTop (mkF m 118 #[.val (.int x0), .val (.int x1), .val (.int x2), .val (.int x3), .val (.int (3 : Int32)), .val (.int vb0), .val (.int vb1), .val (.int (x3.toInt8.toInt32)), .val (.ref b50), .val (.int (0 : Int32))] [])) _
        refine XS.iconst X72.here hx rfl (hb hby at_118) ?_
        show Steps p.tables e below (T72.setTop (mkF m 119 #[.val (.int x0), .val (.int x1), .val (.int x2), .val (.int x3), .val (.int (3 : Int32)), .val (.int vb0), .val (.int vb1), .val (.int (x3.toInt8.toInt32)), .val (.ref b50), .val (.int (0 : Int32))] [(.int (1 : Int32))])) _
        refine XS.goto X72.here hx rfl (pc0 := 119) (pc' := 123) rfl (hb hby at_119) (by decide) (by decide) ?_
        exact k)
      obtain ⟨fs, hr, hrun, hended, hW, hsame⟩ := X72.leave (v := some (.int (1 : Int32))) (fun h => by rw [Bd.returns] at h; cases h)
      refine ⟨_, _, p74 _ ?_, hrun, hended, _, _, rfl, ?_, ⟨_, rfl⟩, hW, hsame.mono (by decide) (by decide)⟩
      · show Steps p.tables e below (T72.setTop (mkF m 123 #[.val (.int x0), .val (.int x1), .val (.int x2), .val (.int x3), .val (.int (3 : Int32)), .val (.int vb0), .val (.int vb1), .val (.int (x3.toInt8.toInt32)), .val (.ref b50), .val (.int (0 : Int32))] [(.int (1 : Int32))])) _
        exact retN X72 hx (t := .boolean) Bd.returns (by simp) (hb hby at_123) hr
      · show Q0 Z x0 x1 x2 x3 h0 n0 _ T72.heap _
        rw [e72]
        exact ⟨rfl, N72⟩
set_option maxRecDepth 65536 in
set_option maxHeartbeats 40000000 in
theorem comes_1 {Post : Tables → Env → Array Value → State → Outcome → State → Prop} (hpost : ∀ tb e args s v u, (limb_1_1.after args s (.returned v) u = true ∧ limb_1_2.after args s (.returned v) u = true ∧ True) → FrameEnd s (.returned v) u (Jvm.fieldLocs frame_1_writes args s ++ Jvm.arrayLocs frame_1_arrays args s ++ Jvm.staticLocs frame_1_statics s) 16 128 → Post tb e args s (.returned v) u) :
    ArmFor flags0 classFile x code maxLocals ret World_1 tables_1 room_1 Calls_1 rest_1 Pre_1 Post := by
  intro l hfl _ _ p e ha hc hk s m args below hf hA hF happ hP
  obtain ⟨hcalls, hrest, hpre⟩ := hP
  obtain ⟨-, -, -, hnamed, -, -, -, hat⟩ := (Spec.applies_iff hf).mp happ
  obtain ⟨hg, hn⟩ := and_e (Cond.before_iff.mp (show (Jvm.Cond.and given_1 narrow_1).before args s = true from hpre))
  obtain ⟨hcount, ga0⟩ := and_e hg
  obtain ⟨gb0, ga1⟩ := and_e ga0
  obtain ⟨gb1, ga2⟩ := and_e ga1
  obtain ⟨gb2, ga3⟩ := and_e ga2
  obtain ⟨w0, w1, w2, w3, rfl⟩ : ∃ w0 w1 w2 w3 : Value, args = #[w0, w1, w2, w3] := by
    have hs : args.size = 4 := by simpa [Cond.value, given_1] using hcount
    obtain ⟨L⟩ := args
    match L, hs with
    | [w0, w1, w2, w3], _ => exact ⟨w0, w1, w2, w3, rfl⟩
  have hw := fun d (hd : d ∈ tables_1) => atoms_spec (ws := Jvm.Cond.code x code maxLocals ret :: tables_1) hat d (List.mem_cons_of_mem _ hd)
  have hfit : Fit s := fun {y c} hc i hi => by
    obtain ⟨ha, rfl⟩ := Array.getElem?_eq_some_iff.mp hc
    have q := List.all_eq_true.mp ((Array.all_eq_true_iff_forall_mem.mp hF) _ (Array.getElem_mem ha)) i (List.mem_range.mpr hi)
    simpa [Array.getElem?_eq_getElem hi] using q
  obtain ⟨i0, ei0⟩ := is_v gb0
  obtain rfl : w0 = (.int i0) := Option.some.inj ei0
  obtain ⟨i1, ei1⟩ := is_v gb1
  obtain rfl : w1 = (.int i1) := Option.some.inj ei1
  obtain ⟨i2, ei2⟩ := is_v gb2
  obtain rfl : w2 = (.int i2) := Option.some.inj ei2
  obtain ⟨i3, ei3⟩ := is_v ga3
  obtain rfl : w3 = (.int i3) := Option.some.inj ei3
  obtain ⟨n, o, h1, h2, h3, _, L, rfl, ⟨rfl, N⟩, hq⟩ := rm0 l s _ hw tables_1 i0 i1 i2 i3 s.heap s.heap.size (Nat.le_refl _) p e ha hc hk s m _ below hf ((Spec.applies_iff_loose hf).mp happ).1 ⟨rfl, State.Warmed39.refl s, rfl⟩ trivial
  refine ⟨n, _, h1, h2, h3, hpost _ _ _ _ _ _ ⟨Cond.after_iff.mpr rfl, Cond.after_iff.mpr (eq_i res_at (Term.int_eval (1)) rfl), trivial⟩ ⟨hq.1, hq.2.1, (hq.2.2.sift fun y hy => Or.inr (N y hy)).mono (by decide) (by decide)⟩⟩
theorem main_1_1 : Claimed_1_1 := comes_1 fun _ _ _ _ _ _ h hF => ⟨h.1, hF⟩
theorem main_1_2 : Claimed_1_2 := comes_1 fun _ _ _ _ _ _ h hF => ⟨h.2.1, hF⟩
end Jvm.Pilot.@@N@@
namespace Jvm.Pilot.@@N@@
open Jvm Jvm.ClassFile Sem Op Lib Jvm.Free Jvm.Stand Jvm.Pilot.@@N@@.Jvm.D
/-! MADE BY PROGRAM (witnessworld.py) out of the Statement's table words and the real class files: 10 classes; the members and pool entries that the words name. The judged class is class 1, her method 1. -/
namespace start1
open Jvm.ClassFile
def u (s : String) : CpInfo := .utf8 (stringToUtf16 s)
/-- a pool by its gaps: so many unusable entries, then the entry; so many at the end -/
def gap : Nat → List CpInfo → List CpInfo
  | 0, r => r
  | n + 1, r => .unusable :: gap n r
def poolList (es : List (Nat × CpInfo)) (last : Nat) : List CpInfo := es.foldr (fun e r => gap e.1 (e.2 :: r)) (gap last [])
def pool (es : List (Nat × CpInfo)) (last : Nat) : Array CpInfo := ⟨poolList es last⟩
def fileOf (pool : Array CpInfo) (this : Nat) (attrs : Array Attribute := #[]) (ms : Array MethodInfo := #[]) (fl : Nat := 33) (sup : Nat := 0) (ifs : Array Nat := #[]) (fds : Array FieldInfo := #[]) : ClassFile where
  minorVersion := 0
  majorVersion := 65
  constantPool := pool
  accessFlags := fl
  thisClass := this
  superClass := sup
  interfaces := ifs
  fields := fds
  methods := ms
  attributes := attrs
def plain (name : String) (sup : Option ClassId) : Class where
  name := name
  kind := .ordinary
  loader := none
  accessFlags := 33
  super := sup
  interfaces := #[]
  cf := none
  fields := #[]
  methods := #[]
  instanceTypes := #[]
  staticTypes := #[]
  resolved := #[]
  callSites := []
  init := .initialized
  statics := none
  mirror := none

def pool0 : Array CpInfo := pool [(5, u "<init>"), (0, u "()V"), (1, .class_ 10), (1, u "java/lang/Object")] 113

def k0m0 : Method := { name := "<init>", desc := "()V", sig := { parameters := [], returnType := none }, accessFlags := 1, code := none }
/-- java/lang/Object -/
def k0 : Class := { plain "java/lang/Object" none with
  accessFlags := 33
  interfaces := #[]
  cf := some (fileOf pool0 8 #[] #[{ accessFlags := 1, nameIndex := 5, descriptorIndex := 6, attributes := #[] }] 33 0 #[] #[])
  fields := #[]
  methods := #[k0m0]
  instanceTypes := #[]
  staticTypes := #[]
  resolved := Array.replicate 124 none
  statics := none }

def pool1 : Array CpInfo := pool [(2, .class_ 4), (1, u "java/lang/Object"), (0, u "<init>"), (0, u "()V"), (0, .methodref 8 9), (0, .class_ 10), (0, .nameAndType 11 12), (0, u "com/example/kalchas/kalchas/io/GzipDecoder"), (0, u "isGzip"), (0, u "([B)Z"), (0, .class_ 14), (0, u "com/example/kalchas/kalchas/io/GzipDecoderIsGzipPinLaw"), (2, u "law"), (0, u "(IIII)Z")] 5

def k1m0 : Method := { name := "<init>", desc := "()V", sig := { parameters := [], returnType := none }, accessFlags := 1, code := none }
def k1c1 : Code := { maxStack := 3, maxLocals := 10, code := code, exceptionTable := #[], attributes := #[] }
def k1m1 : Method := { name := "law", desc := "(IIII)Z", sig := { parameters := [.int, .int, .int, .int], returnType := some .boolean }, accessFlags := 9, code := some k1c1 }
/-- com/example/kalchas/kalchas/io/GzipDecoderIsGzipPinLaw -/
def k1 : Class := { plain "com/example/kalchas/kalchas/io/GzipDecoderIsGzipPinLaw" (some 0) with
  accessFlags := 49
  interfaces := #[]
  cf := some (fileOf pool1 13 #[] #[{ accessFlags := 1, nameIndex := 5, descriptorIndex := 6, attributes := #[] }, { accessFlags := 9, nameIndex := 17, descriptorIndex := 18, attributes := #[] }] 49 2 #[] #[])
  fields := #[]
  methods := #[k1m0, k1m1]
  instanceTypes := #[]
  staticTypes := #[]
  resolved := Array.replicate 24 none
  statics := none }

def pool2 : Array CpInfo := pool [(1, .class_ 2), (0, u "java/lang/AutoCloseable"), (0, .class_ 4), (0, u "java/lang/Object")] 7

/-- java/lang/AutoCloseable -/
def k2 : Class := { plain "java/lang/AutoCloseable" (some 0) with
  accessFlags := 1537
  interfaces := #[]
  cf := some (fileOf pool2 1 #[] #[] 1537 3 #[] #[])
  fields := #[]
  methods := #[]
  instanceTypes := #[]
  staticTypes := #[]
  resolved := Array.replicate 12 none
  statics := none }

def pool3 : Array CpInfo := pool [(1, .class_ 2), (0, u "java/io/Closeable"), (0, .class_ 4), (0, u "java/lang/Object"), (0, .class_ 6), (0, u "java/lang/AutoCloseable")] 7

/-- java/io/Closeable -/
def k3 : Class := { plain "java/io/Closeable" (some 0) with
  accessFlags := 1537
  interfaces := #[2]
  cf := some (fileOf pool3 1 #[] #[] 1537 3 #[5] #[])
  fields := #[]
  methods := #[]
  instanceTypes := #[]
  staticTypes := #[]
  resolved := Array.replicate 14 none
  statics := none }

def pool4 : Array CpInfo := pool [(4, .class_ 6), (1, u "java/lang/Object"), (0, u "<init>"), (0, u "()V"), (0, .class_ 10), (0, u "java/io/InputStream$1"), (2, .class_ 15), (1, u "java/io/InputStream"), (116, .class_ 133), (0, u "java/io/Closeable"), (0, u "MAX_SKIP_BUFFER_SIZE"), (0, u "I"), (2, u "DEFAULT_BUFFER_SIZE"), (1, u "MAX_BUFFER_SIZE")] 54

def k4m0 : Method := { name := "<init>", desc := "()V", sig := { parameters := [], returnType := none }, accessFlags := 1, code := none }
/-- java/io/InputStream -/
def k4 : Class := { plain "java/io/InputStream" (some 0) with
  accessFlags := 1057
  interfaces := #[3]
  cf := some (fileOf pool4 13 #[.nestMembers #[9]] #[{ accessFlags := 1, nameIndex := 7, descriptorIndex := 8, attributes := #[] }] 1057 4 #[132] #[{ accessFlags := 26, nameIndex := 134, descriptorIndex := 135, attributes := #[] }, { accessFlags := 26, nameIndex := 138, descriptorIndex := 135, attributes := #[] }, { accessFlags := 26, nameIndex := 140, descriptorIndex := 135, attributes := #[] }])
  fields := #[{ name := "MAX_SKIP_BUFFER_SIZE", type := .int, accessFlags := 26, slot := 0, constantValue := 0 }, { name := "DEFAULT_BUFFER_SIZE", type := .int, accessFlags := 26, slot := 1, constantValue := 0 }, { name := "MAX_BUFFER_SIZE", type := .int, accessFlags := 26, slot := 2, constantValue := 0 }]
  methods := #[k4m0]
  instanceTypes := #[]
  staticTypes := #[.int, .int, .int]
  resolved := Array.replicate 195 none
  statics := none }

def pool5 : Array CpInfo := pool [(2, .class_ 4), (1, u "java/io/InputStream"), (8, .class_ 15), (1, u "com/example/kalchas/kalchas/io/GzipDecoder"), (0, u "inflater"), (0, u "Ljava/util/zip/Inflater;"), (5, u "crc"), (0, u "Ljava/util/zip/CRC32;"), (3, u "input"), (0, u "[B"), (2, u "file"), (0, u "Ljava/nio/file/Path;"), (2, u "in"), (0, u "Ljava/io/InputStream;"), (12, u "inMember"), (0, u "Z"), (15, u "position"), (0, u "I"), (2, u "limit"), (97, u "BUFFER_SIZE"), (1, u "ID1"), (1, u "ID2"), (1, u "DEFLATE"), (1, u "FHCRC"), (1, u "FEXTRA"), (1, u "FNAME"), (0, u "FCOMMENT"), (1, u "RESERVED"), (1, u "HEADER_FIELDS_SKIPPED"), (4, u "isGzip"), (0, u "([B)Z")] 32

def k5c0 : Code := { maxStack := 2, maxLocals := 1, code := prog_46_method_2_code, exceptionTable := #[], attributes := #[] }
def k5m0 : Method := { name := "isGzip", desc := "([B)Z", sig := { parameters := [(.array .byte)], returnType := some .boolean }, accessFlags := 8, code := some k5c0 }
/-- com/example/kalchas/kalchas/io/GzipDecoder -/
def k5 : Class := { plain "com/example/kalchas/kalchas/io/GzipDecoder" (some 4) with
  accessFlags := 48
  interfaces := #[]
  cf := some (fileOf pool5 13 #[] #[{ accessFlags := 8, nameIndex := 191, descriptorIndex := 192, attributes := #[] }] 48 2 #[] #[{ accessFlags := 26, nameIndex := 169, descriptorIndex := 68, attributes := #[] }, { accessFlags := 26, nameIndex := 171, descriptorIndex := 68, attributes := #[] }, { accessFlags := 26, nameIndex := 173, descriptorIndex := 68, attributes := #[] }, { accessFlags := 26, nameIndex := 175, descriptorIndex := 68, attributes := #[] }, { accessFlags := 26, nameIndex := 177, descriptorIndex := 68, attributes := #[] }, { accessFlags := 26, nameIndex := 179, descriptorIndex := 68, attributes := #[] }, { accessFlags := 26, nameIndex := 181, descriptorIndex := 68, attributes := #[] }, { accessFlags := 26, nameIndex := 182, descriptorIndex := 68, attributes := #[] }, { accessFlags := 26, nameIndex := 184, descriptorIndex := 68, attributes := #[] }, { accessFlags := 26, nameIndex := 186, descriptorIndex := 68, attributes := #[] }, { accessFlags := 18, nameIndex := 32, descriptorIndex := 33, attributes := #[] }, { accessFlags := 18, nameIndex := 36, descriptorIndex := 37, attributes := #[] }, { accessFlags := 18, nameIndex := 16, descriptorIndex := 17, attributes := #[] }, { accessFlags := 18, nameIndex := 23, descriptorIndex := 24, attributes := #[] }, { accessFlags := 18, nameIndex := 28, descriptorIndex := 29, attributes := #[] }, { accessFlags := 2, nameIndex := 67, descriptorIndex := 68, attributes := #[] }, { accessFlags := 2, nameIndex := 71, descriptorIndex := 68, attributes := #[] }, { accessFlags := 2, nameIndex := 50, descriptorIndex := 51, attributes := #[] }])
  fields := #[{ name := "BUFFER_SIZE", type := .int, accessFlags := 26, slot := 0, constantValue := 0 }, { name := "ID1", type := .int, accessFlags := 26, slot := 1, constantValue := 0 }, { name := "ID2", type := .int, accessFlags := 26, slot := 2, constantValue := 0 }, { name := "DEFLATE", type := .int, accessFlags := 26, slot := 3, constantValue := 0 }, { name := "FHCRC", type := .int, accessFlags := 26, slot := 4, constantValue := 0 }, { name := "FEXTRA", type := .int, accessFlags := 26, slot := 5, constantValue := 0 }, { name := "FNAME", type := .int, accessFlags := 26, slot := 6, constantValue := 0 }, { name := "FCOMMENT", type := .int, accessFlags := 26, slot := 7, constantValue := 0 }, { name := "RESERVED", type := .int, accessFlags := 26, slot := 8, constantValue := 0 }, { name := "HEADER_FIELDS_SKIPPED", type := .int, accessFlags := 26, slot := 9, constantValue := 0 }, { name := "file", type := (.object "java/nio/file/Path"), accessFlags := 18, slot := 0, constantValue := 0 }, { name := "in", type := (.object "java/io/InputStream"), accessFlags := 18, slot := 1, constantValue := 0 }, { name := "inflater", type := (.object "java/util/zip/Inflater"), accessFlags := 18, slot := 2, constantValue := 0 }, { name := "crc", type := (.object "java/util/zip/CRC32"), accessFlags := 18, slot := 3, constantValue := 0 }, { name := "input", type := (.array .byte), accessFlags := 18, slot := 4, constantValue := 0 }, { name := "position", type := .int, accessFlags := 2, slot := 5, constantValue := 0 }, { name := "limit", type := .int, accessFlags := 2, slot := 6, constantValue := 0 }, { name := "inMember", type := .boolean, accessFlags := 2, slot := 7, constantValue := 0 }]
  methods := #[k5m0]
  instanceTypes := #[(.object "java/nio/file/Path"), (.object "java/io/InputStream"), (.object "java/util/zip/Inflater"), (.object "java/util/zip/CRC32"), (.array .byte), .int, .int, .boolean]
  staticTypes := #[.int, .int, .int, .int, .int, .int, .int, .int, .int, .int]
  resolved := Array.replicate 225 none
  statics := none }

def pool6 : Array CpInfo := pool [(1, u "java/lang/Cloneable"), (0, .class_ 1), (0, u "java/lang/Object"), (0, .class_ 3)] 3

/-- java/lang/Cloneable -/
def k6 : Class := { plain "java/lang/Cloneable" (some 0) with
  accessFlags := 1537
  interfaces := #[]
  cf := some (fileOf pool6 2 #[] #[] 1537 4 #[] #[])
  fields := #[]
  methods := #[]
  instanceTypes := #[]
  staticTypes := #[]
  resolved := Array.replicate 8 none
  statics := none }

def pool7 : Array CpInfo := pool [(1, u "java/io/Serializable"), (0, .class_ 1), (0, u "java/lang/Object"), (0, .class_ 3)] 3

/-- java/io/Serializable -/
def k7 : Class := { plain "java/io/Serializable" (some 0) with
  accessFlags := 1537
  interfaces := #[]
  cf := some (fileOf pool7 2 #[] #[] 1537 4 #[] #[])
  fields := #[]
  methods := #[]
  instanceTypes := #[]
  staticTypes := #[]
  resolved := Array.replicate 8 none
  statics := none }

/-- the primitive byte -/
def k8 : Class := { plain "byte" none with kind := .primitive 'B', accessFlags := 0x411 }
/-- [B -/
def k9 : Class := { plain "[B" (some 0) with kind := .array 8 .byte, interfaces := #[6, 7], accessFlags := 1041 }

def heap : Heap := #[]
def classes : Array Class := #[k0, k1, k2, k3, k4, k5, k6, k7, k8, k9]
def interned : List (Array UInt16 × Addr) := []
def slotsUsed : Nat := 0
def theMethod : MethodId := ⟨1, 1⟩
def args0 : Array Value := #[.int 2, .int 31, .int 5, .int 1]
def aboutOver (below : List Frame) : State where
  vm := { classes := classes, interned := interned.toArray }
  heap := heap
  slotsUsed := slotsUsed
  threads := #[{ frames := .invoking theMethod args0 :: below }]
def below0 : List Frame := [.native { method := ⟨0, 0⟩, args := #[] }]
def about1 : State := aboutOver below0
def p0 : Program := .bare "" "" ""
def e0 : Env := launch0.env 0 0 0
theorem w_frames : about1.frames = Frame.invoking theMethod args0 :: below0 := rfl
set_option maxRecDepth 65536 in
theorem w_args : argsFit about1.vm theMethod args0 = true := by decide +kernel
set_option maxRecDepth 65536 in
theorem w_heap : heapFits about1 = true := by decide +kernel
set_option maxRecDepth 65536 in
theorem w_runnable : about1.curStatus? = some .runnable := by decide +kernel
set_option maxRecDepth 65536 in
theorem w_alone : about1.alone = true := by decide +kernel
set_option maxRecDepth 65536 in
theorem w_named : about1.methodNamed? x = some theMethod := by decide +kernel
set_option maxRecDepth 65536 in
theorem w_hears : about1.hears theMethod below0 = true := by decide +kernel
set_option maxRecDepth 65536 in
theorem w_ripe : about1.ripe theMethod args0 below0 = true := by decide +kernel
theorem w_running : about1.status = .running := rfl
set_option maxRecDepth 65536 in
theorem w_room : about1.hasRoom e0.platform room_1 = true :=
  launch0.hasRoom_least _ room_1 (by decide +kernel) (by decide +kernel) (by decide +kernel) (by decide +kernel) (by decide +kernel) (by decide +kernel)
theorem allAtoms_all (ts : List Jvm.Cond) (a : Array Jvm.Value) (st : Jvm.State) : (allAtoms ts).before a st = ts.all (fun c => c.before a st) := by
  induction ts with
  | nil => rfl
  | cons c t ih =>
    show (Jvm.Cond.and c (allAtoms t)).before a st = _
    rw [Jvm.Cond.before_and, ih, List.all_cons]
def words1 : List Jvm.Cond := Jvm.Cond.code x code maxLocals ret :: tables_1
/-- a 'code' word, met by the world's own term for the bytes: nothing is compared byte by byte -/
theorem code_word {y : MethodName} {bytes : ByteArray} {mx : Nat} {rt : Option FieldType} {a : Array Value} {s : State} {m : MethodId} {meth : Method} {c : Code} (h1 : s.methodNamed? y = some m) (h2 : s.vm.method? m = some meth) (h3 : meth.code = some c) (h4 : c.code = bytes)
    (h5 : (c.maxLocals == mx && c.exceptionTable.isEmpty && decide (c.maxStack ≤ mostOperands) && decide (meth.sig.returnType = rt) && !meth.locks && decide (parseMethodDescriptor y.desc = some meth.sig)) = true) : (Jvm.Cond.code y bytes mx rt).before a s = true := by
  simp only [Bool.and_eq_true, beq_iff_eq, Bool.not_eq_true', decide_eq_true_eq] at h5
  obtain ⟨⟨⟨⟨⟨g1, g2⟩, g3⟩, g4⟩, g5⟩, g6⟩ := h5
  simp [Cond.before, Cond.holds, Cond.value, h1, h2, h3, h4, g1, g2, g3, g4, g5, g6]
def isCode : Jvm.Cond → Bool
  | .code _ _ _ _ => true
  | _ => false
theorem all_split {L : List Jvm.Cond} {P : Jvm.Cond → Bool} (h1 : L.all (fun c => isCode c || P c) = true) (h2 : ∀ c ∈ L.filter isCode, P c = true) : L.all P = true := by
  refine List.all_eq_true.mpr fun c hc => ?_
  have h := List.all_eq_true.mp h1 c hc
  rcases Bool.eq_false_or_eq_true (isCode c) with hi | hi
  · exact h2 c (List.mem_filter.mpr ⟨hc, hi⟩)
  · simpa [hi] using h
set_option maxRecDepth 65536 in
theorem w_c0 : (Jvm.Cond.code x code maxLocals ret).before args0 about1 = true := code_word (m := ⟨1, 1⟩) (meth := k1m1) (c := k1c1) (by decide +kernel) rfl rfl rfl (by decide +kernel)
set_option maxRecDepth 65536 in
theorem w_c1 : (Jvm.Cond.code ({ cls := "com/example/kalchas/kalchas/io/GzipDecoder", name := "isGzip", desc := "([B)Z" } : Jvm.MethodName) prog_46_method_2_code (1 : Nat) (Option.some Jvm.ClassFile.FieldType.boolean)).before args0 about1 = true := code_word (m := ⟨5, 0⟩) (meth := k5m0) (c := k5c0) (by decide +kernel) rfl rfl rfl (by decide +kernel)
def codes1 : List Jvm.Cond := [Jvm.Cond.code x code maxLocals ret, Jvm.Cond.code ({ cls := "com/example/kalchas/kalchas/io/GzipDecoder", name := "isGzip", desc := "([B)Z" } : Jvm.MethodName) prog_46_method_2_code (1 : Nat) (Option.some Jvm.ClassFile.FieldType.boolean)]
set_option maxRecDepth 65536 in
theorem codes_eq : words1.filter isCode = codes1 := rfl
theorem w_codes : ∀ c ∈ words1.filter isCode, c.before args0 about1 = true := by
  rw [codes_eq]
  intro c hc
  simp only [codes1, List.mem_cons, List.not_mem_nil, or_false] at hc
  rcases hc with rfl | rfl
  · exact w_c0
  · exact w_c1
set_option maxRecDepth 65536 in
theorem w_t1 : words1.all (fun c => isCode c || c.before args0 about1) = true := by decide +kernel
theorem w_tables : (allAtoms (Jvm.Cond.code x code maxLocals ret :: tables_1)).before args0 about1 = true := by
  rw [allAtoms_all]
  show words1.all (fun c => c.before args0 about1) = true
  refine all_split ?_ w_codes
  rw [w_t1]
set_option maxRecDepth 65536 in
theorem w_case : (Jvm.Cond.and given_1 narrow_1).before args0 about1 = true := by decide +kernel
theorem w_applies : (headSpec (Jvm.Cond.code x code maxLocals ret :: tables_1) room_1).applies x e0.platform about1 = true :=
  (Spec.applies_iff w_frames).mpr ⟨w_running, w_runnable, w_alone, w_named, w_hears, w_ripe, w_room, w_tables⟩
theorem atStart : AtStart classFile x code maxLocals ret World_1 tables_1 room_1 Calls_1 rest_1 Pre_1 launch0 p0 e0 about1 theMethod args0 below0 :=
  ⟨lists_1, trivial, launch0.admits_env _ _ _, launch0.least_env, fairChoices_fair.cas, fairChoices_fair.clock, w_frames, w_args, w_heap, w_applies, trivial, trivial, w_case⟩
end start1
theorem witness_1 : WitnessClaimed_1 := ⟨start1.p0, start1.e0, start1.about1, start1.theMethod, start1.args0, start1.below0, start1.atStart⟩
end Jvm.Pilot.@@N@@
