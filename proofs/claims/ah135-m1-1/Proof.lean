import JvmDerived
import JvmDerived.Pilot.@@N@@Statement
import JvmDerived.Pilot.@@N@@Code
set_option linter.unusedVariables false
set_option linter.unusedSimpArgs false
namespace Jvm.Pilot.@@N@@
open Jvm Jvm.ClassFile Sem Op Lib Jvm.Free Jvm.Stand Jvm.LawKit Jvm.RoadKit Bundle Jvm.Pilot.@@N@@.Jvm.D

theorem own_z : Jvm.Free.Fl.Mag64 1088 (0 : UInt64) := by unfold Jvm.Free.Fl.Mag64; exact Nat.lt_of_lt_of_le (by decide : 0 % 9223372036854775808 < 1) (by omega)
theorem own_mono {K L : Nat} {x : UInt64} (h : Jvm.Free.Fl.Mag64 K x) (hl : K ≤ L) : Jvm.Free.Fl.Mag64 L x := h.mono hl
theorem own_nn {K : Nat} {x : UInt64} (h : Jvm.Free.Fl.Mag64 K x) (hk : K ≤ 2047) : Jvm.Free.Fl.NoNaN64 x := (h.fin hk).noNaN
theorem own_s1 {d0 : UInt64} (h0 : Jvm.Free.Fl.Mag64 1088 d0) : Jvm.Free.Fl.Mag64 1090 (FP.dadd (0 : UInt64) d0) := Jvm.Free.Fl.dadd_mag own_z (own_mono h0 (by omega)) (by omega)
theorem own_s2 {d0 d1 : UInt64} (h0 : Jvm.Free.Fl.Mag64 1088 d0) (h1 : Jvm.Free.Fl.Mag64 1088 d1) : Jvm.Free.Fl.Mag64 1092 (FP.dadd (FP.dadd (0 : UInt64) d0) d1) := Jvm.Free.Fl.dadd_mag (own_s1 h0) (own_mono h1 (by omega)) (by omega)
theorem own_s3 {d0 d1 d2 : UInt64} (h0 : Jvm.Free.Fl.Mag64 1088 d0) (h1 : Jvm.Free.Fl.Mag64 1088 d1) (h2 : Jvm.Free.Fl.Mag64 1088 d2) : Jvm.Free.Fl.Mag64 1094 (FP.dadd (FP.dadd (FP.dadd (0 : UInt64) d0) d1) d2) := Jvm.Free.Fl.dadd_mag (own_s2 h0 h1) (own_mono h2 (by omega)) (by omega)
theorem own_s4 {d0 d1 d2 d3 : UInt64} (h0 : Jvm.Free.Fl.Mag64 1088 d0) (h1 : Jvm.Free.Fl.Mag64 1088 d1) (h2 : Jvm.Free.Fl.Mag64 1088 d2) (h3 : Jvm.Free.Fl.Mag64 1088 d3) : Jvm.Free.Fl.Mag64 1096 (FP.dadd (FP.dadd (FP.dadd (FP.dadd (0 : UInt64) d0) d1) d2) d3) := Jvm.Free.Fl.dadd_mag (own_s3 h0 h1 h2) (own_mono h3 (by omega)) (by omega)
theorem own_k5 {k x : Int32} (h : k = ((x &&& (2147483647 : Int32)) % (5 : Int32))) : k = (0 : Int32) ∨ k = (1 : Int32) ∨ k = (2 : Int32) ∨ k = (3 : Int32) ∨ k = (4 : Int32) := by
  have e := c_mask x 2147483647 31 (by decide) (by decide)
  have e2 := (c_irem (x &&& (2147483647 : Int32)) 5 5 (by decide)).1 (by omega); rw [← h] at e2
  simp only [← Int32.toInt_inj]
  have l0 : (0 : Int32).toInt = 0 := by decide
  have l1 : (1 : Int32).toInt = 1 := by decide
  have l2 : (2 : Int32).toInt = 2 := by decide
  have l3 : (3 : Int32).toInt = 3 := by decide
  have l4 : (4 : Int32).toInt = 4 := by decide
  omega
theorem ds0_0 : decode prog_38_method_8_code 0 = .ok (.dconst 0, 1) := by decide +kernel
theorem ds0_1 : decode prog_38_method_8_code 1 = .ok (.dstore_n 1, 1) := by decide +kernel
theorem ds0_2 : decode prog_38_method_8_code 2 = .ok (.aload_n 0, 1) := by decide +kernel
theorem ds0_3 : decode prog_38_method_8_code 3 = .ok (.astore_n 3, 1) := by decide +kernel
theorem ds0_4 : decode prog_38_method_8_code 4 = .ok (.aload_n 3, 1) := by decide +kernel
theorem ds0_5 : decode prog_38_method_8_code 5 = .ok (.arraylength, 1) := by decide +kernel
theorem ds0_6 : decode prog_38_method_8_code 6 = .ok (.istore 4, 2) := by decide +kernel
theorem ds0_8 : decode prog_38_method_8_code 8 = .ok (.iconst 0, 1) := by decide +kernel
theorem ds0_9 : decode prog_38_method_8_code 9 = .ok (.istore 5, 2) := by decide +kernel
theorem ds0_11 : decode prog_38_method_8_code 11 = .ok (.iload 5, 2) := by decide +kernel
theorem ds0_13 : decode prog_38_method_8_code 13 = .ok (.iload 4, 2) := by decide +kernel
theorem ds0_15 : decode prog_38_method_8_code 15 = .ok (.if_icmp .ge 20, 3) := by decide +kernel
theorem ds0_35 : decode prog_38_method_8_code 35 = .ok (.dload_n 1, 1) := by decide +kernel
theorem ds0_36 : decode prog_38_method_8_code 36 = .ok (.dreturn, 1) := by decide +kernel
theorem pns0 : plainName "com/example/kalchas/kalchas/evaluation/Evaluation" = true := by first | (simp [plainName, overriddenIn]; done) | decide +kernel
theorem efs0 (m : MethodId) (x0 : Addr) : entryFrame m #[(.ref x0)] 8 = mkF m 0 #[.val (.ref x0), .unset, .unset, .unset, .unset, .unset, .unset, .unset] [] := by first | (simp [entryFrame, mkF, argsToLocals, Value.category]; done) | rfl
def Qs0 (Z : State) (x0 : Addr) (kk : ClassId) (h0 : Heap) (n0 : Nat) (v : Option Value) (h : Heap) (L : List Loc) : Prop := v = some (.double (0 : UInt64)) ∧ Fr n0 L ∧ h = h0
set_option maxRecDepth 65536 in
set_option maxHeartbeats 40000000 in
theorem rms0 (l : Launch) (Z : State) (a0 : Array Value) (hw : ∀ d ∈ tables_1, d.before a0 Z = true) (ws : List Jvm.Cond) (x0 : Addr) (kk : ClassId) (h0 : Heap) (n0 : Nat) (Z0 : n0 ≤ h0.size) (V0 : Arv Z h0 x0 kk .double (0 : Int32) [] (.double (0 : UInt64))) :
    MetFree l (⟨"com/example/kalchas/kalchas/evaluation/Evaluation", "sum", "([D)D"⟩ : MethodName) (head1 (Jvm.Cond.code (⟨"com/example/kalchas/kalchas/evaluation/Evaluation", "sum", "([D)D"⟩ : MethodName) prog_38_method_8_code 8 (some .double) :: ws) ({ frames := 0, cells := 0, slots := 0, locals := 0 } : Room)) (fun a U => a = #[(.ref x0)] ∧ Z.Warmed39 U.vm ∧ U.heap = h0) (fun _ _ _ _ _ => True) (fun _ U o U' => ∃ v L, o = .returned v ∧ Qs0 Z x0 kk h0 n0 v U'.heap L ∧ FrameEnd U o U' L ({ frames := 0, cells := 0, slots := 0, locals := 0 } : Room).cells ({ frames := 0, cells := 0, slots := 0, locals := 0 } : Room).slots) := by
  refine MetFree.of_bodySF (plainFor_of_name pns0) hisR ?_
  intro p e s m args below meth c s₁ Bd hml0 hP hK
  obtain ⟨rfl, hZ, hh⟩ := hP
  have hx := Bd.exec
  have hby := Bd.bytes
  have hml : c.maxLocals = 8 := hml0
  have hown : s.vm.findClass "com/example/kalchas/kalchas/evaluation/Evaluation" = some m.cls := findClass_of_methodNamed Bd.named
  have hnm := (name_of_methodNamed Bd.named Bd.method).1
  have X0 : Stand p l e ({ frames := 0, cells := 0, slots := 0, locals := 0 } : Room) s m #[(.ref x0)] below meth c s₁ [] 0 0 := Stand.of_body Bd
  have e0 : s₁.heap = h0 := by rw [← hh, Bd.state]; rfl
  have N0 := Fr.nil n0
  have pre0 : ∀ t, Steps p.tables e below (s₁.setTop (mkF m 0 #[.val (.ref x0), .unset, .unset, .unset, .unset, .unset, .unset, .unset] [])) t → Steps p.tables e below (s₁.setTop (entryFrame m #[(.ref x0)] 8)) t := fun t k => castTop (efs0 m x0) k
  have p1 : ∀ t, Steps p.tables e below (s₁.setTop (mkF m 5 #[.val (.ref x0), .val (.double (0 : UInt64)), .second, .val (.ref x0), .unset, .unset, .unset, .unset] [(.ref x0)])) t → Steps p.tables e below (s₁.setTop (entryFrame m #[(.ref x0)] 8)) t := fun t k => pre0 t (by
    show Steps p.tables e below (s₁.setTop (mkF m 0 #[.val (.ref x0), .unset, .unset, .unset, .unset, .unset, .unset, .unset] [])) _
    refine XS.dconst0 X0.here hx rfl (hb hby ds0_0) (v := (0 : UInt64)) rfl ?_
    show Steps p.tables e below (s₁.setTop (mkF m 1 #[.val (.ref x0), .unset, .unset, .unset, .unset, .unset, .unset, .unset] [(.double (0 : UInt64))])) _
    refine XS.dstoreN X0.here hx rfl (hb hby ds0_1) rfl (l' := #[.val (.ref x0), .val (.double (0 : UInt64)), .second, .unset, .unset, .unset, .unset, .unset]) rfl ?_
    show Steps p.tables e below (s₁.setTop (mkF m 2 #[.val (.ref x0), .val (.double (0 : UInt64)), .second, .unset, .unset, .unset, .unset, .unset] [])) _
    refine XS.aloadN X0.here hx rfl (hb hby ds0_2) rfl rfl ?_
    show Steps p.tables e below (s₁.setTop (mkF m 3 #[.val (.ref x0), .val (.double (0 : UInt64)), .second, .unset, .unset, .unset, .unset, .unset] [(.ref x0)])) _
    refine XS.astoreN X0.here hx rfl (hb hby ds0_3) rfl rfl (l' := #[.val (.ref x0), .val (.double (0 : UInt64)), .second, .val (.ref x0), .unset, .unset, .unset, .unset]) rfl ?_
    show Steps p.tables e below (s₁.setTop (mkF m 4 #[.val (.ref x0), .val (.double (0 : UInt64)), .second, .val (.ref x0), .unset, .unset, .unset, .unset] [])) _
    refine XS.aloadN X0.here hx rfl (hb hby ds0_4) rfl rfl ?_
    exact k)
  obtain ⟨cl2, Ar2, -, Sz2, Ng2, -, -⟩ := id V0
  have p3 : ∀ t, Steps p.tables e below (s₁.setTop (mkF m 36 #[.val (.ref x0), .val (.double (0 : UInt64)), .second, .val (.ref x0), .val (.int (0 : Int32)), .val (.int (0 : Int32)), .unset, .unset] [(.double (0 : UInt64))])) t → Steps p.tables e below (s₁.setTop (entryFrame m #[(.ref x0)] 8)) t := fun t k => p1 t (by
    show Steps p.tables e below (s₁.setTop (mkF m 5 #[.val (.ref x0), .val (.double (0 : UInt64)), .second, .val (.ref x0), .unset, .unset, .unset, .unset] [(.ref x0)])) _
    refine X0.arraylength hx (by rw [e0]; exact Ar2.1) (State.isArrayOf_alike hZ.alike Ar2.2.1) (g := (mkF m 5 #[.val (.ref x0), .val (.double (0 : UInt64)), .second, .val (.ref x0), .unset, .unset, .unset, .unset] [(.ref x0)])) rfl rfl (hb hby ds0_5) _ ?_
    rw [len_of Sz2 Ng2]
    show Steps p.tables e below (s₁.setTop (mkF m 6 #[.val (.ref x0), .val (.double (0 : UInt64)), .second, .val (.ref x0), .unset, .unset, .unset, .unset] [(.int (0 : Int32))])) _
    refine XS.istore X0.here hx rfl (hb hby ds0_6) rfl (l' := #[.val (.ref x0), .val (.double (0 : UInt64)), .second, .val (.ref x0), .val (.int (0 : Int32)), .unset, .unset, .unset]) rfl ?_
    show Steps p.tables e below (s₁.setTop (mkF m 8 #[.val (.ref x0), .val (.double (0 : UInt64)), .second, .val (.ref x0), .val (.int (0 : Int32)), .unset, .unset, .unset] [])) _
    refine XS.iconst X0.here hx rfl (hb hby ds0_8) ?_
    show Steps p.tables e below (s₁.setTop (mkF m 9 #[.val (.ref x0), .val (.double (0 : UInt64)), .second, .val (.ref x0), .val (.int (0 : Int32)), .unset, .unset, .unset] [(.int (0 : Int32))])) _
    refine XS.istore X0.here hx rfl (hb hby ds0_9) rfl (l' := #[.val (.ref x0), .val (.double (0 : UInt64)), .second, .val (.ref x0), .val (.int (0 : Int32)), .val (.int (0 : Int32)), .unset, .unset]) rfl ?_
    show Steps p.tables e below (s₁.setTop (mkF m 11 #[.val (.ref x0), .val (.double (0 : UInt64)), .second, .val (.ref x0), .val (.int (0 : Int32)), .val (.int (0 : Int32)), .unset, .unset] [])) _
    refine XS.iload X0.here hx rfl (hb hby ds0_11) rfl ?_
    show Steps p.tables e below (s₁.setTop (mkF m 13 #[.val (.ref x0), .val (.double (0 : UInt64)), .second, .val (.ref x0), .val (.int (0 : Int32)), .val (.int (0 : Int32)), .unset, .unset] [(.int (0 : Int32))])) _
    refine XS.iload X0.here hx rfl (hb hby ds0_13) rfl ?_
    show Steps p.tables e below (s₁.setTop (mkF m 15 #[.val (.ref x0), .val (.double (0 : UInt64)), .second, .val (.ref x0), .val (.int (0 : Int32)), .val (.int (0 : Int32)), .unset, .unset] [(.int (0 : Int32)), (.int (0 : Int32))])) _
    refine XS.icmpYes X0.here hx rfl (pc0 := 15) (pc' := 35) rfl (hb hby ds0_15) rfl ((flt (by decide)).2.1) (by decide) (by decide) ?_
    show Steps p.tables e below (s₁.setTop (mkF m 35 #[.val (.ref x0), .val (.double (0 : UInt64)), .second, .val (.ref x0), .val (.int (0 : Int32)), .val (.int (0 : Int32)), .unset, .unset] [])) _
    refine XS.dloadN X0.here hx rfl (hb hby ds0_35) rfl ?_
    exact k)
  obtain ⟨fs, hr, hrun, hended, hW, hsame⟩ := X0.leave (v := some (.double (0 : UInt64))) (fun h => by rw [Bd.returns] at h; cases h)
  refine ⟨_, _, p3 _ ?_, hrun, hended, _, _, rfl, ?_, ⟨_, rfl⟩, hW, hsame.mono (by decide) (by decide)⟩
  · show Steps p.tables e below (s₁.setTop (mkF m 36 #[.val (.ref x0), .val (.double (0 : UInt64)), .second, .val (.ref x0), .val (.int (0 : Int32)), .val (.int (0 : Int32)), .unset, .unset] [(.double (0 : UInt64))])) _
    exact retOut X0 hx Bd.returns rfl (Or.inr (Or.inr (Or.inl ⟨rfl, rfl, _, rfl⟩))) (hb hby ds0_36) hr
  · show Qs0 Z x0 kk h0 n0 _ s₁.heap _
    rw [e0]
    exact ⟨rfl, N0, rfl⟩
theorem ds1_0 : decode prog_38_method_8_code 0 = .ok (.dconst 0, 1) := by decide +kernel
theorem ds1_1 : decode prog_38_method_8_code 1 = .ok (.dstore_n 1, 1) := by decide +kernel
theorem ds1_2 : decode prog_38_method_8_code 2 = .ok (.aload_n 0, 1) := by decide +kernel
theorem ds1_3 : decode prog_38_method_8_code 3 = .ok (.astore_n 3, 1) := by decide +kernel
theorem ds1_4 : decode prog_38_method_8_code 4 = .ok (.aload_n 3, 1) := by decide +kernel
theorem ds1_5 : decode prog_38_method_8_code 5 = .ok (.arraylength, 1) := by decide +kernel
theorem ds1_6 : decode prog_38_method_8_code 6 = .ok (.istore 4, 2) := by decide +kernel
theorem ds1_8 : decode prog_38_method_8_code 8 = .ok (.iconst 0, 1) := by decide +kernel
theorem ds1_9 : decode prog_38_method_8_code 9 = .ok (.istore 5, 2) := by decide +kernel
theorem ds1_11 : decode prog_38_method_8_code 11 = .ok (.iload 5, 2) := by decide +kernel
theorem ds1_13 : decode prog_38_method_8_code 13 = .ok (.iload 4, 2) := by decide +kernel
theorem ds1_15 : decode prog_38_method_8_code 15 = .ok (.if_icmp .ge 20, 3) := by decide +kernel
theorem ds1_18 : decode prog_38_method_8_code 18 = .ok (.aload_n 3, 1) := by decide +kernel
theorem ds1_19 : decode prog_38_method_8_code 19 = .ok (.iload 5, 2) := by decide +kernel
theorem ds1_21 : decode prog_38_method_8_code 21 = .ok (.daload, 1) := by decide +kernel
theorem ds1_22 : decode prog_38_method_8_code 22 = .ok (.dstore 6, 2) := by decide +kernel
theorem ds1_24 : decode prog_38_method_8_code 24 = .ok (.dload_n 1, 1) := by decide +kernel
theorem ds1_25 : decode prog_38_method_8_code 25 = .ok (.dload 6, 2) := by decide +kernel
theorem ds1_27 : decode prog_38_method_8_code 27 = .ok (.dadd, 1) := by decide +kernel
theorem ds1_28 : decode prog_38_method_8_code 28 = .ok (.dstore_n 1, 1) := by decide +kernel
theorem ds1_29 : decode prog_38_method_8_code 29 = .ok (.iinc 5 1, 3) := by decide +kernel
theorem ds1_32 : decode prog_38_method_8_code 32 = .ok (.goto (-21), 3) := by decide +kernel
theorem ds1_35 : decode prog_38_method_8_code 35 = .ok (.dload_n 1, 1) := by decide +kernel
theorem ds1_36 : decode prog_38_method_8_code 36 = .ok (.dreturn, 1) := by decide +kernel
theorem pns1 : plainName "com/example/kalchas/kalchas/evaluation/Evaluation" = true := by first | (simp [plainName, overriddenIn]; done) | decide +kernel
theorem efs1 (m : MethodId) (x0 : Addr) : entryFrame m #[(.ref x0)] 8 = mkF m 0 #[.val (.ref x0), .unset, .unset, .unset, .unset, .unset, .unset, .unset] [] := by first | (simp [entryFrame, mkF, argsToLocals, Value.category]; done) | rfl
def Qs1 (Z : State) (x0 : Addr) (kk : ClassId) (d0 : UInt64) (h0 : Heap) (n0 : Nat) (v : Option Value) (h : Heap) (L : List Loc) : Prop := v = some (.double (FP.dadd (0 : UInt64) d0)) ∧ Fr n0 L ∧ h = h0
set_option maxRecDepth 65536 in
set_option maxHeartbeats 40000000 in
theorem rms1 (l : Launch) (Z : State) (a0 : Array Value) (hw : ∀ d ∈ tables_1, d.before a0 Z = true) (ws : List Jvm.Cond) (x0 : Addr) (kk : ClassId) (d0 : UInt64) (h0 : Heap) (n0 : Nat) (Z0 : n0 ≤ h0.size) (V0 : Arv Z h0 x0 kk .double (1 : Int32) [(.double d0)] (.double (0 : UInt64))) (g0 : Jvm.Free.Fl.Mag64 1088 d0) :
    MetFree l (⟨"com/example/kalchas/kalchas/evaluation/Evaluation", "sum", "([D)D"⟩ : MethodName) (head1 (Jvm.Cond.code (⟨"com/example/kalchas/kalchas/evaluation/Evaluation", "sum", "([D)D"⟩ : MethodName) prog_38_method_8_code 8 (some .double) :: ws) ({ frames := 0, cells := 0, slots := 0, locals := 0 } : Room)) (fun a U => a = #[(.ref x0)] ∧ Z.Warmed39 U.vm ∧ U.heap = h0) (fun _ _ _ _ _ => True) (fun _ U o U' => ∃ v L, o = .returned v ∧ Qs1 Z x0 kk d0 h0 n0 v U'.heap L ∧ FrameEnd U o U' L ({ frames := 0, cells := 0, slots := 0, locals := 0 } : Room).cells ({ frames := 0, cells := 0, slots := 0, locals := 0 } : Room).slots) := by
  refine MetFree.of_bodySF (plainFor_of_name pns1) hisR ?_
  intro p e s m args below meth c s₁ Bd hml0 hP hK
  obtain ⟨rfl, hZ, hh⟩ := hP
  have hx := Bd.exec
  have hby := Bd.bytes
  have hml : c.maxLocals = 8 := hml0
  have hown : s.vm.findClass "com/example/kalchas/kalchas/evaluation/Evaluation" = some m.cls := findClass_of_methodNamed Bd.named
  have hnm := (name_of_methodNamed Bd.named Bd.method).1
  have X0 : Stand p l e ({ frames := 0, cells := 0, slots := 0, locals := 0 } : Room) s m #[(.ref x0)] below meth c s₁ [] 0 0 := Stand.of_body Bd
  have e0 : s₁.heap = h0 := by rw [← hh, Bd.state]; rfl
  have N0 := Fr.nil n0
  have pre0 : ∀ t, Steps p.tables e below (s₁.setTop (mkF m 0 #[.val (.ref x0), .unset, .unset, .unset, .unset, .unset, .unset, .unset] [])) t → Steps p.tables e below (s₁.setTop (entryFrame m #[(.ref x0)] 8)) t := fun t k => castTop (efs1 m x0) k
  have p1 : ∀ t, Steps p.tables e below (s₁.setTop (mkF m 5 #[.val (.ref x0), .val (.double (0 : UInt64)), .second, .val (.ref x0), .unset, .unset, .unset, .unset] [(.ref x0)])) t → Steps p.tables e below (s₁.setTop (entryFrame m #[(.ref x0)] 8)) t := fun t k => pre0 t (by
    show Steps p.tables e below (s₁.setTop (mkF m 0 #[.val (.ref x0), .unset, .unset, .unset, .unset, .unset, .unset, .unset] [])) _
    refine XS.dconst0 X0.here hx rfl (hb hby ds1_0) (v := (0 : UInt64)) rfl ?_
    show Steps p.tables e below (s₁.setTop (mkF m 1 #[.val (.ref x0), .unset, .unset, .unset, .unset, .unset, .unset, .unset] [(.double (0 : UInt64))])) _
    refine XS.dstoreN X0.here hx rfl (hb hby ds1_1) rfl (l' := #[.val (.ref x0), .val (.double (0 : UInt64)), .second, .unset, .unset, .unset, .unset, .unset]) rfl ?_
    show Steps p.tables e below (s₁.setTop (mkF m 2 #[.val (.ref x0), .val (.double (0 : UInt64)), .second, .unset, .unset, .unset, .unset, .unset] [])) _
    refine XS.aloadN X0.here hx rfl (hb hby ds1_2) rfl rfl ?_
    show Steps p.tables e below (s₁.setTop (mkF m 3 #[.val (.ref x0), .val (.double (0 : UInt64)), .second, .unset, .unset, .unset, .unset, .unset] [(.ref x0)])) _
    refine XS.astoreN X0.here hx rfl (hb hby ds1_3) rfl rfl (l' := #[.val (.ref x0), .val (.double (0 : UInt64)), .second, .val (.ref x0), .unset, .unset, .unset, .unset]) rfl ?_
    show Steps p.tables e below (s₁.setTop (mkF m 4 #[.val (.ref x0), .val (.double (0 : UInt64)), .second, .val (.ref x0), .unset, .unset, .unset, .unset] [])) _
    refine XS.aloadN X0.here hx rfl (hb hby ds1_4) rfl rfl ?_
    exact k)
  obtain ⟨cl2, Ar2, -, Sz2, Ng2, -, -⟩ := id V0
  have p3 : ∀ t, Steps p.tables e below (s₁.setTop (mkF m 21 #[.val (.ref x0), .val (.double (0 : UInt64)), .second, .val (.ref x0), .val (.int (1 : Int32)), .val (.int (0 : Int32)), .unset, .unset] [(.int (0 : Int32)), (.ref x0)])) t → Steps p.tables e below (s₁.setTop (entryFrame m #[(.ref x0)] 8)) t := fun t k => p1 t (by
    show Steps p.tables e below (s₁.setTop (mkF m 5 #[.val (.ref x0), .val (.double (0 : UInt64)), .second, .val (.ref x0), .unset, .unset, .unset, .unset] [(.ref x0)])) _
    refine X0.arraylength hx (by rw [e0]; exact Ar2.1) (State.isArrayOf_alike hZ.alike Ar2.2.1) (g := (mkF m 5 #[.val (.ref x0), .val (.double (0 : UInt64)), .second, .val (.ref x0), .unset, .unset, .unset, .unset] [(.ref x0)])) rfl rfl (hb hby ds1_5) _ ?_
    rw [len_of Sz2 Ng2]
    show Steps p.tables e below (s₁.setTop (mkF m 6 #[.val (.ref x0), .val (.double (0 : UInt64)), .second, .val (.ref x0), .unset, .unset, .unset, .unset] [(.int (1 : Int32))])) _
    refine XS.istore X0.here hx rfl (hb hby ds1_6) rfl (l' := #[.val (.ref x0), .val (.double (0 : UInt64)), .second, .val (.ref x0), .val (.int (1 : Int32)), .unset, .unset, .unset]) rfl ?_
    show Steps p.tables e below (s₁.setTop (mkF m 8 #[.val (.ref x0), .val (.double (0 : UInt64)), .second, .val (.ref x0), .val (.int (1 : Int32)), .unset, .unset, .unset] [])) _
    refine XS.iconst X0.here hx rfl (hb hby ds1_8) ?_
    show Steps p.tables e below (s₁.setTop (mkF m 9 #[.val (.ref x0), .val (.double (0 : UInt64)), .second, .val (.ref x0), .val (.int (1 : Int32)), .unset, .unset, .unset] [(.int (0 : Int32))])) _
    refine XS.istore X0.here hx rfl (hb hby ds1_9) rfl (l' := #[.val (.ref x0), .val (.double (0 : UInt64)), .second, .val (.ref x0), .val (.int (1 : Int32)), .val (.int (0 : Int32)), .unset, .unset]) rfl ?_
    show Steps p.tables e below (s₁.setTop (mkF m 11 #[.val (.ref x0), .val (.double (0 : UInt64)), .second, .val (.ref x0), .val (.int (1 : Int32)), .val (.int (0 : Int32)), .unset, .unset] [])) _
    refine XS.iload X0.here hx rfl (hb hby ds1_11) rfl ?_
    show Steps p.tables e below (s₁.setTop (mkF m 13 #[.val (.ref x0), .val (.double (0 : UInt64)), .second, .val (.ref x0), .val (.int (1 : Int32)), .val (.int (0 : Int32)), .unset, .unset] [(.int (0 : Int32))])) _
    refine XS.iload X0.here hx rfl (hb hby ds1_13) rfl ?_
    show Steps p.tables e below (s₁.setTop (mkF m 15 #[.val (.ref x0), .val (.double (0 : UInt64)), .second, .val (.ref x0), .val (.int (1 : Int32)), .val (.int (0 : Int32)), .unset, .unset] [(.int (1 : Int32)), (.int (0 : Int32))])) _
    refine XS.icmpNo X0.here hx rfl (hb hby ds1_15) rfl ((tlt (by decide)).2.1) ?_
    show Steps p.tables e below (s₁.setTop (mkF m 18 #[.val (.ref x0), .val (.double (0 : UInt64)), .second, .val (.ref x0), .val (.int (1 : Int32)), .val (.int (0 : Int32)), .unset, .unset] [])) _
    refine XS.aloadN X0.here hx rfl (hb hby ds1_18) rfl rfl ?_
    show Steps p.tables e below (s₁.setTop (mkF m 19 #[.val (.ref x0), .val (.double (0 : UInt64)), .second, .val (.ref x0), .val (.int (1 : Int32)), .val (.int (0 : Int32)), .unset, .unset] [(.ref x0)])) _
    refine XS.iload X0.here hx rfl (hb hby ds1_19) rfl ?_
    exact k)
  obtain ⟨cl4, Ar4, q4, Sz4, Ng4, Hs4, G4⟩ := id V0
  have hin4 : ¬ ((0 : Int32) < 0 ∨ cl4.slots.size ≤ ((0 : Int32)).toNatClampNeg) := inb_of Sz4 ⟨by decide, by decide⟩
  have hat4 : cl4.slots[((0 : Int32)).toNatClampNeg]? = some (.double d0) := Hs4.at hin4 (rfl)
  have p5 : ∀ t, Steps p.tables e below (s₁.setTop (mkF m 36 #[.val (.ref x0), .val (.double (FP.dadd (0 : UInt64) d0)), .second, .val (.ref x0), .val (.int (1 : Int32)), .val (.int ((0 : Int32) + (1 : Int32))), .val (.double d0), .second] [(.double (FP.dadd (0 : UInt64) d0))])) t → Steps p.tables e below (s₁.setTop (entryFrame m #[(.ref x0)] 8)) t := fun t k => p3 t (by
    show Steps p.tables e below (s₁.setTop (mkF m 21 #[.val (.ref x0), .val (.double (0 : UInt64)), .second, .val (.ref x0), .val (.int (1 : Int32)), .val (.int (0 : Int32)), .unset, .unset] [(.int (0 : Int32)), (.ref x0)])) _
    refine X0.daload hx (j := (0 : Int32)) (v := (.double d0)) (by rw [e0]; exact Ar4.1) (State.isArrayOf_alike hZ.alike Ar4.2.1) Ar4.2.2 hin4 hat4 (g := (mkF m 21 #[.val (.ref x0), .val (.double (0 : UInt64)), .second, .val (.ref x0), .val (.int (1 : Int32)), .val (.int (0 : Int32)), .unset, .unset] [(.int (0 : Int32)), (.ref x0)])) rfl rfl (hb hby ds1_21) _ ?_
    show Steps p.tables e below (s₁.setTop (mkF m 22 #[.val (.ref x0), .val (.double (0 : UInt64)), .second, .val (.ref x0), .val (.int (1 : Int32)), .val (.int (0 : Int32)), .unset, .unset] [(.double d0)])) _
    refine XS.dstore X0.here hx rfl (hb hby ds1_22) rfl (l' := #[.val (.ref x0), .val (.double (0 : UInt64)), .second, .val (.ref x0), .val (.int (1 : Int32)), .val (.int (0 : Int32)), .val (.double d0), .second]) rfl ?_
    show Steps p.tables e below (s₁.setTop (mkF m 24 #[.val (.ref x0), .val (.double (0 : UInt64)), .second, .val (.ref x0), .val (.int (1 : Int32)), .val (.int (0 : Int32)), .val (.double d0), .second] [])) _
    refine XS.dloadN X0.here hx rfl (hb hby ds1_24) rfl ?_
    show Steps p.tables e below (s₁.setTop (mkF m 25 #[.val (.ref x0), .val (.double (0 : UInt64)), .second, .val (.ref x0), .val (.int (1 : Int32)), .val (.int (0 : Int32)), .val (.double d0), .second] [(.double (0 : UInt64))])) _
    refine XS.dload X0.here hx rfl (hb hby ds1_25) rfl ?_
    show Steps p.tables e below (s₁.setTop (mkF m 27 #[.val (.ref x0), .val (.double (0 : UInt64)), .second, .val (.ref x0), .val (.int (1 : Int32)), .val (.int (0 : Int32)), .val (.double d0), .second] [(.double d0), (.double (0 : UInt64))])) _
    refine XS.daddS X0.here hx rfl (hb hby ds1_27) rfl (own_nn (own_s1 g0) (by decide)) (v := (FP.dadd (0 : UInt64) d0)) rfl ?_
    show Steps p.tables e below (s₁.setTop (mkF m 28 #[.val (.ref x0), .val (.double (0 : UInt64)), .second, .val (.ref x0), .val (.int (1 : Int32)), .val (.int (0 : Int32)), .val (.double d0), .second] [(.double (FP.dadd (0 : UInt64) d0))])) _
    refine XS.dstoreN X0.here hx rfl (hb hby ds1_28) rfl (l' := #[.val (.ref x0), .val (.double (FP.dadd (0 : UInt64) d0)), .second, .val (.ref x0), .val (.int (1 : Int32)), .val (.int (0 : Int32)), .val (.double d0), .second]) rfl ?_
    show Steps p.tables e below (s₁.setTop (mkF m 29 #[.val (.ref x0), .val (.double (FP.dadd (0 : UInt64) d0)), .second, .val (.ref x0), .val (.int (1 : Int32)), .val (.int (0 : Int32)), .val (.double d0), .second] [])) _
    refine XS.iinc X0.here hx rfl (hb hby ds1_29) rfl (l' := #[.val (.ref x0), .val (.double (FP.dadd (0 : UInt64) d0)), .second, .val (.ref x0), .val (.int (1 : Int32)), .val (.int ((0 : Int32) + (1 : Int32))), .val (.double d0), .second]) rfl ?_
    show Steps p.tables e below (s₁.setTop (mkF m 32 #[.val (.ref x0), .val (.double (FP.dadd (0 : UInt64) d0)), .second, .val (.ref x0), .val (.int (1 : Int32)), .val (.int ((0 : Int32) + (1 : Int32))), .val (.double d0), .second] [])) _
    refine XS.goto X0.here hx rfl (pc0 := 32) (pc' := 11) rfl (hb hby ds1_32) (by decide) (by decide) ?_
    show Steps p.tables e below (s₁.setTop (mkF m 11 #[.val (.ref x0), .val (.double (FP.dadd (0 : UInt64) d0)), .second, .val (.ref x0), .val (.int (1 : Int32)), .val (.int ((0 : Int32) + (1 : Int32))), .val (.double d0), .second] [])) _
    refine XS.iload X0.here hx rfl (hb hby ds1_11) rfl ?_
    show Steps p.tables e below (s₁.setTop (mkF m 13 #[.val (.ref x0), .val (.double (FP.dadd (0 : UInt64) d0)), .second, .val (.ref x0), .val (.int (1 : Int32)), .val (.int ((0 : Int32) + (1 : Int32))), .val (.double d0), .second] [(.int ((0 : Int32) + (1 : Int32)))])) _
    refine XS.iload X0.here hx rfl (hb hby ds1_13) rfl ?_
    show Steps p.tables e below (s₁.setTop (mkF m 15 #[.val (.ref x0), .val (.double (FP.dadd (0 : UInt64) d0)), .second, .val (.ref x0), .val (.int (1 : Int32)), .val (.int ((0 : Int32) + (1 : Int32))), .val (.double d0), .second] [(.int (1 : Int32)), (.int ((0 : Int32) + (1 : Int32)))])) _
    refine XS.icmpYes X0.here hx rfl (pc0 := 15) (pc' := 35) rfl (hb hby ds1_15) rfl ((flt (by decide)).2.1) (by decide) (by decide) ?_
    show Steps p.tables e below (s₁.setTop (mkF m 35 #[.val (.ref x0), .val (.double (FP.dadd (0 : UInt64) d0)), .second, .val (.ref x0), .val (.int (1 : Int32)), .val (.int ((0 : Int32) + (1 : Int32))), .val (.double d0), .second] [])) _
    refine XS.dloadN X0.here hx rfl (hb hby ds1_35) rfl ?_
    exact k)
  obtain ⟨fs, hr, hrun, hended, hW, hsame⟩ := X0.leave (v := some (.double (FP.dadd (0 : UInt64) d0))) (fun h => by rw [Bd.returns] at h; cases h)
  refine ⟨_, _, p5 _ ?_, hrun, hended, _, _, rfl, ?_, ⟨_, rfl⟩, hW, hsame.mono (by decide) (by decide)⟩
  · show Steps p.tables e below (s₁.setTop (mkF m 36 #[.val (.ref x0), .val (.double (FP.dadd (0 : UInt64) d0)), .second, .val (.ref x0), .val (.int (1 : Int32)), .val (.int ((0 : Int32) + (1 : Int32))), .val (.double d0), .second] [(.double (FP.dadd (0 : UInt64) d0))])) _
    exact retOut X0 hx Bd.returns rfl (Or.inr (Or.inr (Or.inl ⟨rfl, rfl, _, rfl⟩))) (hb hby ds1_36) hr
  · show Qs1 Z x0 kk d0 h0 n0 _ s₁.heap _
    rw [e0]
    exact ⟨rfl, N0, rfl⟩
theorem ds2_0 : decode prog_38_method_8_code 0 = .ok (.dconst 0, 1) := by decide +kernel
theorem ds2_1 : decode prog_38_method_8_code 1 = .ok (.dstore_n 1, 1) := by decide +kernel
theorem ds2_2 : decode prog_38_method_8_code 2 = .ok (.aload_n 0, 1) := by decide +kernel
theorem ds2_3 : decode prog_38_method_8_code 3 = .ok (.astore_n 3, 1) := by decide +kernel
theorem ds2_4 : decode prog_38_method_8_code 4 = .ok (.aload_n 3, 1) := by decide +kernel
theorem ds2_5 : decode prog_38_method_8_code 5 = .ok (.arraylength, 1) := by decide +kernel
theorem ds2_6 : decode prog_38_method_8_code 6 = .ok (.istore 4, 2) := by decide +kernel
theorem ds2_8 : decode prog_38_method_8_code 8 = .ok (.iconst 0, 1) := by decide +kernel
theorem ds2_9 : decode prog_38_method_8_code 9 = .ok (.istore 5, 2) := by decide +kernel
theorem ds2_11 : decode prog_38_method_8_code 11 = .ok (.iload 5, 2) := by decide +kernel
theorem ds2_13 : decode prog_38_method_8_code 13 = .ok (.iload 4, 2) := by decide +kernel
theorem ds2_15 : decode prog_38_method_8_code 15 = .ok (.if_icmp .ge 20, 3) := by decide +kernel
theorem ds2_18 : decode prog_38_method_8_code 18 = .ok (.aload_n 3, 1) := by decide +kernel
theorem ds2_19 : decode prog_38_method_8_code 19 = .ok (.iload 5, 2) := by decide +kernel
theorem ds2_21 : decode prog_38_method_8_code 21 = .ok (.daload, 1) := by decide +kernel
theorem ds2_22 : decode prog_38_method_8_code 22 = .ok (.dstore 6, 2) := by decide +kernel
theorem ds2_24 : decode prog_38_method_8_code 24 = .ok (.dload_n 1, 1) := by decide +kernel
theorem ds2_25 : decode prog_38_method_8_code 25 = .ok (.dload 6, 2) := by decide +kernel
theorem ds2_27 : decode prog_38_method_8_code 27 = .ok (.dadd, 1) := by decide +kernel
theorem ds2_28 : decode prog_38_method_8_code 28 = .ok (.dstore_n 1, 1) := by decide +kernel
theorem ds2_29 : decode prog_38_method_8_code 29 = .ok (.iinc 5 1, 3) := by decide +kernel
theorem ds2_32 : decode prog_38_method_8_code 32 = .ok (.goto (-21), 3) := by decide +kernel
theorem ds2_35 : decode prog_38_method_8_code 35 = .ok (.dload_n 1, 1) := by decide +kernel
theorem ds2_36 : decode prog_38_method_8_code 36 = .ok (.dreturn, 1) := by decide +kernel
theorem pns2 : plainName "com/example/kalchas/kalchas/evaluation/Evaluation" = true := by first | (simp [plainName, overriddenIn]; done) | decide +kernel
theorem efs2 (m : MethodId) (x0 : Addr) : entryFrame m #[(.ref x0)] 8 = mkF m 0 #[.val (.ref x0), .unset, .unset, .unset, .unset, .unset, .unset, .unset] [] := by first | (simp [entryFrame, mkF, argsToLocals, Value.category]; done) | rfl
def Qs2 (Z : State) (x0 : Addr) (kk : ClassId) (d0 : UInt64) (d1 : UInt64) (h0 : Heap) (n0 : Nat) (v : Option Value) (h : Heap) (L : List Loc) : Prop := v = some (.double (FP.dadd (FP.dadd (0 : UInt64) d0) d1)) ∧ Fr n0 L ∧ h = h0
set_option maxRecDepth 65536 in
set_option maxHeartbeats 40000000 in
theorem rms2 (l : Launch) (Z : State) (a0 : Array Value) (hw : ∀ d ∈ tables_1, d.before a0 Z = true) (ws : List Jvm.Cond) (x0 : Addr) (kk : ClassId) (d0 : UInt64) (d1 : UInt64) (h0 : Heap) (n0 : Nat) (Z0 : n0 ≤ h0.size) (V0 : Arv Z h0 x0 kk .double (2 : Int32) [(.double d0), (.double d1)] (.double (0 : UInt64))) (g0 : Jvm.Free.Fl.Mag64 1088 d0) (g1 : Jvm.Free.Fl.Mag64 1088 d1) :
    MetFree l (⟨"com/example/kalchas/kalchas/evaluation/Evaluation", "sum", "([D)D"⟩ : MethodName) (head1 (Jvm.Cond.code (⟨"com/example/kalchas/kalchas/evaluation/Evaluation", "sum", "([D)D"⟩ : MethodName) prog_38_method_8_code 8 (some .double) :: ws) ({ frames := 0, cells := 0, slots := 0, locals := 0 } : Room)) (fun a U => a = #[(.ref x0)] ∧ Z.Warmed39 U.vm ∧ U.heap = h0) (fun _ _ _ _ _ => True) (fun _ U o U' => ∃ v L, o = .returned v ∧ Qs2 Z x0 kk d0 d1 h0 n0 v U'.heap L ∧ FrameEnd U o U' L ({ frames := 0, cells := 0, slots := 0, locals := 0 } : Room).cells ({ frames := 0, cells := 0, slots := 0, locals := 0 } : Room).slots) := by
  refine MetFree.of_bodySF (plainFor_of_name pns2) hisR ?_
  intro p e s m args below meth c s₁ Bd hml0 hP hK
  obtain ⟨rfl, hZ, hh⟩ := hP
  have hx := Bd.exec
  have hby := Bd.bytes
  have hml : c.maxLocals = 8 := hml0
  have hown : s.vm.findClass "com/example/kalchas/kalchas/evaluation/Evaluation" = some m.cls := findClass_of_methodNamed Bd.named
  have hnm := (name_of_methodNamed Bd.named Bd.method).1
  have X0 : Stand p l e ({ frames := 0, cells := 0, slots := 0, locals := 0 } : Room) s m #[(.ref x0)] below meth c s₁ [] 0 0 := Stand.of_body Bd
  have e0 : s₁.heap = h0 := by rw [← hh, Bd.state]; rfl
  have N0 := Fr.nil n0
  have pre0 : ∀ t, Steps p.tables e below (s₁.setTop (mkF m 0 #[.val (.ref x0), .unset, .unset, .unset, .unset, .unset, .unset, .unset] [])) t → Steps p.tables e below (s₁.setTop (entryFrame m #[(.ref x0)] 8)) t := fun t k => castTop (efs2 m x0) k
  have p1 : ∀ t, Steps p.tables e below (s₁.setTop (mkF m 5 #[.val (.ref x0), .val (.double (0 : UInt64)), .second, .val (.ref x0), .unset, .unset, .unset, .unset] [(.ref x0)])) t → Steps p.tables e below (s₁.setTop (entryFrame m #[(.ref x0)] 8)) t := fun t k => pre0 t (by
    show Steps p.tables e below (s₁.setTop (mkF m 0 #[.val (.ref x0), .unset, .unset, .unset, .unset, .unset, .unset, .unset] [])) _
    refine XS.dconst0 X0.here hx rfl (hb hby ds2_0) (v := (0 : UInt64)) rfl ?_
    show Steps p.tables e below (s₁.setTop (mkF m 1 #[.val (.ref x0), .unset, .unset, .unset, .unset, .unset, .unset, .unset] [(.double (0 : UInt64))])) _
    refine XS.dstoreN X0.here hx rfl (hb hby ds2_1) rfl (l' := #[.val (.ref x0), .val (.double (0 : UInt64)), .second, .unset, .unset, .unset, .unset, .unset]) rfl ?_
    show Steps p.tables e below (s₁.setTop (mkF m 2 #[.val (.ref x0), .val (.double (0 : UInt64)), .second, .unset, .unset, .unset, .unset, .unset] [])) _
    refine XS.aloadN X0.here hx rfl (hb hby ds2_2) rfl rfl ?_
    show Steps p.tables e below (s₁.setTop (mkF m 3 #[.val (.ref x0), .val (.double (0 : UInt64)), .second, .unset, .unset, .unset, .unset, .unset] [(.ref x0)])) _
    refine XS.astoreN X0.here hx rfl (hb hby ds2_3) rfl rfl (l' := #[.val (.ref x0), .val (.double (0 : UInt64)), .second, .val (.ref x0), .unset, .unset, .unset, .unset]) rfl ?_
    show Steps p.tables e below (s₁.setTop (mkF m 4 #[.val (.ref x0), .val (.double (0 : UInt64)), .second, .val (.ref x0), .unset, .unset, .unset, .unset] [])) _
    refine XS.aloadN X0.here hx rfl (hb hby ds2_4) rfl rfl ?_
    exact k)
  obtain ⟨cl2, Ar2, -, Sz2, Ng2, -, -⟩ := id V0
  have p3 : ∀ t, Steps p.tables e below (s₁.setTop (mkF m 21 #[.val (.ref x0), .val (.double (0 : UInt64)), .second, .val (.ref x0), .val (.int (2 : Int32)), .val (.int (0 : Int32)), .unset, .unset] [(.int (0 : Int32)), (.ref x0)])) t → Steps p.tables e below (s₁.setTop (entryFrame m #[(.ref x0)] 8)) t := fun t k => p1 t (by
    show Steps p.tables e below (s₁.setTop (mkF m 5 #[.val (.ref x0), .val (.double (0 : UInt64)), .second, .val (.ref x0), .unset, .unset, .unset, .unset] [(.ref x0)])) _
    refine X0.arraylength hx (by rw [e0]; exact Ar2.1) (State.isArrayOf_alike hZ.alike Ar2.2.1) (g := (mkF m 5 #[.val (.ref x0), .val (.double (0 : UInt64)), .second, .val (.ref x0), .unset, .unset, .unset, .unset] [(.ref x0)])) rfl rfl (hb hby ds2_5) _ ?_
    rw [len_of Sz2 Ng2]
    show Steps p.tables e below (s₁.setTop (mkF m 6 #[.val (.ref x0), .val (.double (0 : UInt64)), .second, .val (.ref x0), .unset, .unset, .unset, .unset] [(.int (2 : Int32))])) _
    refine XS.istore X0.here hx rfl (hb hby ds2_6) rfl (l' := #[.val (.ref x0), .val (.double (0 : UInt64)), .second, .val (.ref x0), .val (.int (2 : Int32)), .unset, .unset, .unset]) rfl ?_
    show Steps p.tables e below (s₁.setTop (mkF m 8 #[.val (.ref x0), .val (.double (0 : UInt64)), .second, .val (.ref x0), .val (.int (2 : Int32)), .unset, .unset, .unset] [])) _
    refine XS.iconst X0.here hx rfl (hb hby ds2_8) ?_
    show Steps p.tables e below (s₁.setTop (mkF m 9 #[.val (.ref x0), .val (.double (0 : UInt64)), .second, .val (.ref x0), .val (.int (2 : Int32)), .unset, .unset, .unset] [(.int (0 : Int32))])) _
    refine XS.istore X0.here hx rfl (hb hby ds2_9) rfl (l' := #[.val (.ref x0), .val (.double (0 : UInt64)), .second, .val (.ref x0), .val (.int (2 : Int32)), .val (.int (0 : Int32)), .unset, .unset]) rfl ?_
    show Steps p.tables e below (s₁.setTop (mkF m 11 #[.val (.ref x0), .val (.double (0 : UInt64)), .second, .val (.ref x0), .val (.int (2 : Int32)), .val (.int (0 : Int32)), .unset, .unset] [])) _
    refine XS.iload X0.here hx rfl (hb hby ds2_11) rfl ?_
    show Steps p.tables e below (s₁.setTop (mkF m 13 #[.val (.ref x0), .val (.double (0 : UInt64)), .second, .val (.ref x0), .val (.int (2 : Int32)), .val (.int (0 : Int32)), .unset, .unset] [(.int (0 : Int32))])) _
    refine XS.iload X0.here hx rfl (hb hby ds2_13) rfl ?_
    show Steps p.tables e below (s₁.setTop (mkF m 15 #[.val (.ref x0), .val (.double (0 : UInt64)), .second, .val (.ref x0), .val (.int (2 : Int32)), .val (.int (0 : Int32)), .unset, .unset] [(.int (2 : Int32)), (.int (0 : Int32))])) _
    refine XS.icmpNo X0.here hx rfl (hb hby ds2_15) rfl ((tlt (by decide)).2.1) ?_
    show Steps p.tables e below (s₁.setTop (mkF m 18 #[.val (.ref x0), .val (.double (0 : UInt64)), .second, .val (.ref x0), .val (.int (2 : Int32)), .val (.int (0 : Int32)), .unset, .unset] [])) _
    refine XS.aloadN X0.here hx rfl (hb hby ds2_18) rfl rfl ?_
    show Steps p.tables e below (s₁.setTop (mkF m 19 #[.val (.ref x0), .val (.double (0 : UInt64)), .second, .val (.ref x0), .val (.int (2 : Int32)), .val (.int (0 : Int32)), .unset, .unset] [(.ref x0)])) _
    refine XS.iload X0.here hx rfl (hb hby ds2_19) rfl ?_
    exact k)
  obtain ⟨cl4, Ar4, q4, Sz4, Ng4, Hs4, G4⟩ := id V0
  have hin4 : ¬ ((0 : Int32) < 0 ∨ cl4.slots.size ≤ ((0 : Int32)).toNatClampNeg) := inb_of Sz4 ⟨by decide, by decide⟩
  have hat4 : cl4.slots[((0 : Int32)).toNatClampNeg]? = some (.double d0) := Hs4.at hin4 (rfl)
  have p5 : ∀ t, Steps p.tables e below (s₁.setTop (mkF m 21 #[.val (.ref x0), .val (.double (FP.dadd (0 : UInt64) d0)), .second, .val (.ref x0), .val (.int (2 : Int32)), .val (.int ((0 : Int32) + (1 : Int32))), .val (.double d0), .second] [(.int ((0 : Int32) + (1 : Int32))), (.ref x0)])) t → Steps p.tables e below (s₁.setTop (entryFrame m #[(.ref x0)] 8)) t := fun t k => p3 t (by
    show Steps p.tables e below (s₁.setTop (mkF m 21 #[.val (.ref x0), .val (.double (0 : UInt64)), .second, .val (.ref x0), .val (.int (2 : Int32)), .val (.int (0 : Int32)), .unset, .unset] [(.int (0 : Int32)), (.ref x0)])) _
    refine X0.daload hx (j := (0 : Int32)) (v := (.double d0)) (by rw [e0]; exact Ar4.1) (State.isArrayOf_alike hZ.alike Ar4.2.1) Ar4.2.2 hin4 hat4 (g := (mkF m 21 #[.val (.ref x0), .val (.double (0 : UInt64)), .second, .val (.ref x0), .val (.int (2 : Int32)), .val (.int (0 : Int32)), .unset, .unset] [(.int (0 : Int32)), (.ref x0)])) rfl rfl (hb hby ds2_21) _ ?_
    show Steps p.tables e below (s₁.setTop (mkF m 22 #[.val (.ref x0), .val (.double (0 : UInt64)), .second, .val (.ref x0), .val (.int (2 : Int32)), .val (.int (0 : Int32)), .unset, .unset] [(.double d0)])) _
    refine XS.dstore X0.here hx rfl (hb hby ds2_22) rfl (l' := #[.val (.ref x0), .val (.double (0 : UInt64)), .second, .val (.ref x0), .val (.int (2 : Int32)), .val (.int (0 : Int32)), .val (.double d0), .second]) rfl ?_
    show Steps p.tables e below (s₁.setTop (mkF m 24 #[.val (.ref x0), .val (.double (0 : UInt64)), .second, .val (.ref x0), .val (.int (2 : Int32)), .val (.int (0 : Int32)), .val (.double d0), .second] [])) _
    refine XS.dloadN X0.here hx rfl (hb hby ds2_24) rfl ?_
    show Steps p.tables e below (s₁.setTop (mkF m 25 #[.val (.ref x0), .val (.double (0 : UInt64)), .second, .val (.ref x0), .val (.int (2 : Int32)), .val (.int (0 : Int32)), .val (.double d0), .second] [(.double (0 : UInt64))])) _
    refine XS.dload X0.here hx rfl (hb hby ds2_25) rfl ?_
    show Steps p.tables e below (s₁.setTop (mkF m 27 #[.val (.ref x0), .val (.double (0 : UInt64)), .second, .val (.ref x0), .val (.int (2 : Int32)), .val (.int (0 : Int32)), .val (.double d0), .second] [(.double d0), (.double (0 : UInt64))])) _
    refine XS.daddS X0.here hx rfl (hb hby ds2_27) rfl (own_nn (own_s1 g0) (by decide)) (v := (FP.dadd (0 : UInt64) d0)) rfl ?_
    show Steps p.tables e below (s₁.setTop (mkF m 28 #[.val (.ref x0), .val (.double (0 : UInt64)), .second, .val (.ref x0), .val (.int (2 : Int32)), .val (.int (0 : Int32)), .val (.double d0), .second] [(.double (FP.dadd (0 : UInt64) d0))])) _
    refine XS.dstoreN X0.here hx rfl (hb hby ds2_28) rfl (l' := #[.val (.ref x0), .val (.double (FP.dadd (0 : UInt64) d0)), .second, .val (.ref x0), .val (.int (2 : Int32)), .val (.int (0 : Int32)), .val (.double d0), .second]) rfl ?_
    show Steps p.tables e below (s₁.setTop (mkF m 29 #[.val (.ref x0), .val (.double (FP.dadd (0 : UInt64) d0)), .second, .val (.ref x0), .val (.int (2 : Int32)), .val (.int (0 : Int32)), .val (.double d0), .second] [])) _
    refine XS.iinc X0.here hx rfl (hb hby ds2_29) rfl (l' := #[.val (.ref x0), .val (.double (FP.dadd (0 : UInt64) d0)), .second, .val (.ref x0), .val (.int (2 : Int32)), .val (.int ((0 : Int32) + (1 : Int32))), .val (.double d0), .second]) rfl ?_
    show Steps p.tables e below (s₁.setTop (mkF m 32 #[.val (.ref x0), .val (.double (FP.dadd (0 : UInt64) d0)), .second, .val (.ref x0), .val (.int (2 : Int32)), .val (.int ((0 : Int32) + (1 : Int32))), .val (.double d0), .second] [])) _
    refine XS.goto X0.here hx rfl (pc0 := 32) (pc' := 11) rfl (hb hby ds2_32) (by decide) (by decide) ?_
    show Steps p.tables e below (s₁.setTop (mkF m 11 #[.val (.ref x0), .val (.double (FP.dadd (0 : UInt64) d0)), .second, .val (.ref x0), .val (.int (2 : Int32)), .val (.int ((0 : Int32) + (1 : Int32))), .val (.double d0), .second] [])) _
    refine XS.iload X0.here hx rfl (hb hby ds2_11) rfl ?_
    show Steps p.tables e below (s₁.setTop (mkF m 13 #[.val (.ref x0), .val (.double (FP.dadd (0 : UInt64) d0)), .second, .val (.ref x0), .val (.int (2 : Int32)), .val (.int ((0 : Int32) + (1 : Int32))), .val (.double d0), .second] [(.int ((0 : Int32) + (1 : Int32)))])) _
    refine XS.iload X0.here hx rfl (hb hby ds2_13) rfl ?_
    show Steps p.tables e below (s₁.setTop (mkF m 15 #[.val (.ref x0), .val (.double (FP.dadd (0 : UInt64) d0)), .second, .val (.ref x0), .val (.int (2 : Int32)), .val (.int ((0 : Int32) + (1 : Int32))), .val (.double d0), .second] [(.int (2 : Int32)), (.int ((0 : Int32) + (1 : Int32)))])) _
    refine XS.icmpNo X0.here hx rfl (hb hby ds2_15) rfl ((tlt (by decide)).2.1) ?_
    show Steps p.tables e below (s₁.setTop (mkF m 18 #[.val (.ref x0), .val (.double (FP.dadd (0 : UInt64) d0)), .second, .val (.ref x0), .val (.int (2 : Int32)), .val (.int ((0 : Int32) + (1 : Int32))), .val (.double d0), .second] [])) _
    refine XS.aloadN X0.here hx rfl (hb hby ds2_18) rfl rfl ?_
    show Steps p.tables e below (s₁.setTop (mkF m 19 #[.val (.ref x0), .val (.double (FP.dadd (0 : UInt64) d0)), .second, .val (.ref x0), .val (.int (2 : Int32)), .val (.int ((0 : Int32) + (1 : Int32))), .val (.double d0), .second] [(.ref x0)])) _
    refine XS.iload X0.here hx rfl (hb hby ds2_19) rfl ?_
    exact k)
  obtain ⟨cl6, Ar6, q6, Sz6, Ng6, Hs6, G6⟩ := id V0
  have hin6 : ¬ (((0 : Int32) + (1 : Int32)) < 0 ∨ cl6.slots.size ≤ (((0 : Int32) + (1 : Int32))).toNatClampNeg) := inb_of Sz6 ⟨by decide, by decide⟩
  have hat6 : cl6.slots[(((0 : Int32) + (1 : Int32))).toNatClampNeg]? = some (.double d1) := Hs6.at hin6 (rfl)
  have p7 : ∀ t, Steps p.tables e below (s₁.setTop (mkF m 36 #[.val (.ref x0), .val (.double (FP.dadd (FP.dadd (0 : UInt64) d0) d1)), .second, .val (.ref x0), .val (.int (2 : Int32)), .val (.int (((0 : Int32) + (1 : Int32)) + (1 : Int32))), .val (.double d1), .second] [(.double (FP.dadd (FP.dadd (0 : UInt64) d0) d1))])) t → Steps p.tables e below (s₁.setTop (entryFrame m #[(.ref x0)] 8)) t := fun t k => p5 t (by
    show Steps p.tables e below (s₁.setTop (mkF m 21 #[.val (.ref x0), .val (.double (FP.dadd (0 : UInt64) d0)), .second, .val (.ref x0), .val (.int (2 : Int32)), .val (.int ((0 : Int32) + (1 : Int32))), .val (.double d0), .second] [(.int ((0 : Int32) + (1 : Int32))), (.ref x0)])) _
    refine X0.daload hx (j := ((0 : Int32) + (1 : Int32))) (v := (.double d1)) (by rw [e0]; exact Ar6.1) (State.isArrayOf_alike hZ.alike Ar6.2.1) Ar6.2.2 hin6 hat6 (g := (mkF m 21 #[.val (.ref x0), .val (.double (FP.dadd (0 : UInt64) d0)), .second, .val (.ref x0), .val (.int (2 : Int32)), .val (.int ((0 : Int32) + (1 : Int32))), .val (.double d0), .second] [(.int ((0 : Int32) + (1 : Int32))), (.ref x0)])) rfl rfl (hb hby ds2_21) _ ?_
    show Steps p.tables e below (s₁.setTop (mkF m 22 #[.val (.ref x0), .val (.double (FP.dadd (0 : UInt64) d0)), .second, .val (.ref x0), .val (.int (2 : Int32)), .val (.int ((0 : Int32) + (1 : Int32))), .val (.double d0), .second] [(.double d1)])) _
    refine XS.dstore X0.here hx rfl (hb hby ds2_22) rfl (l' := #[.val (.ref x0), .val (.double (FP.dadd (0 : UInt64) d0)), .second, .val (.ref x0), .val (.int (2 : Int32)), .val (.int ((0 : Int32) + (1 : Int32))), .val (.double d1), .second]) rfl ?_
    show Steps p.tables e below (s₁.setTop (mkF m 24 #[.val (.ref x0), .val (.double (FP.dadd (0 : UInt64) d0)), .second, .val (.ref x0), .val (.int (2 : Int32)), .val (.int ((0 : Int32) + (1 : Int32))), .val (.double d1), .second] [])) _
    refine XS.dloadN X0.here hx rfl (hb hby ds2_24) rfl ?_
    show Steps p.tables e below (s₁.setTop (mkF m 25 #[.val (.ref x0), .val (.double (FP.dadd (0 : UInt64) d0)), .second, .val (.ref x0), .val (.int (2 : Int32)), .val (.int ((0 : Int32) + (1 : Int32))), .val (.double d1), .second] [(.double (FP.dadd (0 : UInt64) d0))])) _
    refine XS.dload X0.here hx rfl (hb hby ds2_25) rfl ?_
    show Steps p.tables e below (s₁.setTop (mkF m 27 #[.val (.ref x0), .val (.double (FP.dadd (0 : UInt64) d0)), .second, .val (.ref x0), .val (.int (2 : Int32)), .val (.int ((0 : Int32) + (1 : Int32))), .val (.double d1), .second] [(.double d1), (.double (FP.dadd (0 : UInt64) d0))])) _
    refine XS.daddS X0.here hx rfl (hb hby ds2_27) rfl (own_nn (own_s2 g0 g1) (by decide)) (v := (FP.dadd (FP.dadd (0 : UInt64) d0) d1)) rfl ?_
    show Steps p.tables e below (s₁.setTop (mkF m 28 #[.val (.ref x0), .val (.double (FP.dadd (0 : UInt64) d0)), .second, .val (.ref x0), .val (.int (2 : Int32)), .val (.int ((0 : Int32) + (1 : Int32))), .val (.double d1), .second] [(.double (FP.dadd (FP.dadd (0 : UInt64) d0) d1))])) _
    refine XS.dstoreN X0.here hx rfl (hb hby ds2_28) rfl (l' := #[.val (.ref x0), .val (.double (FP.dadd (FP.dadd (0 : UInt64) d0) d1)), .second, .val (.ref x0), .val (.int (2 : Int32)), .val (.int ((0 : Int32) + (1 : Int32))), .val (.double d1), .second]) rfl ?_
    show Steps p.tables e below (s₁.setTop (mkF m 29 #[.val (.ref x0), .val (.double (FP.dadd (FP.dadd (0 : UInt64) d0) d1)), .second, .val (.ref x0), .val (.int (2 : Int32)), .val (.int ((0 : Int32) + (1 : Int32))), .val (.double d1), .second] [])) _
    refine XS.iinc X0.here hx rfl (hb hby ds2_29) rfl (l' := #[.val (.ref x0), .val (.double (FP.dadd (FP.dadd (0 : UInt64) d0) d1)), .second, .val (.ref x0), .val (.int (2 : Int32)), .val (.int (((0 : Int32) + (1 : Int32)) + (1 : Int32))), .val (.double d1), .second]) rfl ?_
    show Steps p.tables e below (s₁.setTop (mkF m 32 #[.val (.ref x0), .val (.double (FP.dadd (FP.dadd (0 : UInt64) d0) d1)), .second, .val (.ref x0), .val (.int (2 : Int32)), .val (.int (((0 : Int32) + (1 : Int32)) + (1 : Int32))), .val (.double d1), .second] [])) _
    refine XS.goto X0.here hx rfl (pc0 := 32) (pc' := 11) rfl (hb hby ds2_32) (by decide) (by decide) ?_
    show Steps p.tables e below (s₁.setTop (mkF m 11 #[.val (.ref x0), .val (.double (FP.dadd (FP.dadd (0 : UInt64) d0) d1)), .second, .val (.ref x0), .val (.int (2 : Int32)), .val (.int (((0 : Int32) + (1 : Int32)) + (1 : Int32))), .val (.double d1), .second] [])) _
    refine XS.iload X0.here hx rfl (hb hby ds2_11) rfl ?_
    show Steps p.tables e below (s₁.setTop (mkF m 13 #[.val (.ref x0), .val (.double (FP.dadd (FP.dadd (0 : UInt64) d0) d1)), .second, .val (.ref x0), .val (.int (2 : Int32)), .val (.int (((0 : Int32) + (1 : Int32)) + (1 : Int32))), .val (.double d1), .second] [(.int (((0 : Int32) + (1 : Int32)) + (1 : Int32)))])) _
    refine XS.iload X0.here hx rfl (hb hby ds2_13) rfl ?_
    show Steps p.tables e below (s₁.setTop (mkF m 15 #[.val (.ref x0), .val (.double (FP.dadd (FP.dadd (0 : UInt64) d0) d1)), .second, .val (.ref x0), .val (.int (2 : Int32)), .val (.int (((0 : Int32) + (1 : Int32)) + (1 : Int32))), .val (.double d1), .second] [(.int (2 : Int32)), (.int (((0 : Int32) + (1 : Int32)) + (1 : Int32)))])) _
    refine XS.icmpYes X0.here hx rfl (pc0 := 15) (pc' := 35) rfl (hb hby ds2_15) rfl ((flt (by decide)).2.1) (by decide) (by decide) ?_
    show Steps p.tables e below (s₁.setTop (mkF m 35 #[.val (.ref x0), .val (.double (FP.dadd (FP.dadd (0 : UInt64) d0) d1)), .second, .val (.ref x0), .val (.int (2 : Int32)), .val (.int (((0 : Int32) + (1 : Int32)) + (1 : Int32))), .val (.double d1), .second] [])) _
    refine XS.dloadN X0.here hx rfl (hb hby ds2_35) rfl ?_
    exact k)
  obtain ⟨fs, hr, hrun, hended, hW, hsame⟩ := X0.leave (v := some (.double (FP.dadd (FP.dadd (0 : UInt64) d0) d1))) (fun h => by rw [Bd.returns] at h; cases h)
  refine ⟨_, _, p7 _ ?_, hrun, hended, _, _, rfl, ?_, ⟨_, rfl⟩, hW, hsame.mono (by decide) (by decide)⟩
  · show Steps p.tables e below (s₁.setTop (mkF m 36 #[.val (.ref x0), .val (.double (FP.dadd (FP.dadd (0 : UInt64) d0) d1)), .second, .val (.ref x0), .val (.int (2 : Int32)), .val (.int (((0 : Int32) + (1 : Int32)) + (1 : Int32))), .val (.double d1), .second] [(.double (FP.dadd (FP.dadd (0 : UInt64) d0) d1))])) _
    exact retOut X0 hx Bd.returns rfl (Or.inr (Or.inr (Or.inl ⟨rfl, rfl, _, rfl⟩))) (hb hby ds2_36) hr
  · show Qs2 Z x0 kk d0 d1 h0 n0 _ s₁.heap _
    rw [e0]
    exact ⟨rfl, N0, rfl⟩
theorem ds3_0 : decode prog_38_method_8_code 0 = .ok (.dconst 0, 1) := by decide +kernel
theorem ds3_1 : decode prog_38_method_8_code 1 = .ok (.dstore_n 1, 1) := by decide +kernel
theorem ds3_2 : decode prog_38_method_8_code 2 = .ok (.aload_n 0, 1) := by decide +kernel
theorem ds3_3 : decode prog_38_method_8_code 3 = .ok (.astore_n 3, 1) := by decide +kernel
theorem ds3_4 : decode prog_38_method_8_code 4 = .ok (.aload_n 3, 1) := by decide +kernel
theorem ds3_5 : decode prog_38_method_8_code 5 = .ok (.arraylength, 1) := by decide +kernel
theorem ds3_6 : decode prog_38_method_8_code 6 = .ok (.istore 4, 2) := by decide +kernel
theorem ds3_8 : decode prog_38_method_8_code 8 = .ok (.iconst 0, 1) := by decide +kernel
theorem ds3_9 : decode prog_38_method_8_code 9 = .ok (.istore 5, 2) := by decide +kernel
theorem ds3_11 : decode prog_38_method_8_code 11 = .ok (.iload 5, 2) := by decide +kernel
theorem ds3_13 : decode prog_38_method_8_code 13 = .ok (.iload 4, 2) := by decide +kernel
theorem ds3_15 : decode prog_38_method_8_code 15 = .ok (.if_icmp .ge 20, 3) := by decide +kernel
theorem ds3_18 : decode prog_38_method_8_code 18 = .ok (.aload_n 3, 1) := by decide +kernel
theorem ds3_19 : decode prog_38_method_8_code 19 = .ok (.iload 5, 2) := by decide +kernel
theorem ds3_21 : decode prog_38_method_8_code 21 = .ok (.daload, 1) := by decide +kernel
theorem ds3_22 : decode prog_38_method_8_code 22 = .ok (.dstore 6, 2) := by decide +kernel
theorem ds3_24 : decode prog_38_method_8_code 24 = .ok (.dload_n 1, 1) := by decide +kernel
theorem ds3_25 : decode prog_38_method_8_code 25 = .ok (.dload 6, 2) := by decide +kernel
theorem ds3_27 : decode prog_38_method_8_code 27 = .ok (.dadd, 1) := by decide +kernel
theorem ds3_28 : decode prog_38_method_8_code 28 = .ok (.dstore_n 1, 1) := by decide +kernel
theorem ds3_29 : decode prog_38_method_8_code 29 = .ok (.iinc 5 1, 3) := by decide +kernel
theorem ds3_32 : decode prog_38_method_8_code 32 = .ok (.goto (-21), 3) := by decide +kernel
theorem ds3_35 : decode prog_38_method_8_code 35 = .ok (.dload_n 1, 1) := by decide +kernel
theorem ds3_36 : decode prog_38_method_8_code 36 = .ok (.dreturn, 1) := by decide +kernel
theorem pns3 : plainName "com/example/kalchas/kalchas/evaluation/Evaluation" = true := by first | (simp [plainName, overriddenIn]; done) | decide +kernel
theorem efs3 (m : MethodId) (x0 : Addr) : entryFrame m #[(.ref x0)] 8 = mkF m 0 #[.val (.ref x0), .unset, .unset, .unset, .unset, .unset, .unset, .unset] [] := by first | (simp [entryFrame, mkF, argsToLocals, Value.category]; done) | rfl
def Qs3 (Z : State) (x0 : Addr) (kk : ClassId) (d0 : UInt64) (d1 : UInt64) (d2 : UInt64) (h0 : Heap) (n0 : Nat) (v : Option Value) (h : Heap) (L : List Loc) : Prop := v = some (.double (FP.dadd (FP.dadd (FP.dadd (0 : UInt64) d0) d1) d2)) ∧ Fr n0 L ∧ h = h0
set_option maxRecDepth 65536 in
set_option maxHeartbeats 40000000 in
theorem rms3 (l : Launch) (Z : State) (a0 : Array Value) (hw : ∀ d ∈ tables_1, d.before a0 Z = true) (ws : List Jvm.Cond) (x0 : Addr) (kk : ClassId) (d0 : UInt64) (d1 : UInt64) (d2 : UInt64) (h0 : Heap) (n0 : Nat) (Z0 : n0 ≤ h0.size) (V0 : Arv Z h0 x0 kk .double (3 : Int32) [(.double d0), (.double d1), (.double d2)] (.double (0 : UInt64))) (g0 : Jvm.Free.Fl.Mag64 1088 d0) (g1 : Jvm.Free.Fl.Mag64 1088 d1) (g2 : Jvm.Free.Fl.Mag64 1088 d2) :
    MetFree l (⟨"com/example/kalchas/kalchas/evaluation/Evaluation", "sum", "([D)D"⟩ : MethodName) (head1 (Jvm.Cond.code (⟨"com/example/kalchas/kalchas/evaluation/Evaluation", "sum", "([D)D"⟩ : MethodName) prog_38_method_8_code 8 (some .double) :: ws) ({ frames := 0, cells := 0, slots := 0, locals := 0 } : Room)) (fun a U => a = #[(.ref x0)] ∧ Z.Warmed39 U.vm ∧ U.heap = h0) (fun _ _ _ _ _ => True) (fun _ U o U' => ∃ v L, o = .returned v ∧ Qs3 Z x0 kk d0 d1 d2 h0 n0 v U'.heap L ∧ FrameEnd U o U' L ({ frames := 0, cells := 0, slots := 0, locals := 0 } : Room).cells ({ frames := 0, cells := 0, slots := 0, locals := 0 } : Room).slots) := by
  refine MetFree.of_bodySF (plainFor_of_name pns3) hisR ?_
  intro p e s m args below meth c s₁ Bd hml0 hP hK
  obtain ⟨rfl, hZ, hh⟩ := hP
  have hx := Bd.exec
  have hby := Bd.bytes
  have hml : c.maxLocals = 8 := hml0
  have hown : s.vm.findClass "com/example/kalchas/kalchas/evaluation/Evaluation" = some m.cls := findClass_of_methodNamed Bd.named
  have hnm := (name_of_methodNamed Bd.named Bd.method).1
  have X0 : Stand p l e ({ frames := 0, cells := 0, slots := 0, locals := 0 } : Room) s m #[(.ref x0)] below meth c s₁ [] 0 0 := Stand.of_body Bd
  have e0 : s₁.heap = h0 := by rw [← hh, Bd.state]; rfl
  have N0 := Fr.nil n0
  have pre0 : ∀ t, Steps p.tables e below (s₁.setTop (mkF m 0 #[.val (.ref x0), .unset, .unset, .unset, .unset, .unset, .unset, .unset] [])) t → Steps p.tables e below (s₁.setTop (entryFrame m #[(.ref x0)] 8)) t := fun t k => castTop (efs3 m x0) k
  have p1 : ∀ t, Steps p.tables e below (s₁.setTop (mkF m 5 #[.val (.ref x0), .val (.double (0 : UInt64)), .second, .val (.ref x0), .unset, .unset, .unset, .unset] [(.ref x0)])) t → Steps p.tables e below (s₁.setTop (entryFrame m #[(.ref x0)] 8)) t := fun t k => pre0 t (by
    show Steps p.tables e below (s₁.setTop (mkF m 0 #[.val (.ref x0), .unset, .unset, .unset, .unset, .unset, .unset, .unset] [])) _
    refine XS.dconst0 X0.here hx rfl (hb hby ds3_0) (v := (0 : UInt64)) rfl ?_
    show Steps p.tables e below (s₁.setTop (mkF m 1 #[.val (.ref x0), .unset, .unset, .unset, .unset, .unset, .unset, .unset] [(.double (0 : UInt64))])) _
    refine XS.dstoreN X0.here hx rfl (hb hby ds3_1) rfl (l' := #[.val (.ref x0), .val (.double (0 : UInt64)), .second, .unset, .unset, .unset, .unset, .unset]) rfl ?_
    show Steps p.tables e below (s₁.setTop (mkF m 2 #[.val (.ref x0), .val (.double (0 : UInt64)), .second, .unset, .unset, .unset, .unset, .unset] [])) _
    refine XS.aloadN X0.here hx rfl (hb hby ds3_2) rfl rfl ?_
    show Steps p.tables e below (s₁.setTop (mkF m 3 #[.val (.ref x0), .val (.double (0 : UInt64)), .second, .unset, .unset, .unset, .unset, .unset] [(.ref x0)])) _
    refine XS.astoreN X0.here hx rfl (hb hby ds3_3) rfl rfl (l' := #[.val (.ref x0), .val (.double (0 : UInt64)), .second, .val (.ref x0), .unset, .unset, .unset, .unset]) rfl ?_
    show Steps p.tables e below (s₁.setTop (mkF m 4 #[.val (.ref x0), .val (.double (0 : UInt64)), .second, .val (.ref x0), .unset, .unset, .unset, .unset] [])) _
    refine XS.aloadN X0.here hx rfl (hb hby ds3_4) rfl rfl ?_
    exact k)
  obtain ⟨cl2, Ar2, -, Sz2, Ng2, -, -⟩ := id V0
  have p3 : ∀ t, Steps p.tables e below (s₁.setTop (mkF m 21 #[.val (.ref x0), .val (.double (0 : UInt64)), .second, .val (.ref x0), .val (.int (3 : Int32)), .val (.int (0 : Int32)), .unset, .unset] [(.int (0 : Int32)), (.ref x0)])) t → Steps p.tables e below (s₁.setTop (entryFrame m #[(.ref x0)] 8)) t := fun t k => p1 t (by
    show Steps p.tables e below (s₁.setTop (mkF m 5 #[.val (.ref x0), .val (.double (0 : UInt64)), .second, .val (.ref x0), .unset, .unset, .unset, .unset] [(.ref x0)])) _
    refine X0.arraylength hx (by rw [e0]; exact Ar2.1) (State.isArrayOf_alike hZ.alike Ar2.2.1) (g := (mkF m 5 #[.val (.ref x0), .val (.double (0 : UInt64)), .second, .val (.ref x0), .unset, .unset, .unset, .unset] [(.ref x0)])) rfl rfl (hb hby ds3_5) _ ?_
    rw [len_of Sz2 Ng2]
    show Steps p.tables e below (s₁.setTop (mkF m 6 #[.val (.ref x0), .val (.double (0 : UInt64)), .second, .val (.ref x0), .unset, .unset, .unset, .unset] [(.int (3 : Int32))])) _
    refine XS.istore X0.here hx rfl (hb hby ds3_6) rfl (l' := #[.val (.ref x0), .val (.double (0 : UInt64)), .second, .val (.ref x0), .val (.int (3 : Int32)), .unset, .unset, .unset]) rfl ?_
    show Steps p.tables e below (s₁.setTop (mkF m 8 #[.val (.ref x0), .val (.double (0 : UInt64)), .second, .val (.ref x0), .val (.int (3 : Int32)), .unset, .unset, .unset] [])) _
    refine XS.iconst X0.here hx rfl (hb hby ds3_8) ?_
    show Steps p.tables e below (s₁.setTop (mkF m 9 #[.val (.ref x0), .val (.double (0 : UInt64)), .second, .val (.ref x0), .val (.int (3 : Int32)), .unset, .unset, .unset] [(.int (0 : Int32))])) _
    refine XS.istore X0.here hx rfl (hb hby ds3_9) rfl (l' := #[.val (.ref x0), .val (.double (0 : UInt64)), .second, .val (.ref x0), .val (.int (3 : Int32)), .val (.int (0 : Int32)), .unset, .unset]) rfl ?_
    show Steps p.tables e below (s₁.setTop (mkF m 11 #[.val (.ref x0), .val (.double (0 : UInt64)), .second, .val (.ref x0), .val (.int (3 : Int32)), .val (.int (0 : Int32)), .unset, .unset] [])) _
    refine XS.iload X0.here hx rfl (hb hby ds3_11) rfl ?_
    show Steps p.tables e below (s₁.setTop (mkF m 13 #[.val (.ref x0), .val (.double (0 : UInt64)), .second, .val (.ref x0), .val (.int (3 : Int32)), .val (.int (0 : Int32)), .unset, .unset] [(.int (0 : Int32))])) _
    refine XS.iload X0.here hx rfl (hb hby ds3_13) rfl ?_
    show Steps p.tables e below (s₁.setTop (mkF m 15 #[.val (.ref x0), .val (.double (0 : UInt64)), .second, .val (.ref x0), .val (.int (3 : Int32)), .val (.int (0 : Int32)), .unset, .unset] [(.int (3 : Int32)), (.int (0 : Int32))])) _
    refine XS.icmpNo X0.here hx rfl (hb hby ds3_15) rfl ((tlt (by decide)).2.1) ?_
    show Steps p.tables e below (s₁.setTop (mkF m 18 #[.val (.ref x0), .val (.double (0 : UInt64)), .second, .val (.ref x0), .val (.int (3 : Int32)), .val (.int (0 : Int32)), .unset, .unset] [])) _
    refine XS.aloadN X0.here hx rfl (hb hby ds3_18) rfl rfl ?_
    show Steps p.tables e below (s₁.setTop (mkF m 19 #[.val (.ref x0), .val (.double (0 : UInt64)), .second, .val (.ref x0), .val (.int (3 : Int32)), .val (.int (0 : Int32)), .unset, .unset] [(.ref x0)])) _
    refine XS.iload X0.here hx rfl (hb hby ds3_19) rfl ?_
    exact k)
  obtain ⟨cl4, Ar4, q4, Sz4, Ng4, Hs4, G4⟩ := id V0
  have hin4 : ¬ ((0 : Int32) < 0 ∨ cl4.slots.size ≤ ((0 : Int32)).toNatClampNeg) := inb_of Sz4 ⟨by decide, by decide⟩
  have hat4 : cl4.slots[((0 : Int32)).toNatClampNeg]? = some (.double d0) := Hs4.at hin4 (rfl)
  have p5 : ∀ t, Steps p.tables e below (s₁.setTop (mkF m 21 #[.val (.ref x0), .val (.double (FP.dadd (0 : UInt64) d0)), .second, .val (.ref x0), .val (.int (3 : Int32)), .val (.int ((0 : Int32) + (1 : Int32))), .val (.double d0), .second] [(.int ((0 : Int32) + (1 : Int32))), (.ref x0)])) t → Steps p.tables e below (s₁.setTop (entryFrame m #[(.ref x0)] 8)) t := fun t k => p3 t (by
    show Steps p.tables e below (s₁.setTop (mkF m 21 #[.val (.ref x0), .val (.double (0 : UInt64)), .second, .val (.ref x0), .val (.int (3 : Int32)), .val (.int (0 : Int32)), .unset, .unset] [(.int (0 : Int32)), (.ref x0)])) _
    refine X0.daload hx (j := (0 : Int32)) (v := (.double d0)) (by rw [e0]; exact Ar4.1) (State.isArrayOf_alike hZ.alike Ar4.2.1) Ar4.2.2 hin4 hat4 (g := (mkF m 21 #[.val (.ref x0), .val (.double (0 : UInt64)), .second, .val (.ref x0), .val (.int (3 : Int32)), .val (.int (0 : Int32)), .unset, .unset] [(.int (0 : Int32)), (.ref x0)])) rfl rfl (hb hby ds3_21) _ ?_
    show Steps p.tables e below (s₁.setTop (mkF m 22 #[.val (.ref x0), .val (.double (0 : UInt64)), .second, .val (.ref x0), .val (.int (3 : Int32)), .val (.int (0 : Int32)), .unset, .unset] [(.double d0)])) _
    refine XS.dstore X0.here hx rfl (hb hby ds3_22) rfl (l' := #[.val (.ref x0), .val (.double (0 : UInt64)), .second, .val (.ref x0), .val (.int (3 : Int32)), .val (.int (0 : Int32)), .val (.double d0), .second]) rfl ?_
    show Steps p.tables e below (s₁.setTop (mkF m 24 #[.val (.ref x0), .val (.double (0 : UInt64)), .second, .val (.ref x0), .val (.int (3 : Int32)), .val (.int (0 : Int32)), .val (.double d0), .second] [])) _
    refine XS.dloadN X0.here hx rfl (hb hby ds3_24) rfl ?_
    show Steps p.tables e below (s₁.setTop (mkF m 25 #[.val (.ref x0), .val (.double (0 : UInt64)), .second, .val (.ref x0), .val (.int (3 : Int32)), .val (.int (0 : Int32)), .val (.double d0), .second] [(.double (0 : UInt64))])) _
    refine XS.dload X0.here hx rfl (hb hby ds3_25) rfl ?_
    show Steps p.tables e below (s₁.setTop (mkF m 27 #[.val (.ref x0), .val (.double (0 : UInt64)), .second, .val (.ref x0), .val (.int (3 : Int32)), .val (.int (0 : Int32)), .val (.double d0), .second] [(.double d0), (.double (0 : UInt64))])) _
    refine XS.daddS X0.here hx rfl (hb hby ds3_27) rfl (own_nn (own_s1 g0) (by decide)) (v := (FP.dadd (0 : UInt64) d0)) rfl ?_
    show Steps p.tables e below (s₁.setTop (mkF m 28 #[.val (.ref x0), .val (.double (0 : UInt64)), .second, .val (.ref x0), .val (.int (3 : Int32)), .val (.int (0 : Int32)), .val (.double d0), .second] [(.double (FP.dadd (0 : UInt64) d0))])) _
    refine XS.dstoreN X0.here hx rfl (hb hby ds3_28) rfl (l' := #[.val (.ref x0), .val (.double (FP.dadd (0 : UInt64) d0)), .second, .val (.ref x0), .val (.int (3 : Int32)), .val (.int (0 : Int32)), .val (.double d0), .second]) rfl ?_
    show Steps p.tables e below (s₁.setTop (mkF m 29 #[.val (.ref x0), .val (.double (FP.dadd (0 : UInt64) d0)), .second, .val (.ref x0), .val (.int (3 : Int32)), .val (.int (0 : Int32)), .val (.double d0), .second] [])) _
    refine XS.iinc X0.here hx rfl (hb hby ds3_29) rfl (l' := #[.val (.ref x0), .val (.double (FP.dadd (0 : UInt64) d0)), .second, .val (.ref x0), .val (.int (3 : Int32)), .val (.int ((0 : Int32) + (1 : Int32))), .val (.double d0), .second]) rfl ?_
    show Steps p.tables e below (s₁.setTop (mkF m 32 #[.val (.ref x0), .val (.double (FP.dadd (0 : UInt64) d0)), .second, .val (.ref x0), .val (.int (3 : Int32)), .val (.int ((0 : Int32) + (1 : Int32))), .val (.double d0), .second] [])) _
    refine XS.goto X0.here hx rfl (pc0 := 32) (pc' := 11) rfl (hb hby ds3_32) (by decide) (by decide) ?_
    show Steps p.tables e below (s₁.setTop (mkF m 11 #[.val (.ref x0), .val (.double (FP.dadd (0 : UInt64) d0)), .second, .val (.ref x0), .val (.int (3 : Int32)), .val (.int ((0 : Int32) + (1 : Int32))), .val (.double d0), .second] [])) _
    refine XS.iload X0.here hx rfl (hb hby ds3_11) rfl ?_
    show Steps p.tables e below (s₁.setTop (mkF m 13 #[.val (.ref x0), .val (.double (FP.dadd (0 : UInt64) d0)), .second, .val (.ref x0), .val (.int (3 : Int32)), .val (.int ((0 : Int32) + (1 : Int32))), .val (.double d0), .second] [(.int ((0 : Int32) + (1 : Int32)))])) _
    refine XS.iload X0.here hx rfl (hb hby ds3_13) rfl ?_
    show Steps p.tables e below (s₁.setTop (mkF m 15 #[.val (.ref x0), .val (.double (FP.dadd (0 : UInt64) d0)), .second, .val (.ref x0), .val (.int (3 : Int32)), .val (.int ((0 : Int32) + (1 : Int32))), .val (.double d0), .second] [(.int (3 : Int32)), (.int ((0 : Int32) + (1 : Int32)))])) _
    refine XS.icmpNo X0.here hx rfl (hb hby ds3_15) rfl ((tlt (by decide)).2.1) ?_
    show Steps p.tables e below (s₁.setTop (mkF m 18 #[.val (.ref x0), .val (.double (FP.dadd (0 : UInt64) d0)), .second, .val (.ref x0), .val (.int (3 : Int32)), .val (.int ((0 : Int32) + (1 : Int32))), .val (.double d0), .second] [])) _
    refine XS.aloadN X0.here hx rfl (hb hby ds3_18) rfl rfl ?_
    show Steps p.tables e below (s₁.setTop (mkF m 19 #[.val (.ref x0), .val (.double (FP.dadd (0 : UInt64) d0)), .second, .val (.ref x0), .val (.int (3 : Int32)), .val (.int ((0 : Int32) + (1 : Int32))), .val (.double d0), .second] [(.ref x0)])) _
    refine XS.iload X0.here hx rfl (hb hby ds3_19) rfl ?_
    exact k)
  obtain ⟨cl6, Ar6, q6, Sz6, Ng6, Hs6, G6⟩ := id V0
  have hin6 : ¬ (((0 : Int32) + (1 : Int32)) < 0 ∨ cl6.slots.size ≤ (((0 : Int32) + (1 : Int32))).toNatClampNeg) := inb_of Sz6 ⟨by decide, by decide⟩
  have hat6 : cl6.slots[(((0 : Int32) + (1 : Int32))).toNatClampNeg]? = some (.double d1) := Hs6.at hin6 (rfl)
  have p7 : ∀ t, Steps p.tables e below (s₁.setTop (mkF m 21 #[.val (.ref x0), .val (.double (FP.dadd (FP.dadd (0 : UInt64) d0) d1)), .second, .val (.ref x0), .val (.int (3 : Int32)), .val (.int (((0 : Int32) + (1 : Int32)) + (1 : Int32))), .val (.double d1), .second] [(.int (((0 : Int32) + (1 : Int32)) + (1 : Int32))), (.ref x0)])) t → Steps p.tables e below (s₁.setTop (entryFrame m #[(.ref x0)] 8)) t := fun t k => p5 t (by
    show Steps p.tables e below (s₁.setTop (mkF m 21 #[.val (.ref x0), .val (.double (FP.dadd (0 : UInt64) d0)), .second, .val (.ref x0), .val (.int (3 : Int32)), .val (.int ((0 : Int32) + (1 : Int32))), .val (.double d0), .second] [(.int ((0 : Int32) + (1 : Int32))), (.ref x0)])) _
    refine X0.daload hx (j := ((0 : Int32) + (1 : Int32))) (v := (.double d1)) (by rw [e0]; exact Ar6.1) (State.isArrayOf_alike hZ.alike Ar6.2.1) Ar6.2.2 hin6 hat6 (g := (mkF m 21 #[.val (.ref x0), .val (.double (FP.dadd (0 : UInt64) d0)), .second, .val (.ref x0), .val (.int (3 : Int32)), .val (.int ((0 : Int32) + (1 : Int32))), .val (.double d0), .second] [(.int ((0 : Int32) + (1 : Int32))), (.ref x0)])) rfl rfl (hb hby ds3_21) _ ?_
    show Steps p.tables e below (s₁.setTop (mkF m 22 #[.val (.ref x0), .val (.double (FP.dadd (0 : UInt64) d0)), .second, .val (.ref x0), .val (.int (3 : Int32)), .val (.int ((0 : Int32) + (1 : Int32))), .val (.double d0), .second] [(.double d1)])) _
    refine XS.dstore X0.here hx rfl (hb hby ds3_22) rfl (l' := #[.val (.ref x0), .val (.double (FP.dadd (0 : UInt64) d0)), .second, .val (.ref x0), .val (.int (3 : Int32)), .val (.int ((0 : Int32) + (1 : Int32))), .val (.double d1), .second]) rfl ?_
    show Steps p.tables e below (s₁.setTop (mkF m 24 #[.val (.ref x0), .val (.double (FP.dadd (0 : UInt64) d0)), .second, .val (.ref x0), .val (.int (3 : Int32)), .val (.int ((0 : Int32) + (1 : Int32))), .val (.double d1), .second] [])) _
    refine XS.dloadN X0.here hx rfl (hb hby ds3_24) rfl ?_
    show Steps p.tables e below (s₁.setTop (mkF m 25 #[.val (.ref x0), .val (.double (FP.dadd (0 : UInt64) d0)), .second, .val (.ref x0), .val (.int (3 : Int32)), .val (.int ((0 : Int32) + (1 : Int32))), .val (.double d1), .second] [(.double (FP.dadd (0 : UInt64) d0))])) _
    refine XS.dload X0.here hx rfl (hb hby ds3_25) rfl ?_
    show Steps p.tables e below (s₁.setTop (mkF m 27 #[.val (.ref x0), .val (.double (FP.dadd (0 : UInt64) d0)), .second, .val (.ref x0), .val (.int (3 : Int32)), .val (.int ((0 : Int32) + (1 : Int32))), .val (.double d1), .second] [(.double d1), (.double (FP.dadd (0 : UInt64) d0))])) _
    refine XS.daddS X0.here hx rfl (hb hby ds3_27) rfl (own_nn (own_s2 g0 g1) (by decide)) (v := (FP.dadd (FP.dadd (0 : UInt64) d0) d1)) rfl ?_
    show Steps p.tables e below (s₁.setTop (mkF m 28 #[.val (.ref x0), .val (.double (FP.dadd (0 : UInt64) d0)), .second, .val (.ref x0), .val (.int (3 : Int32)), .val (.int ((0 : Int32) + (1 : Int32))), .val (.double d1), .second] [(.double (FP.dadd (FP.dadd (0 : UInt64) d0) d1))])) _
    refine XS.dstoreN X0.here hx rfl (hb hby ds3_28) rfl (l' := #[.val (.ref x0), .val (.double (FP.dadd (FP.dadd (0 : UInt64) d0) d1)), .second, .val (.ref x0), .val (.int (3 : Int32)), .val (.int ((0 : Int32) + (1 : Int32))), .val (.double d1), .second]) rfl ?_
    show Steps p.tables e below (s₁.setTop (mkF m 29 #[.val (.ref x0), .val (.double (FP.dadd (FP.dadd (0 : UInt64) d0) d1)), .second, .val (.ref x0), .val (.int (3 : Int32)), .val (.int ((0 : Int32) + (1 : Int32))), .val (.double d1), .second] [])) _
    refine XS.iinc X0.here hx rfl (hb hby ds3_29) rfl (l' := #[.val (.ref x0), .val (.double (FP.dadd (FP.dadd (0 : UInt64) d0) d1)), .second, .val (.ref x0), .val (.int (3 : Int32)), .val (.int (((0 : Int32) + (1 : Int32)) + (1 : Int32))), .val (.double d1), .second]) rfl ?_
    show Steps p.tables e below (s₁.setTop (mkF m 32 #[.val (.ref x0), .val (.double (FP.dadd (FP.dadd (0 : UInt64) d0) d1)), .second, .val (.ref x0), .val (.int (3 : Int32)), .val (.int (((0 : Int32) + (1 : Int32)) + (1 : Int32))), .val (.double d1), .second] [])) _
    refine XS.goto X0.here hx rfl (pc0 := 32) (pc' := 11) rfl (hb hby ds3_32) (by decide) (by decide) ?_
    show Steps p.tables e below (s₁.setTop (mkF m 11 #[.val (.ref x0), .val (.double (FP.dadd (FP.dadd (0 : UInt64) d0) d1)), .second, .val (.ref x0), .val (.int (3 : Int32)), .val (.int (((0 : Int32) + (1 : Int32)) + (1 : Int32))), .val (.double d1), .second] [])) _
    refine XS.iload X0.here hx rfl (hb hby ds3_11) rfl ?_
    show Steps p.tables e below (s₁.setTop (mkF m 13 #[.val (.ref x0), .val (.double (FP.dadd (FP.dadd (0 : UInt64) d0) d1)), .second, .val (.ref x0), .val (.int (3 : Int32)), .val (.int (((0 : Int32) + (1 : Int32)) + (1 : Int32))), .val (.double d1), .second] [(.int (((0 : Int32) + (1 : Int32)) + (1 : Int32)))])) _
    refine XS.iload X0.here hx rfl (hb hby ds3_13) rfl ?_
    show Steps p.tables e below (s₁.setTop (mkF m 15 #[.val (.ref x0), .val (.double (FP.dadd (FP.dadd (0 : UInt64) d0) d1)), .second, .val (.ref x0), .val (.int (3 : Int32)), .val (.int (((0 : Int32) + (1 : Int32)) + (1 : Int32))), .val (.double d1), .second] [(.int (3 : Int32)), (.int (((0 : Int32) + (1 : Int32)) + (1 : Int32)))])) _
    refine XS.icmpNo X0.here hx rfl (hb hby ds3_15) rfl ((tlt (by decide)).2.1) ?_
    show Steps p.tables e below (s₁.setTop (mkF m 18 #[.val (.ref x0), .val (.double (FP.dadd (FP.dadd (0 : UInt64) d0) d1)), .second, .val (.ref x0), .val (.int (3 : Int32)), .val (.int (((0 : Int32) + (1 : Int32)) + (1 : Int32))), .val (.double d1), .second] [])) _
    refine XS.aloadN X0.here hx rfl (hb hby ds3_18) rfl rfl ?_
    show Steps p.tables e below (s₁.setTop (mkF m 19 #[.val (.ref x0), .val (.double (FP.dadd (FP.dadd (0 : UInt64) d0) d1)), .second, .val (.ref x0), .val (.int (3 : Int32)), .val (.int (((0 : Int32) + (1 : Int32)) + (1 : Int32))), .val (.double d1), .second] [(.ref x0)])) _
    refine XS.iload X0.here hx rfl (hb hby ds3_19) rfl ?_
    exact k)
  obtain ⟨cl8, Ar8, q8, Sz8, Ng8, Hs8, G8⟩ := id V0
  have hin8 : ¬ ((((0 : Int32) + (1 : Int32)) + (1 : Int32)) < 0 ∨ cl8.slots.size ≤ ((((0 : Int32) + (1 : Int32)) + (1 : Int32))).toNatClampNeg) := inb_of Sz8 ⟨by decide, by decide⟩
  have hat8 : cl8.slots[((((0 : Int32) + (1 : Int32)) + (1 : Int32))).toNatClampNeg]? = some (.double d2) := Hs8.at hin8 (rfl)
  have p9 : ∀ t, Steps p.tables e below (s₁.setTop (mkF m 36 #[.val (.ref x0), .val (.double (FP.dadd (FP.dadd (FP.dadd (0 : UInt64) d0) d1) d2)), .second, .val (.ref x0), .val (.int (3 : Int32)), .val (.int ((((0 : Int32) + (1 : Int32)) + (1 : Int32)) + (1 : Int32))), .val (.double d2), .second] [(.double (FP.dadd (FP.dadd (FP.dadd (0 : UInt64) d0) d1) d2))])) t → Steps p.tables e below (s₁.setTop (entryFrame m #[(.ref x0)] 8)) t := fun t k => p7 t (by
    show Steps p.tables e below (s₁.setTop (mkF m 21 #[.val (.ref x0), .val (.double (FP.dadd (FP.dadd (0 : UInt64) d0) d1)), .second, .val (.ref x0), .val (.int (3 : Int32)), .val (.int (((0 : Int32) + (1 : Int32)) + (1 : Int32))), .val (.double d1), .second] [(.int (((0 : Int32) + (1 : Int32)) + (1 : Int32))), (.ref x0)])) _
    refine X0.daload hx (j := (((0 : Int32) + (1 : Int32)) + (1 : Int32))) (v := (.double d2)) (by rw [e0]; exact Ar8.1) (State.isArrayOf_alike hZ.alike Ar8.2.1) Ar8.2.2 hin8 hat8 (g := (mkF m 21 #[.val (.ref x0), .val (.double (FP.dadd (FP.dadd (0 : UInt64) d0) d1)), .second, .val (.ref x0), .val (.int (3 : Int32)), .val (.int (((0 : Int32) + (1 : Int32)) + (1 : Int32))), .val (.double d1), .second] [(.int (((0 : Int32) + (1 : Int32)) + (1 : Int32))), (.ref x0)])) rfl rfl (hb hby ds3_21) _ ?_
    show Steps p.tables e below (s₁.setTop (mkF m 22 #[.val (.ref x0), .val (.double (FP.dadd (FP.dadd (0 : UInt64) d0) d1)), .second, .val (.ref x0), .val (.int (3 : Int32)), .val (.int (((0 : Int32) + (1 : Int32)) + (1 : Int32))), .val (.double d1), .second] [(.double d2)])) _
    refine XS.dstore X0.here hx rfl (hb hby ds3_22) rfl (l' := #[.val (.ref x0), .val (.double (FP.dadd (FP.dadd (0 : UInt64) d0) d1)), .second, .val (.ref x0), .val (.int (3 : Int32)), .val (.int (((0 : Int32) + (1 : Int32)) + (1 : Int32))), .val (.double d2), .second]) rfl ?_
    show Steps p.tables e below (s₁.setTop (mkF m 24 #[.val (.ref x0), .val (.double (FP.dadd (FP.dadd (0 : UInt64) d0) d1)), .second, .val (.ref x0), .val (.int (3 : Int32)), .val (.int (((0 : Int32) + (1 : Int32)) + (1 : Int32))), .val (.double d2), .second] [])) _
    refine XS.dloadN X0.here hx rfl (hb hby ds3_24) rfl ?_
    show Steps p.tables e below (s₁.setTop (mkF m 25 #[.val (.ref x0), .val (.double (FP.dadd (FP.dadd (0 : UInt64) d0) d1)), .second, .val (.ref x0), .val (.int (3 : Int32)), .val (.int (((0 : Int32) + (1 : Int32)) + (1 : Int32))), .val (.double d2), .second] [(.double (FP.dadd (FP.dadd (0 : UInt64) d0) d1))])) _
    refine XS.dload X0.here hx rfl (hb hby ds3_25) rfl ?_
    show Steps p.tables e below (s₁.setTop (mkF m 27 #[.val (.ref x0), .val (.double (FP.dadd (FP.dadd (0 : UInt64) d0) d1)), .second, .val (.ref x0), .val (.int (3 : Int32)), .val (.int (((0 : Int32) + (1 : Int32)) + (1 : Int32))), .val (.double d2), .second] [(.double d2), (.double (FP.dadd (FP.dadd (0 : UInt64) d0) d1))])) _
    refine XS.daddS X0.here hx rfl (hb hby ds3_27) rfl (own_nn (own_s3 g0 g1 g2) (by decide)) (v := (FP.dadd (FP.dadd (FP.dadd (0 : UInt64) d0) d1) d2)) rfl ?_
    show Steps p.tables e below (s₁.setTop (mkF m 28 #[.val (.ref x0), .val (.double (FP.dadd (FP.dadd (0 : UInt64) d0) d1)), .second, .val (.ref x0), .val (.int (3 : Int32)), .val (.int (((0 : Int32) + (1 : Int32)) + (1 : Int32))), .val (.double d2), .second] [(.double (FP.dadd (FP.dadd (FP.dadd (0 : UInt64) d0) d1) d2))])) _
    refine XS.dstoreN X0.here hx rfl (hb hby ds3_28) rfl (l' := #[.val (.ref x0), .val (.double (FP.dadd (FP.dadd (FP.dadd (0 : UInt64) d0) d1) d2)), .second, .val (.ref x0), .val (.int (3 : Int32)), .val (.int (((0 : Int32) + (1 : Int32)) + (1 : Int32))), .val (.double d2), .second]) rfl ?_
    show Steps p.tables e below (s₁.setTop (mkF m 29 #[.val (.ref x0), .val (.double (FP.dadd (FP.dadd (FP.dadd (0 : UInt64) d0) d1) d2)), .second, .val (.ref x0), .val (.int (3 : Int32)), .val (.int (((0 : Int32) + (1 : Int32)) + (1 : Int32))), .val (.double d2), .second] [])) _
    refine XS.iinc X0.here hx rfl (hb hby ds3_29) rfl (l' := #[.val (.ref x0), .val (.double (FP.dadd (FP.dadd (FP.dadd (0 : UInt64) d0) d1) d2)), .second, .val (.ref x0), .val (.int (3 : Int32)), .val (.int ((((0 : Int32) + (1 : Int32)) + (1 : Int32)) + (1 : Int32))), .val (.double d2), .second]) rfl ?_
    show Steps p.tables e below (s₁.setTop (mkF m 32 #[.val (.ref x0), .val (.double (FP.dadd (FP.dadd (FP.dadd (0 : UInt64) d0) d1) d2)), .second, .val (.ref x0), .val (.int (3 : Int32)), .val (.int ((((0 : Int32) + (1 : Int32)) + (1 : Int32)) + (1 : Int32))), .val (.double d2), .second] [])) _
    refine XS.goto X0.here hx rfl (pc0 := 32) (pc' := 11) rfl (hb hby ds3_32) (by decide) (by decide) ?_
    show Steps p.tables e below (s₁.setTop (mkF m 11 #[.val (.ref x0), .val (.double (FP.dadd (FP.dadd (FP.dadd (0 : UInt64) d0) d1) d2)), .second, .val (.ref x0), .val (.int (3 : Int32)), .val (.int ((((0 : Int32) + (1 : Int32)) + (1 : Int32)) + (1 : Int32))), .val (.double d2), .second] [])) _
    refine XS.iload X0.here hx rfl (hb hby ds3_11) rfl ?_
    show Steps p.tables e below (s₁.setTop (mkF m 13 #[.val (.ref x0), .val (.double (FP.dadd (FP.dadd (FP.dadd (0 : UInt64) d0) d1) d2)), .second, .val (.ref x0), .val (.int (3 : Int32)), .val (.int ((((0 : Int32) + (1 : Int32)) + (1 : Int32)) + (1 : Int32))), .val (.double d2), .second] [(.int ((((0 : Int32) + (1 : Int32)) + (1 : Int32)) + (1 : Int32)))])) _
    refine XS.iload X0.here hx rfl (hb hby ds3_13) rfl ?_
    show Steps p.tables e below (s₁.setTop (mkF m 15 #[.val (.ref x0), .val (.double (FP.dadd (FP.dadd (FP.dadd (0 : UInt64) d0) d1) d2)), .second, .val (.ref x0), .val (.int (3 : Int32)), .val (.int ((((0 : Int32) + (1 : Int32)) + (1 : Int32)) + (1 : Int32))), .val (.double d2), .second] [(.int (3 : Int32)), (.int ((((0 : Int32) + (1 : Int32)) + (1 : Int32)) + (1 : Int32)))])) _
    refine XS.icmpYes X0.here hx rfl (pc0 := 15) (pc' := 35) rfl (hb hby ds3_15) rfl ((flt (by decide)).2.1) (by decide) (by decide) ?_
    show Steps p.tables e below (s₁.setTop (mkF m 35 #[.val (.ref x0), .val (.double (FP.dadd (FP.dadd (FP.dadd (0 : UInt64) d0) d1) d2)), .second, .val (.ref x0), .val (.int (3 : Int32)), .val (.int ((((0 : Int32) + (1 : Int32)) + (1 : Int32)) + (1 : Int32))), .val (.double d2), .second] [])) _
    refine XS.dloadN X0.here hx rfl (hb hby ds3_35) rfl ?_
    exact k)
  obtain ⟨fs, hr, hrun, hended, hW, hsame⟩ := X0.leave (v := some (.double (FP.dadd (FP.dadd (FP.dadd (0 : UInt64) d0) d1) d2))) (fun h => by rw [Bd.returns] at h; cases h)
  refine ⟨_, _, p9 _ ?_, hrun, hended, _, _, rfl, ?_, ⟨_, rfl⟩, hW, hsame.mono (by decide) (by decide)⟩
  · show Steps p.tables e below (s₁.setTop (mkF m 36 #[.val (.ref x0), .val (.double (FP.dadd (FP.dadd (FP.dadd (0 : UInt64) d0) d1) d2)), .second, .val (.ref x0), .val (.int (3 : Int32)), .val (.int ((((0 : Int32) + (1 : Int32)) + (1 : Int32)) + (1 : Int32))), .val (.double d2), .second] [(.double (FP.dadd (FP.dadd (FP.dadd (0 : UInt64) d0) d1) d2))])) _
    exact retOut X0 hx Bd.returns rfl (Or.inr (Or.inr (Or.inl ⟨rfl, rfl, _, rfl⟩))) (hb hby ds3_36) hr
  · show Qs3 Z x0 kk d0 d1 d2 h0 n0 _ s₁.heap _
    rw [e0]
    exact ⟨rfl, N0, rfl⟩
theorem ds4_0 : decode prog_38_method_8_code 0 = .ok (.dconst 0, 1) := by decide +kernel
theorem ds4_1 : decode prog_38_method_8_code 1 = .ok (.dstore_n 1, 1) := by decide +kernel
theorem ds4_2 : decode prog_38_method_8_code 2 = .ok (.aload_n 0, 1) := by decide +kernel
theorem ds4_3 : decode prog_38_method_8_code 3 = .ok (.astore_n 3, 1) := by decide +kernel
theorem ds4_4 : decode prog_38_method_8_code 4 = .ok (.aload_n 3, 1) := by decide +kernel
theorem ds4_5 : decode prog_38_method_8_code 5 = .ok (.arraylength, 1) := by decide +kernel
theorem ds4_6 : decode prog_38_method_8_code 6 = .ok (.istore 4, 2) := by decide +kernel
theorem ds4_8 : decode prog_38_method_8_code 8 = .ok (.iconst 0, 1) := by decide +kernel
theorem ds4_9 : decode prog_38_method_8_code 9 = .ok (.istore 5, 2) := by decide +kernel
theorem ds4_11 : decode prog_38_method_8_code 11 = .ok (.iload 5, 2) := by decide +kernel
theorem ds4_13 : decode prog_38_method_8_code 13 = .ok (.iload 4, 2) := by decide +kernel
theorem ds4_15 : decode prog_38_method_8_code 15 = .ok (.if_icmp .ge 20, 3) := by decide +kernel
theorem ds4_18 : decode prog_38_method_8_code 18 = .ok (.aload_n 3, 1) := by decide +kernel
theorem ds4_19 : decode prog_38_method_8_code 19 = .ok (.iload 5, 2) := by decide +kernel
theorem ds4_21 : decode prog_38_method_8_code 21 = .ok (.daload, 1) := by decide +kernel
theorem ds4_22 : decode prog_38_method_8_code 22 = .ok (.dstore 6, 2) := by decide +kernel
theorem ds4_24 : decode prog_38_method_8_code 24 = .ok (.dload_n 1, 1) := by decide +kernel
theorem ds4_25 : decode prog_38_method_8_code 25 = .ok (.dload 6, 2) := by decide +kernel
theorem ds4_27 : decode prog_38_method_8_code 27 = .ok (.dadd, 1) := by decide +kernel
theorem ds4_28 : decode prog_38_method_8_code 28 = .ok (.dstore_n 1, 1) := by decide +kernel
theorem ds4_29 : decode prog_38_method_8_code 29 = .ok (.iinc 5 1, 3) := by decide +kernel
theorem ds4_32 : decode prog_38_method_8_code 32 = .ok (.goto (-21), 3) := by decide +kernel
theorem ds4_35 : decode prog_38_method_8_code 35 = .ok (.dload_n 1, 1) := by decide +kernel
theorem ds4_36 : decode prog_38_method_8_code 36 = .ok (.dreturn, 1) := by decide +kernel
theorem pns4 : plainName "com/example/kalchas/kalchas/evaluation/Evaluation" = true := by first | (simp [plainName, overriddenIn]; done) | decide +kernel
theorem efs4 (m : MethodId) (x0 : Addr) : entryFrame m #[(.ref x0)] 8 = mkF m 0 #[.val (.ref x0), .unset, .unset, .unset, .unset, .unset, .unset, .unset] [] := by first | (simp [entryFrame, mkF, argsToLocals, Value.category]; done) | rfl
def Qs4 (Z : State) (x0 : Addr) (kk : ClassId) (d0 : UInt64) (d1 : UInt64) (d2 : UInt64) (d3 : UInt64) (h0 : Heap) (n0 : Nat) (v : Option Value) (h : Heap) (L : List Loc) : Prop := v = some (.double (FP.dadd (FP.dadd (FP.dadd (FP.dadd (0 : UInt64) d0) d1) d2) d3)) ∧ Fr n0 L ∧ h = h0
set_option maxRecDepth 65536 in
set_option maxHeartbeats 40000000 in
theorem rms4 (l : Launch) (Z : State) (a0 : Array Value) (hw : ∀ d ∈ tables_1, d.before a0 Z = true) (ws : List Jvm.Cond) (x0 : Addr) (kk : ClassId) (d0 : UInt64) (d1 : UInt64) (d2 : UInt64) (d3 : UInt64) (h0 : Heap) (n0 : Nat) (Z0 : n0 ≤ h0.size) (V0 : Arv Z h0 x0 kk .double (4 : Int32) [(.double d0), (.double d1), (.double d2), (.double d3)] (.double (0 : UInt64))) (g0 : Jvm.Free.Fl.Mag64 1088 d0) (g1 : Jvm.Free.Fl.Mag64 1088 d1) (g2 : Jvm.Free.Fl.Mag64 1088 d2) (g3 : Jvm.Free.Fl.Mag64 1088 d3) :
    MetFree l (⟨"com/example/kalchas/kalchas/evaluation/Evaluation", "sum", "([D)D"⟩ : MethodName) (head1 (Jvm.Cond.code (⟨"com/example/kalchas/kalchas/evaluation/Evaluation", "sum", "([D)D"⟩ : MethodName) prog_38_method_8_code 8 (some .double) :: ws) ({ frames := 0, cells := 0, slots := 0, locals := 0 } : Room)) (fun a U => a = #[(.ref x0)] ∧ Z.Warmed39 U.vm ∧ U.heap = h0) (fun _ _ _ _ _ => True) (fun _ U o U' => ∃ v L, o = .returned v ∧ Qs4 Z x0 kk d0 d1 d2 d3 h0 n0 v U'.heap L ∧ FrameEnd U o U' L ({ frames := 0, cells := 0, slots := 0, locals := 0 } : Room).cells ({ frames := 0, cells := 0, slots := 0, locals := 0 } : Room).slots) := by
  refine MetFree.of_bodySF (plainFor_of_name pns4) hisR ?_
  intro p e s m args below meth c s₁ Bd hml0 hP hK
  obtain ⟨rfl, hZ, hh⟩ := hP
  have hx := Bd.exec
  have hby := Bd.bytes
  have hml : c.maxLocals = 8 := hml0
  have hown : s.vm.findClass "com/example/kalchas/kalchas/evaluation/Evaluation" = some m.cls := findClass_of_methodNamed Bd.named
  have hnm := (name_of_methodNamed Bd.named Bd.method).1
  have X0 : Stand p l e ({ frames := 0, cells := 0, slots := 0, locals := 0 } : Room) s m #[(.ref x0)] below meth c s₁ [] 0 0 := Stand.of_body Bd
  have e0 : s₁.heap = h0 := by rw [← hh, Bd.state]; rfl
  have N0 := Fr.nil n0
  have pre0 : ∀ t, Steps p.tables e below (s₁.setTop (mkF m 0 #[.val (.ref x0), .unset, .unset, .unset, .unset, .unset, .unset, .unset] [])) t → Steps p.tables e below (s₁.setTop (entryFrame m #[(.ref x0)] 8)) t := fun t k => castTop (efs4 m x0) k
  have p1 : ∀ t, Steps p.tables e below (s₁.setTop (mkF m 5 #[.val (.ref x0), .val (.double (0 : UInt64)), .second, .val (.ref x0), .unset, .unset, .unset, .unset] [(.ref x0)])) t → Steps p.tables e below (s₁.setTop (entryFrame m #[(.ref x0)] 8)) t := fun t k => pre0 t (by
    show Steps p.tables e below (s₁.setTop (mkF m 0 #[.val (.ref x0), .unset, .unset, .unset, .unset, .unset, .unset, .unset] [])) _
    refine XS.dconst0 X0.here hx rfl (hb hby ds4_0) (v := (0 : UInt64)) rfl ?_
    show Steps p.tables e below (s₁.setTop (mkF m 1 #[.val (.ref x0), .unset, .unset, .unset, .unset, .unset, .unset, .unset] [(.double (0 : UInt64))])) _
    refine XS.dstoreN X0.here hx rfl (hb hby ds4_1) rfl (l' := #[.val (.ref x0), .val (.double (0 : UInt64)), .second, .unset, .unset, .unset, .unset, .unset]) rfl ?_
    show Steps p.tables e below (s₁.setTop (mkF m 2 #[.val (.ref x0), .val (.double (0 : UInt64)), .second, .unset, .unset, .unset, .unset, .unset] [])) _
    refine XS.aloadN X0.here hx rfl (hb hby ds4_2) rfl rfl ?_
    show Steps p.tables e below (s₁.setTop (mkF m 3 #[.val (.ref x0), .val (.double (0 : UInt64)), .second, .unset, .unset, .unset, .unset, .unset] [(.ref x0)])) _
    refine XS.astoreN X0.here hx rfl (hb hby ds4_3) rfl rfl (l' := #[.val (.ref x0), .val (.double (0 : UInt64)), .second, .val (.ref x0), .unset, .unset, .unset, .unset]) rfl ?_
    show Steps p.tables e below (s₁.setTop (mkF m 4 #[.val (.ref x0), .val (.double (0 : UInt64)), .second, .val (.ref x0), .unset, .unset, .unset, .unset] [])) _
    refine XS.aloadN X0.here hx rfl (hb hby ds4_4) rfl rfl ?_
    exact k)
  obtain ⟨cl2, Ar2, -, Sz2, Ng2, -, -⟩ := id V0
  have p3 : ∀ t, Steps p.tables e below (s₁.setTop (mkF m 21 #[.val (.ref x0), .val (.double (0 : UInt64)), .second, .val (.ref x0), .val (.int (4 : Int32)), .val (.int (0 : Int32)), .unset, .unset] [(.int (0 : Int32)), (.ref x0)])) t → Steps p.tables e below (s₁.setTop (entryFrame m #[(.ref x0)] 8)) t := fun t k => p1 t (by
    show Steps p.tables e below (s₁.setTop (mkF m 5 #[.val (.ref x0), .val (.double (0 : UInt64)), .second, .val (.ref x0), .unset, .unset, .unset, .unset] [(.ref x0)])) _
    refine X0.arraylength hx (by rw [e0]; exact Ar2.1) (State.isArrayOf_alike hZ.alike Ar2.2.1) (g := (mkF m 5 #[.val (.ref x0), .val (.double (0 : UInt64)), .second, .val (.ref x0), .unset, .unset, .unset, .unset] [(.ref x0)])) rfl rfl (hb hby ds4_5) _ ?_
    rw [len_of Sz2 Ng2]
    show Steps p.tables e below (s₁.setTop (mkF m 6 #[.val (.ref x0), .val (.double (0 : UInt64)), .second, .val (.ref x0), .unset, .unset, .unset, .unset] [(.int (4 : Int32))])) _
    refine XS.istore X0.here hx rfl (hb hby ds4_6) rfl (l' := #[.val (.ref x0), .val (.double (0 : UInt64)), .second, .val (.ref x0), .val (.int (4 : Int32)), .unset, .unset, .unset]) rfl ?_
    show Steps p.tables e below (s₁.setTop (mkF m 8 #[.val (.ref x0), .val (.double (0 : UInt64)), .second, .val (.ref x0), .val (.int (4 : Int32)), .unset, .unset, .unset] [])) _
    refine XS.iconst X0.here hx rfl (hb hby ds4_8) ?_
    show Steps p.tables e below (s₁.setTop (mkF m 9 #[.val (.ref x0), .val (.double (0 : UInt64)), .second, .val (.ref x0), .val (.int (4 : Int32)), .unset, .unset, .unset] [(.int (0 : Int32))])) _
    refine XS.istore X0.here hx rfl (hb hby ds4_9) rfl (l' := #[.val (.ref x0), .val (.double (0 : UInt64)), .second, .val (.ref x0), .val (.int (4 : Int32)), .val (.int (0 : Int32)), .unset, .unset]) rfl ?_
    show Steps p.tables e below (s₁.setTop (mkF m 11 #[.val (.ref x0), .val (.double (0 : UInt64)), .second, .val (.ref x0), .val (.int (4 : Int32)), .val (.int (0 : Int32)), .unset, .unset] [])) _
    refine XS.iload X0.here hx rfl (hb hby ds4_11) rfl ?_
    show Steps p.tables e below (s₁.setTop (mkF m 13 #[.val (.ref x0), .val (.double (0 : UInt64)), .second, .val (.ref x0), .val (.int (4 : Int32)), .val (.int (0 : Int32)), .unset, .unset] [(.int (0 : Int32))])) _
    refine XS.iload X0.here hx rfl (hb hby ds4_13) rfl ?_
    show Steps p.tables e below (s₁.setTop (mkF m 15 #[.val (.ref x0), .val (.double (0 : UInt64)), .second, .val (.ref x0), .val (.int (4 : Int32)), .val (.int (0 : Int32)), .unset, .unset] [(.int (4 : Int32)), (.int (0 : Int32))])) _
    refine XS.icmpNo X0.here hx rfl (hb hby ds4_15) rfl ((tlt (by decide)).2.1) ?_
    show Steps p.tables e below (s₁.setTop (mkF m 18 #[.val (.ref x0), .val (.double (0 : UInt64)), .second, .val (.ref x0), .val (.int (4 : Int32)), .val (.int (0 : Int32)), .unset, .unset] [])) _
    refine XS.aloadN X0.here hx rfl (hb hby ds4_18) rfl rfl ?_
    show Steps p.tables e below (s₁.setTop (mkF m 19 #[.val (.ref x0), .val (.double (0 : UInt64)), .second, .val (.ref x0), .val (.int (4 : Int32)), .val (.int (0 : Int32)), .unset, .unset] [(.ref x0)])) _
    refine XS.iload X0.here hx rfl (hb hby ds4_19) rfl ?_
    exact k)
  obtain ⟨cl4, Ar4, q4, Sz4, Ng4, Hs4, G4⟩ := id V0
  have hin4 : ¬ ((0 : Int32) < 0 ∨ cl4.slots.size ≤ ((0 : Int32)).toNatClampNeg) := inb_of Sz4 ⟨by decide, by decide⟩
  have hat4 : cl4.slots[((0 : Int32)).toNatClampNeg]? = some (.double d0) := Hs4.at hin4 (rfl)
  have p5 : ∀ t, Steps p.tables e below (s₁.setTop (mkF m 21 #[.val (.ref x0), .val (.double (FP.dadd (0 : UInt64) d0)), .second, .val (.ref x0), .val (.int (4 : Int32)), .val (.int ((0 : Int32) + (1 : Int32))), .val (.double d0), .second] [(.int ((0 : Int32) + (1 : Int32))), (.ref x0)])) t → Steps p.tables e below (s₁.setTop (entryFrame m #[(.ref x0)] 8)) t := fun t k => p3 t (by
    show Steps p.tables e below (s₁.setTop (mkF m 21 #[.val (.ref x0), .val (.double (0 : UInt64)), .second, .val (.ref x0), .val (.int (4 : Int32)), .val (.int (0 : Int32)), .unset, .unset] [(.int (0 : Int32)), (.ref x0)])) _
    refine X0.daload hx (j := (0 : Int32)) (v := (.double d0)) (by rw [e0]; exact Ar4.1) (State.isArrayOf_alike hZ.alike Ar4.2.1) Ar4.2.2 hin4 hat4 (g := (mkF m 21 #[.val (.ref x0), .val (.double (0 : UInt64)), .second, .val (.ref x0), .val (.int (4 : Int32)), .val (.int (0 : Int32)), .unset, .unset] [(.int (0 : Int32)), (.ref x0)])) rfl rfl (hb hby ds4_21) _ ?_
    show Steps p.tables e below (s₁.setTop (mkF m 22 #[.val (.ref x0), .val (.double (0 : UInt64)), .second, .val (.ref x0), .val (.int (4 : Int32)), .val (.int (0 : Int32)), .unset, .unset] [(.double d0)])) _
    refine XS.dstore X0.here hx rfl (hb hby ds4_22) rfl (l' := #[.val (.ref x0), .val (.double (0 : UInt64)), .second, .val (.ref x0), .val (.int (4 : Int32)), .val (.int (0 : Int32)), .val (.double d0), .second]) rfl ?_
    show Steps p.tables e below (s₁.setTop (mkF m 24 #[.val (.ref x0), .val (.double (0 : UInt64)), .second, .val (.ref x0), .val (.int (4 : Int32)), .val (.int (0 : Int32)), .val (.double d0), .second] [])) _
    refine XS.dloadN X0.here hx rfl (hb hby ds4_24) rfl ?_
    show Steps p.tables e below (s₁.setTop (mkF m 25 #[.val (.ref x0), .val (.double (0 : UInt64)), .second, .val (.ref x0), .val (.int (4 : Int32)), .val (.int (0 : Int32)), .val (.double d0), .second] [(.double (0 : UInt64))])) _
    refine XS.dload X0.here hx rfl (hb hby ds4_25) rfl ?_
    show Steps p.tables e below (s₁.setTop (mkF m 27 #[.val (.ref x0), .val (.double (0 : UInt64)), .second, .val (.ref x0), .val (.int (4 : Int32)), .val (.int (0 : Int32)), .val (.double d0), .second] [(.double d0), (.double (0 : UInt64))])) _
    refine XS.daddS X0.here hx rfl (hb hby ds4_27) rfl (own_nn (own_s1 g0) (by decide)) (v := (FP.dadd (0 : UInt64) d0)) rfl ?_
    show Steps p.tables e below (s₁.setTop (mkF m 28 #[.val (.ref x0), .val (.double (0 : UInt64)), .second, .val (.ref x0), .val (.int (4 : Int32)), .val (.int (0 : Int32)), .val (.double d0), .second] [(.double (FP.dadd (0 : UInt64) d0))])) _
    refine XS.dstoreN X0.here hx rfl (hb hby ds4_28) rfl (l' := #[.val (.ref x0), .val (.double (FP.dadd (0 : UInt64) d0)), .second, .val (.ref x0), .val (.int (4 : Int32)), .val (.int (0 : Int32)), .val (.double d0), .second]) rfl ?_
    show Steps p.tables e below (s₁.setTop (mkF m 29 #[.val (.ref x0), .val (.double (FP.dadd (0 : UInt64) d0)), .second, .val (.ref x0), .val (.int (4 : Int32)), .val (.int (0 : Int32)), .val (.double d0), .second] [])) _
    refine XS.iinc X0.here hx rfl (hb hby ds4_29) rfl (l' := #[.val (.ref x0), .val (.double (FP.dadd (0 : UInt64) d0)), .second, .val (.ref x0), .val (.int (4 : Int32)), .val (.int ((0 : Int32) + (1 : Int32))), .val (.double d0), .second]) rfl ?_
    show Steps p.tables e below (s₁.setTop (mkF m 32 #[.val (.ref x0), .val (.double (FP.dadd (0 : UInt64) d0)), .second, .val (.ref x0), .val (.int (4 : Int32)), .val (.int ((0 : Int32) + (1 : Int32))), .val (.double d0), .second] [])) _
    refine XS.goto X0.here hx rfl (pc0 := 32) (pc' := 11) rfl (hb hby ds4_32) (by decide) (by decide) ?_
    show Steps p.tables e below (s₁.setTop (mkF m 11 #[.val (.ref x0), .val (.double (FP.dadd (0 : UInt64) d0)), .second, .val (.ref x0), .val (.int (4 : Int32)), .val (.int ((0 : Int32) + (1 : Int32))), .val (.double d0), .second] [])) _
    refine XS.iload X0.here hx rfl (hb hby ds4_11) rfl ?_
    show Steps p.tables e below (s₁.setTop (mkF m 13 #[.val (.ref x0), .val (.double (FP.dadd (0 : UInt64) d0)), .second, .val (.ref x0), .val (.int (4 : Int32)), .val (.int ((0 : Int32) + (1 : Int32))), .val (.double d0), .second] [(.int ((0 : Int32) + (1 : Int32)))])) _
    refine XS.iload X0.here hx rfl (hb hby ds4_13) rfl ?_
    show Steps p.tables e below (s₁.setTop (mkF m 15 #[.val (.ref x0), .val (.double (FP.dadd (0 : UInt64) d0)), .second, .val (.ref x0), .val (.int (4 : Int32)), .val (.int ((0 : Int32) + (1 : Int32))), .val (.double d0), .second] [(.int (4 : Int32)), (.int ((0 : Int32) + (1 : Int32)))])) _
    refine XS.icmpNo X0.here hx rfl (hb hby ds4_15) rfl ((tlt (by decide)).2.1) ?_
    show Steps p.tables e below (s₁.setTop (mkF m 18 #[.val (.ref x0), .val (.double (FP.dadd (0 : UInt64) d0)), .second, .val (.ref x0), .val (.int (4 : Int32)), .val (.int ((0 : Int32) + (1 : Int32))), .val (.double d0), .second] [])) _
    refine XS.aloadN X0.here hx rfl (hb hby ds4_18) rfl rfl ?_
    show Steps p.tables e below (s₁.setTop (mkF m 19 #[.val (.ref x0), .val (.double (FP.dadd (0 : UInt64) d0)), .second, .val (.ref x0), .val (.int (4 : Int32)), .val (.int ((0 : Int32) + (1 : Int32))), .val (.double d0), .second] [(.ref x0)])) _
    refine XS.iload X0.here hx rfl (hb hby ds4_19) rfl ?_
    exact k)
  obtain ⟨cl6, Ar6, q6, Sz6, Ng6, Hs6, G6⟩ := id V0
  have hin6 : ¬ (((0 : Int32) + (1 : Int32)) < 0 ∨ cl6.slots.size ≤ (((0 : Int32) + (1 : Int32))).toNatClampNeg) := inb_of Sz6 ⟨by decide, by decide⟩
  have hat6 : cl6.slots[(((0 : Int32) + (1 : Int32))).toNatClampNeg]? = some (.double d1) := Hs6.at hin6 (rfl)
  have p7 : ∀ t, Steps p.tables e below (s₁.setTop (mkF m 21 #[.val (.ref x0), .val (.double (FP.dadd (FP.dadd (0 : UInt64) d0) d1)), .second, .val (.ref x0), .val (.int (4 : Int32)), .val (.int (((0 : Int32) + (1 : Int32)) + (1 : Int32))), .val (.double d1), .second] [(.int (((0 : Int32) + (1 : Int32)) + (1 : Int32))), (.ref x0)])) t → Steps p.tables e below (s₁.setTop (entryFrame m #[(.ref x0)] 8)) t := fun t k => p5 t (by
    show Steps p.tables e below (s₁.setTop (mkF m 21 #[.val (.ref x0), .val (.double (FP.dadd (0 : UInt64) d0)), .second, .val (.ref x0), .val (.int (4 : Int32)), .val (.int ((0 : Int32) + (1 : Int32))), .val (.double d0), .second] [(.int ((0 : Int32) + (1 : Int32))), (.ref x0)])) _
    refine X0.daload hx (j := ((0 : Int32) + (1 : Int32))) (v := (.double d1)) (by rw [e0]; exact Ar6.1) (State.isArrayOf_alike hZ.alike Ar6.2.1) Ar6.2.2 hin6 hat6 (g := (mkF m 21 #[.val (.ref x0), .val (.double (FP.dadd (0 : UInt64) d0)), .second, .val (.ref x0), .val (.int (4 : Int32)), .val (.int ((0 : Int32) + (1 : Int32))), .val (.double d0), .second] [(.int ((0 : Int32) + (1 : Int32))), (.ref x0)])) rfl rfl (hb hby ds4_21) _ ?_
    show Steps p.tables e below (s₁.setTop (mkF m 22 #[.val (.ref x0), .val (.double (FP.dadd (0 : UInt64) d0)), .second, .val (.ref x0), .val (.int (4 : Int32)), .val (.int ((0 : Int32) + (1 : Int32))), .val (.double d0), .second] [(.double d1)])) _
    refine XS.dstore X0.here hx rfl (hb hby ds4_22) rfl (l' := #[.val (.ref x0), .val (.double (FP.dadd (0 : UInt64) d0)), .second, .val (.ref x0), .val (.int (4 : Int32)), .val (.int ((0 : Int32) + (1 : Int32))), .val (.double d1), .second]) rfl ?_
    show Steps p.tables e below (s₁.setTop (mkF m 24 #[.val (.ref x0), .val (.double (FP.dadd (0 : UInt64) d0)), .second, .val (.ref x0), .val (.int (4 : Int32)), .val (.int ((0 : Int32) + (1 : Int32))), .val (.double d1), .second] [])) _
    refine XS.dloadN X0.here hx rfl (hb hby ds4_24) rfl ?_
    show Steps p.tables e below (s₁.setTop (mkF m 25 #[.val (.ref x0), .val (.double (FP.dadd (0 : UInt64) d0)), .second, .val (.ref x0), .val (.int (4 : Int32)), .val (.int ((0 : Int32) + (1 : Int32))), .val (.double d1), .second] [(.double (FP.dadd (0 : UInt64) d0))])) _
    refine XS.dload X0.here hx rfl (hb hby ds4_25) rfl ?_
    show Steps p.tables e below (s₁.setTop (mkF m 27 #[.val (.ref x0), .val (.double (FP.dadd (0 : UInt64) d0)), .second, .val (.ref x0), .val (.int (4 : Int32)), .val (.int ((0 : Int32) + (1 : Int32))), .val (.double d1), .second] [(.double d1), (.double (FP.dadd (0 : UInt64) d0))])) _
    refine XS.daddS X0.here hx rfl (hb hby ds4_27) rfl (own_nn (own_s2 g0 g1) (by decide)) (v := (FP.dadd (FP.dadd (0 : UInt64) d0) d1)) rfl ?_
    show Steps p.tables e below (s₁.setTop (mkF m 28 #[.val (.ref x0), .val (.double (FP.dadd (0 : UInt64) d0)), .second, .val (.ref x0), .val (.int (4 : Int32)), .val (.int ((0 : Int32) + (1 : Int32))), .val (.double d1), .second] [(.double (FP.dadd (FP.dadd (0 : UInt64) d0) d1))])) _
    refine XS.dstoreN X0.here hx rfl (hb hby ds4_28) rfl (l' := #[.val (.ref x0), .val (.double (FP.dadd (FP.dadd (0 : UInt64) d0) d1)), .second, .val (.ref x0), .val (.int (4 : Int32)), .val (.int ((0 : Int32) + (1 : Int32))), .val (.double d1), .second]) rfl ?_
    show Steps p.tables e below (s₁.setTop (mkF m 29 #[.val (.ref x0), .val (.double (FP.dadd (FP.dadd (0 : UInt64) d0) d1)), .second, .val (.ref x0), .val (.int (4 : Int32)), .val (.int ((0 : Int32) + (1 : Int32))), .val (.double d1), .second] [])) _
    refine XS.iinc X0.here hx rfl (hb hby ds4_29) rfl (l' := #[.val (.ref x0), .val (.double (FP.dadd (FP.dadd (0 : UInt64) d0) d1)), .second, .val (.ref x0), .val (.int (4 : Int32)), .val (.int (((0 : Int32) + (1 : Int32)) + (1 : Int32))), .val (.double d1), .second]) rfl ?_
    show Steps p.tables e below (s₁.setTop (mkF m 32 #[.val (.ref x0), .val (.double (FP.dadd (FP.dadd (0 : UInt64) d0) d1)), .second, .val (.ref x0), .val (.int (4 : Int32)), .val (.int (((0 : Int32) + (1 : Int32)) + (1 : Int32))), .val (.double d1), .second] [])) _
    refine XS.goto X0.here hx rfl (pc0 := 32) (pc' := 11) rfl (hb hby ds4_32) (by decide) (by decide) ?_
    show Steps p.tables e below (s₁.setTop (mkF m 11 #[.val (.ref x0), .val (.double (FP.dadd (FP.dadd (0 : UInt64) d0) d1)), .second, .val (.ref x0), .val (.int (4 : Int32)), .val (.int (((0 : Int32) + (1 : Int32)) + (1 : Int32))), .val (.double d1), .second] [])) _
    refine XS.iload X0.here hx rfl (hb hby ds4_11) rfl ?_
    show Steps p.tables e below (s₁.setTop (mkF m 13 #[.val (.ref x0), .val (.double (FP.dadd (FP.dadd (0 : UInt64) d0) d1)), .second, .val (.ref x0), .val (.int (4 : Int32)), .val (.int (((0 : Int32) + (1 : Int32)) + (1 : Int32))), .val (.double d1), .second] [(.int (((0 : Int32) + (1 : Int32)) + (1 : Int32)))])) _
    refine XS.iload X0.here hx rfl (hb hby ds4_13) rfl ?_
    show Steps p.tables e below (s₁.setTop (mkF m 15 #[.val (.ref x0), .val (.double (FP.dadd (FP.dadd (0 : UInt64) d0) d1)), .second, .val (.ref x0), .val (.int (4 : Int32)), .val (.int (((0 : Int32) + (1 : Int32)) + (1 : Int32))), .val (.double d1), .second] [(.int (4 : Int32)), (.int (((0 : Int32) + (1 : Int32)) + (1 : Int32)))])) _
    refine XS.icmpNo X0.here hx rfl (hb hby ds4_15) rfl ((tlt (by decide)).2.1) ?_
    show Steps p.tables e below (s₁.setTop (mkF m 18 #[.val (.ref x0), .val (.double (FP.dadd (FP.dadd (0 : UInt64) d0) d1)), .second, .val (.ref x0), .val (.int (4 : Int32)), .val (.int (((0 : Int32) + (1 : Int32)) + (1 : Int32))), .val (.double d1), .second] [])) _
    refine XS.aloadN X0.here hx rfl (hb hby ds4_18) rfl rfl ?_
    show Steps p.tables e below (s₁.setTop (mkF m 19 #[.val (.ref x0), .val (.double (FP.dadd (FP.dadd (0 : UInt64) d0) d1)), .second, .val (.ref x0), .val (.int (4 : Int32)), .val (.int (((0 : Int32) + (1 : Int32)) + (1 : Int32))), .val (.double d1), .second] [(.ref x0)])) _
    refine XS.iload X0.here hx rfl (hb hby ds4_19) rfl ?_
    exact k)
  obtain ⟨cl8, Ar8, q8, Sz8, Ng8, Hs8, G8⟩ := id V0
  have hin8 : ¬ ((((0 : Int32) + (1 : Int32)) + (1 : Int32)) < 0 ∨ cl8.slots.size ≤ ((((0 : Int32) + (1 : Int32)) + (1 : Int32))).toNatClampNeg) := inb_of Sz8 ⟨by decide, by decide⟩
  have hat8 : cl8.slots[((((0 : Int32) + (1 : Int32)) + (1 : Int32))).toNatClampNeg]? = some (.double d2) := Hs8.at hin8 (rfl)
  have p9 : ∀ t, Steps p.tables e below (s₁.setTop (mkF m 21 #[.val (.ref x0), .val (.double (FP.dadd (FP.dadd (FP.dadd (0 : UInt64) d0) d1) d2)), .second, .val (.ref x0), .val (.int (4 : Int32)), .val (.int ((((0 : Int32) + (1 : Int32)) + (1 : Int32)) + (1 : Int32))), .val (.double d2), .second] [(.int ((((0 : Int32) + (1 : Int32)) + (1 : Int32)) + (1 : Int32))), (.ref x0)])) t → Steps p.tables e below (s₁.setTop (entryFrame m #[(.ref x0)] 8)) t := fun t k => p7 t (by
    show Steps p.tables e below (s₁.setTop (mkF m 21 #[.val (.ref x0), .val (.double (FP.dadd (FP.dadd (0 : UInt64) d0) d1)), .second, .val (.ref x0), .val (.int (4 : Int32)), .val (.int (((0 : Int32) + (1 : Int32)) + (1 : Int32))), .val (.double d1), .second] [(.int (((0 : Int32) + (1 : Int32)) + (1 : Int32))), (.ref x0)])) _
    refine X0.daload hx (j := (((0 : Int32) + (1 : Int32)) + (1 : Int32))) (v := (.double d2)) (by rw [e0]; exact Ar8.1) (State.isArrayOf_alike hZ.alike Ar8.2.1) Ar8.2.2 hin8 hat8 (g := (mkF m 21 #[.val (.ref x0), .val (.double (FP.dadd (FP.dadd (0 : UInt64) d0) d1)), .second, .val (.ref x0), .val (.int (4 : Int32)), .val (.int (((0 : Int32) + (1 : Int32)) + (1 : Int32))), .val (.double d1), .second] [(.int (((0 : Int32) + (1 : Int32)) + (1 : Int32))), (.ref x0)])) rfl rfl (hb hby ds4_21) _ ?_
    show Steps p.tables e below (s₁.setTop (mkF m 22 #[.val (.ref x0), .val (.double (FP.dadd (FP.dadd (0 : UInt64) d0) d1)), .second, .val (.ref x0), .val (.int (4 : Int32)), .val (.int (((0 : Int32) + (1 : Int32)) + (1 : Int32))), .val (.double d1), .second] [(.double d2)])) _
    refine XS.dstore X0.here hx rfl (hb hby ds4_22) rfl (l' := #[.val (.ref x0), .val (.double (FP.dadd (FP.dadd (0 : UInt64) d0) d1)), .second, .val (.ref x0), .val (.int (4 : Int32)), .val (.int (((0 : Int32) + (1 : Int32)) + (1 : Int32))), .val (.double d2), .second]) rfl ?_
    show Steps p.tables e below (s₁.setTop (mkF m 24 #[.val (.ref x0), .val (.double (FP.dadd (FP.dadd (0 : UInt64) d0) d1)), .second, .val (.ref x0), .val (.int (4 : Int32)), .val (.int (((0 : Int32) + (1 : Int32)) + (1 : Int32))), .val (.double d2), .second] [])) _
    refine XS.dloadN X0.here hx rfl (hb hby ds4_24) rfl ?_
    show Steps p.tables e below (s₁.setTop (mkF m 25 #[.val (.ref x0), .val (.double (FP.dadd (FP.dadd (0 : UInt64) d0) d1)), .second, .val (.ref x0), .val (.int (4 : Int32)), .val (.int (((0 : Int32) + (1 : Int32)) + (1 : Int32))), .val (.double d2), .second] [(.double (FP.dadd (FP.dadd (0 : UInt64) d0) d1))])) _
    refine XS.dload X0.here hx rfl (hb hby ds4_25) rfl ?_
    show Steps p.tables e below (s₁.setTop (mkF m 27 #[.val (.ref x0), .val (.double (FP.dadd (FP.dadd (0 : UInt64) d0) d1)), .second, .val (.ref x0), .val (.int (4 : Int32)), .val (.int (((0 : Int32) + (1 : Int32)) + (1 : Int32))), .val (.double d2), .second] [(.double d2), (.double (FP.dadd (FP.dadd (0 : UInt64) d0) d1))])) _
    refine XS.daddS X0.here hx rfl (hb hby ds4_27) rfl (own_nn (own_s3 g0 g1 g2) (by decide)) (v := (FP.dadd (FP.dadd (FP.dadd (0 : UInt64) d0) d1) d2)) rfl ?_
    show Steps p.tables e below (s₁.setTop (mkF m 28 #[.val (.ref x0), .val (.double (FP.dadd (FP.dadd (0 : UInt64) d0) d1)), .second, .val (.ref x0), .val (.int (4 : Int32)), .val (.int (((0 : Int32) + (1 : Int32)) + (1 : Int32))), .val (.double d2), .second] [(.double (FP.dadd (FP.dadd (FP.dadd (0 : UInt64) d0) d1) d2))])) _
    refine XS.dstoreN X0.here hx rfl (hb hby ds4_28) rfl (l' := #[.val (.ref x0), .val (.double (FP.dadd (FP.dadd (FP.dadd (0 : UInt64) d0) d1) d2)), .second, .val (.ref x0), .val (.int (4 : Int32)), .val (.int (((0 : Int32) + (1 : Int32)) + (1 : Int32))), .val (.double d2), .second]) rfl ?_
    show Steps p.tables e below (s₁.setTop (mkF m 29 #[.val (.ref x0), .val (.double (FP.dadd (FP.dadd (FP.dadd (0 : UInt64) d0) d1) d2)), .second, .val (.ref x0), .val (.int (4 : Int32)), .val (.int (((0 : Int32) + (1 : Int32)) + (1 : Int32))), .val (.double d2), .second] [])) _
    refine XS.iinc X0.here hx rfl (hb hby ds4_29) rfl (l' := #[.val (.ref x0), .val (.double (FP.dadd (FP.dadd (FP.dadd (0 : UInt64) d0) d1) d2)), .second, .val (.ref x0), .val (.int (4 : Int32)), .val (.int ((((0 : Int32) + (1 : Int32)) + (1 : Int32)) + (1 : Int32))), .val (.double d2), .second]) rfl ?_
    show Steps p.tables e below (s₁.setTop (mkF m 32 #[.val (.ref x0), .val (.double (FP.dadd (FP.dadd (FP.dadd (0 : UInt64) d0) d1) d2)), .second, .val (.ref x0), .val (.int (4 : Int32)), .val (.int ((((0 : Int32) + (1 : Int32)) + (1 : Int32)) + (1 : Int32))), .val (.double d2), .second] [])) _
    refine XS.goto X0.here hx rfl (pc0 := 32) (pc' := 11) rfl (hb hby ds4_32) (by decide) (by decide) ?_
    show Steps p.tables e below (s₁.setTop (mkF m 11 #[.val (.ref x0), .val (.double (FP.dadd (FP.dadd (FP.dadd (0 : UInt64) d0) d1) d2)), .second, .val (.ref x0), .val (.int (4 : Int32)), .val (.int ((((0 : Int32) + (1 : Int32)) + (1 : Int32)) + (1 : Int32))), .val (.double d2), .second] [])) _
    refine XS.iload X0.here hx rfl (hb hby ds4_11) rfl ?_
    show Steps p.tables e below (s₁.setTop (mkF m 13 #[.val (.ref x0), .val (.double (FP.dadd (FP.dadd (FP.dadd (0 : UInt64) d0) d1) d2)), .second, .val (.ref x0), .val (.int (4 : Int32)), .val (.int ((((0 : Int32) + (1 : Int32)) + (1 : Int32)) + (1 : Int32))), .val (.double d2), .second] [(.int ((((0 : Int32) + (1 : Int32)) + (1 : Int32)) + (1 : Int32)))])) _
    refine XS.iload X0.here hx rfl (hb hby ds4_13) rfl ?_
    show Steps p.tables e below (s₁.setTop (mkF m 15 #[.val (.ref x0), .val (.double (FP.dadd (FP.dadd (FP.dadd (0 : UInt64) d0) d1) d2)), .second, .val (.ref x0), .val (.int (4 : Int32)), .val (.int ((((0 : Int32) + (1 : Int32)) + (1 : Int32)) + (1 : Int32))), .val (.double d2), .second] [(.int (4 : Int32)), (.int ((((0 : Int32) + (1 : Int32)) + (1 : Int32)) + (1 : Int32)))])) _
    refine XS.icmpNo X0.here hx rfl (hb hby ds4_15) rfl ((tlt (by decide)).2.1) ?_
    show Steps p.tables e below (s₁.setTop (mkF m 18 #[.val (.ref x0), .val (.double (FP.dadd (FP.dadd (FP.dadd (0 : UInt64) d0) d1) d2)), .second, .val (.ref x0), .val (.int (4 : Int32)), .val (.int ((((0 : Int32) + (1 : Int32)) + (1 : Int32)) + (1 : Int32))), .val (.double d2), .second] [])) _
    refine XS.aloadN X0.here hx rfl (hb hby ds4_18) rfl rfl ?_
    show Steps p.tables e below (s₁.setTop (mkF m 19 #[.val (.ref x0), .val (.double (FP.dadd (FP.dadd (FP.dadd (0 : UInt64) d0) d1) d2)), .second, .val (.ref x0), .val (.int (4 : Int32)), .val (.int ((((0 : Int32) + (1 : Int32)) + (1 : Int32)) + (1 : Int32))), .val (.double d2), .second] [(.ref x0)])) _
    refine XS.iload X0.here hx rfl (hb hby ds4_19) rfl ?_
    exact k)
  obtain ⟨cl10, Ar10, q10, Sz10, Ng10, Hs10, G10⟩ := id V0
  have hin10 : ¬ (((((0 : Int32) + (1 : Int32)) + (1 : Int32)) + (1 : Int32)) < 0 ∨ cl10.slots.size ≤ (((((0 : Int32) + (1 : Int32)) + (1 : Int32)) + (1 : Int32))).toNatClampNeg) := inb_of Sz10 ⟨by decide, by decide⟩
  have hat10 : cl10.slots[(((((0 : Int32) + (1 : Int32)) + (1 : Int32)) + (1 : Int32))).toNatClampNeg]? = some (.double d3) := Hs10.at hin10 (rfl)
  have p11 : ∀ t, Steps p.tables e below (s₁.setTop (mkF m 36 #[.val (.ref x0), .val (.double (FP.dadd (FP.dadd (FP.dadd (FP.dadd (0 : UInt64) d0) d1) d2) d3)), .second, .val (.ref x0), .val (.int (4 : Int32)), .val (.int (((((0 : Int32) + (1 : Int32)) + (1 : Int32)) + (1 : Int32)) + (1 : Int32))), .val (.double d3), .second] [(.double (FP.dadd (FP.dadd (FP.dadd (FP.dadd (0 : UInt64) d0) d1) d2) d3))])) t → Steps p.tables e below (s₁.setTop (entryFrame m #[(.ref x0)] 8)) t := fun t k => p9 t (by
    show Steps p.tables e below (s₁.setTop (mkF m 21 #[.val (.ref x0), .val (.double (FP.dadd (FP.dadd (FP.dadd (0 : UInt64) d0) d1) d2)), .second, .val (.ref x0), .val (.int (4 : Int32)), .val (.int ((((0 : Int32) + (1 : Int32)) + (1 : Int32)) + (1 : Int32))), .val (.double d2), .second] [(.int ((((0 : Int32) + (1 : Int32)) + (1 : Int32)) + (1 : Int32))), (.ref x0)])) _
    refine X0.daload hx (j := ((((0 : Int32) + (1 : Int32)) + (1 : Int32)) + (1 : Int32))) (v := (.double d3)) (by rw [e0]; exact Ar10.1) (State.isArrayOf_alike hZ.alike Ar10.2.1) Ar10.2.2 hin10 hat10 (g := (mkF m 21 #[.val (.ref x0), .val (.double (FP.dadd (FP.dadd (FP.dadd (0 : UInt64) d0) d1) d2)), .second, .val (.ref x0), .val (.int (4 : Int32)), .val (.int ((((0 : Int32) + (1 : Int32)) + (1 : Int32)) + (1 : Int32))), .val (.double d2), .second] [(.int ((((0 : Int32) + (1 : Int32)) + (1 : Int32)) + (1 : Int32))), (.ref x0)])) rfl rfl (hb hby ds4_21) _ ?_
    show Steps p.tables e below (s₁.setTop (mkF m 22 #[.val (.ref x0), .val (.double (FP.dadd (FP.dadd (FP.dadd (0 : UInt64) d0) d1) d2)), .second, .val (.ref x0), .val (.int (4 : Int32)), .val (.int ((((0 : Int32) + (1 : Int32)) + (1 : Int32)) + (1 : Int32))), .val (.double d2), .second] [(.double d3)])) _
    refine XS.dstore X0.here hx rfl (hb hby ds4_22) rfl (l' := #[.val (.ref x0), .val (.double (FP.dadd (FP.dadd (FP.dadd (0 : UInt64) d0) d1) d2)), .second, .val (.ref x0), .val (.int (4 : Int32)), .val (.int ((((0 : Int32) + (1 : Int32)) + (1 : Int32)) + (1 : Int32))), .val (.double d3), .second]) rfl ?_
    show Steps p.tables e below (s₁.setTop (mkF m 24 #[.val (.ref x0), .val (.double (FP.dadd (FP.dadd (FP.dadd (0 : UInt64) d0) d1) d2)), .second, .val (.ref x0), .val (.int (4 : Int32)), .val (.int ((((0 : Int32) + (1 : Int32)) + (1 : Int32)) + (1 : Int32))), .val (.double d3), .second] [])) _
    refine XS.dloadN X0.here hx rfl (hb hby ds4_24) rfl ?_
    show Steps p.tables e below (s₁.setTop (mkF m 25 #[.val (.ref x0), .val (.double (FP.dadd (FP.dadd (FP.dadd (0 : UInt64) d0) d1) d2)), .second, .val (.ref x0), .val (.int (4 : Int32)), .val (.int ((((0 : Int32) + (1 : Int32)) + (1 : Int32)) + (1 : Int32))), .val (.double d3), .second] [(.double (FP.dadd (FP.dadd (FP.dadd (0 : UInt64) d0) d1) d2))])) _
    refine XS.dload X0.here hx rfl (hb hby ds4_25) rfl ?_
    show Steps p.tables e below (s₁.setTop (mkF m 27 #[.val (.ref x0), .val (.double (FP.dadd (FP.dadd (FP.dadd (0 : UInt64) d0) d1) d2)), .second, .val (.ref x0), .val (.int (4 : Int32)), .val (.int ((((0 : Int32) + (1 : Int32)) + (1 : Int32)) + (1 : Int32))), .val (.double d3), .second] [(.double d3), (.double (FP.dadd (FP.dadd (FP.dadd (0 : UInt64) d0) d1) d2))])) _
    refine XS.daddS X0.here hx rfl (hb hby ds4_27) rfl (own_nn (own_s4 g0 g1 g2 g3) (by decide)) (v := (FP.dadd (FP.dadd (FP.dadd (FP.dadd (0 : UInt64) d0) d1) d2) d3)) rfl ?_
    show Steps p.tables e below (s₁.setTop (mkF m 28 #[.val (.ref x0), .val (.double (FP.dadd (FP.dadd (FP.dadd (0 : UInt64) d0) d1) d2)), .second, .val (.ref x0), .val (.int (4 : Int32)), .val (.int ((((0 : Int32) + (1 : Int32)) + (1 : Int32)) + (1 : Int32))), .val (.double d3), .second] [(.double (FP.dadd (FP.dadd (FP.dadd (FP.dadd (0 : UInt64) d0) d1) d2) d3))])) _
    refine XS.dstoreN X0.here hx rfl (hb hby ds4_28) rfl (l' := #[.val (.ref x0), .val (.double (FP.dadd (FP.dadd (FP.dadd (FP.dadd (0 : UInt64) d0) d1) d2) d3)), .second, .val (.ref x0), .val (.int (4 : Int32)), .val (.int ((((0 : Int32) + (1 : Int32)) + (1 : Int32)) + (1 : Int32))), .val (.double d3), .second]) rfl ?_
    show Steps p.tables e below (s₁.setTop (mkF m 29 #[.val (.ref x0), .val (.double (FP.dadd (FP.dadd (FP.dadd (FP.dadd (0 : UInt64) d0) d1) d2) d3)), .second, .val (.ref x0), .val (.int (4 : Int32)), .val (.int ((((0 : Int32) + (1 : Int32)) + (1 : Int32)) + (1 : Int32))), .val (.double d3), .second] [])) _
    refine XS.iinc X0.here hx rfl (hb hby ds4_29) rfl (l' := #[.val (.ref x0), .val (.double (FP.dadd (FP.dadd (FP.dadd (FP.dadd (0 : UInt64) d0) d1) d2) d3)), .second, .val (.ref x0), .val (.int (4 : Int32)), .val (.int (((((0 : Int32) + (1 : Int32)) + (1 : Int32)) + (1 : Int32)) + (1 : Int32))), .val (.double d3), .second]) rfl ?_
    show Steps p.tables e below (s₁.setTop (mkF m 32 #[.val (.ref x0), .val (.double (FP.dadd (FP.dadd (FP.dadd (FP.dadd (0 : UInt64) d0) d1) d2) d3)), .second, .val (.ref x0), .val (.int (4 : Int32)), .val (.int (((((0 : Int32) + (1 : Int32)) + (1 : Int32)) + (1 : Int32)) + (1 : Int32))), .val (.double d3), .second] [])) _
    refine XS.goto X0.here hx rfl (pc0 := 32) (pc' := 11) rfl (hb hby ds4_32) (by decide) (by decide) ?_
    show Steps p.tables e below (s₁.setTop (mkF m 11 #[.val (.ref x0), .val (.double (FP.dadd (FP.dadd (FP.dadd (FP.dadd (0 : UInt64) d0) d1) d2) d3)), .second, .val (.ref x0), .val (.int (4 : Int32)), .val (.int (((((0 : Int32) + (1 : Int32)) + (1 : Int32)) + (1 : Int32)) + (1 : Int32))), .val (.double d3), .second] [])) _
    refine XS.iload X0.here hx rfl (hb hby ds4_11) rfl ?_
    show Steps p.tables e below (s₁.setTop (mkF m 13 #[.val (.ref x0), .val (.double (FP.dadd (FP.dadd (FP.dadd (FP.dadd (0 : UInt64) d0) d1) d2) d3)), .second, .val (.ref x0), .val (.int (4 : Int32)), .val (.int (((((0 : Int32) + (1 : Int32)) + (1 : Int32)) + (1 : Int32)) + (1 : Int32))), .val (.double d3), .second] [(.int (((((0 : Int32) + (1 : Int32)) + (1 : Int32)) + (1 : Int32)) + (1 : Int32)))])) _
    refine XS.iload X0.here hx rfl (hb hby ds4_13) rfl ?_
    show Steps p.tables e below (s₁.setTop (mkF m 15 #[.val (.ref x0), .val (.double (FP.dadd (FP.dadd (FP.dadd (FP.dadd (0 : UInt64) d0) d1) d2) d3)), .second, .val (.ref x0), .val (.int (4 : Int32)), .val (.int (((((0 : Int32) + (1 : Int32)) + (1 : Int32)) + (1 : Int32)) + (1 : Int32))), .val (.double d3), .second] [(.int (4 : Int32)), (.int (((((0 : Int32) + (1 : Int32)) + (1 : Int32)) + (1 : Int32)) + (1 : Int32)))])) _
    refine XS.icmpYes X0.here hx rfl (pc0 := 15) (pc' := 35) rfl (hb hby ds4_15) rfl ((flt (by decide)).2.1) (by decide) (by decide) ?_
    show Steps p.tables e below (s₁.setTop (mkF m 35 #[.val (.ref x0), .val (.double (FP.dadd (FP.dadd (FP.dadd (FP.dadd (0 : UInt64) d0) d1) d2) d3)), .second, .val (.ref x0), .val (.int (4 : Int32)), .val (.int (((((0 : Int32) + (1 : Int32)) + (1 : Int32)) + (1 : Int32)) + (1 : Int32))), .val (.double d3), .second] [])) _
    refine XS.dloadN X0.here hx rfl (hb hby ds4_35) rfl ?_
    exact k)
  obtain ⟨fs, hr, hrun, hended, hW, hsame⟩ := X0.leave (v := some (.double (FP.dadd (FP.dadd (FP.dadd (FP.dadd (0 : UInt64) d0) d1) d2) d3))) (fun h => by rw [Bd.returns] at h; cases h)
  refine ⟨_, _, p11 _ ?_, hrun, hended, _, _, rfl, ?_, ⟨_, rfl⟩, hW, hsame.mono (by decide) (by decide)⟩
  · show Steps p.tables e below (s₁.setTop (mkF m 36 #[.val (.ref x0), .val (.double (FP.dadd (FP.dadd (FP.dadd (FP.dadd (0 : UInt64) d0) d1) d2) d3)), .second, .val (.ref x0), .val (.int (4 : Int32)), .val (.int (((((0 : Int32) + (1 : Int32)) + (1 : Int32)) + (1 : Int32)) + (1 : Int32))), .val (.double d3), .second] [(.double (FP.dadd (FP.dadd (FP.dadd (FP.dadd (0 : UInt64) d0) d1) d2) d3))])) _
    exact retOut X0 hx Bd.returns rfl (Or.inr (Or.inr (Or.inl ⟨rfl, rfl, _, rfl⟩))) (hb hby ds4_36) hr
  · show Qs4 Z x0 kk d0 d1 d2 d3 h0 n0 _ s₁.heap _
    rw [e0]
    exact ⟨rfl, N0, rfl⟩
theorem pn0 : plainName "com/example/kalchas/kalchas/evaluation/EvaluationSumPinLaw" = true := by first | (simp [plainName, overriddenIn]; done) | decide +kernel
theorem pd0_0 : parseMethodDescriptor "([D)D" = some ⟨[(.array .double)], some .double⟩ := by decide +kernel
theorem ef0 (m : MethodId) (x0 : Int32) (x1 : Int64) (x2 : Int64) (x3 : Int64) (x4 : Int64) : entryFrame m #[(.int x0), (.long x1), (.long x2), (.long x3), (.long x4)] maxLocals = mkF m 0 #[.val (.int x0), .val (.long x1), .second, .val (.long x2), .second, .val (.long x3), .second, .val (.long x4), .second, .unset, .unset, .unset, .unset, .unset, .unset, .unset, .unset, .unset, .unset, .unset, .unset] [] := by first | (simp [entryFrame, mkF, argsToLocals, Value.category, maxLocals]; done) | rfl
def Q0 (Z : State) (x0 : Int32) (x1 : Int64) (x2 : Int64) (x3 : Int64) (x4 : Int64) (h0 : Heap) (n0 : Nat) (v : Option Value) (h : Heap) (L : List Loc) : Prop := v = some (.int (1 : Int32)) ∧ Fr n0 L
set_option maxRecDepth 65536 in
set_option maxHeartbeats 40000000 in
theorem rm0 (l : Launch) (Z : State) (a0 : Array Value) (hw : ∀ d ∈ tables_1, d.before a0 Z = true) (ws : List Jvm.Cond) (x0 : Int32) (x1 : Int64) (x2 : Int64) (x3 : Int64) (x4 : Int64) (h0 : Heap) (n0 : Nat) (Z0 : n0 ≤ h0.size) :
    MetFree l x (head1 (Jvm.Cond.code x code maxLocals ret :: ws) room_1) (fun a U => a = #[(.int x0), (.long x1), (.long x2), (.long x3), (.long x4)] ∧ Z.Warmed39 U.vm ∧ U.heap = h0) (fun _ _ _ _ _ => True) (fun _ U o U' => ∃ v L, o = .returned v ∧ Q0 Z x0 x1 x2 x3 x4 h0 n0 v U'.heap L ∧ FrameEnd U o U' L room_1.cells room_1.slots) := by
  refine MetFree.of_bodySF (plainFor_of_name pn0) hisR ?_
  intro p e s m args below meth c s₁ Bd hml0 hP hK
  obtain ⟨rfl, hZ, hh⟩ := hP
  have hx := Bd.exec
  have hby := Bd.bytes
  have hml : c.maxLocals = 21 := hml0
  have hown : s.vm.findClass "com/example/kalchas/kalchas/evaluation/EvaluationSumPinLaw" = some m.cls := findClass_of_methodNamed Bd.named
  have hnm := (name_of_methodNamed Bd.named Bd.method).1
  have X0 : Stand p l e room_1 s m #[(.int x0), (.long x1), (.long x2), (.long x3), (.long x4)] below meth c s₁ [] 0 0 := Stand.of_body Bd
  have e0 : s₁.heap = h0 := by rw [← hh, Bd.state]; rfl
  have N0 := Fr.nil n0
  have pre0 : ∀ t, Steps p.tables e below (s₁.setTop (mkF m 0 #[.val (.int x0), .val (.long x1), .second, .val (.long x2), .second, .val (.long x3), .second, .val (.long x4), .second, .unset, .unset, .unset, .unset, .unset, .unset, .unset, .unset, .unset, .unset, .unset, .unset] [])) t → Steps p.tables e below (s₁.setTop (entryFrame m #[(.int x0), (.long x1), (.long x2), (.long x3), (.long x4)] maxLocals)) t := fun t k => castTop (ef0 m x0 x1 x2 x3 x4) k
  have p1 : ∀ t, Steps p.tables e below (s₁.setTop (mkF m 8 #[.val (.int x0), .val (.long x1), .second, .val (.long x2), .second, .val (.long x3), .second, .val (.long x4), .second, .val (.int ((x0 &&& (2147483647 : Int32)) % (5 : Int32))), .unset, .unset, .unset, .unset, .unset, .unset, .unset, .unset, .unset, .unset, .unset] [])) t → Steps p.tables e below (s₁.setTop (entryFrame m #[(.int x0), (.long x1), (.long x2), (.long x3), (.long x4)] maxLocals)) t := fun t k => pre0 t (by
    show Steps p.tables e below (s₁.setTop (mkF m 0 #[.val (.int x0), .val (.long x1), .second, .val (.long x2), .second, .val (.long x3), .second, .val (.long x4), .second, .unset, .unset, .unset, .unset, .unset, .unset, .unset, .unset, .unset, .unset, .unset, .unset] [])) _
    refine XS.iloadN X0.here hx rfl (hb hby at_0) rfl ?_
    show Steps p.tables e below (s₁.setTop (mkF m 1 #[.val (.int x0), .val (.long x1), .second, .val (.long x2), .second, .val (.long x3), .second, .val (.long x4), .second, .unset, .unset, .unset, .unset, .unset, .unset, .unset, .unset, .unset, .unset, .unset, .unset] [(.int x0)])) _
    refine X0.ldcInt hx hown (mvT hZ (hw _ (List.mem_of_getElem? (i := 0) rfl))) (g := (mkF m 1 #[.val (.int x0), .val (.long x1), .second, .val (.long x2), .second, .val (.long x3), .second, .val (.long x4), .second, .unset, .unset, .unset, .unset, .unset, .unset, .unset, .unset, .unset, .unset, .unset, .unset] [(.int x0)])) rfl (hb hby at_1) _ ?_
    show Steps p.tables e below (s₁.setTop (mkF m 3 #[.val (.int x0), .val (.long x1), .second, .val (.long x2), .second, .val (.long x3), .second, .val (.long x4), .second, .unset, .unset, .unset, .unset, .unset, .unset, .unset, .unset, .unset, .unset, .unset, .unset] [(.int (2147483647 : Int32)), (.int x0)])) _
    refine XS.iand X0.here hx rfl (hb hby at_3) rfl ?_
    show Steps p.tables e below (s₁.setTop (mkF m 4 #[.val (.int x0), .val (.long x1), .second, .val (.long x2), .second, .val (.long x3), .second, .val (.long x4), .second, .unset, .unset, .unset, .unset, .unset, .unset, .unset, .unset, .unset, .unset, .unset, .unset] [(.int (x0 &&& (2147483647 : Int32)))])) _
    refine XS.iconst X0.here hx rfl (hb hby at_4) ?_
    show Steps p.tables e below (s₁.setTop (mkF m 5 #[.val (.int x0), .val (.long x1), .second, .val (.long x2), .second, .val (.long x3), .second, .val (.long x4), .second, .unset, .unset, .unset, .unset, .unset, .unset, .unset, .unset, .unset, .unset, .unset, .unset] [(.int (5 : Int32)), (.int (x0 &&& (2147483647 : Int32)))])) _
    refine iremM X0 hx rfl (hb hby at_5) rfl (by decide) ?_
    show Steps p.tables e below (s₁.setTop (mkF m 6 #[.val (.int x0), .val (.long x1), .second, .val (.long x2), .second, .val (.long x3), .second, .val (.long x4), .second, .unset, .unset, .unset, .unset, .unset, .unset, .unset, .unset, .unset, .unset, .unset, .unset] [(.int ((x0 &&& (2147483647 : Int32)) % (5 : Int32)))])) _
    refine XS.istore X0.here hx rfl (hb hby at_6) rfl (l' := #[.val (.int x0), .val (.long x1), .second, .val (.long x2), .second, .val (.long x3), .second, .val (.long x4), .second, .val (.int ((x0 &&& (2147483647 : Int32)) % (5 : Int32))), .unset, .unset, .unset, .unset, .unset, .unset, .unset, .unset, .unset, .unset, .unset]) rfl ?_
    exact k)
  obtain ⟨vk, hvk⟩ : ∃ z : Int32, z = ((x0 &&& (2147483647 : Int32)) % (5 : Int32)) := ⟨_, rfl⟩
  have p2 : ∀ t, Steps p.tables e below (s₁.setTop (mkF m 8 #[.val (.int x0), .val (.long x1), .second, .val (.long x2), .second, .val (.long x3), .second, .val (.long x4), .second, .val (.int vk), .unset, .unset, .unset, .unset, .unset, .unset, .unset, .unset, .unset, .unset, .unset] [])) t → Steps p.tables e below (s₁.setTop (entryFrame m #[(.int x0), (.long x1), (.long x2), (.long x3), (.long x4)] maxLocals)) t := by
    intro t k; subst hvk; exact p1 t k
  have p3 : ∀ t, Steps p.tables e below (s₁.setTop (mkF m 12 #[.val (.int x0), .val (.long x1), .second, .val (.long x2), .second, .val (.long x3), .second, .val (.long x4), .second, .val (.int vk), .val (.double (FP.l2d x1)), .second, .unset, .unset, .unset, .unset, .unset, .unset, .unset, .unset, .unset] [])) t → Steps p.tables e below (s₁.setTop (entryFrame m #[(.int x0), (.long x1), (.long x2), (.long x3), (.long x4)] maxLocals)) t := fun t k => p2 t (by
    show Steps p.tables e below (s₁.setTop (mkF m 8 #[.val (.int x0), .val (.long x1), .second, .val (.long x2), .second, .val (.long x3), .second, .val (.long x4), .second, .val (.int vk), .unset, .unset, .unset, .unset, .unset, .unset, .unset, .unset, .unset, .unset, .unset] [])) _
    refine XS.lloadN X0.here hx rfl (hb hby at_8) rfl ?_
    show Steps p.tables e below (s₁.setTop (mkF m 9 #[.val (.int x0), .val (.long x1), .second, .val (.long x2), .second, .val (.long x3), .second, .val (.long x4), .second, .val (.int vk), .unset, .unset, .unset, .unset, .unset, .unset, .unset, .unset, .unset, .unset, .unset] [(.long x1)])) _
    refine XS.l2dS X0.here hx rfl (hb hby at_9) rfl (v := (FP.l2d x1)) rfl ?_
    show Steps p.tables e below (s₁.setTop (mkF m 10 #[.val (.int x0), .val (.long x1), .second, .val (.long x2), .second, .val (.long x3), .second, .val (.long x4), .second, .val (.int vk), .unset, .unset, .unset, .unset, .unset, .unset, .unset, .unset, .unset, .unset, .unset] [(.double (FP.l2d x1))])) _
    refine XS.dstore X0.here hx rfl (hb hby at_10) rfl (l' := #[.val (.int x0), .val (.long x1), .second, .val (.long x2), .second, .val (.long x3), .second, .val (.long x4), .second, .val (.int vk), .val (.double (FP.l2d x1)), .second, .unset, .unset, .unset, .unset, .unset, .unset, .unset, .unset, .unset]) rfl ?_
    exact k)
  obtain ⟨vd0, hvd0⟩ : ∃ z : UInt64, z = (FP.l2d x1) := ⟨_, rfl⟩
  have p4 : ∀ t, Steps p.tables e below (s₁.setTop (mkF m 12 #[.val (.int x0), .val (.long x1), .second, .val (.long x2), .second, .val (.long x3), .second, .val (.long x4), .second, .val (.int vk), .val (.double vd0), .second, .unset, .unset, .unset, .unset, .unset, .unset, .unset, .unset, .unset] [])) t → Steps p.tables e below (s₁.setTop (entryFrame m #[(.int x0), (.long x1), (.long x2), (.long x3), (.long x4)] maxLocals)) t := by
    intro t k; subst hvd0; exact p3 t k
  have hm0 : Jvm.Free.Fl.Mag64 1088 vd0 := by rw [hvd0]; exact Jvm.Free.Fl.l2d_mag _
  have p5 : ∀ t, Steps p.tables e below (s₁.setTop (mkF m 16 #[.val (.int x0), .val (.long x1), .second, .val (.long x2), .second, .val (.long x3), .second, .val (.long x4), .second, .val (.int vk), .val (.double vd0), .second, .val (.double (FP.l2d x2)), .second, .unset, .unset, .unset, .unset, .unset, .unset, .unset] [])) t → Steps p.tables e below (s₁.setTop (entryFrame m #[(.int x0), (.long x1), (.long x2), (.long x3), (.long x4)] maxLocals)) t := fun t k => p4 t (by
    show Steps p.tables e below (s₁.setTop (mkF m 12 #[.val (.int x0), .val (.long x1), .second, .val (.long x2), .second, .val (.long x3), .second, .val (.long x4), .second, .val (.int vk), .val (.double vd0), .second, .unset, .unset, .unset, .unset, .unset, .unset, .unset, .unset, .unset] [])) _
    refine XS.lloadN X0.here hx rfl (hb hby at_12) rfl ?_
    show Steps p.tables e below (s₁.setTop (mkF m 13 #[.val (.int x0), .val (.long x1), .second, .val (.long x2), .second, .val (.long x3), .second, .val (.long x4), .second, .val (.int vk), .val (.double vd0), .second, .unset, .unset, .unset, .unset, .unset, .unset, .unset, .unset, .unset] [(.long x2)])) _
    refine XS.l2dS X0.here hx rfl (hb hby at_13) rfl (v := (FP.l2d x2)) rfl ?_
    show Steps p.tables e below (s₁.setTop (mkF m 14 #[.val (.int x0), .val (.long x1), .second, .val (.long x2), .second, .val (.long x3), .second, .val (.long x4), .second, .val (.int vk), .val (.double vd0), .second, .unset, .unset, .unset, .unset, .unset, .unset, .unset, .unset, .unset] [(.double (FP.l2d x2))])) _
    refine XS.dstore X0.here hx rfl (hb hby at_14) rfl (l' := #[.val (.int x0), .val (.long x1), .second, .val (.long x2), .second, .val (.long x3), .second, .val (.long x4), .second, .val (.int vk), .val (.double vd0), .second, .val (.double (FP.l2d x2)), .second, .unset, .unset, .unset, .unset, .unset, .unset, .unset]) rfl ?_
    exact k)
  obtain ⟨vd1, hvd1⟩ : ∃ z : UInt64, z = (FP.l2d x2) := ⟨_, rfl⟩
  have p6 : ∀ t, Steps p.tables e below (s₁.setTop (mkF m 16 #[.val (.int x0), .val (.long x1), .second, .val (.long x2), .second, .val (.long x3), .second, .val (.long x4), .second, .val (.int vk), .val (.double vd0), .second, .val (.double vd1), .second, .unset, .unset, .unset, .unset, .unset, .unset, .unset] [])) t → Steps p.tables e below (s₁.setTop (entryFrame m #[(.int x0), (.long x1), (.long x2), (.long x3), (.long x4)] maxLocals)) t := by
    intro t k; subst hvd1; exact p5 t k
  have hm1 : Jvm.Free.Fl.Mag64 1088 vd1 := by rw [hvd1]; exact Jvm.Free.Fl.l2d_mag _
  have p7 : ∀ t, Steps p.tables e below (s₁.setTop (mkF m 21 #[.val (.int x0), .val (.long x1), .second, .val (.long x2), .second, .val (.long x3), .second, .val (.long x4), .second, .val (.int vk), .val (.double vd0), .second, .val (.double vd1), .second, .val (.double (FP.l2d x3)), .second, .unset, .unset, .unset, .unset, .unset] [])) t → Steps p.tables e below (s₁.setTop (entryFrame m #[(.int x0), (.long x1), (.long x2), (.long x3), (.long x4)] maxLocals)) t := fun t k => p6 t (by
    show Steps p.tables e below (s₁.setTop (mkF m 16 #[.val (.int x0), .val (.long x1), .second, .val (.long x2), .second, .val (.long x3), .second, .val (.long x4), .second, .val (.int vk), .val (.double vd0), .second, .val (.double vd1), .second, .unset, .unset, .unset, .unset, .unset, .unset, .unset] [])) _
    refine XS.lload X0.here hx rfl (hb hby at_16) rfl ?_
    show Steps p.tables e below (s₁.setTop (mkF m 18 #[.val (.int x0), .val (.long x1), .second, .val (.long x2), .second, .val (.long x3), .second, .val (.long x4), .second, .val (.int vk), .val (.double vd0), .second, .val (.double vd1), .second, .unset, .unset, .unset, .unset, .unset, .unset, .unset] [(.long x3)])) _
    refine XS.l2dS X0.here hx rfl (hb hby at_18) rfl (v := (FP.l2d x3)) rfl ?_
    show Steps p.tables e below (s₁.setTop (mkF m 19 #[.val (.int x0), .val (.long x1), .second, .val (.long x2), .second, .val (.long x3), .second, .val (.long x4), .second, .val (.int vk), .val (.double vd0), .second, .val (.double vd1), .second, .unset, .unset, .unset, .unset, .unset, .unset, .unset] [(.double (FP.l2d x3))])) _
    refine XS.dstore X0.here hx rfl (hb hby at_19) rfl (l' := #[.val (.int x0), .val (.long x1), .second, .val (.long x2), .second, .val (.long x3), .second, .val (.long x4), .second, .val (.int vk), .val (.double vd0), .second, .val (.double vd1), .second, .val (.double (FP.l2d x3)), .second, .unset, .unset, .unset, .unset, .unset]) rfl ?_
    exact k)
  obtain ⟨vd2, hvd2⟩ : ∃ z : UInt64, z = (FP.l2d x3) := ⟨_, rfl⟩
  have p8 : ∀ t, Steps p.tables e below (s₁.setTop (mkF m 21 #[.val (.int x0), .val (.long x1), .second, .val (.long x2), .second, .val (.long x3), .second, .val (.long x4), .second, .val (.int vk), .val (.double vd0), .second, .val (.double vd1), .second, .val (.double vd2), .second, .unset, .unset, .unset, .unset, .unset] [])) t → Steps p.tables e below (s₁.setTop (entryFrame m #[(.int x0), (.long x1), (.long x2), (.long x3), (.long x4)] maxLocals)) t := by
    intro t k; subst hvd2; exact p7 t k
  have hm2 : Jvm.Free.Fl.Mag64 1088 vd2 := by rw [hvd2]; exact Jvm.Free.Fl.l2d_mag _
  have p9 : ∀ t, Steps p.tables e below (s₁.setTop (mkF m 26 #[.val (.int x0), .val (.long x1), .second, .val (.long x2), .second, .val (.long x3), .second, .val (.long x4), .second, .val (.int vk), .val (.double vd0), .second, .val (.double vd1), .second, .val (.double vd2), .second, .val (.double (FP.l2d x4)), .second, .unset, .unset, .unset] [])) t → Steps p.tables e below (s₁.setTop (entryFrame m #[(.int x0), (.long x1), (.long x2), (.long x3), (.long x4)] maxLocals)) t := fun t k => p8 t (by
    show Steps p.tables e below (s₁.setTop (mkF m 21 #[.val (.int x0), .val (.long x1), .second, .val (.long x2), .second, .val (.long x3), .second, .val (.long x4), .second, .val (.int vk), .val (.double vd0), .second, .val (.double vd1), .second, .val (.double vd2), .second, .unset, .unset, .unset, .unset, .unset] [])) _
    refine XS.lload X0.here hx rfl (hb hby at_21) rfl ?_
    show Steps p.tables e below (s₁.setTop (mkF m 23 #[.val (.int x0), .val (.long x1), .second, .val (.long x2), .second, .val (.long x3), .second, .val (.long x4), .second, .val (.int vk), .val (.double vd0), .second, .val (.double vd1), .second, .val (.double vd2), .second, .unset, .unset, .unset, .unset, .unset] [(.long x4)])) _
    refine XS.l2dS X0.here hx rfl (hb hby at_23) rfl (v := (FP.l2d x4)) rfl ?_
    show Steps p.tables e below (s₁.setTop (mkF m 24 #[.val (.int x0), .val (.long x1), .second, .val (.long x2), .second, .val (.long x3), .second, .val (.long x4), .second, .val (.int vk), .val (.double vd0), .second, .val (.double vd1), .second, .val (.double vd2), .second, .unset, .unset, .unset, .unset, .unset] [(.double (FP.l2d x4))])) _
    refine XS.dstore X0.here hx rfl (hb hby at_24) rfl (l' := #[.val (.int x0), .val (.long x1), .second, .val (.long x2), .second, .val (.long x3), .second, .val (.long x4), .second, .val (.int vk), .val (.double vd0), .second, .val (.double vd1), .second, .val (.double vd2), .second, .val (.double (FP.l2d x4)), .second, .unset, .unset, .unset]) rfl ?_
    exact k)
  obtain ⟨vd3, hvd3⟩ : ∃ z : UInt64, z = (FP.l2d x4) := ⟨_, rfl⟩
  have p10 : ∀ t, Steps p.tables e below (s₁.setTop (mkF m 26 #[.val (.int x0), .val (.long x1), .second, .val (.long x2), .second, .val (.long x3), .second, .val (.long x4), .second, .val (.int vk), .val (.double vd0), .second, .val (.double vd1), .second, .val (.double vd2), .second, .val (.double vd3), .second, .unset, .unset, .unset] [])) t → Steps p.tables e below (s₁.setTop (entryFrame m #[(.int x0), (.long x1), (.long x2), (.long x3), (.long x4)] maxLocals)) t := by
    intro t k; subst hvd3; exact p9 t k
  have hm3 : Jvm.Free.Fl.Mag64 1088 vd3 := by rw [hvd3]; exact Jvm.Free.Fl.l2d_mag _
  have p11 : ∀ t, Steps p.tables e below (s₁.setTop (mkF m 28 #[.val (.int x0), .val (.long x1), .second, .val (.long x2), .second, .val (.long x3), .second, .val (.long x4), .second, .val (.int vk), .val (.double vd0), .second, .val (.double vd1), .second, .val (.double vd2), .second, .val (.double vd3), .second, .unset, .unset, .unset] [(.int vk)])) t → Steps p.tables e below (s₁.setTop (entryFrame m #[(.int x0), (.long x1), (.long x2), (.long x3), (.long x4)] maxLocals)) t := fun t k => p10 t (by
    show Steps p.tables e below (s₁.setTop (mkF m 26 #[.val (.int x0), .val (.long x1), .second, .val (.long x2), .second, .val (.long x3), .second, .val (.long x4), .second, .val (.int vk), .val (.double vd0), .second, .val (.double vd1), .second, .val (.double vd2), .second, .val (.double vd3), .second, .unset, .unset, .unset] [])) _
    refine XS.iload X0.here hx rfl (hb hby at_26) rfl ?_
    exact k)
  rcases own_k5 hvk with rfl | rfl | rfl | rfl | rfl
  · obtain ⟨T12, h12, k12, X12, e12, E12, A12, st12⟩ := newP X0 hx hZ (hw _ (List.mem_of_getElem? (i := 1) rfl)) e0 (g := (mkF m 28 #[.val (.int x0), .val (.long x1), .second, .val (.long x2), .second, .val (.long x3), .second, .val (.long x4), .second, .val (.int (0 : Int32)), .val (.double vd0), .second, .val (.double vd1), .second, .val (.double vd2), .second, .val (.double vd3), .second, .unset, .unset, .unset] [(.int (0 : Int32))])) rfl (hb hby at_28) rfl (by decide) (cap := 0) (by decide) (by decide) (by decide) (by decide)
    obtain ⟨b12, g12⟩ : ∃ z, z = h0.size := ⟨_, rfl⟩
    rw [← g12] at A12 st12
    have gn_b12 : n0 ≤ b12 := Nat.le_trans Z0 (Nat.le_of_eq g12.symm)
    have Z12 := Nat.le_trans Z0 E12.1
    have VV12 : Arv Z h12 b12 k12 .double (0 : Int32) [] (.double (0 : UInt64)) := (Arv.new A12 (by decide)).pad (pad_rep [] (.double (0 : UInt64)) 0)
    have p13 : ∀ t, Steps p.tables e below (T12.setTop (mkF m 30 #[.val (.int x0), .val (.long x1), .second, .val (.long x2), .second, .val (.long x3), .second, .val (.long x4), .second, .val (.int (0 : Int32)), .val (.double vd0), .second, .val (.double vd1), .second, .val (.double vd2), .second, .val (.double vd3), .second, .unset, .unset, .unset] [(.ref b12)])) t → Steps p.tables e below (s₁.setTop (entryFrame m #[(.int x0), (.long x1), (.long x2), (.long x3), (.long x4)] maxLocals)) t := fun t k => p11 t (st12 t k)
    have p14 : ∀ t, Steps p.tables e below (T12.setTop (mkF m 135 #[.val (.int x0), .val (.long x1), .second, .val (.long x2), .second, .val (.long x3), .second, .val (.long x4), .second, .val (.int (0 : Int32)), .val (.double vd0), .second, .val (.double vd1), .second, .val (.double vd2), .second, .val (.double vd3), .second, .val (.ref b12), .val (.double (0 : UInt64)), .second] [(.ref b12)])) t → Steps p.tables e below (s₁.setTop (entryFrame m #[(.int x0), (.long x1), (.long x2), (.long x3), (.long x4)] maxLocals)) t := fun t k => p13 t (by
      show Steps p.tables e below (T12.setTop (mkF m 30 #[.val (.int x0), .val (.long x1), .second, .val (.long x2), .second, .val (.long x3), .second, .val (.long x4), .second, .val (.int (0 : Int32)), .val (.double vd0), .second, .val (.double vd1), .second, .val (.double vd2), .second, .val (.double vd3), .second, .unset, .unset, .unset] [(.ref b12)])) _
      refine XS.astore X12.here hx rfl (hb hby at_30) rfl rfl (l' := #[.val (.int x0), .val (.long x1), .second, .val (.long x2), .second, .val (.long x3), .second, .val (.long x4), .second, .val (.int (0 : Int32)), .val (.double vd0), .second, .val (.double vd1), .second, .val (.double vd2), .second, .val (.double vd3), .second, .val (.ref b12), .unset, .unset]) rfl ?_
      show Steps p.tables e below (T12.setTop (mkF m 32 #[.val (.int x0), .val (.long x1), .second, .val (.long x2), .second, .val (.long x3), .second, .val (.long x4), .second, .val (.int (0 : Int32)), .val (.double vd0), .second, .val (.double vd1), .second, .val (.double vd2), .second, .val (.double vd3), .second, .val (.ref b12), .unset, .unset] [])) _
      refine XS.iload X12.here hx rfl (hb hby at_32) rfl ?_
      show Steps p.tables e below (T12.setTop (mkF m 34 #[.val (.int x0), .val (.long x1), .second, .val (.long x2), .second, .val (.long x3), .second, .val (.long x4), .second, .val (.int (0 : Int32)), .val (.double vd0), .second, .val (.double vd1), .second, .val (.double vd2), .second, .val (.double vd3), .second, .val (.ref b12), .unset, .unset] [(.int (0 : Int32))])) _
      refine XS.ifYes X12.here hx rfl (pc0 := 34) (pc' := 43) rfl (hb hby at_34) rfl ((if0 _ _).trans (flt (by decide)).2.2.2) (by decide) (by decide) ?_
      show Steps p.tables e below (T12.setTop (mkF m 43 #[.val (.int x0), .val (.long x1), .second, .val (.long x2), .second, .val (.long x3), .second, .val (.long x4), .second, .val (.int (0 : Int32)), .val (.double vd0), .second, .val (.double vd1), .second, .val (.double vd2), .second, .val (.double vd3), .second, .val (.ref b12), .unset, .unset] [])) _
      refine XS.iload X12.here hx rfl (hb hby at_43) rfl ?_
      show Steps p.tables e below (T12.setTop (mkF m 45 #[.val (.int x0), .val (.long x1), .second, .val (.long x2), .second, .val (.long x3), .second, .val (.long x4), .second, .val (.int (0 : Int32)), .val (.double vd0), .second, .val (.double vd1), .second, .val (.double vd2), .second, .val (.double vd3), .second, .val (.ref b12), .unset, .unset] [(.int (0 : Int32))])) _
      refine XS.iconst X12.here hx rfl (hb hby at_45) ?_
      show Steps p.tables e below (T12.setTop (mkF m 46 #[.val (.int x0), .val (.long x1), .second, .val (.long x2), .second, .val (.long x3), .second, .val (.long x4), .second, .val (.int (0 : Int32)), .val (.double vd0), .second, .val (.double vd1), .second, .val (.double vd2), .second, .val (.double vd3), .second, .val (.ref b12), .unset, .unset] [(.int (1 : Int32)), (.int (0 : Int32))])) _
      refine XS.icmpYes X12.here hx rfl (pc0 := 46) (pc' := 55) rfl (hb hby at_46) rfl ((flt (by decide)).2.2.2) (by decide) (by decide) ?_
      show Steps p.tables e below (T12.setTop (mkF m 55 #[.val (.int x0), .val (.long x1), .second, .val (.long x2), .second, .val (.long x3), .second, .val (.long x4), .second, .val (.int (0 : Int32)), .val (.double vd0), .second, .val (.double vd1), .second, .val (.double vd2), .second, .val (.double vd3), .second, .val (.ref b12), .unset, .unset] [])) _
      refine XS.iload X12.here hx rfl (hb hby at_55) rfl ?_
      show Steps p.tables e below (T12.setTop (mkF m 57 #[.val (.int x0), .val (.long x1), .second, .val (.long x2), .second, .val (.long x3), .second, .val (.long x4), .second, .val (.int (0 : Int32)), .val (.double vd0), .second, .val (.double vd1), .second, .val (.double vd2), .second, .val (.double vd3), .second, .val (.ref b12), .unset, .unset] [(.int (0 : Int32))])) _
      refine XS.iconst X12.here hx rfl (hb hby at_57) ?_
      show Steps p.tables e below (T12.setTop (mkF m 58 #[.val (.int x0), .val (.long x1), .second, .val (.long x2), .second, .val (.long x3), .second, .val (.long x4), .second, .val (.int (0 : Int32)), .val (.double vd0), .second, .val (.double vd1), .second, .val (.double vd2), .second, .val (.double vd3), .second, .val (.ref b12), .unset, .unset] [(.int (2 : Int32)), (.int (0 : Int32))])) _
      refine XS.icmpYes X12.here hx rfl (pc0 := 58) (pc' := 67) rfl (hb hby at_58) rfl ((flt (by decide)).2.2.2) (by decide) (by decide) ?_
      show Steps p.tables e below (T12.setTop (mkF m 67 #[.val (.int x0), .val (.long x1), .second, .val (.long x2), .second, .val (.long x3), .second, .val (.long x4), .second, .val (.int (0 : Int32)), .val (.double vd0), .second, .val (.double vd1), .second, .val (.double vd2), .second, .val (.double vd3), .second, .val (.ref b12), .unset, .unset] [])) _
      refine XS.iload X12.here hx rfl (hb hby at_67) rfl ?_
      show Steps p.tables e below (T12.setTop (mkF m 69 #[.val (.int x0), .val (.long x1), .second, .val (.long x2), .second, .val (.long x3), .second, .val (.long x4), .second, .val (.int (0 : Int32)), .val (.double vd0), .second, .val (.double vd1), .second, .val (.double vd2), .second, .val (.double vd3), .second, .val (.ref b12), .unset, .unset] [(.int (0 : Int32))])) _
      refine XS.iconst X12.here hx rfl (hb hby at_69) ?_
      show Steps p.tables e below (T12.setTop (mkF m 70 #[.val (.int x0), .val (.long x1), .second, .val (.long x2), .second, .val (.long x3), .second, .val (.long x4), .second, .val (.int (0 : Int32)), .val (.double vd0), .second, .val (.double vd1), .second, .val (.double vd2), .second, .val (.double vd3), .second, .val (.ref b12), .unset, .unset] [(.int (3 : Int32)), (.int (0 : Int32))])) _
      refine XS.icmpYes X12.here hx rfl (pc0 := 70) (pc' := 79) rfl (hb hby at_70) rfl ((flt (by decide)).2.2.2) (by decide) (by decide) ?_
      show Steps p.tables e below (T12.setTop (mkF m 79 #[.val (.int x0), .val (.long x1), .second, .val (.long x2), .second, .val (.long x3), .second, .val (.long x4), .second, .val (.int (0 : Int32)), .val (.double vd0), .second, .val (.double vd1), .second, .val (.double vd2), .second, .val (.double vd3), .second, .val (.ref b12), .unset, .unset] [])) _
      refine XS.dconst0 X12.here hx rfl (hb hby at_79) (v := (0 : UInt64)) rfl ?_
      show Steps p.tables e below (T12.setTop (mkF m 80 #[.val (.int x0), .val (.long x1), .second, .val (.long x2), .second, .val (.long x3), .second, .val (.long x4), .second, .val (.int (0 : Int32)), .val (.double vd0), .second, .val (.double vd1), .second, .val (.double vd2), .second, .val (.double vd3), .second, .val (.ref b12), .unset, .unset] [(.double (0 : UInt64))])) _
      refine XS.dstore X12.here hx rfl (hb hby at_80) rfl (l' := #[.val (.int x0), .val (.long x1), .second, .val (.long x2), .second, .val (.long x3), .second, .val (.long x4), .second, .val (.int (0 : Int32)), .val (.double vd0), .second, .val (.double vd1), .second, .val (.double vd2), .second, .val (.double vd3), .second, .val (.ref b12), .val (.double (0 : UInt64)), .second]) rfl ?_
      show Steps p.tables e below (T12.setTop (mkF m 82 #[.val (.int x0), .val (.long x1), .second, .val (.long x2), .second, .val (.long x3), .second, .val (.long x4), .second, .val (.int (0 : Int32)), .val (.double vd0), .second, .val (.double vd1), .second, .val (.double vd2), .second, .val (.double vd3), .second, .val (.ref b12), .val (.double (0 : UInt64)), .second] [])) _
      refine XS.iload X12.here hx rfl (hb hby at_82) rfl ?_
      show Steps p.tables e below (T12.setTop (mkF m 84 #[.val (.int x0), .val (.long x1), .second, .val (.long x2), .second, .val (.long x3), .second, .val (.long x4), .second, .val (.int (0 : Int32)), .val (.double vd0), .second, .val (.double vd1), .second, .val (.double vd2), .second, .val (.double vd3), .second, .val (.ref b12), .val (.double (0 : UInt64)), .second] [(.int (0 : Int32))])) _
      refine XS.ifYes X12.here hx rfl (pc0 := 84) (pc' := 94) rfl (hb hby at_84) rfl ((if0 _ _).trans (flt (by decide)).2.2.2) (by decide) (by decide) ?_
      show Steps p.tables e below (T12.setTop (mkF m 94 #[.val (.int x0), .val (.long x1), .second, .val (.long x2), .second, .val (.long x3), .second, .val (.long x4), .second, .val (.int (0 : Int32)), .val (.double vd0), .second, .val (.double vd1), .second, .val (.double vd2), .second, .val (.double vd3), .second, .val (.ref b12), .val (.double (0 : UInt64)), .second] [])) _
      refine XS.iload X12.here hx rfl (hb hby at_94) rfl ?_
      show Steps p.tables e below (T12.setTop (mkF m 96 #[.val (.int x0), .val (.long x1), .second, .val (.long x2), .second, .val (.long x3), .second, .val (.long x4), .second, .val (.int (0 : Int32)), .val (.double vd0), .second, .val (.double vd1), .second, .val (.double vd2), .second, .val (.double vd3), .second, .val (.ref b12), .val (.double (0 : UInt64)), .second] [(.int (0 : Int32))])) _
      refine XS.iconst X12.here hx rfl (hb hby at_96) ?_
      show Steps p.tables e below (T12.setTop (mkF m 97 #[.val (.int x0), .val (.long x1), .second, .val (.long x2), .second, .val (.long x3), .second, .val (.long x4), .second, .val (.int (0 : Int32)), .val (.double vd0), .second, .val (.double vd1), .second, .val (.double vd2), .second, .val (.double vd3), .second, .val (.ref b12), .val (.double (0 : UInt64)), .second] [(.int (1 : Int32)), (.int (0 : Int32))])) _
      refine XS.icmpYes X12.here hx rfl (pc0 := 97) (pc' := 107) rfl (hb hby at_97) rfl ((flt (by decide)).2.2.2) (by decide) (by decide) ?_
      show Steps p.tables e below (T12.setTop (mkF m 107 #[.val (.int x0), .val (.long x1), .second, .val (.long x2), .second, .val (.long x3), .second, .val (.long x4), .second, .val (.int (0 : Int32)), .val (.double vd0), .second, .val (.double vd1), .second, .val (.double vd2), .second, .val (.double vd3), .second, .val (.ref b12), .val (.double (0 : UInt64)), .second] [])) _
      refine XS.iload X12.here hx rfl (hb hby at_107) rfl ?_
      show Steps p.tables e below (T12.setTop (mkF m 109 #[.val (.int x0), .val (.long x1), .second, .val (.long x2), .second, .val (.long x3), .second, .val (.long x4), .second, .val (.int (0 : Int32)), .val (.double vd0), .second, .val (.double vd1), .second, .val (.double vd2), .second, .val (.double vd3), .second, .val (.ref b12), .val (.double (0 : UInt64)), .second] [(.int (0 : Int32))])) _
      refine XS.iconst X12.here hx rfl (hb hby at_109) ?_
      show Steps p.tables e below (T12.setTop (mkF m 110 #[.val (.int x0), .val (.long x1), .second, .val (.long x2), .second, .val (.long x3), .second, .val (.long x4), .second, .val (.int (0 : Int32)), .val (.double vd0), .second, .val (.double vd1), .second, .val (.double vd2), .second, .val (.double vd3), .second, .val (.ref b12), .val (.double (0 : UInt64)), .second] [(.int (2 : Int32)), (.int (0 : Int32))])) _
      refine XS.icmpYes X12.here hx rfl (pc0 := 110) (pc' := 120) rfl (hb hby at_110) rfl ((flt (by decide)).2.2.2) (by decide) (by decide) ?_
      show Steps p.tables e below (T12.setTop (mkF m 120 #[.val (.int x0), .val (.long x1), .second, .val (.long x2), .second, .val (.long x3), .second, .val (.long x4), .second, .val (.int (0 : Int32)), .val (.double vd0), .second, .val (.double vd1), .second, .val (.double vd2), .second, .val (.double vd3), .second, .val (.ref b12), .val (.double (0 : UInt64)), .second] [])) _
      refine XS.iload X12.here hx rfl (hb hby at_120) rfl ?_
      show Steps p.tables e below (T12.setTop (mkF m 122 #[.val (.int x0), .val (.long x1), .second, .val (.long x2), .second, .val (.long x3), .second, .val (.long x4), .second, .val (.int (0 : Int32)), .val (.double vd0), .second, .val (.double vd1), .second, .val (.double vd2), .second, .val (.double vd3), .second, .val (.ref b12), .val (.double (0 : UInt64)), .second] [(.int (0 : Int32))])) _
      refine XS.iconst X12.here hx rfl (hb hby at_122) ?_
      show Steps p.tables e below (T12.setTop (mkF m 123 #[.val (.int x0), .val (.long x1), .second, .val (.long x2), .second, .val (.long x3), .second, .val (.long x4), .second, .val (.int (0 : Int32)), .val (.double vd0), .second, .val (.double vd1), .second, .val (.double vd2), .second, .val (.double vd3), .second, .val (.ref b12), .val (.double (0 : UInt64)), .second] [(.int (3 : Int32)), (.int (0 : Int32))])) _
      refine XS.icmpYes X12.here hx rfl (pc0 := 123) (pc' := 133) rfl (hb hby at_123) rfl ((flt (by decide)).2.2.2) (by decide) (by decide) ?_
      show Steps p.tables e below (T12.setTop (mkF m 133 #[.val (.int x0), .val (.long x1), .second, .val (.long x2), .second, .val (.long x3), .second, .val (.long x4), .second, .val (.int (0 : Int32)), .val (.double vd0), .second, .val (.double vd1), .second, .val (.double vd2), .second, .val (.double vd3), .second, .val (.ref b12), .val (.double (0 : UInt64)), .second] [])) _
      refine XS.aload X12.here hx rfl (hb hby at_133) rfl rfl ?_
      exact k)
    obtain ⟨_, _, ⟨T15, L15, k15, n15⟩, -, X15, ⟨Lc15, hQ15, l15, y15, z15⟩, st15⟩ := Jvm.LawKit.callS X12 hx (y := (⟨"com/example/kalchas/kalchas/evaluation/Evaluation", "sum", "([D)D"⟩ : MethodName)) hown (mvT hZ (hw _ (List.mem_of_getElem? (i := 2) rfl))) (mvT hZ (hw _ (List.mem_of_getElem? (i := 3) rfl))) (mvT hZ (hw _ (List.mem_of_getElem? (i := 4) rfl))) (mvT hZ (hw _ (List.mem_of_getElem? (i := 5) rfl))) (by decide) (backOf (W := 0) (rms0 l Z a0 hw [] b12 k12  h12 n0 Z12 VV12) hZ (hw _ (List.mem_of_getElem? (i := 5) rfl)) (hw _ (List.mem_of_getElem? (i := 4) rfl)) (by decide) (by decide)) (g := (mkF m 135 #[.val (.int x0), .val (.long x1), .second, .val (.long x2), .second, .val (.long x3), .second, .val (.long x4), .second, .val (.int (0 : Int32)), .val (.double vd0), .second, .val (.double vd1), .second, .val (.double vd2), .second, .val (.double vd3), .second, .val (.ref b12), .val (.double (0 : UInt64)), .second] [(.ref b12)])) rfl (by rw [hml]; rfl) (argsL := [(.ref b12)]) (rest := []) (lenOf pd0_0 rfl) rfl (by show 2 * 0 + _ ≤ _; exact Nat.le_of_eq rfl) (hb hby at_135) (fun _ _ => ⟨rfl, e12, (by decide : 1 + 0 ≤ _), (by decide : 0 + 0 ≤ _)⟩)
    dsimp only [Pt.U, Pt.locs, Pt.cells, Pt.slots] at X15 l15 y15 z15 st15 hQ15
    subst l15 y15 z15
    obtain ⟨rfl, Nq15, e15⟩ := hQ15
    have N15 := Fr.app N0 Nq15
    have p16 : ∀ t, Steps p.tables e below (T15.setTop (mkF m 138 #[.val (.int x0), .val (.long x1), .second, .val (.long x2), .second, .val (.long x3), .second, .val (.long x4), .second, .val (.int (0 : Int32)), .val (.double vd0), .second, .val (.double vd1), .second, .val (.double vd2), .second, .val (.double vd3), .second, .val (.ref b12), .val (.double (0 : UInt64)), .second] [(.double (0 : UInt64))])) t → Steps p.tables e below (s₁.setTop (entryFrame m #[(.int x0), (.long x1), (.long x2), (.long x3), (.long x4)] maxLocals)) t := fun t k => p14 t (st15 _ k)
    have p17 : ∀ t, Steps p.tables e below (T15.setTop (mkF m 149 #[.val (.int x0), .val (.long x1), .second, .val (.long x2), .second, .val (.long x3), .second, .val (.long x4), .second, .val (.int (0 : Int32)), .val (.double vd0), .second, .val (.double vd1), .second, .val (.double vd2), .second, .val (.double vd3), .second, .val (.ref b12), .val (.double (0 : UInt64)), .second] [(.int (1 : Int32))])) t → Steps p.tables e below (s₁.setTop (entryFrame m #[(.int x0), (.long x1), (.long x2), (.long x3), (.long x4)] maxLocals)) t := fun t k => p16 t (by
      show Steps p.tables e below (T15.setTop (mkF m 138 #[.val (.int x0), .val (.long x1), .second, .val (.long x2), .second, .val (.long x3), .second, .val (.long x4), .second, .val (.int (0 : Int32)), .val (.double vd0), .second, .val (.double vd1), .second, .val (.double vd2), .second, .val (.double vd3), .second, .val (.ref b12), .val (.double (0 : UInt64)), .second] [(.double (0 : UInt64))])) _
      refine XS.dload X15.here hx rfl (hb hby at_138) rfl ?_
      show Steps p.tables e below (T15.setTop (mkF m 140 #[.val (.int x0), .val (.long x1), .second, .val (.long x2), .second, .val (.long x3), .second, .val (.long x4), .second, .val (.int (0 : Int32)), .val (.double vd0), .second, .val (.double vd1), .second, .val (.double vd2), .second, .val (.double vd3), .second, .val (.ref b12), .val (.double (0 : UInt64)), .second] [(.double (0 : UInt64)), (.double (0 : UInt64))])) _
      refine XS.dcmpS X15.here hx rfl (hb hby at_140) rfl (v := (0 : Int32)) (dcmpV_self (own_nn own_z (by decide)) _) ?_
      show Steps p.tables e below (T15.setTop (mkF m 141 #[.val (.int x0), .val (.long x1), .second, .val (.long x2), .second, .val (.long x3), .second, .val (.long x4), .second, .val (.int (0 : Int32)), .val (.double vd0), .second, .val (.double vd1), .second, .val (.double vd2), .second, .val (.double vd3), .second, .val (.ref b12), .val (.double (0 : UInt64)), .second] [(.int (0 : Int32))])) _
      refine XS.ifNo X15.here hx rfl (hb hby at_141) rfl ((if0 _ _).trans (teq (rfl)).2) ?_
      show Steps p.tables e below (T15.setTop (mkF m 144 #[.val (.int x0), .val (.long x1), .second, .val (.long x2), .second, .val (.long x3), .second, .val (.long x4), .second, .val (.int (0 : Int32)), .val (.double vd0), .second, .val (.double vd1), .second, .val (.double vd2), .second, .val (.double vd3), .second, .val (.ref b12), .val (.double (0 : UInt64)), .second] [])) _
      refine XS.iconst X15.here hx rfl (hb hby at_144) ?_
      show Steps p.tables e below (T15.setTop (mkF m 145 #[.val (.int x0), .val (.long x1), .second, .val (.long x2), .second, .val (.long x3), .second, .val (.long x4), .second, .val (.int (0 : Int32)), .val (.double vd0), .second, .val (.double vd1), .second, .val (.double vd2), .second, .val (.double vd3), .second, .val (.ref b12), .val (.double (0 : UInt64)), .second] [(.int (1 : Int32))])) _
      refine XS.goto X15.here hx rfl (pc0 := 145) (pc' := 149) rfl (hb hby at_145) (by decide) (by decide) ?_
      exact k)
    obtain ⟨fs, hr, hrun, hended, hW, hsame⟩ := X15.leave (v := some (.int (1 : Int32))) (fun h => by rw [Bd.returns] at h; cases h)
    refine ⟨_, _, p17 _ ?_, hrun, hended, _, _, rfl, ?_, ⟨_, rfl⟩, hW, hsame.mono (by decide) (by decide)⟩
    · show Steps p.tables e below (T15.setTop (mkF m 149 #[.val (.int x0), .val (.long x1), .second, .val (.long x2), .second, .val (.long x3), .second, .val (.long x4), .second, .val (.int (0 : Int32)), .val (.double vd0), .second, .val (.double vd1), .second, .val (.double vd2), .second, .val (.double vd3), .second, .val (.ref b12), .val (.double (0 : UInt64)), .second] [(.int (1 : Int32))])) _
      exact retN X15 hx (t := .boolean) Bd.returns (by simp) (hb hby at_149) hr
    · show Q0 Z x0 x1 x2 x3 x4 h0 n0 _ T15.heap _
      rw [e15]
      exact ⟨rfl, N15⟩
  · obtain ⟨T18, h18, k18, X18, e18, E18, A18, st18⟩ := newP X0 hx hZ (hw _ (List.mem_of_getElem? (i := 1) rfl)) e0 (g := (mkF m 28 #[.val (.int x0), .val (.long x1), .second, .val (.long x2), .second, .val (.long x3), .second, .val (.long x4), .second, .val (.int (1 : Int32)), .val (.double vd0), .second, .val (.double vd1), .second, .val (.double vd2), .second, .val (.double vd3), .second, .unset, .unset, .unset] [(.int (1 : Int32))])) rfl (hb hby at_28) rfl (by decide) (cap := 1) (by decide) (by decide) (by decide) (by decide)
    obtain ⟨b18, g18⟩ : ∃ z, z = h0.size := ⟨_, rfl⟩
    rw [← g18] at A18 st18
    have gn_b18 : n0 ≤ b18 := Nat.le_trans Z0 (Nat.le_of_eq g18.symm)
    have Z18 := Nat.le_trans Z0 E18.1
    have VV18 : Arv Z h18 b18 k18 .double (1 : Int32) [(.double (0 : UInt64))] (.double (0 : UInt64)) := (Arv.new A18 (by decide)).pad (pad_rep [] (.double (0 : UInt64)) 1)
    have p19 : ∀ t, Steps p.tables e below (T18.setTop (mkF m 30 #[.val (.int x0), .val (.long x1), .second, .val (.long x2), .second, .val (.long x3), .second, .val (.long x4), .second, .val (.int (1 : Int32)), .val (.double vd0), .second, .val (.double vd1), .second, .val (.double vd2), .second, .val (.double vd3), .second, .unset, .unset, .unset] [(.ref b18)])) t → Steps p.tables e below (s₁.setTop (entryFrame m #[(.int x0), (.long x1), (.long x2), (.long x3), (.long x4)] maxLocals)) t := fun t k => p11 t (st18 t k)
    have p20 : ∀ t, Steps p.tables e below (T18.setTop (mkF m 42 #[.val (.int x0), .val (.long x1), .second, .val (.long x2), .second, .val (.long x3), .second, .val (.long x4), .second, .val (.int (1 : Int32)), .val (.double vd0), .second, .val (.double vd1), .second, .val (.double vd2), .second, .val (.double vd3), .second, .val (.ref b18), .unset, .unset] [(.double vd0), (.int (0 : Int32)), (.ref b18)])) t → Steps p.tables e below (s₁.setTop (entryFrame m #[(.int x0), (.long x1), (.long x2), (.long x3), (.long x4)] maxLocals)) t := fun t k => p19 t (by
      show Steps p.tables e below (T18.setTop (mkF m 30 #[.val (.int x0), .val (.long x1), .second, .val (.long x2), .second, .val (.long x3), .second, .val (.long x4), .second, .val (.int (1 : Int32)), .val (.double vd0), .second, .val (.double vd1), .second, .val (.double vd2), .second, .val (.double vd3), .second, .unset, .unset, .unset] [(.ref b18)])) _
      refine XS.astore X18.here hx rfl (hb hby at_30) rfl rfl (l' := #[.val (.int x0), .val (.long x1), .second, .val (.long x2), .second, .val (.long x3), .second, .val (.long x4), .second, .val (.int (1 : Int32)), .val (.double vd0), .second, .val (.double vd1), .second, .val (.double vd2), .second, .val (.double vd3), .second, .val (.ref b18), .unset, .unset]) rfl ?_
      show Steps p.tables e below (T18.setTop (mkF m 32 #[.val (.int x0), .val (.long x1), .second, .val (.long x2), .second, .val (.long x3), .second, .val (.long x4), .second, .val (.int (1 : Int32)), .val (.double vd0), .second, .val (.double vd1), .second, .val (.double vd2), .second, .val (.double vd3), .second, .val (.ref b18), .unset, .unset] [])) _
      refine XS.iload X18.here hx rfl (hb hby at_32) rfl ?_
      show Steps p.tables e below (T18.setTop (mkF m 34 #[.val (.int x0), .val (.long x1), .second, .val (.long x2), .second, .val (.long x3), .second, .val (.long x4), .second, .val (.int (1 : Int32)), .val (.double vd0), .second, .val (.double vd1), .second, .val (.double vd2), .second, .val (.double vd3), .second, .val (.ref b18), .unset, .unset] [(.int (1 : Int32))])) _
      refine XS.ifNo X18.here hx rfl (hb hby at_34) rfl ((if0 _ _).trans (tlt (by decide)).2.2.2) ?_
      show Steps p.tables e below (T18.setTop (mkF m 37 #[.val (.int x0), .val (.long x1), .second, .val (.long x2), .second, .val (.long x3), .second, .val (.long x4), .second, .val (.int (1 : Int32)), .val (.double vd0), .second, .val (.double vd1), .second, .val (.double vd2), .second, .val (.double vd3), .second, .val (.ref b18), .unset, .unset] [])) _
      refine XS.aload X18.here hx rfl (hb hby at_37) rfl rfl ?_
      show Steps p.tables e below (T18.setTop (mkF m 39 #[.val (.int x0), .val (.long x1), .second, .val (.long x2), .second, .val (.long x3), .second, .val (.long x4), .second, .val (.int (1 : Int32)), .val (.double vd0), .second, .val (.double vd1), .second, .val (.double vd2), .second, .val (.double vd3), .second, .val (.ref b18), .unset, .unset] [(.ref b18)])) _
      refine XS.iconst X18.here hx rfl (hb hby at_39) ?_
      show Steps p.tables e below (T18.setTop (mkF m 40 #[.val (.int x0), .val (.long x1), .second, .val (.long x2), .second, .val (.long x3), .second, .val (.long x4), .second, .val (.int (1 : Int32)), .val (.double vd0), .second, .val (.double vd1), .second, .val (.double vd2), .second, .val (.double vd3), .second, .val (.ref b18), .unset, .unset] [(.int (0 : Int32)), (.ref b18)])) _
      refine XS.dload X18.here hx rfl (hb hby at_40) rfl ?_
      exact k)
    obtain ⟨cl21, Ar21, q21, Sz21, Ng21, Hs21, G21⟩ := id VV18
    have hin21 : ¬ ((0 : Int32) < 0 ∨ cl21.slots.size ≤ ((0 : Int32)).toNatClampNeg) := inb_of Sz21 (⟨by decide, by decide⟩)
    obtain ⟨T21, h21, X21, e21, W21, st21⟩ := stD X18 hx hZ e18 Ar21 (j := (0 : Int32)) hin21 (g := (mkF m 42 #[.val (.int x0), .val (.long x1), .second, .val (.long x2), .second, .val (.long x3), .second, .val (.long x4), .second, .val (.int (1 : Int32)), .val (.double vd0), .second, .val (.double vd1), .second, .val (.double vd2), .second, .val (.double vd3), .second, .val (.ref b18), .unset, .unset] [(.double vd0), (.int (0 : Int32)), (.ref b18)])) rfl rfl (hb hby at_42)
    have VV21 : Arv Z h21 b18 k18 .double (1 : Int32) [(.double vd0)] (.double (0 : UInt64)) := Arv.set Ar21 q21 Sz21 Ng21 Hs21 G21 rfl W21 0 (by decide) (Nat.le_of_ble_eq_true rfl)
    have Z21 := Nat.le_trans Z18 (Keep.of_wr W21).1
    have N21 := Fr.snoc X21 N0 gn_b18
    have p22 : ∀ t, Steps p.tables e below (T21.setTop (mkF m 43 #[.val (.int x0), .val (.long x1), .second, .val (.long x2), .second, .val (.long x3), .second, .val (.long x4), .second, .val (.int (1 : Int32)), .val (.double vd0), .second, .val (.double vd1), .second, .val (.double vd2), .second, .val (.double vd3), .second, .val (.ref b18), .unset, .unset] [])) t → Steps p.tables e below (s₁.setTop (entryFrame m #[(.int x0), (.long x1), (.long x2), (.long x3), (.long x4)] maxLocals)) t := fun t k => p20 t (st21 t k)
    have p23 : ∀ t, Steps p.tables e below (T21.setTop (mkF m 135 #[.val (.int x0), .val (.long x1), .second, .val (.long x2), .second, .val (.long x3), .second, .val (.long x4), .second, .val (.int (1 : Int32)), .val (.double vd0), .second, .val (.double vd1), .second, .val (.double vd2), .second, .val (.double vd3), .second, .val (.ref b18), .val (.double (FP.dadd (0 : UInt64) vd0)), .second] [(.ref b18)])) t → Steps p.tables e below (s₁.setTop (entryFrame m #[(.int x0), (.long x1), (.long x2), (.long x3), (.long x4)] maxLocals)) t := fun t k => p22 t (by
      show Steps p.tables e below (T21.setTop (mkF m 43 #[.val (.int x0), .val (.long x1), .second, .val (.long x2), .second, .val (.long x3), .second, .val (.long x4), .second, .val (.int (1 : Int32)), .val (.double vd0), .second, .val (.double vd1), .second, .val (.double vd2), .second, .val (.double vd3), .second, .val (.ref b18), .unset, .unset] [])) _
      refine XS.iload X21.here hx rfl (hb hby at_43) rfl ?_
      show Steps p.tables e below (T21.setTop (mkF m 45 #[.val (.int x0), .val (.long x1), .second, .val (.long x2), .second, .val (.long x3), .second, .val (.long x4), .second, .val (.int (1 : Int32)), .val (.double vd0), .second, .val (.double vd1), .second, .val (.double vd2), .second, .val (.double vd3), .second, .val (.ref b18), .unset, .unset] [(.int (1 : Int32))])) _
      refine XS.iconst X21.here hx rfl (hb hby at_45) ?_
      show Steps p.tables e below (T21.setTop (mkF m 46 #[.val (.int x0), .val (.long x1), .second, .val (.long x2), .second, .val (.long x3), .second, .val (.long x4), .second, .val (.int (1 : Int32)), .val (.double vd0), .second, .val (.double vd1), .second, .val (.double vd2), .second, .val (.double vd3), .second, .val (.ref b18), .unset, .unset] [(.int (1 : Int32)), (.int (1 : Int32))])) _
      refine XS.icmpYes X21.here hx rfl (pc0 := 46) (pc' := 55) rfl (hb hby at_46) rfl ((flt (by decide)).2.2.2) (by decide) (by decide) ?_
      show Steps p.tables e below (T21.setTop (mkF m 55 #[.val (.int x0), .val (.long x1), .second, .val (.long x2), .second, .val (.long x3), .second, .val (.long x4), .second, .val (.int (1 : Int32)), .val (.double vd0), .second, .val (.double vd1), .second, .val (.double vd2), .second, .val (.double vd3), .second, .val (.ref b18), .unset, .unset] [])) _
      refine XS.iload X21.here hx rfl (hb hby at_55) rfl ?_
      show Steps p.tables e below (T21.setTop (mkF m 57 #[.val (.int x0), .val (.long x1), .second, .val (.long x2), .second, .val (.long x3), .second, .val (.long x4), .second, .val (.int (1 : Int32)), .val (.double vd0), .second, .val (.double vd1), .second, .val (.double vd2), .second, .val (.double vd3), .second, .val (.ref b18), .unset, .unset] [(.int (1 : Int32))])) _
      refine XS.iconst X21.here hx rfl (hb hby at_57) ?_
      show Steps p.tables e below (T21.setTop (mkF m 58 #[.val (.int x0), .val (.long x1), .second, .val (.long x2), .second, .val (.long x3), .second, .val (.long x4), .second, .val (.int (1 : Int32)), .val (.double vd0), .second, .val (.double vd1), .second, .val (.double vd2), .second, .val (.double vd3), .second, .val (.ref b18), .unset, .unset] [(.int (2 : Int32)), (.int (1 : Int32))])) _
      refine XS.icmpYes X21.here hx rfl (pc0 := 58) (pc' := 67) rfl (hb hby at_58) rfl ((flt (by decide)).2.2.2) (by decide) (by decide) ?_
      show Steps p.tables e below (T21.setTop (mkF m 67 #[.val (.int x0), .val (.long x1), .second, .val (.long x2), .second, .val (.long x3), .second, .val (.long x4), .second, .val (.int (1 : Int32)), .val (.double vd0), .second, .val (.double vd1), .second, .val (.double vd2), .second, .val (.double vd3), .second, .val (.ref b18), .unset, .unset] [])) _
      refine XS.iload X21.here hx rfl (hb hby at_67) rfl ?_
      show Steps p.tables e below (T21.setTop (mkF m 69 #[.val (.int x0), .val (.long x1), .second, .val (.long x2), .second, .val (.long x3), .second, .val (.long x4), .second, .val (.int (1 : Int32)), .val (.double vd0), .second, .val (.double vd1), .second, .val (.double vd2), .second, .val (.double vd3), .second, .val (.ref b18), .unset, .unset] [(.int (1 : Int32))])) _
      refine XS.iconst X21.here hx rfl (hb hby at_69) ?_
      show Steps p.tables e below (T21.setTop (mkF m 70 #[.val (.int x0), .val (.long x1), .second, .val (.long x2), .second, .val (.long x3), .second, .val (.long x4), .second, .val (.int (1 : Int32)), .val (.double vd0), .second, .val (.double vd1), .second, .val (.double vd2), .second, .val (.double vd3), .second, .val (.ref b18), .unset, .unset] [(.int (3 : Int32)), (.int (1 : Int32))])) _
      refine XS.icmpYes X21.here hx rfl (pc0 := 70) (pc' := 79) rfl (hb hby at_70) rfl ((flt (by decide)).2.2.2) (by decide) (by decide) ?_
      show Steps p.tables e below (T21.setTop (mkF m 79 #[.val (.int x0), .val (.long x1), .second, .val (.long x2), .second, .val (.long x3), .second, .val (.long x4), .second, .val (.int (1 : Int32)), .val (.double vd0), .second, .val (.double vd1), .second, .val (.double vd2), .second, .val (.double vd3), .second, .val (.ref b18), .unset, .unset] [])) _
      refine XS.dconst0 X21.here hx rfl (hb hby at_79) (v := (0 : UInt64)) rfl ?_
      show Steps p.tables e below (T21.setTop (mkF m 80 #[.val (.int x0), .val (.long x1), .second, .val (.long x2), .second, .val (.long x3), .second, .val (.long x4), .second, .val (.int (1 : Int32)), .val (.double vd0), .second, .val (.double vd1), .second, .val (.double vd2), .second, .val (.double vd3), .second, .val (.ref b18), .unset, .unset] [(.double (0 : UInt64))])) _
      refine XS.dstore X21.here hx rfl (hb hby at_80) rfl (l' := #[.val (.int x0), .val (.long x1), .second, .val (.long x2), .second, .val (.long x3), .second, .val (.long x4), .second, .val (.int (1 : Int32)), .val (.double vd0), .second, .val (.double vd1), .second, .val (.double vd2), .second, .val (.double vd3), .second, .val (.ref b18), .val (.double (0 : UInt64)), .second]) rfl ?_
      show Steps p.tables e below (T21.setTop (mkF m 82 #[.val (.int x0), .val (.long x1), .second, .val (.long x2), .second, .val (.long x3), .second, .val (.long x4), .second, .val (.int (1 : Int32)), .val (.double vd0), .second, .val (.double vd1), .second, .val (.double vd2), .second, .val (.double vd3), .second, .val (.ref b18), .val (.double (0 : UInt64)), .second] [])) _
      refine XS.iload X21.here hx rfl (hb hby at_82) rfl ?_
      show Steps p.tables e below (T21.setTop (mkF m 84 #[.val (.int x0), .val (.long x1), .second, .val (.long x2), .second, .val (.long x3), .second, .val (.long x4), .second, .val (.int (1 : Int32)), .val (.double vd0), .second, .val (.double vd1), .second, .val (.double vd2), .second, .val (.double vd3), .second, .val (.ref b18), .val (.double (0 : UInt64)), .second] [(.int (1 : Int32))])) _
      refine XS.ifNo X21.here hx rfl (hb hby at_84) rfl ((if0 _ _).trans (tlt (by decide)).2.2.2) ?_
      show Steps p.tables e below (T21.setTop (mkF m 87 #[.val (.int x0), .val (.long x1), .second, .val (.long x2), .second, .val (.long x3), .second, .val (.long x4), .second, .val (.int (1 : Int32)), .val (.double vd0), .second, .val (.double vd1), .second, .val (.double vd2), .second, .val (.double vd3), .second, .val (.ref b18), .val (.double (0 : UInt64)), .second] [])) _
      refine XS.dload X21.here hx rfl (hb hby at_87) rfl ?_
      show Steps p.tables e below (T21.setTop (mkF m 89 #[.val (.int x0), .val (.long x1), .second, .val (.long x2), .second, .val (.long x3), .second, .val (.long x4), .second, .val (.int (1 : Int32)), .val (.double vd0), .second, .val (.double vd1), .second, .val (.double vd2), .second, .val (.double vd3), .second, .val (.ref b18), .val (.double (0 : UInt64)), .second] [(.double (0 : UInt64))])) _
      refine XS.dload X21.here hx rfl (hb hby at_89) rfl ?_
      show Steps p.tables e below (T21.setTop (mkF m 91 #[.val (.int x0), .val (.long x1), .second, .val (.long x2), .second, .val (.long x3), .second, .val (.long x4), .second, .val (.int (1 : Int32)), .val (.double vd0), .second, .val (.double vd1), .second, .val (.double vd2), .second, .val (.double vd3), .second, .val (.ref b18), .val (.double (0 : UInt64)), .second] [(.double vd0), (.double (0 : UInt64))])) _
      refine XS.daddS X21.here hx rfl (hb hby at_91) rfl (own_nn (own_s1 hm0) (by decide)) (v := (FP.dadd (0 : UInt64) vd0)) rfl ?_
      show Steps p.tables e below (T21.setTop (mkF m 92 #[.val (.int x0), .val (.long x1), .second, .val (.long x2), .second, .val (.long x3), .second, .val (.long x4), .second, .val (.int (1 : Int32)), .val (.double vd0), .second, .val (.double vd1), .second, .val (.double vd2), .second, .val (.double vd3), .second, .val (.ref b18), .val (.double (0 : UInt64)), .second] [(.double (FP.dadd (0 : UInt64) vd0))])) _
      refine XS.dstore X21.here hx rfl (hb hby at_92) rfl (l' := #[.val (.int x0), .val (.long x1), .second, .val (.long x2), .second, .val (.long x3), .second, .val (.long x4), .second, .val (.int (1 : Int32)), .val (.double vd0), .second, .val (.double vd1), .second, .val (.double vd2), .second, .val (.double vd3), .second, .val (.ref b18), .val (.double (FP.dadd (0 : UInt64) vd0)), .second]) rfl ?_
      show Steps p.tables e below (T21.setTop (mkF m 94 #[.val (.int x0), .val (.long x1), .second, .val (.long x2), .second, .val (.long x3), .second, .val (.long x4), .second, .val (.int (1 : Int32)), .val (.double vd0), .second, .val (.double vd1), .second, .val (.double vd2), .second, .val (.double vd3), .second, .val (.ref b18), .val (.double (FP.dadd (0 : UInt64) vd0)), .second] [])) _
      refine XS.iload X21.here hx rfl (hb hby at_94) rfl ?_
      show Steps p.tables e below (T21.setTop (mkF m 96 #[.val (.int x0), .val (.long x1), .second, .val (.long x2), .second, .val (.long x3), .second, .val (.long x4), .second, .val (.int (1 : Int32)), .val (.double vd0), .second, .val (.double vd1), .second, .val (.double vd2), .second, .val (.double vd3), .second, .val (.ref b18), .val (.double (FP.dadd (0 : UInt64) vd0)), .second] [(.int (1 : Int32))])) _
      refine XS.iconst X21.here hx rfl (hb hby at_96) ?_
      show Steps p.tables e below (T21.setTop (mkF m 97 #[.val (.int x0), .val (.long x1), .second, .val (.long x2), .second, .val (.long x3), .second, .val (.long x4), .second, .val (.int (1 : Int32)), .val (.double vd0), .second, .val (.double vd1), .second, .val (.double vd2), .second, .val (.double vd3), .second, .val (.ref b18), .val (.double (FP.dadd (0 : UInt64) vd0)), .second] [(.int (1 : Int32)), (.int (1 : Int32))])) _
      refine XS.icmpYes X21.here hx rfl (pc0 := 97) (pc' := 107) rfl (hb hby at_97) rfl ((flt (by decide)).2.2.2) (by decide) (by decide) ?_
      show Steps p.tables e below (T21.setTop (mkF m 107 #[.val (.int x0), .val (.long x1), .second, .val (.long x2), .second, .val (.long x3), .second, .val (.long x4), .second, .val (.int (1 : Int32)), .val (.double vd0), .second, .val (.double vd1), .second, .val (.double vd2), .second, .val (.double vd3), .second, .val (.ref b18), .val (.double (FP.dadd (0 : UInt64) vd0)), .second] [])) _
      refine XS.iload X21.here hx rfl (hb hby at_107) rfl ?_
      show Steps p.tables e below (T21.setTop (mkF m 109 #[.val (.int x0), .val (.long x1), .second, .val (.long x2), .second, .val (.long x3), .second, .val (.long x4), .second, .val (.int (1 : Int32)), .val (.double vd0), .second, .val (.double vd1), .second, .val (.double vd2), .second, .val (.double vd3), .second, .val (.ref b18), .val (.double (FP.dadd (0 : UInt64) vd0)), .second] [(.int (1 : Int32))])) _
      refine XS.iconst X21.here hx rfl (hb hby at_109) ?_
      show Steps p.tables e below (T21.setTop (mkF m 110 #[.val (.int x0), .val (.long x1), .second, .val (.long x2), .second, .val (.long x3), .second, .val (.long x4), .second, .val (.int (1 : Int32)), .val (.double vd0), .second, .val (.double vd1), .second, .val (.double vd2), .second, .val (.double vd3), .second, .val (.ref b18), .val (.double (FP.dadd (0 : UInt64) vd0)), .second] [(.int (2 : Int32)), (.int (1 : Int32))])) _
      refine XS.icmpYes X21.here hx rfl (pc0 := 110) (pc' := 120) rfl (hb hby at_110) rfl ((flt (by decide)).2.2.2) (by decide) (by decide) ?_
      show Steps p.tables e below (T21.setTop (mkF m 120 #[.val (.int x0), .val (.long x1), .second, .val (.long x2), .second, .val (.long x3), .second, .val (.long x4), .second, .val (.int (1 : Int32)), .val (.double vd0), .second, .val (.double vd1), .second, .val (.double vd2), .second, .val (.double vd3), .second, .val (.ref b18), .val (.double (FP.dadd (0 : UInt64) vd0)), .second] [])) _
      refine XS.iload X21.here hx rfl (hb hby at_120) rfl ?_
      show Steps p.tables e below (T21.setTop (mkF m 122 #[.val (.int x0), .val (.long x1), .second, .val (.long x2), .second, .val (.long x3), .second, .val (.long x4), .second, .val (.int (1 : Int32)), .val (.double vd0), .second, .val (.double vd1), .second, .val (.double vd2), .second, .val (.double vd3), .second, .val (.ref b18), .val (.double (FP.dadd (0 : UInt64) vd0)), .second] [(.int (1 : Int32))])) _
      refine XS.iconst X21.here hx rfl (hb hby at_122) ?_
      show Steps p.tables e below (T21.setTop (mkF m 123 #[.val (.int x0), .val (.long x1), .second, .val (.long x2), .second, .val (.long x3), .second, .val (.long x4), .second, .val (.int (1 : Int32)), .val (.double vd0), .second, .val (.double vd1), .second, .val (.double vd2), .second, .val (.double vd3), .second, .val (.ref b18), .val (.double (FP.dadd (0 : UInt64) vd0)), .second] [(.int (3 : Int32)), (.int (1 : Int32))])) _
      refine XS.icmpYes X21.here hx rfl (pc0 := 123) (pc' := 133) rfl (hb hby at_123) rfl ((flt (by decide)).2.2.2) (by decide) (by decide) ?_
      show Steps p.tables e below (T21.setTop (mkF m 133 #[.val (.int x0), .val (.long x1), .second, .val (.long x2), .second, .val (.long x3), .second, .val (.long x4), .second, .val (.int (1 : Int32)), .val (.double vd0), .second, .val (.double vd1), .second, .val (.double vd2), .second, .val (.double vd3), .second, .val (.ref b18), .val (.double (FP.dadd (0 : UInt64) vd0)), .second] [])) _
      refine XS.aload X21.here hx rfl (hb hby at_133) rfl rfl ?_
      exact k)
    obtain ⟨_, _, ⟨T24, L24, k24, n24⟩, -, X24, ⟨Lc24, hQ24, l24, y24, z24⟩, st24⟩ := Jvm.LawKit.callS X21 hx (y := (⟨"com/example/kalchas/kalchas/evaluation/Evaluation", "sum", "([D)D"⟩ : MethodName)) hown (mvT hZ (hw _ (List.mem_of_getElem? (i := 2) rfl))) (mvT hZ (hw _ (List.mem_of_getElem? (i := 3) rfl))) (mvT hZ (hw _ (List.mem_of_getElem? (i := 4) rfl))) (mvT hZ (hw _ (List.mem_of_getElem? (i := 5) rfl))) (by decide) (backOf (W := 0) (rms1 l Z a0 hw [] b18 k18 vd0 h21 n0 Z21 VV21 hm0) hZ (hw _ (List.mem_of_getElem? (i := 5) rfl)) (hw _ (List.mem_of_getElem? (i := 4) rfl)) (by decide) (by decide)) (g := (mkF m 135 #[.val (.int x0), .val (.long x1), .second, .val (.long x2), .second, .val (.long x3), .second, .val (.long x4), .second, .val (.int (1 : Int32)), .val (.double vd0), .second, .val (.double vd1), .second, .val (.double vd2), .second, .val (.double vd3), .second, .val (.ref b18), .val (.double (FP.dadd (0 : UInt64) vd0)), .second] [(.ref b18)])) rfl (by rw [hml]; rfl) (argsL := [(.ref b18)]) (rest := []) (lenOf pd0_0 rfl) rfl (by show 2 * 0 + _ ≤ _; exact Nat.le_of_eq rfl) (hb hby at_135) (fun _ _ => ⟨rfl, e21, (by decide : 1 + 0 ≤ _), (by decide : 1 + 0 ≤ _)⟩)
    dsimp only [Pt.U, Pt.locs, Pt.cells, Pt.slots] at X24 l24 y24 z24 st24 hQ24
    subst l24 y24 z24
    obtain ⟨rfl, Nq24, e24⟩ := hQ24
    have N24 := Fr.app N21 Nq24
    have p25 : ∀ t, Steps p.tables e below (T24.setTop (mkF m 138 #[.val (.int x0), .val (.long x1), .second, .val (.long x2), .second, .val (.long x3), .second, .val (.long x4), .second, .val (.int (1 : Int32)), .val (.double vd0), .second, .val (.double vd1), .second, .val (.double vd2), .second, .val (.double vd3), .second, .val (.ref b18), .val (.double (FP.dadd (0 : UInt64) vd0)), .second] [(.double (FP.dadd (0 : UInt64) vd0))])) t → Steps p.tables e below (s₁.setTop (entryFrame m #[(.int x0), (.long x1), (.long x2), (.long x3), (.long x4)] maxLocals)) t := fun t k => p23 t (st24 _ k)
    have p26 : ∀ t, Steps p.tables e below (T24.setTop (mkF m 149 #[.val (.int x0), .val (.long x1), .second, .val (.long x2), .second, .val (.long x3), .second, .val (.long x4), .second, .val (.int (1 : Int32)), .val (.double vd0), .second, .val (.double vd1), .second, .val (.double vd2), .second, .val (.double vd3), .second, .val (.ref b18), .val (.double (FP.dadd (0 : UInt64) vd0)), .second] [(.int (1 : Int32))])) t → Steps p.tables e below (s₁.setTop (entryFrame m #[(.int x0), (.long x1), (.long x2), (.long x3), (.long x4)] maxLocals)) t := fun t k => p25 t (by
      show Steps p.tables e below (T24.setTop (mkF m 138 #[.val (.int x0), .val (.long x1), .second, .val (.long x2), .second, .val (.long x3), .second, .val (.long x4), .second, .val (.int (1 : Int32)), .val (.double vd0), .second, .val (.double vd1), .second, .val (.double vd2), .second, .val (.double vd3), .second, .val (.ref b18), .val (.double (FP.dadd (0 : UInt64) vd0)), .second] [(.double (FP.dadd (0 : UInt64) vd0))])) _
      refine XS.dload X24.here hx rfl (hb hby at_138) rfl ?_
      show Steps p.tables e below (T24.setTop (mkF m 140 #[.val (.int x0), .val (.long x1), .second, .val (.long x2), .second, .val (.long x3), .second, .val (.long x4), .second, .val (.int (1 : Int32)), .val (.double vd0), .second, .val (.double vd1), .second, .val (.double vd2), .second, .val (.double vd3), .second, .val (.ref b18), .val (.double (FP.dadd (0 : UInt64) vd0)), .second] [(.double (FP.dadd (0 : UInt64) vd0)), (.double (FP.dadd (0 : UInt64) vd0))])) _
      refine XS.dcmpS X24.here hx rfl (hb hby at_140) rfl (v := (0 : Int32)) (dcmpV_self (own_nn (own_s1 hm0) (by decide)) _) ?_
      show Steps p.tables e below (T24.setTop (mkF m 141 #[.val (.int x0), .val (.long x1), .second, .val (.long x2), .second, .val (.long x3), .second, .val (.long x4), .second, .val (.int (1 : Int32)), .val (.double vd0), .second, .val (.double vd1), .second, .val (.double vd2), .second, .val (.double vd3), .second, .val (.ref b18), .val (.double (FP.dadd (0 : UInt64) vd0)), .second] [(.int (0 : Int32))])) _
      refine XS.ifNo X24.here hx rfl (hb hby at_141) rfl ((if0 _ _).trans (teq (rfl)).2) ?_
      show Steps p.tables e below (T24.setTop (mkF m 144 #[.val (.int x0), .val (.long x1), .second, .val (.long x2), .second, .val (.long x3), .second, .val (.long x4), .second, .val (.int (1 : Int32)), .val (.double vd0), .second, .val (.double vd1), .second, .val (.double vd2), .second, .val (.double vd3), .second, .val (.ref b18), .val (.double (FP.dadd (0 : UInt64) vd0)), .second] [])) _
      refine XS.iconst X24.here hx rfl (hb hby at_144) ?_
      show Steps p.tables e below (T24.setTop (mkF m 145 #[.val (.int x0), .val (.long x1), .second, .val (.long x2), .second, .val (.long x3), .second, .val (.long x4), .second, .val (.int (1 : Int32)), .val (.double vd0), .second, .val (.double vd1), .second, .val (.double vd2), .second, .val (.double vd3), .second, .val (.ref b18), .val (.double (FP.dadd (0 : UInt64) vd0)), .second] [(.int (1 : Int32))])) _
      refine XS.goto X24.here hx rfl (pc0 := 145) (pc' := 149) rfl (hb hby at_145) (by decide) (by decide) ?_
      exact k)
    obtain ⟨fs, hr, hrun, hended, hW, hsame⟩ := X24.leave (v := some (.int (1 : Int32))) (fun h => by rw [Bd.returns] at h; cases h)
    refine ⟨_, _, p26 _ ?_, hrun, hended, _, _, rfl, ?_, ⟨_, rfl⟩, hW, hsame.mono (by decide) (by decide)⟩
    · show Steps p.tables e below (T24.setTop (mkF m 149 #[.val (.int x0), .val (.long x1), .second, .val (.long x2), .second, .val (.long x3), .second, .val (.long x4), .second, .val (.int (1 : Int32)), .val (.double vd0), .second, .val (.double vd1), .second, .val (.double vd2), .second, .val (.double vd3), .second, .val (.ref b18), .val (.double (FP.dadd (0 : UInt64) vd0)), .second] [(.int (1 : Int32))])) _
      exact retN X24 hx (t := .boolean) Bd.returns (by simp) (hb hby at_149) hr
    · show Q0 Z x0 x1 x2 x3 x4 h0 n0 _ T24.heap _
      rw [e24]
      exact ⟨rfl, N24⟩
  · obtain ⟨T27, h27, k27, X27, e27, E27, A27, st27⟩ := newP X0 hx hZ (hw _ (List.mem_of_getElem? (i := 1) rfl)) e0 (g := (mkF m 28 #[.val (.int x0), .val (.long x1), .second, .val (.long x2), .second, .val (.long x3), .second, .val (.long x4), .second, .val (.int (2 : Int32)), .val (.double vd0), .second, .val (.double vd1), .second, .val (.double vd2), .second, .val (.double vd3), .second, .unset, .unset, .unset] [(.int (2 : Int32))])) rfl (hb hby at_28) rfl (by decide) (cap := 2) (by decide) (by decide) (by decide) (by decide)
    obtain ⟨b27, g27⟩ : ∃ z, z = h0.size := ⟨_, rfl⟩
    rw [← g27] at A27 st27
    have gn_b27 : n0 ≤ b27 := Nat.le_trans Z0 (Nat.le_of_eq g27.symm)
    have Z27 := Nat.le_trans Z0 E27.1
    have VV27 : Arv Z h27 b27 k27 .double (2 : Int32) [(.double (0 : UInt64)), (.double (0 : UInt64))] (.double (0 : UInt64)) := (Arv.new A27 (by decide)).pad (pad_rep [] (.double (0 : UInt64)) 2)
    have p28 : ∀ t, Steps p.tables e below (T27.setTop (mkF m 30 #[.val (.int x0), .val (.long x1), .second, .val (.long x2), .second, .val (.long x3), .second, .val (.long x4), .second, .val (.int (2 : Int32)), .val (.double vd0), .second, .val (.double vd1), .second, .val (.double vd2), .second, .val (.double vd3), .second, .unset, .unset, .unset] [(.ref b27)])) t → Steps p.tables e below (s₁.setTop (entryFrame m #[(.int x0), (.long x1), (.long x2), (.long x3), (.long x4)] maxLocals)) t := fun t k => p11 t (st27 t k)
    have p29 : ∀ t, Steps p.tables e below (T27.setTop (mkF m 42 #[.val (.int x0), .val (.long x1), .second, .val (.long x2), .second, .val (.long x3), .second, .val (.long x4), .second, .val (.int (2 : Int32)), .val (.double vd0), .second, .val (.double vd1), .second, .val (.double vd2), .second, .val (.double vd3), .second, .val (.ref b27), .unset, .unset] [(.double vd0), (.int (0 : Int32)), (.ref b27)])) t → Steps p.tables e below (s₁.setTop (entryFrame m #[(.int x0), (.long x1), (.long x2), (.long x3), (.long x4)] maxLocals)) t := fun t k => p28 t (by
      show Steps p.tables e below (T27.setTop (mkF m 30 #[.val (.int x0), .val (.long x1), .second, .val (.long x2), .second, .val (.long x3), .second, .val (.long x4), .second, .val (.int (2 : Int32)), .val (.double vd0), .second, .val (.double vd1), .second, .val (.double vd2), .second, .val (.double vd3), .second, .unset, .unset, .unset] [(.ref b27)])) _
      refine XS.astore X27.here hx rfl (hb hby at_30) rfl rfl (l' := #[.val (.int x0), .val (.long x1), .second, .val (.long x2), .second, .val (.long x3), .second, .val (.long x4), .second, .val (.int (2 : Int32)), .val (.double vd0), .second, .val (.double vd1), .second, .val (.double vd2), .second, .val (.double vd3), .second, .val (.ref b27), .unset, .unset]) rfl ?_
      show Steps p.tables e below (T27.setTop (mkF m 32 #[.val (.int x0), .val (.long x1), .second, .val (.long x2), .second, .val (.long x3), .second, .val (.long x4), .second, .val (.int (2 : Int32)), .val (.double vd0), .second, .val (.double vd1), .second, .val (.double vd2), .second, .val (.double vd3), .second, .val (.ref b27), .unset, .unset] [])) _
      refine XS.iload X27.here hx rfl (hb hby at_32) rfl ?_
      show Steps p.tables e below (T27.setTop (mkF m 34 #[.val (.int x0), .val (.long x1), .second, .val (.long x2), .second, .val (.long x3), .second, .val (.long x4), .second, .val (.int (2 : Int32)), .val (.double vd0), .second, .val (.double vd1), .second, .val (.double vd2), .second, .val (.double vd3), .second, .val (.ref b27), .unset, .unset] [(.int (2 : Int32))])) _
      refine XS.ifNo X27.here hx rfl (hb hby at_34) rfl ((if0 _ _).trans (tlt (by decide)).2.2.2) ?_
      show Steps p.tables e below (T27.setTop (mkF m 37 #[.val (.int x0), .val (.long x1), .second, .val (.long x2), .second, .val (.long x3), .second, .val (.long x4), .second, .val (.int (2 : Int32)), .val (.double vd0), .second, .val (.double vd1), .second, .val (.double vd2), .second, .val (.double vd3), .second, .val (.ref b27), .unset, .unset] [])) _
      refine XS.aload X27.here hx rfl (hb hby at_37) rfl rfl ?_
      show Steps p.tables e below (T27.setTop (mkF m 39 #[.val (.int x0), .val (.long x1), .second, .val (.long x2), .second, .val (.long x3), .second, .val (.long x4), .second, .val (.int (2 : Int32)), .val (.double vd0), .second, .val (.double vd1), .second, .val (.double vd2), .second, .val (.double vd3), .second, .val (.ref b27), .unset, .unset] [(.ref b27)])) _
      refine XS.iconst X27.here hx rfl (hb hby at_39) ?_
      show Steps p.tables e below (T27.setTop (mkF m 40 #[.val (.int x0), .val (.long x1), .second, .val (.long x2), .second, .val (.long x3), .second, .val (.long x4), .second, .val (.int (2 : Int32)), .val (.double vd0), .second, .val (.double vd1), .second, .val (.double vd2), .second, .val (.double vd3), .second, .val (.ref b27), .unset, .unset] [(.int (0 : Int32)), (.ref b27)])) _
      refine XS.dload X27.here hx rfl (hb hby at_40) rfl ?_
      exact k)
    obtain ⟨cl30, Ar30, q30, Sz30, Ng30, Hs30, G30⟩ := id VV27
    have hin30 : ¬ ((0 : Int32) < 0 ∨ cl30.slots.size ≤ ((0 : Int32)).toNatClampNeg) := inb_of Sz30 (⟨by decide, by decide⟩)
    obtain ⟨T30, h30, X30, e30, W30, st30⟩ := stD X27 hx hZ e27 Ar30 (j := (0 : Int32)) hin30 (g := (mkF m 42 #[.val (.int x0), .val (.long x1), .second, .val (.long x2), .second, .val (.long x3), .second, .val (.long x4), .second, .val (.int (2 : Int32)), .val (.double vd0), .second, .val (.double vd1), .second, .val (.double vd2), .second, .val (.double vd3), .second, .val (.ref b27), .unset, .unset] [(.double vd0), (.int (0 : Int32)), (.ref b27)])) rfl rfl (hb hby at_42)
    have VV30 : Arv Z h30 b27 k27 .double (2 : Int32) [(.double vd0), (.double (0 : UInt64))] (.double (0 : UInt64)) := Arv.set Ar30 q30 Sz30 Ng30 Hs30 G30 rfl W30 0 (by decide) (Nat.le_of_ble_eq_true rfl)
    have Z30 := Nat.le_trans Z27 (Keep.of_wr W30).1
    have N30 := Fr.snoc X30 N0 gn_b27
    have p31 : ∀ t, Steps p.tables e below (T30.setTop (mkF m 43 #[.val (.int x0), .val (.long x1), .second, .val (.long x2), .second, .val (.long x3), .second, .val (.long x4), .second, .val (.int (2 : Int32)), .val (.double vd0), .second, .val (.double vd1), .second, .val (.double vd2), .second, .val (.double vd3), .second, .val (.ref b27), .unset, .unset] [])) t → Steps p.tables e below (s₁.setTop (entryFrame m #[(.int x0), (.long x1), (.long x2), (.long x3), (.long x4)] maxLocals)) t := fun t k => p29 t (st30 t k)
    have p32 : ∀ t, Steps p.tables e below (T30.setTop (mkF m 54 #[.val (.int x0), .val (.long x1), .second, .val (.long x2), .second, .val (.long x3), .second, .val (.long x4), .second, .val (.int (2 : Int32)), .val (.double vd0), .second, .val (.double vd1), .second, .val (.double vd2), .second, .val (.double vd3), .second, .val (.ref b27), .unset, .unset] [(.double vd1), (.int (1 : Int32)), (.ref b27)])) t → Steps p.tables e below (s₁.setTop (entryFrame m #[(.int x0), (.long x1), (.long x2), (.long x3), (.long x4)] maxLocals)) t := fun t k => p31 t (by
      show Steps p.tables e below (T30.setTop (mkF m 43 #[.val (.int x0), .val (.long x1), .second, .val (.long x2), .second, .val (.long x3), .second, .val (.long x4), .second, .val (.int (2 : Int32)), .val (.double vd0), .second, .val (.double vd1), .second, .val (.double vd2), .second, .val (.double vd3), .second, .val (.ref b27), .unset, .unset] [])) _
      refine XS.iload X30.here hx rfl (hb hby at_43) rfl ?_
      show Steps p.tables e below (T30.setTop (mkF m 45 #[.val (.int x0), .val (.long x1), .second, .val (.long x2), .second, .val (.long x3), .second, .val (.long x4), .second, .val (.int (2 : Int32)), .val (.double vd0), .second, .val (.double vd1), .second, .val (.double vd2), .second, .val (.double vd3), .second, .val (.ref b27), .unset, .unset] [(.int (2 : Int32))])) _
      refine XS.iconst X30.here hx rfl (hb hby at_45) ?_
      show Steps p.tables e below (T30.setTop (mkF m 46 #[.val (.int x0), .val (.long x1), .second, .val (.long x2), .second, .val (.long x3), .second, .val (.long x4), .second, .val (.int (2 : Int32)), .val (.double vd0), .second, .val (.double vd1), .second, .val (.double vd2), .second, .val (.double vd3), .second, .val (.ref b27), .unset, .unset] [(.int (1 : Int32)), (.int (2 : Int32))])) _
      refine XS.icmpNo X30.here hx rfl (hb hby at_46) rfl ((tlt (by decide)).2.2.2) ?_
      show Steps p.tables e below (T30.setTop (mkF m 49 #[.val (.int x0), .val (.long x1), .second, .val (.long x2), .second, .val (.long x3), .second, .val (.long x4), .second, .val (.int (2 : Int32)), .val (.double vd0), .second, .val (.double vd1), .second, .val (.double vd2), .second, .val (.double vd3), .second, .val (.ref b27), .unset, .unset] [])) _
      refine XS.aload X30.here hx rfl (hb hby at_49) rfl rfl ?_
      show Steps p.tables e below (T30.setTop (mkF m 51 #[.val (.int x0), .val (.long x1), .second, .val (.long x2), .second, .val (.long x3), .second, .val (.long x4), .second, .val (.int (2 : Int32)), .val (.double vd0), .second, .val (.double vd1), .second, .val (.double vd2), .second, .val (.double vd3), .second, .val (.ref b27), .unset, .unset] [(.ref b27)])) _
      refine XS.iconst X30.here hx rfl (hb hby at_51) ?_
      show Steps p.tables e below (T30.setTop (mkF m 52 #[.val (.int x0), .val (.long x1), .second, .val (.long x2), .second, .val (.long x3), .second, .val (.long x4), .second, .val (.int (2 : Int32)), .val (.double vd0), .second, .val (.double vd1), .second, .val (.double vd2), .second, .val (.double vd3), .second, .val (.ref b27), .unset, .unset] [(.int (1 : Int32)), (.ref b27)])) _
      refine XS.dload X30.here hx rfl (hb hby at_52) rfl ?_
      exact k)
    obtain ⟨cl33, Ar33, q33, Sz33, Ng33, Hs33, G33⟩ := id VV30
    have hin33 : ¬ ((1 : Int32) < 0 ∨ cl33.slots.size ≤ ((1 : Int32)).toNatClampNeg) := inb_of Sz33 (⟨by decide, by decide⟩)
    obtain ⟨T33, h33, X33, e33, W33, st33⟩ := stD X30 hx hZ e30 Ar33 (j := (1 : Int32)) hin33 (g := (mkF m 54 #[.val (.int x0), .val (.long x1), .second, .val (.long x2), .second, .val (.long x3), .second, .val (.long x4), .second, .val (.int (2 : Int32)), .val (.double vd0), .second, .val (.double vd1), .second, .val (.double vd2), .second, .val (.double vd3), .second, .val (.ref b27), .unset, .unset] [(.double vd1), (.int (1 : Int32)), (.ref b27)])) rfl rfl (hb hby at_54)
    have VV33 : Arv Z h33 b27 k27 .double (2 : Int32) [(.double vd0), (.double vd1)] (.double (0 : UInt64)) := Arv.set Ar33 q33 Sz33 Ng33 Hs33 G33 rfl W33 1 (by decide) (Nat.le_of_ble_eq_true rfl)
    have Z33 := Nat.le_trans Z30 (Keep.of_wr W33).1
    have N33 := Fr.snoc X33 N30 gn_b27
    have p34 : ∀ t, Steps p.tables e below (T33.setTop (mkF m 55 #[.val (.int x0), .val (.long x1), .second, .val (.long x2), .second, .val (.long x3), .second, .val (.long x4), .second, .val (.int (2 : Int32)), .val (.double vd0), .second, .val (.double vd1), .second, .val (.double vd2), .second, .val (.double vd3), .second, .val (.ref b27), .unset, .unset] [])) t → Steps p.tables e below (s₁.setTop (entryFrame m #[(.int x0), (.long x1), (.long x2), (.long x3), (.long x4)] maxLocals)) t := fun t k => p32 t (st33 t k)
    have p35 : ∀ t, Steps p.tables e below (T33.setTop (mkF m 135 #[.val (.int x0), .val (.long x1), .second, .val (.long x2), .second, .val (.long x3), .second, .val (.long x4), .second, .val (.int (2 : Int32)), .val (.double vd0), .second, .val (.double vd1), .second, .val (.double vd2), .second, .val (.double vd3), .second, .val (.ref b27), .val (.double (FP.dadd (FP.dadd (0 : UInt64) vd0) vd1)), .second] [(.ref b27)])) t → Steps p.tables e below (s₁.setTop (entryFrame m #[(.int x0), (.long x1), (.long x2), (.long x3), (.long x4)] maxLocals)) t := fun t k => p34 t (by
      show Steps p.tables e below (T33.setTop (mkF m 55 #[.val (.int x0), .val (.long x1), .second, .val (.long x2), .second, .val (.long x3), .second, .val (.long x4), .second, .val (.int (2 : Int32)), .val (.double vd0), .second, .val (.double vd1), .second, .val (.double vd2), .second, .val (.double vd3), .second, .val (.ref b27), .unset, .unset] [])) _
      refine XS.iload X33.here hx rfl (hb hby at_55) rfl ?_
      show Steps p.tables e below (T33.setTop (mkF m 57 #[.val (.int x0), .val (.long x1), .second, .val (.long x2), .second, .val (.long x3), .second, .val (.long x4), .second, .val (.int (2 : Int32)), .val (.double vd0), .second, .val (.double vd1), .second, .val (.double vd2), .second, .val (.double vd3), .second, .val (.ref b27), .unset, .unset] [(.int (2 : Int32))])) _
      refine XS.iconst X33.here hx rfl (hb hby at_57) ?_
      show Steps p.tables e below (T33.setTop (mkF m 58 #[.val (.int x0), .val (.long x1), .second, .val (.long x2), .second, .val (.long x3), .second, .val (.long x4), .second, .val (.int (2 : Int32)), .val (.double vd0), .second, .val (.double vd1), .second, .val (.double vd2), .second, .val (.double vd3), .second, .val (.ref b27), .unset, .unset] [(.int (2 : Int32)), (.int (2 : Int32))])) _
      refine XS.icmpYes X33.here hx rfl (pc0 := 58) (pc' := 67) rfl (hb hby at_58) rfl ((flt (by decide)).2.2.2) (by decide) (by decide) ?_
      show Steps p.tables e below (T33.setTop (mkF m 67 #[.val (.int x0), .val (.long x1), .second, .val (.long x2), .second, .val (.long x3), .second, .val (.long x4), .second, .val (.int (2 : Int32)), .val (.double vd0), .second, .val (.double vd1), .second, .val (.double vd2), .second, .val (.double vd3), .second, .val (.ref b27), .unset, .unset] [])) _
      refine XS.iload X33.here hx rfl (hb hby at_67) rfl ?_
      show Steps p.tables e below (T33.setTop (mkF m 69 #[.val (.int x0), .val (.long x1), .second, .val (.long x2), .second, .val (.long x3), .second, .val (.long x4), .second, .val (.int (2 : Int32)), .val (.double vd0), .second, .val (.double vd1), .second, .val (.double vd2), .second, .val (.double vd3), .second, .val (.ref b27), .unset, .unset] [(.int (2 : Int32))])) _
      refine XS.iconst X33.here hx rfl (hb hby at_69) ?_
      show Steps p.tables e below (T33.setTop (mkF m 70 #[.val (.int x0), .val (.long x1), .second, .val (.long x2), .second, .val (.long x3), .second, .val (.long x4), .second, .val (.int (2 : Int32)), .val (.double vd0), .second, .val (.double vd1), .second, .val (.double vd2), .second, .val (.double vd3), .second, .val (.ref b27), .unset, .unset] [(.int (3 : Int32)), (.int (2 : Int32))])) _
      refine XS.icmpYes X33.here hx rfl (pc0 := 70) (pc' := 79) rfl (hb hby at_70) rfl ((flt (by decide)).2.2.2) (by decide) (by decide) ?_
      show Steps p.tables e below (T33.setTop (mkF m 79 #[.val (.int x0), .val (.long x1), .second, .val (.long x2), .second, .val (.long x3), .second, .val (.long x4), .second, .val (.int (2 : Int32)), .val (.double vd0), .second, .val (.double vd1), .second, .val (.double vd2), .second, .val (.double vd3), .second, .val (.ref b27), .unset, .unset] [])) _
      refine XS.dconst0 X33.here hx rfl (hb hby at_79) (v := (0 : UInt64)) rfl ?_
      show Steps p.tables e below (T33.setTop (mkF m 80 #[.val (.int x0), .val (.long x1), .second, .val (.long x2), .second, .val (.long x3), .second, .val (.long x4), .second, .val (.int (2 : Int32)), .val (.double vd0), .second, .val (.double vd1), .second, .val (.double vd2), .second, .val (.double vd3), .second, .val (.ref b27), .unset, .unset] [(.double (0 : UInt64))])) _
      refine XS.dstore X33.here hx rfl (hb hby at_80) rfl (l' := #[.val (.int x0), .val (.long x1), .second, .val (.long x2), .second, .val (.long x3), .second, .val (.long x4), .second, .val (.int (2 : Int32)), .val (.double vd0), .second, .val (.double vd1), .second, .val (.double vd2), .second, .val (.double vd3), .second, .val (.ref b27), .val (.double (0 : UInt64)), .second]) rfl ?_
      show Steps p.tables e below (T33.setTop (mkF m 82 #[.val (.int x0), .val (.long x1), .second, .val (.long x2), .second, .val (.long x3), .second, .val (.long x4), .second, .val (.int (2 : Int32)), .val (.double vd0), .second, .val (.double vd1), .second, .val (.double vd2), .second, .val (.double vd3), .second, .val (.ref b27), .val (.double (0 : UInt64)), .second] [])) _
      refine XS.iload X33.here hx rfl (hb hby at_82) rfl ?_
      show Steps p.tables e below (T33.setTop (mkF m 84 #[.val (.int x0), .val (.long x1), .second, .val (.long x2), .second, .val (.long x3), .second, .val (.long x4), .second, .val (.int (2 : Int32)), .val (.double vd0), .second, .val (.double vd1), .second, .val (.double vd2), .second, .val (.double vd3), .second, .val (.ref b27), .val (.double (0 : UInt64)), .second] [(.int (2 : Int32))])) _
      refine XS.ifNo X33.here hx rfl (hb hby at_84) rfl ((if0 _ _).trans (tlt (by decide)).2.2.2) ?_
      show Steps p.tables e below (T33.setTop (mkF m 87 #[.val (.int x0), .val (.long x1), .second, .val (.long x2), .second, .val (.long x3), .second, .val (.long x4), .second, .val (.int (2 : Int32)), .val (.double vd0), .second, .val (.double vd1), .second, .val (.double vd2), .second, .val (.double vd3), .second, .val (.ref b27), .val (.double (0 : UInt64)), .second] [])) _
      refine XS.dload X33.here hx rfl (hb hby at_87) rfl ?_
      show Steps p.tables e below (T33.setTop (mkF m 89 #[.val (.int x0), .val (.long x1), .second, .val (.long x2), .second, .val (.long x3), .second, .val (.long x4), .second, .val (.int (2 : Int32)), .val (.double vd0), .second, .val (.double vd1), .second, .val (.double vd2), .second, .val (.double vd3), .second, .val (.ref b27), .val (.double (0 : UInt64)), .second] [(.double (0 : UInt64))])) _
      refine XS.dload X33.here hx rfl (hb hby at_89) rfl ?_
      show Steps p.tables e below (T33.setTop (mkF m 91 #[.val (.int x0), .val (.long x1), .second, .val (.long x2), .second, .val (.long x3), .second, .val (.long x4), .second, .val (.int (2 : Int32)), .val (.double vd0), .second, .val (.double vd1), .second, .val (.double vd2), .second, .val (.double vd3), .second, .val (.ref b27), .val (.double (0 : UInt64)), .second] [(.double vd0), (.double (0 : UInt64))])) _
      refine XS.daddS X33.here hx rfl (hb hby at_91) rfl (own_nn (own_s1 hm0) (by decide)) (v := (FP.dadd (0 : UInt64) vd0)) rfl ?_
      show Steps p.tables e below (T33.setTop (mkF m 92 #[.val (.int x0), .val (.long x1), .second, .val (.long x2), .second, .val (.long x3), .second, .val (.long x4), .second, .val (.int (2 : Int32)), .val (.double vd0), .second, .val (.double vd1), .second, .val (.double vd2), .second, .val (.double vd3), .second, .val (.ref b27), .val (.double (0 : UInt64)), .second] [(.double (FP.dadd (0 : UInt64) vd0))])) _
      refine XS.dstore X33.here hx rfl (hb hby at_92) rfl (l' := #[.val (.int x0), .val (.long x1), .second, .val (.long x2), .second, .val (.long x3), .second, .val (.long x4), .second, .val (.int (2 : Int32)), .val (.double vd0), .second, .val (.double vd1), .second, .val (.double vd2), .second, .val (.double vd3), .second, .val (.ref b27), .val (.double (FP.dadd (0 : UInt64) vd0)), .second]) rfl ?_
      show Steps p.tables e below (T33.setTop (mkF m 94 #[.val (.int x0), .val (.long x1), .second, .val (.long x2), .second, .val (.long x3), .second, .val (.long x4), .second, .val (.int (2 : Int32)), .val (.double vd0), .second, .val (.double vd1), .second, .val (.double vd2), .second, .val (.double vd3), .second, .val (.ref b27), .val (.double (FP.dadd (0 : UInt64) vd0)), .second] [])) _
      refine XS.iload X33.here hx rfl (hb hby at_94) rfl ?_
      show Steps p.tables e below (T33.setTop (mkF m 96 #[.val (.int x0), .val (.long x1), .second, .val (.long x2), .second, .val (.long x3), .second, .val (.long x4), .second, .val (.int (2 : Int32)), .val (.double vd0), .second, .val (.double vd1), .second, .val (.double vd2), .second, .val (.double vd3), .second, .val (.ref b27), .val (.double (FP.dadd (0 : UInt64) vd0)), .second] [(.int (2 : Int32))])) _
      refine XS.iconst X33.here hx rfl (hb hby at_96) ?_
      show Steps p.tables e below (T33.setTop (mkF m 97 #[.val (.int x0), .val (.long x1), .second, .val (.long x2), .second, .val (.long x3), .second, .val (.long x4), .second, .val (.int (2 : Int32)), .val (.double vd0), .second, .val (.double vd1), .second, .val (.double vd2), .second, .val (.double vd3), .second, .val (.ref b27), .val (.double (FP.dadd (0 : UInt64) vd0)), .second] [(.int (1 : Int32)), (.int (2 : Int32))])) _
      refine XS.icmpNo X33.here hx rfl (hb hby at_97) rfl ((tlt (by decide)).2.2.2) ?_
      show Steps p.tables e below (T33.setTop (mkF m 100 #[.val (.int x0), .val (.long x1), .second, .val (.long x2), .second, .val (.long x3), .second, .val (.long x4), .second, .val (.int (2 : Int32)), .val (.double vd0), .second, .val (.double vd1), .second, .val (.double vd2), .second, .val (.double vd3), .second, .val (.ref b27), .val (.double (FP.dadd (0 : UInt64) vd0)), .second] [])) _
      refine XS.dload X33.here hx rfl (hb hby at_100) rfl ?_
      show Steps p.tables e below (T33.setTop (mkF m 102 #[.val (.int x0), .val (.long x1), .second, .val (.long x2), .second, .val (.long x3), .second, .val (.long x4), .second, .val (.int (2 : Int32)), .val (.double vd0), .second, .val (.double vd1), .second, .val (.double vd2), .second, .val (.double vd3), .second, .val (.ref b27), .val (.double (FP.dadd (0 : UInt64) vd0)), .second] [(.double (FP.dadd (0 : UInt64) vd0))])) _
      refine XS.dload X33.here hx rfl (hb hby at_102) rfl ?_
      show Steps p.tables e below (T33.setTop (mkF m 104 #[.val (.int x0), .val (.long x1), .second, .val (.long x2), .second, .val (.long x3), .second, .val (.long x4), .second, .val (.int (2 : Int32)), .val (.double vd0), .second, .val (.double vd1), .second, .val (.double vd2), .second, .val (.double vd3), .second, .val (.ref b27), .val (.double (FP.dadd (0 : UInt64) vd0)), .second] [(.double vd1), (.double (FP.dadd (0 : UInt64) vd0))])) _
      refine XS.daddS X33.here hx rfl (hb hby at_104) rfl (own_nn (own_s2 hm0 hm1) (by decide)) (v := (FP.dadd (FP.dadd (0 : UInt64) vd0) vd1)) rfl ?_
      show Steps p.tables e below (T33.setTop (mkF m 105 #[.val (.int x0), .val (.long x1), .second, .val (.long x2), .second, .val (.long x3), .second, .val (.long x4), .second, .val (.int (2 : Int32)), .val (.double vd0), .second, .val (.double vd1), .second, .val (.double vd2), .second, .val (.double vd3), .second, .val (.ref b27), .val (.double (FP.dadd (0 : UInt64) vd0)), .second] [(.double (FP.dadd (FP.dadd (0 : UInt64) vd0) vd1))])) _
      refine XS.dstore X33.here hx rfl (hb hby at_105) rfl (l' := #[.val (.int x0), .val (.long x1), .second, .val (.long x2), .second, .val (.long x3), .second, .val (.long x4), .second, .val (.int (2 : Int32)), .val (.double vd0), .second, .val (.double vd1), .second, .val (.double vd2), .second, .val (.double vd3), .second, .val (.ref b27), .val (.double (FP.dadd (FP.dadd (0 : UInt64) vd0) vd1)), .second]) rfl ?_
      show Steps p.tables e below (T33.setTop (mkF m 107 #[.val (.int x0), .val (.long x1), .second, .val (.long x2), .second, .val (.long x3), .second, .val (.long x4), .second, .val (.int (2 : Int32)), .val (.double vd0), .second, .val (.double vd1), .second, .val (.double vd2), .second, .val (.double vd3), .second, .val (.ref b27), .val (.double (FP.dadd (FP.dadd (0 : UInt64) vd0) vd1)), .second] [])) _
      refine XS.iload X33.here hx rfl (hb hby at_107) rfl ?_
      show Steps p.tables e below (T33.setTop (mkF m 109 #[.val (.int x0), .val (.long x1), .second, .val (.long x2), .second, .val (.long x3), .second, .val (.long x4), .second, .val (.int (2 : Int32)), .val (.double vd0), .second, .val (.double vd1), .second, .val (.double vd2), .second, .val (.double vd3), .second, .val (.ref b27), .val (.double (FP.dadd (FP.dadd (0 : UInt64) vd0) vd1)), .second] [(.int (2 : Int32))])) _
      refine XS.iconst X33.here hx rfl (hb hby at_109) ?_
      show Steps p.tables e below (T33.setTop (mkF m 110 #[.val (.int x0), .val (.long x1), .second, .val (.long x2), .second, .val (.long x3), .second, .val (.long x4), .second, .val (.int (2 : Int32)), .val (.double vd0), .second, .val (.double vd1), .second, .val (.double vd2), .second, .val (.double vd3), .second, .val (.ref b27), .val (.double (FP.dadd (FP.dadd (0 : UInt64) vd0) vd1)), .second] [(.int (2 : Int32)), (.int (2 : Int32))])) _
      refine XS.icmpYes X33.here hx rfl (pc0 := 110) (pc' := 120) rfl (hb hby at_110) rfl ((flt (by decide)).2.2.2) (by decide) (by decide) ?_
      show Steps p.tables e below (T33.setTop (mkF m 120 #[.val (.int x0), .val (.long x1), .second, .val (.long x2), .second, .val (.long x3), .second, .val (.long x4), .second, .val (.int (2 : Int32)), .val (.double vd0), .second, .val (.double vd1), .second, .val (.double vd2), .second, .val (.double vd3), .second, .val (.ref b27), .val (.double (FP.dadd (FP.dadd (0 : UInt64) vd0) vd1)), .second] [])) _
      refine XS.iload X33.here hx rfl (hb hby at_120) rfl ?_
      show Steps p.tables e below (T33.setTop (mkF m 122 #[.val (.int x0), .val (.long x1), .second, .val (.long x2), .second, .val (.long x3), .second, .val (.long x4), .second, .val (.int (2 : Int32)), .val (.double vd0), .second, .val (.double vd1), .second, .val (.double vd2), .second, .val (.double vd3), .second, .val (.ref b27), .val (.double (FP.dadd (FP.dadd (0 : UInt64) vd0) vd1)), .second] [(.int (2 : Int32))])) _
      refine XS.iconst X33.here hx rfl (hb hby at_122) ?_
      show Steps p.tables e below (T33.setTop (mkF m 123 #[.val (.int x0), .val (.long x1), .second, .val (.long x2), .second, .val (.long x3), .second, .val (.long x4), .second, .val (.int (2 : Int32)), .val (.double vd0), .second, .val (.double vd1), .second, .val (.double vd2), .second, .val (.double vd3), .second, .val (.ref b27), .val (.double (FP.dadd (FP.dadd (0 : UInt64) vd0) vd1)), .second] [(.int (3 : Int32)), (.int (2 : Int32))])) _
      refine XS.icmpYes X33.here hx rfl (pc0 := 123) (pc' := 133) rfl (hb hby at_123) rfl ((flt (by decide)).2.2.2) (by decide) (by decide) ?_
      show Steps p.tables e below (T33.setTop (mkF m 133 #[.val (.int x0), .val (.long x1), .second, .val (.long x2), .second, .val (.long x3), .second, .val (.long x4), .second, .val (.int (2 : Int32)), .val (.double vd0), .second, .val (.double vd1), .second, .val (.double vd2), .second, .val (.double vd3), .second, .val (.ref b27), .val (.double (FP.dadd (FP.dadd (0 : UInt64) vd0) vd1)), .second] [])) _
      refine XS.aload X33.here hx rfl (hb hby at_133) rfl rfl ?_
      exact k)
    obtain ⟨_, _, ⟨T36, L36, k36, n36⟩, -, X36, ⟨Lc36, hQ36, l36, y36, z36⟩, st36⟩ := Jvm.LawKit.callS X33 hx (y := (⟨"com/example/kalchas/kalchas/evaluation/Evaluation", "sum", "([D)D"⟩ : MethodName)) hown (mvT hZ (hw _ (List.mem_of_getElem? (i := 2) rfl))) (mvT hZ (hw _ (List.mem_of_getElem? (i := 3) rfl))) (mvT hZ (hw _ (List.mem_of_getElem? (i := 4) rfl))) (mvT hZ (hw _ (List.mem_of_getElem? (i := 5) rfl))) (by decide) (backOf (W := 0) (rms2 l Z a0 hw [] b27 k27 vd0 vd1 h33 n0 Z33 VV33 hm0 hm1) hZ (hw _ (List.mem_of_getElem? (i := 5) rfl)) (hw _ (List.mem_of_getElem? (i := 4) rfl)) (by decide) (by decide)) (g := (mkF m 135 #[.val (.int x0), .val (.long x1), .second, .val (.long x2), .second, .val (.long x3), .second, .val (.long x4), .second, .val (.int (2 : Int32)), .val (.double vd0), .second, .val (.double vd1), .second, .val (.double vd2), .second, .val (.double vd3), .second, .val (.ref b27), .val (.double (FP.dadd (FP.dadd (0 : UInt64) vd0) vd1)), .second] [(.ref b27)])) rfl (by rw [hml]; rfl) (argsL := [(.ref b27)]) (rest := []) (lenOf pd0_0 rfl) rfl (by show 2 * 0 + _ ≤ _; exact Nat.le_of_eq rfl) (hb hby at_135) (fun _ _ => ⟨rfl, e33, (by decide : 1 + 0 ≤ _), (by decide : 2 + 0 ≤ _)⟩)
    dsimp only [Pt.U, Pt.locs, Pt.cells, Pt.slots] at X36 l36 y36 z36 st36 hQ36
    subst l36 y36 z36
    obtain ⟨rfl, Nq36, e36⟩ := hQ36
    have N36 := Fr.app N33 Nq36
    have p37 : ∀ t, Steps p.tables e below (T36.setTop (mkF m 138 #[.val (.int x0), .val (.long x1), .second, .val (.long x2), .second, .val (.long x3), .second, .val (.long x4), .second, .val (.int (2 : Int32)), .val (.double vd0), .second, .val (.double vd1), .second, .val (.double vd2), .second, .val (.double vd3), .second, .val (.ref b27), .val (.double (FP.dadd (FP.dadd (0 : UInt64) vd0) vd1)), .second] [(.double (FP.dadd (FP.dadd (0 : UInt64) vd0) vd1))])) t → Steps p.tables e below (s₁.setTop (entryFrame m #[(.int x0), (.long x1), (.long x2), (.long x3), (.long x4)] maxLocals)) t := fun t k => p35 t (st36 _ k)
    have p38 : ∀ t, Steps p.tables e below (T36.setTop (mkF m 149 #[.val (.int x0), .val (.long x1), .second, .val (.long x2), .second, .val (.long x3), .second, .val (.long x4), .second, .val (.int (2 : Int32)), .val (.double vd0), .second, .val (.double vd1), .second, .val (.double vd2), .second, .val (.double vd3), .second, .val (.ref b27), .val (.double (FP.dadd (FP.dadd (0 : UInt64) vd0) vd1)), .second] [(.int (1 : Int32))])) t → Steps p.tables e below (s₁.setTop (entryFrame m #[(.int x0), (.long x1), (.long x2), (.long x3), (.long x4)] maxLocals)) t := fun t k => p37 t (by
      show Steps p.tables e below (T36.setTop (mkF m 138 #[.val (.int x0), .val (.long x1), .second, .val (.long x2), .second, .val (.long x3), .second, .val (.long x4), .second, .val (.int (2 : Int32)), .val (.double vd0), .second, .val (.double vd1), .second, .val (.double vd2), .second, .val (.double vd3), .second, .val (.ref b27), .val (.double (FP.dadd (FP.dadd (0 : UInt64) vd0) vd1)), .second] [(.double (FP.dadd (FP.dadd (0 : UInt64) vd0) vd1))])) _
      refine XS.dload X36.here hx rfl (hb hby at_138) rfl ?_
      show Steps p.tables e below (T36.setTop (mkF m 140 #[.val (.int x0), .val (.long x1), .second, .val (.long x2), .second, .val (.long x3), .second, .val (.long x4), .second, .val (.int (2 : Int32)), .val (.double vd0), .second, .val (.double vd1), .second, .val (.double vd2), .second, .val (.double vd3), .second, .val (.ref b27), .val (.double (FP.dadd (FP.dadd (0 : UInt64) vd0) vd1)), .second] [(.double (FP.dadd (FP.dadd (0 : UInt64) vd0) vd1)), (.double (FP.dadd (FP.dadd (0 : UInt64) vd0) vd1))])) _
      refine XS.dcmpS X36.here hx rfl (hb hby at_140) rfl (v := (0 : Int32)) (dcmpV_self (own_nn (own_s2 hm0 hm1) (by decide)) _) ?_
      show Steps p.tables e below (T36.setTop (mkF m 141 #[.val (.int x0), .val (.long x1), .second, .val (.long x2), .second, .val (.long x3), .second, .val (.long x4), .second, .val (.int (2 : Int32)), .val (.double vd0), .second, .val (.double vd1), .second, .val (.double vd2), .second, .val (.double vd3), .second, .val (.ref b27), .val (.double (FP.dadd (FP.dadd (0 : UInt64) vd0) vd1)), .second] [(.int (0 : Int32))])) _
      refine XS.ifNo X36.here hx rfl (hb hby at_141) rfl ((if0 _ _).trans (teq (rfl)).2) ?_
      show Steps p.tables e below (T36.setTop (mkF m 144 #[.val (.int x0), .val (.long x1), .second, .val (.long x2), .second, .val (.long x3), .second, .val (.long x4), .second, .val (.int (2 : Int32)), .val (.double vd0), .second, .val (.double vd1), .second, .val (.double vd2), .second, .val (.double vd3), .second, .val (.ref b27), .val (.double (FP.dadd (FP.dadd (0 : UInt64) vd0) vd1)), .second] [])) _
      refine XS.iconst X36.here hx rfl (hb hby at_144) ?_
      show Steps p.tables e below (T36.setTop (mkF m 145 #[.val (.int x0), .val (.long x1), .second, .val (.long x2), .second, .val (.long x3), .second, .val (.long x4), .second, .val (.int (2 : Int32)), .val (.double vd0), .second, .val (.double vd1), .second, .val (.double vd2), .second, .val (.double vd3), .second, .val (.ref b27), .val (.double (FP.dadd (FP.dadd (0 : UInt64) vd0) vd1)), .second] [(.int (1 : Int32))])) _
      refine XS.goto X36.here hx rfl (pc0 := 145) (pc' := 149) rfl (hb hby at_145) (by decide) (by decide) ?_
      exact k)
    obtain ⟨fs, hr, hrun, hended, hW, hsame⟩ := X36.leave (v := some (.int (1 : Int32))) (fun h => by rw [Bd.returns] at h; cases h)
    refine ⟨_, _, p38 _ ?_, hrun, hended, _, _, rfl, ?_, ⟨_, rfl⟩, hW, hsame.mono (by decide) (by decide)⟩
    · show Steps p.tables e below (T36.setTop (mkF m 149 #[.val (.int x0), .val (.long x1), .second, .val (.long x2), .second, .val (.long x3), .second, .val (.long x4), .second, .val (.int (2 : Int32)), .val (.double vd0), .second, .val (.double vd1), .second, .val (.double vd2), .second, .val (.double vd3), .second, .val (.ref b27), .val (.double (FP.dadd (FP.dadd (0 : UInt64) vd0) vd1)), .second] [(.int (1 : Int32))])) _
      exact retN X36 hx (t := .boolean) Bd.returns (by simp) (hb hby at_149) hr
    · show Q0 Z x0 x1 x2 x3 x4 h0 n0 _ T36.heap _
      rw [e36]
      exact ⟨rfl, N36⟩
  · obtain ⟨T39, h39, k39, X39, e39, E39, A39, st39⟩ := newP X0 hx hZ (hw _ (List.mem_of_getElem? (i := 1) rfl)) e0 (g := (mkF m 28 #[.val (.int x0), .val (.long x1), .second, .val (.long x2), .second, .val (.long x3), .second, .val (.long x4), .second, .val (.int (3 : Int32)), .val (.double vd0), .second, .val (.double vd1), .second, .val (.double vd2), .second, .val (.double vd3), .second, .unset, .unset, .unset] [(.int (3 : Int32))])) rfl (hb hby at_28) rfl (by decide) (cap := 3) (by decide) (by decide) (by decide) (by decide)
    obtain ⟨b39, g39⟩ : ∃ z, z = h0.size := ⟨_, rfl⟩
    rw [← g39] at A39 st39
    have gn_b39 : n0 ≤ b39 := Nat.le_trans Z0 (Nat.le_of_eq g39.symm)
    have Z39 := Nat.le_trans Z0 E39.1
    have VV39 : Arv Z h39 b39 k39 .double (3 : Int32) [(.double (0 : UInt64)), (.double (0 : UInt64)), (.double (0 : UInt64))] (.double (0 : UInt64)) := (Arv.new A39 (by decide)).pad (pad_rep [] (.double (0 : UInt64)) 3)
    have p40 : ∀ t, Steps p.tables e below (T39.setTop (mkF m 30 #[.val (.int x0), .val (.long x1), .second, .val (.long x2), .second, .val (.long x3), .second, .val (.long x4), .second, .val (.int (3 : Int32)), .val (.double vd0), .second, .val (.double vd1), .second, .val (.double vd2), .second, .val (.double vd3), .second, .unset, .unset, .unset] [(.ref b39)])) t → Steps p.tables e below (s₁.setTop (entryFrame m #[(.int x0), (.long x1), (.long x2), (.long x3), (.long x4)] maxLocals)) t := fun t k => p11 t (st39 t k)
    have p41 : ∀ t, Steps p.tables e below (T39.setTop (mkF m 42 #[.val (.int x0), .val (.long x1), .second, .val (.long x2), .second, .val (.long x3), .second, .val (.long x4), .second, .val (.int (3 : Int32)), .val (.double vd0), .second, .val (.double vd1), .second, .val (.double vd2), .second, .val (.double vd3), .second, .val (.ref b39), .unset, .unset] [(.double vd0), (.int (0 : Int32)), (.ref b39)])) t → Steps p.tables e below (s₁.setTop (entryFrame m #[(.int x0), (.long x1), (.long x2), (.long x3), (.long x4)] maxLocals)) t := fun t k => p40 t (by
      show Steps p.tables e below (T39.setTop (mkF m 30 #[.val (.int x0), .val (.long x1), .second, .val (.long x2), .second, .val (.long x3), .second, .val (.long x4), .second, .val (.int (3 : Int32)), .val (.double vd0), .second, .val (.double vd1), .second, .val (.double vd2), .second, .val (.double vd3), .second, .unset, .unset, .unset] [(.ref b39)])) _
      refine XS.astore X39.here hx rfl (hb hby at_30) rfl rfl (l' := #[.val (.int x0), .val (.long x1), .second, .val (.long x2), .second, .val (.long x3), .second, .val (.long x4), .second, .val (.int (3 : Int32)), .val (.double vd0), .second, .val (.double vd1), .second, .val (.double vd2), .second, .val (.double vd3), .second, .val (.ref b39), .unset, .unset]) rfl ?_
      show Steps p.tables e below (T39.setTop (mkF m 32 #[.val (.int x0), .val (.long x1), .second, .val (.long x2), .second, .val (.long x3), .second, .val (.long x4), .second, .val (.int (3 : Int32)), .val (.double vd0), .second, .val (.double vd1), .second, .val (.double vd2), .second, .val (.double vd3), .second, .val (.ref b39), .unset, .unset] [])) _
      refine XS.iload X39.here hx rfl (hb hby at_32) rfl ?_
      show Steps p.tables e below (T39.setTop (mkF m 34 #[.val (.int x0), .val (.long x1), .second, .val (.long x2), .second, .val (.long x3), .second, .val (.long x4), .second, .val (.int (3 : Int32)), .val (.double vd0), .second, .val (.double vd1), .second, .val (.double vd2), .second, .val (.double vd3), .second, .val (.ref b39), .unset, .unset] [(.int (3 : Int32))])) _
      refine XS.ifNo X39.here hx rfl (hb hby at_34) rfl ((if0 _ _).trans (tlt (by decide)).2.2.2) ?_
      show Steps p.tables e below (T39.setTop (mkF m 37 #[.val (.int x0), .val (.long x1), .second, .val (.long x2), .second, .val (.long x3), .second, .val (.long x4), .second, .val (.int (3 : Int32)), .val (.double vd0), .second, .val (.double vd1), .second, .val (.double vd2), .second, .val (.double vd3), .second, .val (.ref b39), .unset, .unset] [])) _
      refine XS.aload X39.here hx rfl (hb hby at_37) rfl rfl ?_
      show Steps p.tables e below (T39.setTop (mkF m 39 #[.val (.int x0), .val (.long x1), .second, .val (.long x2), .second, .val (.long x3), .second, .val (.long x4), .second, .val (.int (3 : Int32)), .val (.double vd0), .second, .val (.double vd1), .second, .val (.double vd2), .second, .val (.double vd3), .second, .val (.ref b39), .unset, .unset] [(.ref b39)])) _
      refine XS.iconst X39.here hx rfl (hb hby at_39) ?_
      show Steps p.tables e below (T39.setTop (mkF m 40 #[.val (.int x0), .val (.long x1), .second, .val (.long x2), .second, .val (.long x3), .second, .val (.long x4), .second, .val (.int (3 : Int32)), .val (.double vd0), .second, .val (.double vd1), .second, .val (.double vd2), .second, .val (.double vd3), .second, .val (.ref b39), .unset, .unset] [(.int (0 : Int32)), (.ref b39)])) _
      refine XS.dload X39.here hx rfl (hb hby at_40) rfl ?_
      exact k)
    obtain ⟨cl42, Ar42, q42, Sz42, Ng42, Hs42, G42⟩ := id VV39
    have hin42 : ¬ ((0 : Int32) < 0 ∨ cl42.slots.size ≤ ((0 : Int32)).toNatClampNeg) := inb_of Sz42 (⟨by decide, by decide⟩)
    obtain ⟨T42, h42, X42, e42, W42, st42⟩ := stD X39 hx hZ e39 Ar42 (j := (0 : Int32)) hin42 (g := (mkF m 42 #[.val (.int x0), .val (.long x1), .second, .val (.long x2), .second, .val (.long x3), .second, .val (.long x4), .second, .val (.int (3 : Int32)), .val (.double vd0), .second, .val (.double vd1), .second, .val (.double vd2), .second, .val (.double vd3), .second, .val (.ref b39), .unset, .unset] [(.double vd0), (.int (0 : Int32)), (.ref b39)])) rfl rfl (hb hby at_42)
    have VV42 : Arv Z h42 b39 k39 .double (3 : Int32) [(.double vd0), (.double (0 : UInt64)), (.double (0 : UInt64))] (.double (0 : UInt64)) := Arv.set Ar42 q42 Sz42 Ng42 Hs42 G42 rfl W42 0 (by decide) (Nat.le_of_ble_eq_true rfl)
    have Z42 := Nat.le_trans Z39 (Keep.of_wr W42).1
    have N42 := Fr.snoc X42 N0 gn_b39
    have p43 : ∀ t, Steps p.tables e below (T42.setTop (mkF m 43 #[.val (.int x0), .val (.long x1), .second, .val (.long x2), .second, .val (.long x3), .second, .val (.long x4), .second, .val (.int (3 : Int32)), .val (.double vd0), .second, .val (.double vd1), .second, .val (.double vd2), .second, .val (.double vd3), .second, .val (.ref b39), .unset, .unset] [])) t → Steps p.tables e below (s₁.setTop (entryFrame m #[(.int x0), (.long x1), (.long x2), (.long x3), (.long x4)] maxLocals)) t := fun t k => p41 t (st42 t k)
    have p44 : ∀ t, Steps p.tables e below (T42.setTop (mkF m 54 #[.val (.int x0), .val (.long x1), .second, .val (.long x2), .second, .val (.long x3), .second, .val (.long x4), .second, .val (.int (3 : Int32)), .val (.double vd0), .second, .val (.double vd1), .second, .val (.double vd2), .second, .val (.double vd3), .second, .val (.ref b39), .unset, .unset] [(.double vd1), (.int (1 : Int32)), (.ref b39)])) t → Steps p.tables e below (s₁.setTop (entryFrame m #[(.int x0), (.long x1), (.long x2), (.long x3), (.long x4)] maxLocals)) t := fun t k => p43 t (by
      show Steps p.tables e below (T42.setTop (mkF m 43 #[.val (.int x0), .val (.long x1), .second, .val (.long x2), .second, .val (.long x3), .second, .val (.long x4), .second, .val (.int (3 : Int32)), .val (.double vd0), .second, .val (.double vd1), .second, .val (.double vd2), .second, .val (.double vd3), .second, .val (.ref b39), .unset, .unset] [])) _
      refine XS.iload X42.here hx rfl (hb hby at_43) rfl ?_
      show Steps p.tables e below (T42.setTop (mkF m 45 #[.val (.int x0), .val (.long x1), .second, .val (.long x2), .second, .val (.long x3), .second, .val (.long x4), .second, .val (.int (3 : Int32)), .val (.double vd0), .second, .val (.double vd1), .second, .val (.double vd2), .second, .val (.double vd3), .second, .val (.ref b39), .unset, .unset] [(.int (3 : Int32))])) _
      refine XS.iconst X42.here hx rfl (hb hby at_45) ?_
      show Steps p.tables e below (T42.setTop (mkF m 46 #[.val (.int x0), .val (.long x1), .second, .val (.long x2), .second, .val (.long x3), .second, .val (.long x4), .second, .val (.int (3 : Int32)), .val (.double vd0), .second, .val (.double vd1), .second, .val (.double vd2), .second, .val (.double vd3), .second, .val (.ref b39), .unset, .unset] [(.int (1 : Int32)), (.int (3 : Int32))])) _
      refine XS.icmpNo X42.here hx rfl (hb hby at_46) rfl ((tlt (by decide)).2.2.2) ?_
      show Steps p.tables e below (T42.setTop (mkF m 49 #[.val (.int x0), .val (.long x1), .second, .val (.long x2), .second, .val (.long x3), .second, .val (.long x4), .second, .val (.int (3 : Int32)), .val (.double vd0), .second, .val (.double vd1), .second, .val (.double vd2), .second, .val (.double vd3), .second, .val (.ref b39), .unset, .unset] [])) _
      refine XS.aload X42.here hx rfl (hb hby at_49) rfl rfl ?_
      show Steps p.tables e below (T42.setTop (mkF m 51 #[.val (.int x0), .val (.long x1), .second, .val (.long x2), .second, .val (.long x3), .second, .val (.long x4), .second, .val (.int (3 : Int32)), .val (.double vd0), .second, .val (.double vd1), .second, .val (.double vd2), .second, .val (.double vd3), .second, .val (.ref b39), .unset, .unset] [(.ref b39)])) _
      refine XS.iconst X42.here hx rfl (hb hby at_51) ?_
      show Steps p.tables e below (T42.setTop (mkF m 52 #[.val (.int x0), .val (.long x1), .second, .val (.long x2), .second, .val (.long x3), .second, .val (.long x4), .second, .val (.int (3 : Int32)), .val (.double vd0), .second, .val (.double vd1), .second, .val (.double vd2), .second, .val (.double vd3), .second, .val (.ref b39), .unset, .unset] [(.int (1 : Int32)), (.ref b39)])) _
      refine XS.dload X42.here hx rfl (hb hby at_52) rfl ?_
      exact k)
    obtain ⟨cl45, Ar45, q45, Sz45, Ng45, Hs45, G45⟩ := id VV42
    have hin45 : ¬ ((1 : Int32) < 0 ∨ cl45.slots.size ≤ ((1 : Int32)).toNatClampNeg) := inb_of Sz45 (⟨by decide, by decide⟩)
    obtain ⟨T45, h45, X45, e45, W45, st45⟩ := stD X42 hx hZ e42 Ar45 (j := (1 : Int32)) hin45 (g := (mkF m 54 #[.val (.int x0), .val (.long x1), .second, .val (.long x2), .second, .val (.long x3), .second, .val (.long x4), .second, .val (.int (3 : Int32)), .val (.double vd0), .second, .val (.double vd1), .second, .val (.double vd2), .second, .val (.double vd3), .second, .val (.ref b39), .unset, .unset] [(.double vd1), (.int (1 : Int32)), (.ref b39)])) rfl rfl (hb hby at_54)
    have VV45 : Arv Z h45 b39 k39 .double (3 : Int32) [(.double vd0), (.double vd1), (.double (0 : UInt64))] (.double (0 : UInt64)) := Arv.set Ar45 q45 Sz45 Ng45 Hs45 G45 rfl W45 1 (by decide) (Nat.le_of_ble_eq_true rfl)
    have Z45 := Nat.le_trans Z42 (Keep.of_wr W45).1
    have N45 := Fr.snoc X45 N42 gn_b39
    have p46 : ∀ t, Steps p.tables e below (T45.setTop (mkF m 55 #[.val (.int x0), .val (.long x1), .second, .val (.long x2), .second, .val (.long x3), .second, .val (.long x4), .second, .val (.int (3 : Int32)), .val (.double vd0), .second, .val (.double vd1), .second, .val (.double vd2), .second, .val (.double vd3), .second, .val (.ref b39), .unset, .unset] [])) t → Steps p.tables e below (s₁.setTop (entryFrame m #[(.int x0), (.long x1), (.long x2), (.long x3), (.long x4)] maxLocals)) t := fun t k => p44 t (st45 t k)
    have p47 : ∀ t, Steps p.tables e below (T45.setTop (mkF m 66 #[.val (.int x0), .val (.long x1), .second, .val (.long x2), .second, .val (.long x3), .second, .val (.long x4), .second, .val (.int (3 : Int32)), .val (.double vd0), .second, .val (.double vd1), .second, .val (.double vd2), .second, .val (.double vd3), .second, .val (.ref b39), .unset, .unset] [(.double vd2), (.int (2 : Int32)), (.ref b39)])) t → Steps p.tables e below (s₁.setTop (entryFrame m #[(.int x0), (.long x1), (.long x2), (.long x3), (.long x4)] maxLocals)) t := fun t k => p46 t (by
      show Steps p.tables e below (T45.setTop (mkF m 55 #[.val (.int x0), .val (.long x1), .second, .val (.long x2), .second, .val (.long x3), .second, .val (.long x4), .second, .val (.int (3 : Int32)), .val (.double vd0), .second, .val (.double vd1), .second, .val (.double vd2), .second, .val (.double vd3), .second, .val (.ref b39), .unset, .unset] [])) _
      refine XS.iload X45.here hx rfl (hb hby at_55) rfl ?_
      show Steps p.tables e below (T45.setTop (mkF m 57 #[.val (.int x0), .val (.long x1), .second, .val (.long x2), .second, .val (.long x3), .second, .val (.long x4), .second, .val (.int (3 : Int32)), .val (.double vd0), .second, .val (.double vd1), .second, .val (.double vd2), .second, .val (.double vd3), .second, .val (.ref b39), .unset, .unset] [(.int (3 : Int32))])) _
      refine XS.iconst X45.here hx rfl (hb hby at_57) ?_
      show Steps p.tables e below (T45.setTop (mkF m 58 #[.val (.int x0), .val (.long x1), .second, .val (.long x2), .second, .val (.long x3), .second, .val (.long x4), .second, .val (.int (3 : Int32)), .val (.double vd0), .second, .val (.double vd1), .second, .val (.double vd2), .second, .val (.double vd3), .second, .val (.ref b39), .unset, .unset] [(.int (2 : Int32)), (.int (3 : Int32))])) _
      refine XS.icmpNo X45.here hx rfl (hb hby at_58) rfl ((tlt (by decide)).2.2.2) ?_
      show Steps p.tables e below (T45.setTop (mkF m 61 #[.val (.int x0), .val (.long x1), .second, .val (.long x2), .second, .val (.long x3), .second, .val (.long x4), .second, .val (.int (3 : Int32)), .val (.double vd0), .second, .val (.double vd1), .second, .val (.double vd2), .second, .val (.double vd3), .second, .val (.ref b39), .unset, .unset] [])) _
      refine XS.aload X45.here hx rfl (hb hby at_61) rfl rfl ?_
      show Steps p.tables e below (T45.setTop (mkF m 63 #[.val (.int x0), .val (.long x1), .second, .val (.long x2), .second, .val (.long x3), .second, .val (.long x4), .second, .val (.int (3 : Int32)), .val (.double vd0), .second, .val (.double vd1), .second, .val (.double vd2), .second, .val (.double vd3), .second, .val (.ref b39), .unset, .unset] [(.ref b39)])) _
      refine XS.iconst X45.here hx rfl (hb hby at_63) ?_
      show Steps p.tables e below (T45.setTop (mkF m 64 #[.val (.int x0), .val (.long x1), .second, .val (.long x2), .second, .val (.long x3), .second, .val (.long x4), .second, .val (.int (3 : Int32)), .val (.double vd0), .second, .val (.double vd1), .second, .val (.double vd2), .second, .val (.double vd3), .second, .val (.ref b39), .unset, .unset] [(.int (2 : Int32)), (.ref b39)])) _
      refine XS.dload X45.here hx rfl (hb hby at_64) rfl ?_
      exact k)
    obtain ⟨cl48, Ar48, q48, Sz48, Ng48, Hs48, G48⟩ := id VV45
    have hin48 : ¬ ((2 : Int32) < 0 ∨ cl48.slots.size ≤ ((2 : Int32)).toNatClampNeg) := inb_of Sz48 (⟨by decide, by decide⟩)
    obtain ⟨T48, h48, X48, e48, W48, st48⟩ := stD X45 hx hZ e45 Ar48 (j := (2 : Int32)) hin48 (g := (mkF m 66 #[.val (.int x0), .val (.long x1), .second, .val (.long x2), .second, .val (.long x3), .second, .val (.long x4), .second, .val (.int (3 : Int32)), .val (.double vd0), .second, .val (.double vd1), .second, .val (.double vd2), .second, .val (.double vd3), .second, .val (.ref b39), .unset, .unset] [(.double vd2), (.int (2 : Int32)), (.ref b39)])) rfl rfl (hb hby at_66)
    have VV48 : Arv Z h48 b39 k39 .double (3 : Int32) [(.double vd0), (.double vd1), (.double vd2)] (.double (0 : UInt64)) := Arv.set Ar48 q48 Sz48 Ng48 Hs48 G48 rfl W48 2 (by decide) (Nat.le_of_ble_eq_true rfl)
    have Z48 := Nat.le_trans Z45 (Keep.of_wr W48).1
    have N48 := Fr.snoc X48 N45 gn_b39
    have p49 : ∀ t, Steps p.tables e below (T48.setTop (mkF m 67 #[.val (.int x0), .val (.long x1), .second, .val (.long x2), .second, .val (.long x3), .second, .val (.long x4), .second, .val (.int (3 : Int32)), .val (.double vd0), .second, .val (.double vd1), .second, .val (.double vd2), .second, .val (.double vd3), .second, .val (.ref b39), .unset, .unset] [])) t → Steps p.tables e below (s₁.setTop (entryFrame m #[(.int x0), (.long x1), (.long x2), (.long x3), (.long x4)] maxLocals)) t := fun t k => p47 t (st48 t k)
    have p50 : ∀ t, Steps p.tables e below (T48.setTop (mkF m 135 #[.val (.int x0), .val (.long x1), .second, .val (.long x2), .second, .val (.long x3), .second, .val (.long x4), .second, .val (.int (3 : Int32)), .val (.double vd0), .second, .val (.double vd1), .second, .val (.double vd2), .second, .val (.double vd3), .second, .val (.ref b39), .val (.double (FP.dadd (FP.dadd (FP.dadd (0 : UInt64) vd0) vd1) vd2)), .second] [(.ref b39)])) t → Steps p.tables e below (s₁.setTop (entryFrame m #[(.int x0), (.long x1), (.long x2), (.long x3), (.long x4)] maxLocals)) t := fun t k => p49 t (by
      show Steps p.tables e below (T48.setTop (mkF m 67 #[.val (.int x0), .val (.long x1), .second, .val (.long x2), .second, .val (.long x3), .second, .val (.long x4), .second, .val (.int (3 : Int32)), .val (.double vd0), .second, .val (.double vd1), .second, .val (.double vd2), .second, .val (.double vd3), .second, .val (.ref b39), .unset, .unset] [])) _
      refine XS.iload X48.here hx rfl (hb hby at_67) rfl ?_
      show Steps p.tables e below (T48.setTop (mkF m 69 #[.val (.int x0), .val (.long x1), .second, .val (.long x2), .second, .val (.long x3), .second, .val (.long x4), .second, .val (.int (3 : Int32)), .val (.double vd0), .second, .val (.double vd1), .second, .val (.double vd2), .second, .val (.double vd3), .second, .val (.ref b39), .unset, .unset] [(.int (3 : Int32))])) _
      refine XS.iconst X48.here hx rfl (hb hby at_69) ?_
      show Steps p.tables e below (T48.setTop (mkF m 70 #[.val (.int x0), .val (.long x1), .second, .val (.long x2), .second, .val (.long x3), .second, .val (.long x4), .second, .val (.int (3 : Int32)), .val (.double vd0), .second, .val (.double vd1), .second, .val (.double vd2), .second, .val (.double vd3), .second, .val (.ref b39), .unset, .unset] [(.int (3 : Int32)), (.int (3 : Int32))])) _
      refine XS.icmpYes X48.here hx rfl (pc0 := 70) (pc' := 79) rfl (hb hby at_70) rfl ((flt (by decide)).2.2.2) (by decide) (by decide) ?_
      show Steps p.tables e below (T48.setTop (mkF m 79 #[.val (.int x0), .val (.long x1), .second, .val (.long x2), .second, .val (.long x3), .second, .val (.long x4), .second, .val (.int (3 : Int32)), .val (.double vd0), .second, .val (.double vd1), .second, .val (.double vd2), .second, .val (.double vd3), .second, .val (.ref b39), .unset, .unset] [])) _
      refine XS.dconst0 X48.here hx rfl (hb hby at_79) (v := (0 : UInt64)) rfl ?_
      show Steps p.tables e below (T48.setTop (mkF m 80 #[.val (.int x0), .val (.long x1), .second, .val (.long x2), .second, .val (.long x3), .second, .val (.long x4), .second, .val (.int (3 : Int32)), .val (.double vd0), .second, .val (.double vd1), .second, .val (.double vd2), .second, .val (.double vd3), .second, .val (.ref b39), .unset, .unset] [(.double (0 : UInt64))])) _
      refine XS.dstore X48.here hx rfl (hb hby at_80) rfl (l' := #[.val (.int x0), .val (.long x1), .second, .val (.long x2), .second, .val (.long x3), .second, .val (.long x4), .second, .val (.int (3 : Int32)), .val (.double vd0), .second, .val (.double vd1), .second, .val (.double vd2), .second, .val (.double vd3), .second, .val (.ref b39), .val (.double (0 : UInt64)), .second]) rfl ?_
      show Steps p.tables e below (T48.setTop (mkF m 82 #[.val (.int x0), .val (.long x1), .second, .val (.long x2), .second, .val (.long x3), .second, .val (.long x4), .second, .val (.int (3 : Int32)), .val (.double vd0), .second, .val (.double vd1), .second, .val (.double vd2), .second, .val (.double vd3), .second, .val (.ref b39), .val (.double (0 : UInt64)), .second] [])) _
      refine XS.iload X48.here hx rfl (hb hby at_82) rfl ?_
      show Steps p.tables e below (T48.setTop (mkF m 84 #[.val (.int x0), .val (.long x1), .second, .val (.long x2), .second, .val (.long x3), .second, .val (.long x4), .second, .val (.int (3 : Int32)), .val (.double vd0), .second, .val (.double vd1), .second, .val (.double vd2), .second, .val (.double vd3), .second, .val (.ref b39), .val (.double (0 : UInt64)), .second] [(.int (3 : Int32))])) _
      refine XS.ifNo X48.here hx rfl (hb hby at_84) rfl ((if0 _ _).trans (tlt (by decide)).2.2.2) ?_
      show Steps p.tables e below (T48.setTop (mkF m 87 #[.val (.int x0), .val (.long x1), .second, .val (.long x2), .second, .val (.long x3), .second, .val (.long x4), .second, .val (.int (3 : Int32)), .val (.double vd0), .second, .val (.double vd1), .second, .val (.double vd2), .second, .val (.double vd3), .second, .val (.ref b39), .val (.double (0 : UInt64)), .second] [])) _
      refine XS.dload X48.here hx rfl (hb hby at_87) rfl ?_
      show Steps p.tables e below (T48.setTop (mkF m 89 #[.val (.int x0), .val (.long x1), .second, .val (.long x2), .second, .val (.long x3), .second, .val (.long x4), .second, .val (.int (3 : Int32)), .val (.double vd0), .second, .val (.double vd1), .second, .val (.double vd2), .second, .val (.double vd3), .second, .val (.ref b39), .val (.double (0 : UInt64)), .second] [(.double (0 : UInt64))])) _
      refine XS.dload X48.here hx rfl (hb hby at_89) rfl ?_
      show Steps p.tables e below (T48.setTop (mkF m 91 #[.val (.int x0), .val (.long x1), .second, .val (.long x2), .second, .val (.long x3), .second, .val (.long x4), .second, .val (.int (3 : Int32)), .val (.double vd0), .second, .val (.double vd1), .second, .val (.double vd2), .second, .val (.double vd3), .second, .val (.ref b39), .val (.double (0 : UInt64)), .second] [(.double vd0), (.double (0 : UInt64))])) _
      refine XS.daddS X48.here hx rfl (hb hby at_91) rfl (own_nn (own_s1 hm0) (by decide)) (v := (FP.dadd (0 : UInt64) vd0)) rfl ?_
      show Steps p.tables e below (T48.setTop (mkF m 92 #[.val (.int x0), .val (.long x1), .second, .val (.long x2), .second, .val (.long x3), .second, .val (.long x4), .second, .val (.int (3 : Int32)), .val (.double vd0), .second, .val (.double vd1), .second, .val (.double vd2), .second, .val (.double vd3), .second, .val (.ref b39), .val (.double (0 : UInt64)), .second] [(.double (FP.dadd (0 : UInt64) vd0))])) _
      refine XS.dstore X48.here hx rfl (hb hby at_92) rfl (l' := #[.val (.int x0), .val (.long x1), .second, .val (.long x2), .second, .val (.long x3), .second, .val (.long x4), .second, .val (.int (3 : Int32)), .val (.double vd0), .second, .val (.double vd1), .second, .val (.double vd2), .second, .val (.double vd3), .second, .val (.ref b39), .val (.double (FP.dadd (0 : UInt64) vd0)), .second]) rfl ?_
      show Steps p.tables e below (T48.setTop (mkF m 94 #[.val (.int x0), .val (.long x1), .second, .val (.long x2), .second, .val (.long x3), .second, .val (.long x4), .second, .val (.int (3 : Int32)), .val (.double vd0), .second, .val (.double vd1), .second, .val (.double vd2), .second, .val (.double vd3), .second, .val (.ref b39), .val (.double (FP.dadd (0 : UInt64) vd0)), .second] [])) _
      refine XS.iload X48.here hx rfl (hb hby at_94) rfl ?_
      show Steps p.tables e below (T48.setTop (mkF m 96 #[.val (.int x0), .val (.long x1), .second, .val (.long x2), .second, .val (.long x3), .second, .val (.long x4), .second, .val (.int (3 : Int32)), .val (.double vd0), .second, .val (.double vd1), .second, .val (.double vd2), .second, .val (.double vd3), .second, .val (.ref b39), .val (.double (FP.dadd (0 : UInt64) vd0)), .second] [(.int (3 : Int32))])) _
      refine XS.iconst X48.here hx rfl (hb hby at_96) ?_
      show Steps p.tables e below (T48.setTop (mkF m 97 #[.val (.int x0), .val (.long x1), .second, .val (.long x2), .second, .val (.long x3), .second, .val (.long x4), .second, .val (.int (3 : Int32)), .val (.double vd0), .second, .val (.double vd1), .second, .val (.double vd2), .second, .val (.double vd3), .second, .val (.ref b39), .val (.double (FP.dadd (0 : UInt64) vd0)), .second] [(.int (1 : Int32)), (.int (3 : Int32))])) _
      refine XS.icmpNo X48.here hx rfl (hb hby at_97) rfl ((tlt (by decide)).2.2.2) ?_
      show Steps p.tables e below (T48.setTop (mkF m 100 #[.val (.int x0), .val (.long x1), .second, .val (.long x2), .second, .val (.long x3), .second, .val (.long x4), .second, .val (.int (3 : Int32)), .val (.double vd0), .second, .val (.double vd1), .second, .val (.double vd2), .second, .val (.double vd3), .second, .val (.ref b39), .val (.double (FP.dadd (0 : UInt64) vd0)), .second] [])) _
      refine XS.dload X48.here hx rfl (hb hby at_100) rfl ?_
      show Steps p.tables e below (T48.setTop (mkF m 102 #[.val (.int x0), .val (.long x1), .second, .val (.long x2), .second, .val (.long x3), .second, .val (.long x4), .second, .val (.int (3 : Int32)), .val (.double vd0), .second, .val (.double vd1), .second, .val (.double vd2), .second, .val (.double vd3), .second, .val (.ref b39), .val (.double (FP.dadd (0 : UInt64) vd0)), .second] [(.double (FP.dadd (0 : UInt64) vd0))])) _
      refine XS.dload X48.here hx rfl (hb hby at_102) rfl ?_
      show Steps p.tables e below (T48.setTop (mkF m 104 #[.val (.int x0), .val (.long x1), .second, .val (.long x2), .second, .val (.long x3), .second, .val (.long x4), .second, .val (.int (3 : Int32)), .val (.double vd0), .second, .val (.double vd1), .second, .val (.double vd2), .second, .val (.double vd3), .second, .val (.ref b39), .val (.double (FP.dadd (0 : UInt64) vd0)), .second] [(.double vd1), (.double (FP.dadd (0 : UInt64) vd0))])) _
      refine XS.daddS X48.here hx rfl (hb hby at_104) rfl (own_nn (own_s2 hm0 hm1) (by decide)) (v := (FP.dadd (FP.dadd (0 : UInt64) vd0) vd1)) rfl ?_
      show Steps p.tables e below (T48.setTop (mkF m 105 #[.val (.int x0), .val (.long x1), .second, .val (.long x2), .second, .val (.long x3), .second, .val (.long x4), .second, .val (.int (3 : Int32)), .val (.double vd0), .second, .val (.double vd1), .second, .val (.double vd2), .second, .val (.double vd3), .second, .val (.ref b39), .val (.double (FP.dadd (0 : UInt64) vd0)), .second] [(.double (FP.dadd (FP.dadd (0 : UInt64) vd0) vd1))])) _
      refine XS.dstore X48.here hx rfl (hb hby at_105) rfl (l' := #[.val (.int x0), .val (.long x1), .second, .val (.long x2), .second, .val (.long x3), .second, .val (.long x4), .second, .val (.int (3 : Int32)), .val (.double vd0), .second, .val (.double vd1), .second, .val (.double vd2), .second, .val (.double vd3), .second, .val (.ref b39), .val (.double (FP.dadd (FP.dadd (0 : UInt64) vd0) vd1)), .second]) rfl ?_
      show Steps p.tables e below (T48.setTop (mkF m 107 #[.val (.int x0), .val (.long x1), .second, .val (.long x2), .second, .val (.long x3), .second, .val (.long x4), .second, .val (.int (3 : Int32)), .val (.double vd0), .second, .val (.double vd1), .second, .val (.double vd2), .second, .val (.double vd3), .second, .val (.ref b39), .val (.double (FP.dadd (FP.dadd (0 : UInt64) vd0) vd1)), .second] [])) _
      refine XS.iload X48.here hx rfl (hb hby at_107) rfl ?_
      show Steps p.tables e below (T48.setTop (mkF m 109 #[.val (.int x0), .val (.long x1), .second, .val (.long x2), .second, .val (.long x3), .second, .val (.long x4), .second, .val (.int (3 : Int32)), .val (.double vd0), .second, .val (.double vd1), .second, .val (.double vd2), .second, .val (.double vd3), .second, .val (.ref b39), .val (.double (FP.dadd (FP.dadd (0 : UInt64) vd0) vd1)), .second] [(.int (3 : Int32))])) _
      refine XS.iconst X48.here hx rfl (hb hby at_109) ?_
      show Steps p.tables e below (T48.setTop (mkF m 110 #[.val (.int x0), .val (.long x1), .second, .val (.long x2), .second, .val (.long x3), .second, .val (.long x4), .second, .val (.int (3 : Int32)), .val (.double vd0), .second, .val (.double vd1), .second, .val (.double vd2), .second, .val (.double vd3), .second, .val (.ref b39), .val (.double (FP.dadd (FP.dadd (0 : UInt64) vd0) vd1)), .second] [(.int (2 : Int32)), (.int (3 : Int32))])) _
      refine XS.icmpNo X48.here hx rfl (hb hby at_110) rfl ((tlt (by decide)).2.2.2) ?_
      show Steps p.tables e below (T48.setTop (mkF m 113 #[.val (.int x0), .val (.long x1), .second, .val (.long x2), .second, .val (.long x3), .second, .val (.long x4), .second, .val (.int (3 : Int32)), .val (.double vd0), .second, .val (.double vd1), .second, .val (.double vd2), .second, .val (.double vd3), .second, .val (.ref b39), .val (.double (FP.dadd (FP.dadd (0 : UInt64) vd0) vd1)), .second] [])) _
      refine XS.dload X48.here hx rfl (hb hby at_113) rfl ?_
      show Steps p.tables e below (T48.setTop (mkF m 115 #[.val (.int x0), .val (.long x1), .second, .val (.long x2), .second, .val (.long x3), .second, .val (.long x4), .second, .val (.int (3 : Int32)), .val (.double vd0), .second, .val (.double vd1), .second, .val (.double vd2), .second, .val (.double vd3), .second, .val (.ref b39), .val (.double (FP.dadd (FP.dadd (0 : UInt64) vd0) vd1)), .second] [(.double (FP.dadd (FP.dadd (0 : UInt64) vd0) vd1))])) _
      refine XS.dload X48.here hx rfl (hb hby at_115) rfl ?_
      show Steps p.tables e below (T48.setTop (mkF m 117 #[.val (.int x0), .val (.long x1), .second, .val (.long x2), .second, .val (.long x3), .second, .val (.long x4), .second, .val (.int (3 : Int32)), .val (.double vd0), .second, .val (.double vd1), .second, .val (.double vd2), .second, .val (.double vd3), .second, .val (.ref b39), .val (.double (FP.dadd (FP.dadd (0 : UInt64) vd0) vd1)), .second] [(.double vd2), (.double (FP.dadd (FP.dadd (0 : UInt64) vd0) vd1))])) _
      refine XS.daddS X48.here hx rfl (hb hby at_117) rfl (own_nn (own_s3 hm0 hm1 hm2) (by decide)) (v := (FP.dadd (FP.dadd (FP.dadd (0 : UInt64) vd0) vd1) vd2)) rfl ?_
      show Steps p.tables e below (T48.setTop (mkF m 118 #[.val (.int x0), .val (.long x1), .second, .val (.long x2), .second, .val (.long x3), .second, .val (.long x4), .second, .val (.int (3 : Int32)), .val (.double vd0), .second, .val (.double vd1), .second, .val (.double vd2), .second, .val (.double vd3), .second, .val (.ref b39), .val (.double (FP.dadd (FP.dadd (0 : UInt64) vd0) vd1)), .second] [(.double (FP.dadd (FP.dadd (FP.dadd (0 : UInt64) vd0) vd1) vd2))])) _
      refine XS.dstore X48.here hx rfl (hb hby at_118) rfl (l' := #[.val (.int x0), .val (.long x1), .second, .val (.long x2), .second, .val (.long x3), .second, .val (.long x4), .second, .val (.int (3 : Int32)), .val (.double vd0), .second, .val (.double vd1), .second, .val (.double vd2), .second, .val (.double vd3), .second, .val (.ref b39), .val (.double (FP.dadd (FP.dadd (FP.dadd (0 : UInt64) vd0) vd1) vd2)), .second]) rfl ?_
      show Steps p.tables e below (T48.setTop (mkF m 120 #[.val (.int x0), .val (.long x1), .second, .val (.long x2), .second, .val (.long x3), .second, .val (.long x4), .second, .val (.int (3 : Int32)), .val (.double vd0), .second, .val (.double vd1), .second, .val (.double vd2), .second, .val (.double vd3), .second, .val (.ref b39), .val (.double (FP.dadd (FP.dadd (FP.dadd (0 : UInt64) vd0) vd1) vd2)), .second] [])) _
      refine XS.iload X48.here hx rfl (hb hby at_120) rfl ?_
      show Steps p.tables e below (T48.setTop (mkF m 122 #[.val (.int x0), .val (.long x1), .second, .val (.long x2), .second, .val (.long x3), .second, .val (.long x4), .second, .val (.int (3 : Int32)), .val (.double vd0), .second, .val (.double vd1), .second, .val (.double vd2), .second, .val (.double vd3), .second, .val (.ref b39), .val (.double (FP.dadd (FP.dadd (FP.dadd (0 : UInt64) vd0) vd1) vd2)), .second] [(.int (3 : Int32))])) _
      refine XS.iconst X48.here hx rfl (hb hby at_122) ?_
      show Steps p.tables e below (T48.setTop (mkF m 123 #[.val (.int x0), .val (.long x1), .second, .val (.long x2), .second, .val (.long x3), .second, .val (.long x4), .second, .val (.int (3 : Int32)), .val (.double vd0), .second, .val (.double vd1), .second, .val (.double vd2), .second, .val (.double vd3), .second, .val (.ref b39), .val (.double (FP.dadd (FP.dadd (FP.dadd (0 : UInt64) vd0) vd1) vd2)), .second] [(.int (3 : Int32)), (.int (3 : Int32))])) _
      refine XS.icmpYes X48.here hx rfl (pc0 := 123) (pc' := 133) rfl (hb hby at_123) rfl ((flt (by decide)).2.2.2) (by decide) (by decide) ?_
      show Steps p.tables e below (T48.setTop (mkF m 133 #[.val (.int x0), .val (.long x1), .second, .val (.long x2), .second, .val (.long x3), .second, .val (.long x4), .second, .val (.int (3 : Int32)), .val (.double vd0), .second, .val (.double vd1), .second, .val (.double vd2), .second, .val (.double vd3), .second, .val (.ref b39), .val (.double (FP.dadd (FP.dadd (FP.dadd (0 : UInt64) vd0) vd1) vd2)), .second] [])) _
      refine XS.aload X48.here hx rfl (hb hby at_133) rfl rfl ?_
      exact k)
    obtain ⟨_, _, ⟨T51, L51, k51, n51⟩, -, X51, ⟨Lc51, hQ51, l51, y51, z51⟩, st51⟩ := Jvm.LawKit.callS X48 hx (y := (⟨"com/example/kalchas/kalchas/evaluation/Evaluation", "sum", "([D)D"⟩ : MethodName)) hown (mvT hZ (hw _ (List.mem_of_getElem? (i := 2) rfl))) (mvT hZ (hw _ (List.mem_of_getElem? (i := 3) rfl))) (mvT hZ (hw _ (List.mem_of_getElem? (i := 4) rfl))) (mvT hZ (hw _ (List.mem_of_getElem? (i := 5) rfl))) (by decide) (backOf (W := 0) (rms3 l Z a0 hw [] b39 k39 vd0 vd1 vd2 h48 n0 Z48 VV48 hm0 hm1 hm2) hZ (hw _ (List.mem_of_getElem? (i := 5) rfl)) (hw _ (List.mem_of_getElem? (i := 4) rfl)) (by decide) (by decide)) (g := (mkF m 135 #[.val (.int x0), .val (.long x1), .second, .val (.long x2), .second, .val (.long x3), .second, .val (.long x4), .second, .val (.int (3 : Int32)), .val (.double vd0), .second, .val (.double vd1), .second, .val (.double vd2), .second, .val (.double vd3), .second, .val (.ref b39), .val (.double (FP.dadd (FP.dadd (FP.dadd (0 : UInt64) vd0) vd1) vd2)), .second] [(.ref b39)])) rfl (by rw [hml]; rfl) (argsL := [(.ref b39)]) (rest := []) (lenOf pd0_0 rfl) rfl (by show 2 * 0 + _ ≤ _; exact Nat.le_of_eq rfl) (hb hby at_135) (fun _ _ => ⟨rfl, e48, (by decide : 1 + 0 ≤ _), (by decide : 3 + 0 ≤ _)⟩)
    dsimp only [Pt.U, Pt.locs, Pt.cells, Pt.slots] at X51 l51 y51 z51 st51 hQ51
    subst l51 y51 z51
    obtain ⟨rfl, Nq51, e51⟩ := hQ51
    have N51 := Fr.app N48 Nq51
    have p52 : ∀ t, Steps p.tables e below (T51.setTop (mkF m 138 #[.val (.int x0), .val (.long x1), .second, .val (.long x2), .second, .val (.long x3), .second, .val (.long x4), .second, .val (.int (3 : Int32)), .val (.double vd0), .second, .val (.double vd1), .second, .val (.double vd2), .second, .val (.double vd3), .second, .val (.ref b39), .val (.double (FP.dadd (FP.dadd (FP.dadd (0 : UInt64) vd0) vd1) vd2)), .second] [(.double (FP.dadd (FP.dadd (FP.dadd (0 : UInt64) vd0) vd1) vd2))])) t → Steps p.tables e below (s₁.setTop (entryFrame m #[(.int x0), (.long x1), (.long x2), (.long x3), (.long x4)] maxLocals)) t := fun t k => p50 t (st51 _ k)
    have p53 : ∀ t, Steps p.tables e below (T51.setTop (mkF m 149 #[.val (.int x0), .val (.long x1), .second, .val (.long x2), .second, .val (.long x3), .second, .val (.long x4), .second, .val (.int (3 : Int32)), .val (.double vd0), .second, .val (.double vd1), .second, .val (.double vd2), .second, .val (.double vd3), .second, .val (.ref b39), .val (.double (FP.dadd (FP.dadd (FP.dadd (0 : UInt64) vd0) vd1) vd2)), .second] [(.int (1 : Int32))])) t → Steps p.tables e below (s₁.setTop (entryFrame m #[(.int x0), (.long x1), (.long x2), (.long x3), (.long x4)] maxLocals)) t := fun t k => p52 t (by
      show Steps p.tables e below (T51.setTop (mkF m 138 #[.val (.int x0), .val (.long x1), .second, .val (.long x2), .second, .val (.long x3), .second, .val (.long x4), .second, .val (.int (3 : Int32)), .val (.double vd0), .second, .val (.double vd1), .second, .val (.double vd2), .second, .val (.double vd3), .second, .val (.ref b39), .val (.double (FP.dadd (FP.dadd (FP.dadd (0 : UInt64) vd0) vd1) vd2)), .second] [(.double (FP.dadd (FP.dadd (FP.dadd (0 : UInt64) vd0) vd1) vd2))])) _
      refine XS.dload X51.here hx rfl (hb hby at_138) rfl ?_
      show Steps p.tables e below (T51.setTop (mkF m 140 #[.val (.int x0), .val (.long x1), .second, .val (.long x2), .second, .val (.long x3), .second, .val (.long x4), .second, .val (.int (3 : Int32)), .val (.double vd0), .second, .val (.double vd1), .second, .val (.double vd2), .second, .val (.double vd3), .second, .val (.ref b39), .val (.double (FP.dadd (FP.dadd (FP.dadd (0 : UInt64) vd0) vd1) vd2)), .second] [(.double (FP.dadd (FP.dadd (FP.dadd (0 : UInt64) vd0) vd1) vd2)), (.double (FP.dadd (FP.dadd (FP.dadd (0 : UInt64) vd0) vd1) vd2))])) _
      refine XS.dcmpS X51.here hx rfl (hb hby at_140) rfl (v := (0 : Int32)) (dcmpV_self (own_nn (own_s3 hm0 hm1 hm2) (by decide)) _) ?_
      show Steps p.tables e below (T51.setTop (mkF m 141 #[.val (.int x0), .val (.long x1), .second, .val (.long x2), .second, .val (.long x3), .second, .val (.long x4), .second, .val (.int (3 : Int32)), .val (.double vd0), .second, .val (.double vd1), .second, .val (.double vd2), .second, .val (.double vd3), .second, .val (.ref b39), .val (.double (FP.dadd (FP.dadd (FP.dadd (0 : UInt64) vd0) vd1) vd2)), .second] [(.int (0 : Int32))])) _
      refine XS.ifNo X51.here hx rfl (hb hby at_141) rfl ((if0 _ _).trans (teq (rfl)).2) ?_
      show Steps p.tables e below (T51.setTop (mkF m 144 #[.val (.int x0), .val (.long x1), .second, .val (.long x2), .second, .val (.long x3), .second, .val (.long x4), .second, .val (.int (3 : Int32)), .val (.double vd0), .second, .val (.double vd1), .second, .val (.double vd2), .second, .val (.double vd3), .second, .val (.ref b39), .val (.double (FP.dadd (FP.dadd (FP.dadd (0 : UInt64) vd0) vd1) vd2)), .second] [])) _
      refine XS.iconst X51.here hx rfl (hb hby at_144) ?_
      show Steps p.tables e below (T51.setTop (mkF m 145 #[.val (.int x0), .val (.long x1), .second, .val (.long x2), .second, .val (.long x3), .second, .val (.long x4), .second, .val (.int (3 : Int32)), .val (.double vd0), .second, .val (.double vd1), .second, .val (.double vd2), .second, .val (.double vd3), .second, .val (.ref b39), .val (.double (FP.dadd (FP.dadd (FP.dadd (0 : UInt64) vd0) vd1) vd2)), .second] [(.int (1 : Int32))])) _
      refine XS.goto X51.here hx rfl (pc0 := 145) (pc' := 149) rfl (hb hby at_145) (by decide) (by decide) ?_
      exact k)
    obtain ⟨fs, hr, hrun, hended, hW, hsame⟩ := X51.leave (v := some (.int (1 : Int32))) (fun h => by rw [Bd.returns] at h; cases h)
    refine ⟨_, _, p53 _ ?_, hrun, hended, _, _, rfl, ?_, ⟨_, rfl⟩, hW, hsame.mono (by decide) (by decide)⟩
    · show Steps p.tables e below (T51.setTop (mkF m 149 #[.val (.int x0), .val (.long x1), .second, .val (.long x2), .second, .val (.long x3), .second, .val (.long x4), .second, .val (.int (3 : Int32)), .val (.double vd0), .second, .val (.double vd1), .second, .val (.double vd2), .second, .val (.double vd3), .second, .val (.ref b39), .val (.double (FP.dadd (FP.dadd (FP.dadd (0 : UInt64) vd0) vd1) vd2)), .second] [(.int (1 : Int32))])) _
      exact retN X51 hx (t := .boolean) Bd.returns (by simp) (hb hby at_149) hr
    · show Q0 Z x0 x1 x2 x3 x4 h0 n0 _ T51.heap _
      rw [e51]
      exact ⟨rfl, N51⟩
  · obtain ⟨T54, h54, k54, X54, e54, E54, A54, st54⟩ := newP X0 hx hZ (hw _ (List.mem_of_getElem? (i := 1) rfl)) e0 (g := (mkF m 28 #[.val (.int x0), .val (.long x1), .second, .val (.long x2), .second, .val (.long x3), .second, .val (.long x4), .second, .val (.int (4 : Int32)), .val (.double vd0), .second, .val (.double vd1), .second, .val (.double vd2), .second, .val (.double vd3), .second, .unset, .unset, .unset] [(.int (4 : Int32))])) rfl (hb hby at_28) rfl (by decide) (cap := 4) (by decide) (by decide) (by decide) (by decide)
    obtain ⟨b54, g54⟩ : ∃ z, z = h0.size := ⟨_, rfl⟩
    rw [← g54] at A54 st54
    have gn_b54 : n0 ≤ b54 := Nat.le_trans Z0 (Nat.le_of_eq g54.symm)
    have Z54 := Nat.le_trans Z0 E54.1
    have VV54 : Arv Z h54 b54 k54 .double (4 : Int32) [(.double (0 : UInt64)), (.double (0 : UInt64)), (.double (0 : UInt64)), (.double (0 : UInt64))] (.double (0 : UInt64)) := (Arv.new A54 (by decide)).pad (pad_rep [] (.double (0 : UInt64)) 4)
    have p55 : ∀ t, Steps p.tables e below (T54.setTop (mkF m 30 #[.val (.int x0), .val (.long x1), .second, .val (.long x2), .second, .val (.long x3), .second, .val (.long x4), .second, .val (.int (4 : Int32)), .val (.double vd0), .second, .val (.double vd1), .second, .val (.double vd2), .second, .val (.double vd3), .second, .unset, .unset, .unset] [(.ref b54)])) t → Steps p.tables e below (s₁.setTop (entryFrame m #[(.int x0), (.long x1), (.long x2), (.long x3), (.long x4)] maxLocals)) t := fun t k => p11 t (st54 t k)
    have p56 : ∀ t, Steps p.tables e below (T54.setTop (mkF m 42 #[.val (.int x0), .val (.long x1), .second, .val (.long x2), .second, .val (.long x3), .second, .val (.long x4), .second, .val (.int (4 : Int32)), .val (.double vd0), .second, .val (.double vd1), .second, .val (.double vd2), .second, .val (.double vd3), .second, .val (.ref b54), .unset, .unset] [(.double vd0), (.int (0 : Int32)), (.ref b54)])) t → Steps p.tables e below (s₁.setTop (entryFrame m #[(.int x0), (.long x1), (.long x2), (.long x3), (.long x4)] maxLocals)) t := fun t k => p55 t (by
      show Steps p.tables e below (T54.setTop (mkF m 30 #[.val (.int x0), .val (.long x1), .second, .val (.long x2), .second, .val (.long x3), .second, .val (.long x4), .second, .val (.int (4 : Int32)), .val (.double vd0), .second, .val (.double vd1), .second, .val (.double vd2), .second, .val (.double vd3), .second, .unset, .unset, .unset] [(.ref b54)])) _
      refine XS.astore X54.here hx rfl (hb hby at_30) rfl rfl (l' := #[.val (.int x0), .val (.long x1), .second, .val (.long x2), .second, .val (.long x3), .second, .val (.long x4), .second, .val (.int (4 : Int32)), .val (.double vd0), .second, .val (.double vd1), .second, .val (.double vd2), .second, .val (.double vd3), .second, .val (.ref b54), .unset, .unset]) rfl ?_
      show Steps p.tables e below (T54.setTop (mkF m 32 #[.val (.int x0), .val (.long x1), .second, .val (.long x2), .second, .val (.long x3), .second, .val (.long x4), .second, .val (.int (4 : Int32)), .val (.double vd0), .second, .val (.double vd1), .second, .val (.double vd2), .second, .val (.double vd3), .second, .val (.ref b54), .unset, .unset] [])) _
      refine XS.iload X54.here hx rfl (hb hby at_32) rfl ?_
      show Steps p.tables e below (T54.setTop (mkF m 34 #[.val (.int x0), .val (.long x1), .second, .val (.long x2), .second, .val (.long x3), .second, .val (.long x4), .second, .val (.int (4 : Int32)), .val (.double vd0), .second, .val (.double vd1), .second, .val (.double vd2), .second, .val (.double vd3), .second, .val (.ref b54), .unset, .unset] [(.int (4 : Int32))])) _
      refine XS.ifNo X54.here hx rfl (hb hby at_34) rfl ((if0 _ _).trans (tlt (by decide)).2.2.2) ?_
      show Steps p.tables e below (T54.setTop (mkF m 37 #[.val (.int x0), .val (.long x1), .second, .val (.long x2), .second, .val (.long x3), .second, .val (.long x4), .second, .val (.int (4 : Int32)), .val (.double vd0), .second, .val (.double vd1), .second, .val (.double vd2), .second, .val (.double vd3), .second, .val (.ref b54), .unset, .unset] [])) _
      refine XS.aload X54.here hx rfl (hb hby at_37) rfl rfl ?_
      show Steps p.tables e below (T54.setTop (mkF m 39 #[.val (.int x0), .val (.long x1), .second, .val (.long x2), .second, .val (.long x3), .second, .val (.long x4), .second, .val (.int (4 : Int32)), .val (.double vd0), .second, .val (.double vd1), .second, .val (.double vd2), .second, .val (.double vd3), .second, .val (.ref b54), .unset, .unset] [(.ref b54)])) _
      refine XS.iconst X54.here hx rfl (hb hby at_39) ?_
      show Steps p.tables e below (T54.setTop (mkF m 40 #[.val (.int x0), .val (.long x1), .second, .val (.long x2), .second, .val (.long x3), .second, .val (.long x4), .second, .val (.int (4 : Int32)), .val (.double vd0), .second, .val (.double vd1), .second, .val (.double vd2), .second, .val (.double vd3), .second, .val (.ref b54), .unset, .unset] [(.int (0 : Int32)), (.ref b54)])) _
      refine XS.dload X54.here hx rfl (hb hby at_40) rfl ?_
      exact k)
    obtain ⟨cl57, Ar57, q57, Sz57, Ng57, Hs57, G57⟩ := id VV54
    have hin57 : ¬ ((0 : Int32) < 0 ∨ cl57.slots.size ≤ ((0 : Int32)).toNatClampNeg) := inb_of Sz57 (⟨by decide, by decide⟩)
    obtain ⟨T57, h57, X57, e57, W57, st57⟩ := stD X54 hx hZ e54 Ar57 (j := (0 : Int32)) hin57 (g := (mkF m 42 #[.val (.int x0), .val (.long x1), .second, .val (.long x2), .second, .val (.long x3), .second, .val (.long x4), .second, .val (.int (4 : Int32)), .val (.double vd0), .second, .val (.double vd1), .second, .val (.double vd2), .second, .val (.double vd3), .second, .val (.ref b54), .unset, .unset] [(.double vd0), (.int (0 : Int32)), (.ref b54)])) rfl rfl (hb hby at_42)
    have VV57 : Arv Z h57 b54 k54 .double (4 : Int32) [(.double vd0), (.double (0 : UInt64)), (.double (0 : UInt64)), (.double (0 : UInt64))] (.double (0 : UInt64)) := Arv.set Ar57 q57 Sz57 Ng57 Hs57 G57 rfl W57 0 (by decide) (Nat.le_of_ble_eq_true rfl)
    have Z57 := Nat.le_trans Z54 (Keep.of_wr W57).1
    have N57 := Fr.snoc X57 N0 gn_b54
    have p58 : ∀ t, Steps p.tables e below (T57.setTop (mkF m 43 #[.val (.int x0), .val (.long x1), .second, .val (.long x2), .second, .val (.long x3), .second, .val (.long x4), .second, .val (.int (4 : Int32)), .val (.double vd0), .second, .val (.double vd1), .second, .val (.double vd2), .second, .val (.double vd3), .second, .val (.ref b54), .unset, .unset] [])) t → Steps p.tables e below (s₁.setTop (entryFrame m #[(.int x0), (.long x1), (.long x2), (.long x3), (.long x4)] maxLocals)) t := fun t k => p56 t (st57 t k)
    have p59 : ∀ t, Steps p.tables e below (T57.setTop (mkF m 54 #[.val (.int x0), .val (.long x1), .second, .val (.long x2), .second, .val (.long x3), .second, .val (.long x4), .second, .val (.int (4 : Int32)), .val (.double vd0), .second, .val (.double vd1), .second, .val (.double vd2), .second, .val (.double vd3), .second, .val (.ref b54), .unset, .unset] [(.double vd1), (.int (1 : Int32)), (.ref b54)])) t → Steps p.tables e below (s₁.setTop (entryFrame m #[(.int x0), (.long x1), (.long x2), (.long x3), (.long x4)] maxLocals)) t := fun t k => p58 t (by
      show Steps p.tables e below (T57.setTop (mkF m 43 #[.val (.int x0), .val (.long x1), .second, .val (.long x2), .second, .val (.long x3), .second, .val (.long x4), .second, .val (.int (4 : Int32)), .val (.double vd0), .second, .val (.double vd1), .second, .val (.double vd2), .second, .val (.double vd3), .second, .val (.ref b54), .unset, .unset] [])) _
      refine XS.iload X57.here hx rfl (hb hby at_43) rfl ?_
      show Steps p.tables e below (T57.setTop (mkF m 45 #[.val (.int x0), .val (.long x1), .second, .val (.long x2), .second, .val (.long x3), .second, .val (.long x4), .second, .val (.int (4 : Int32)), .val (.double vd0), .second, .val (.double vd1), .second, .val (.double vd2), .second, .val (.double vd3), .second, .val (.ref b54), .unset, .unset] [(.int (4 : Int32))])) _
      refine XS.iconst X57.here hx rfl (hb hby at_45) ?_
      show Steps p.tables e below (T57.setTop (mkF m 46 #[.val (.int x0), .val (.long x1), .second, .val (.long x2), .second, .val (.long x3), .second, .val (.long x4), .second, .val (.int (4 : Int32)), .val (.double vd0), .second, .val (.double vd1), .second, .val (.double vd2), .second, .val (.double vd3), .second, .val (.ref b54), .unset, .unset] [(.int (1 : Int32)), (.int (4 : Int32))])) _
      refine XS.icmpNo X57.here hx rfl (hb hby at_46) rfl ((tlt (by decide)).2.2.2) ?_
      show Steps p.tables e below (T57.setTop (mkF m 49 #[.val (.int x0), .val (.long x1), .second, .val (.long x2), .second, .val (.long x3), .second, .val (.long x4), .second, .val (.int (4 : Int32)), .val (.double vd0), .second, .val (.double vd1), .second, .val (.double vd2), .second, .val (.double vd3), .second, .val (.ref b54), .unset, .unset] [])) _
      refine XS.aload X57.here hx rfl (hb hby at_49) rfl rfl ?_
      show Steps p.tables e below (T57.setTop (mkF m 51 #[.val (.int x0), .val (.long x1), .second, .val (.long x2), .second, .val (.long x3), .second, .val (.long x4), .second, .val (.int (4 : Int32)), .val (.double vd0), .second, .val (.double vd1), .second, .val (.double vd2), .second, .val (.double vd3), .second, .val (.ref b54), .unset, .unset] [(.ref b54)])) _
      refine XS.iconst X57.here hx rfl (hb hby at_51) ?_
      show Steps p.tables e below (T57.setTop (mkF m 52 #[.val (.int x0), .val (.long x1), .second, .val (.long x2), .second, .val (.long x3), .second, .val (.long x4), .second, .val (.int (4 : Int32)), .val (.double vd0), .second, .val (.double vd1), .second, .val (.double vd2), .second, .val (.double vd3), .second, .val (.ref b54), .unset, .unset] [(.int (1 : Int32)), (.ref b54)])) _
      refine XS.dload X57.here hx rfl (hb hby at_52) rfl ?_
      exact k)
    obtain ⟨cl60, Ar60, q60, Sz60, Ng60, Hs60, G60⟩ := id VV57
    have hin60 : ¬ ((1 : Int32) < 0 ∨ cl60.slots.size ≤ ((1 : Int32)).toNatClampNeg) := inb_of Sz60 (⟨by decide, by decide⟩)
    obtain ⟨T60, h60, X60, e60, W60, st60⟩ := stD X57 hx hZ e57 Ar60 (j := (1 : Int32)) hin60 (g := (mkF m 54 #[.val (.int x0), .val (.long x1), .second, .val (.long x2), .second, .val (.long x3), .second, .val (.long x4), .second, .val (.int (4 : Int32)), .val (.double vd0), .second, .val (.double vd1), .second, .val (.double vd2), .second, .val (.double vd3), .second, .val (.ref b54), .unset, .unset] [(.double vd1), (.int (1 : Int32)), (.ref b54)])) rfl rfl (hb hby at_54)
    have VV60 : Arv Z h60 b54 k54 .double (4 : Int32) [(.double vd0), (.double vd1), (.double (0 : UInt64)), (.double (0 : UInt64))] (.double (0 : UInt64)) := Arv.set Ar60 q60 Sz60 Ng60 Hs60 G60 rfl W60 1 (by decide) (Nat.le_of_ble_eq_true rfl)
    have Z60 := Nat.le_trans Z57 (Keep.of_wr W60).1
    have N60 := Fr.snoc X60 N57 gn_b54
    have p61 : ∀ t, Steps p.tables e below (T60.setTop (mkF m 55 #[.val (.int x0), .val (.long x1), .second, .val (.long x2), .second, .val (.long x3), .second, .val (.long x4), .second, .val (.int (4 : Int32)), .val (.double vd0), .second, .val (.double vd1), .second, .val (.double vd2), .second, .val (.double vd3), .second, .val (.ref b54), .unset, .unset] [])) t → Steps p.tables e below (s₁.setTop (entryFrame m #[(.int x0), (.long x1), (.long x2), (.long x3), (.long x4)] maxLocals)) t := fun t k => p59 t (st60 t k)
    have p62 : ∀ t, Steps p.tables e below (T60.setTop (mkF m 66 #[.val (.int x0), .val (.long x1), .second, .val (.long x2), .second, .val (.long x3), .second, .val (.long x4), .second, .val (.int (4 : Int32)), .val (.double vd0), .second, .val (.double vd1), .second, .val (.double vd2), .second, .val (.double vd3), .second, .val (.ref b54), .unset, .unset] [(.double vd2), (.int (2 : Int32)), (.ref b54)])) t → Steps p.tables e below (s₁.setTop (entryFrame m #[(.int x0), (.long x1), (.long x2), (.long x3), (.long x4)] maxLocals)) t := fun t k => p61 t (by
      show Steps p.tables e below (T60.setTop (mkF m 55 #[.val (.int x0), .val (.long x1), .second, .val (.long x2), .second, .val (.long x3), .second, .val (.long x4), .second, .val (.int (4 : Int32)), .val (.double vd0), .second, .val (.double vd1), .second, .val (.double vd2), .second, .val (.double vd3), .second, .val (.ref b54), .unset, .unset] [])) _
      refine XS.iload X60.here hx rfl (hb hby at_55) rfl ?_
      show Steps p.tables e below (T60.setTop (mkF m 57 #[.val (.int x0), .val (.long x1), .second, .val (.long x2), .second, .val (.long x3), .second, .val (.long x4), .second, .val (.int (4 : Int32)), .val (.double vd0), .second, .val (.double vd1), .second, .val (.double vd2), .second, .val (.double vd3), .second, .val (.ref b54), .unset, .unset] [(.int (4 : Int32))])) _
      refine XS.iconst X60.here hx rfl (hb hby at_57) ?_
      show Steps p.tables e below (T60.setTop (mkF m 58 #[.val (.int x0), .val (.long x1), .second, .val (.long x2), .second, .val (.long x3), .second, .val (.long x4), .second, .val (.int (4 : Int32)), .val (.double vd0), .second, .val (.double vd1), .second, .val (.double vd2), .second, .val (.double vd3), .second, .val (.ref b54), .unset, .unset] [(.int (2 : Int32)), (.int (4 : Int32))])) _
      refine XS.icmpNo X60.here hx rfl (hb hby at_58) rfl ((tlt (by decide)).2.2.2) ?_
      show Steps p.tables e below (T60.setTop (mkF m 61 #[.val (.int x0), .val (.long x1), .second, .val (.long x2), .second, .val (.long x3), .second, .val (.long x4), .second, .val (.int (4 : Int32)), .val (.double vd0), .second, .val (.double vd1), .second, .val (.double vd2), .second, .val (.double vd3), .second, .val (.ref b54), .unset, .unset] [])) _
      refine XS.aload X60.here hx rfl (hb hby at_61) rfl rfl ?_
      show Steps p.tables e below (T60.setTop (mkF m 63 #[.val (.int x0), .val (.long x1), .second, .val (.long x2), .second, .val (.long x3), .second, .val (.long x4), .second, .val (.int (4 : Int32)), .val (.double vd0), .second, .val (.double vd1), .second, .val (.double vd2), .second, .val (.double vd3), .second, .val (.ref b54), .unset, .unset] [(.ref b54)])) _
      refine XS.iconst X60.here hx rfl (hb hby at_63) ?_
      show Steps p.tables e below (T60.setTop (mkF m 64 #[.val (.int x0), .val (.long x1), .second, .val (.long x2), .second, .val (.long x3), .second, .val (.long x4), .second, .val (.int (4 : Int32)), .val (.double vd0), .second, .val (.double vd1), .second, .val (.double vd2), .second, .val (.double vd3), .second, .val (.ref b54), .unset, .unset] [(.int (2 : Int32)), (.ref b54)])) _
      refine XS.dload X60.here hx rfl (hb hby at_64) rfl ?_
      exact k)
    obtain ⟨cl63, Ar63, q63, Sz63, Ng63, Hs63, G63⟩ := id VV60
    have hin63 : ¬ ((2 : Int32) < 0 ∨ cl63.slots.size ≤ ((2 : Int32)).toNatClampNeg) := inb_of Sz63 (⟨by decide, by decide⟩)
    obtain ⟨T63, h63, X63, e63, W63, st63⟩ := stD X60 hx hZ e60 Ar63 (j := (2 : Int32)) hin63 (g := (mkF m 66 #[.val (.int x0), .val (.long x1), .second, .val (.long x2), .second, .val (.long x3), .second, .val (.long x4), .second, .val (.int (4 : Int32)), .val (.double vd0), .second, .val (.double vd1), .second, .val (.double vd2), .second, .val (.double vd3), .second, .val (.ref b54), .unset, .unset] [(.double vd2), (.int (2 : Int32)), (.ref b54)])) rfl rfl (hb hby at_66)
    have VV63 : Arv Z h63 b54 k54 .double (4 : Int32) [(.double vd0), (.double vd1), (.double vd2), (.double (0 : UInt64))] (.double (0 : UInt64)) := Arv.set Ar63 q63 Sz63 Ng63 Hs63 G63 rfl W63 2 (by decide) (Nat.le_of_ble_eq_true rfl)
    have Z63 := Nat.le_trans Z60 (Keep.of_wr W63).1
    have N63 := Fr.snoc X63 N60 gn_b54
    have p64 : ∀ t, Steps p.tables e below (T63.setTop (mkF m 67 #[.val (.int x0), .val (.long x1), .second, .val (.long x2), .second, .val (.long x3), .second, .val (.long x4), .second, .val (.int (4 : Int32)), .val (.double vd0), .second, .val (.double vd1), .second, .val (.double vd2), .second, .val (.double vd3), .second, .val (.ref b54), .unset, .unset] [])) t → Steps p.tables e below (s₁.setTop (entryFrame m #[(.int x0), (.long x1), (.long x2), (.long x3), (.long x4)] maxLocals)) t := fun t k => p62 t (st63 t k)
    have p65 : ∀ t, Steps p.tables e below (T63.setTop (mkF m 78 #[.val (.int x0), .val (.long x1), .second, .val (.long x2), .second, .val (.long x3), .second, .val (.long x4), .second, .val (.int (4 : Int32)), .val (.double vd0), .second, .val (.double vd1), .second, .val (.double vd2), .second, .val (.double vd3), .second, .val (.ref b54), .unset, .unset] [(.double vd3), (.int (3 : Int32)), (.ref b54)])) t → Steps p.tables e below (s₁.setTop (entryFrame m #[(.int x0), (.long x1), (.long x2), (.long x3), (.long x4)] maxLocals)) t := fun t k => p64 t (by
      show Steps p.tables e below (T63.setTop (mkF m 67 #[.val (.int x0), .val (.long x1), .second, .val (.long x2), .second, .val (.long x3), .second, .val (.long x4), .second, .val (.int (4 : Int32)), .val (.double vd0), .second, .val (.double vd1), .second, .val (.double vd2), .second, .val (.double vd3), .second, .val (.ref b54), .unset, .unset] [])) _
      refine XS.iload X63.here hx rfl (hb hby at_67) rfl ?_
      show Steps p.tables e below (T63.setTop (mkF m 69 #[.val (.int x0), .val (.long x1), .second, .val (.long x2), .second, .val (.long x3), .second, .val (.long x4), .second, .val (.int (4 : Int32)), .val (.double vd0), .second, .val (.double vd1), .second, .val (.double vd2), .second, .val (.double vd3), .second, .val (.ref b54), .unset, .unset] [(.int (4 : Int32))])) _
      refine XS.iconst X63.here hx rfl (hb hby at_69) ?_
      show Steps p.tables e below (T63.setTop (mkF m 70 #[.val (.int x0), .val (.long x1), .second, .val (.long x2), .second, .val (.long x3), .second, .val (.long x4), .second, .val (.int (4 : Int32)), .val (.double vd0), .second, .val (.double vd1), .second, .val (.double vd2), .second, .val (.double vd3), .second, .val (.ref b54), .unset, .unset] [(.int (3 : Int32)), (.int (4 : Int32))])) _
      refine XS.icmpNo X63.here hx rfl (hb hby at_70) rfl ((tlt (by decide)).2.2.2) ?_
      show Steps p.tables e below (T63.setTop (mkF m 73 #[.val (.int x0), .val (.long x1), .second, .val (.long x2), .second, .val (.long x3), .second, .val (.long x4), .second, .val (.int (4 : Int32)), .val (.double vd0), .second, .val (.double vd1), .second, .val (.double vd2), .second, .val (.double vd3), .second, .val (.ref b54), .unset, .unset] [])) _
      refine XS.aload X63.here hx rfl (hb hby at_73) rfl rfl ?_
      show Steps p.tables e below (T63.setTop (mkF m 75 #[.val (.int x0), .val (.long x1), .second, .val (.long x2), .second, .val (.long x3), .second, .val (.long x4), .second, .val (.int (4 : Int32)), .val (.double vd0), .second, .val (.double vd1), .second, .val (.double vd2), .second, .val (.double vd3), .second, .val (.ref b54), .unset, .unset] [(.ref b54)])) _
      refine XS.iconst X63.here hx rfl (hb hby at_75) ?_
      show Steps p.tables e below (T63.setTop (mkF m 76 #[.val (.int x0), .val (.long x1), .second, .val (.long x2), .second, .val (.long x3), .second, .val (.long x4), .second, .val (.int (4 : Int32)), .val (.double vd0), .second, .val (.double vd1), .second, .val (.double vd2), .second, .val (.double vd3), .second, .val (.ref b54), .unset, .unset] [(.int (3 : Int32)), (.ref b54)])) _
      refine XS.dload X63.here hx rfl (hb hby at_76) rfl ?_
      exact k)
    obtain ⟨cl66, Ar66, q66, Sz66, Ng66, Hs66, G66⟩ := id VV63
    have hin66 : ¬ ((3 : Int32) < 0 ∨ cl66.slots.size ≤ ((3 : Int32)).toNatClampNeg) := inb_of Sz66 (⟨by decide, by decide⟩)
    obtain ⟨T66, h66, X66, e66, W66, st66⟩ := stD X63 hx hZ e63 Ar66 (j := (3 : Int32)) hin66 (g := (mkF m 78 #[.val (.int x0), .val (.long x1), .second, .val (.long x2), .second, .val (.long x3), .second, .val (.long x4), .second, .val (.int (4 : Int32)), .val (.double vd0), .second, .val (.double vd1), .second, .val (.double vd2), .second, .val (.double vd3), .second, .val (.ref b54), .unset, .unset] [(.double vd3), (.int (3 : Int32)), (.ref b54)])) rfl rfl (hb hby at_78)
    have VV66 : Arv Z h66 b54 k54 .double (4 : Int32) [(.double vd0), (.double vd1), (.double vd2), (.double vd3)] (.double (0 : UInt64)) := Arv.set Ar66 q66 Sz66 Ng66 Hs66 G66 rfl W66 3 (by decide) (Nat.le_of_ble_eq_true rfl)
    have Z66 := Nat.le_trans Z63 (Keep.of_wr W66).1
    have N66 := Fr.snoc X66 N63 gn_b54
    have p67 : ∀ t, Steps p.tables e below (T66.setTop (mkF m 79 #[.val (.int x0), .val (.long x1), .second, .val (.long x2), .second, .val (.long x3), .second, .val (.long x4), .second, .val (.int (4 : Int32)), .val (.double vd0), .second, .val (.double vd1), .second, .val (.double vd2), .second, .val (.double vd3), .second, .val (.ref b54), .unset, .unset] [])) t → Steps p.tables e below (s₁.setTop (entryFrame m #[(.int x0), (.long x1), (.long x2), (.long x3), (.long x4)] maxLocals)) t := fun t k => p65 t (st66 t k)
    have p68 : ∀ t, Steps p.tables e below (T66.setTop (mkF m 135 #[.val (.int x0), .val (.long x1), .second, .val (.long x2), .second, .val (.long x3), .second, .val (.long x4), .second, .val (.int (4 : Int32)), .val (.double vd0), .second, .val (.double vd1), .second, .val (.double vd2), .second, .val (.double vd3), .second, .val (.ref b54), .val (.double (FP.dadd (FP.dadd (FP.dadd (FP.dadd (0 : UInt64) vd0) vd1) vd2) vd3)), .second] [(.ref b54)])) t → Steps p.tables e below (s₁.setTop (entryFrame m #[(.int x0), (.long x1), (.long x2), (.long x3), (.long x4)] maxLocals)) t := fun t k => p67 t (by
      show Steps p.tables e below (T66.setTop (mkF m 79 #[.val (.int x0), .val (.long x1), .second, .val (.long x2), .second, .val (.long x3), .second, .val (.long x4), .second, .val (.int (4 : Int32)), .val (.double vd0), .second, .val (.double vd1), .second, .val (.double vd2), .second, .val (.double vd3), .second, .val (.ref b54), .unset, .unset] [])) _
      refine XS.dconst0 X66.here hx rfl (hb hby at_79) (v := (0 : UInt64)) rfl ?_
      show Steps p.tables e below (T66.setTop (mkF m 80 #[.val (.int x0), .val (.long x1), .second, .val (.long x2), .second, .val (.long x3), .second, .val (.long x4), .second, .val (.int (4 : Int32)), .val (.double vd0), .second, .val (.double vd1), .second, .val (.double vd2), .second, .val (.double vd3), .second, .val (.ref b54), .unset, .unset] [(.double (0 : UInt64))])) _
      refine XS.dstore X66.here hx rfl (hb hby at_80) rfl (l' := #[.val (.int x0), .val (.long x1), .second, .val (.long x2), .second, .val (.long x3), .second, .val (.long x4), .second, .val (.int (4 : Int32)), .val (.double vd0), .second, .val (.double vd1), .second, .val (.double vd2), .second, .val (.double vd3), .second, .val (.ref b54), .val (.double (0 : UInt64)), .second]) rfl ?_
      show Steps p.tables e below (T66.setTop (mkF m 82 #[.val (.int x0), .val (.long x1), .second, .val (.long x2), .second, .val (.long x3), .second, .val (.long x4), .second, .val (.int (4 : Int32)), .val (.double vd0), .second, .val (.double vd1), .second, .val (.double vd2), .second, .val (.double vd3), .second, .val (.ref b54), .val (.double (0 : UInt64)), .second] [])) _
      refine XS.iload X66.here hx rfl (hb hby at_82) rfl ?_
      show Steps p.tables e below (T66.setTop (mkF m 84 #[.val (.int x0), .val (.long x1), .second, .val (.long x2), .second, .val (.long x3), .second, .val (.long x4), .second, .val (.int (4 : Int32)), .val (.double vd0), .second, .val (.double vd1), .second, .val (.double vd2), .second, .val (.double vd3), .second, .val (.ref b54), .val (.double (0 : UInt64)), .second] [(.int (4 : Int32))])) _
      refine XS.ifNo X66.here hx rfl (hb hby at_84) rfl ((if0 _ _).trans (tlt (by decide)).2.2.2) ?_
      show Steps p.tables e below (T66.setTop (mkF m 87 #[.val (.int x0), .val (.long x1), .second, .val (.long x2), .second, .val (.long x3), .second, .val (.long x4), .second, .val (.int (4 : Int32)), .val (.double vd0), .second, .val (.double vd1), .second, .val (.double vd2), .second, .val (.double vd3), .second, .val (.ref b54), .val (.double (0 : UInt64)), .second] [])) _
      refine XS.dload X66.here hx rfl (hb hby at_87) rfl ?_
      show Steps p.tables e below (T66.setTop (mkF m 89 #[.val (.int x0), .val (.long x1), .second, .val (.long x2), .second, .val (.long x3), .second, .val (.long x4), .second, .val (.int (4 : Int32)), .val (.double vd0), .second, .val (.double vd1), .second, .val (.double vd2), .second, .val (.double vd3), .second, .val (.ref b54), .val (.double (0 : UInt64)), .second] [(.double (0 : UInt64))])) _
      refine XS.dload X66.here hx rfl (hb hby at_89) rfl ?_
      show Steps p.tables e below (T66.setTop (mkF m 91 #[.val (.int x0), .val (.long x1), .second, .val (.long x2), .second, .val (.long x3), .second, .val (.long x4), .second, .val (.int (4 : Int32)), .val (.double vd0), .second, .val (.double vd1), .second, .val (.double vd2), .second, .val (.double vd3), .second, .val (.ref b54), .val (.double (0 : UInt64)), .second] [(.double vd0), (.double (0 : UInt64))])) _
      refine XS.daddS X66.here hx rfl (hb hby at_91) rfl (own_nn (own_s1 hm0) (by decide)) (v := (FP.dadd (0 : UInt64) vd0)) rfl ?_
      show Steps p.tables e below (T66.setTop (mkF m 92 #[.val (.int x0), .val (.long x1), .second, .val (.long x2), .second, .val (.long x3), .second, .val (.long x4), .second, .val (.int (4 : Int32)), .val (.double vd0), .second, .val (.double vd1), .second, .val (.double vd2), .second, .val (.double vd3), .second, .val (.ref b54), .val (.double (0 : UInt64)), .second] [(.double (FP.dadd (0 : UInt64) vd0))])) _
      refine XS.dstore X66.here hx rfl (hb hby at_92) rfl (l' := #[.val (.int x0), .val (.long x1), .second, .val (.long x2), .second, .val (.long x3), .second, .val (.long x4), .second, .val (.int (4 : Int32)), .val (.double vd0), .second, .val (.double vd1), .second, .val (.double vd2), .second, .val (.double vd3), .second, .val (.ref b54), .val (.double (FP.dadd (0 : UInt64) vd0)), .second]) rfl ?_
      show Steps p.tables e below (T66.setTop (mkF m 94 #[.val (.int x0), .val (.long x1), .second, .val (.long x2), .second, .val (.long x3), .second, .val (.long x4), .second, .val (.int (4 : Int32)), .val (.double vd0), .second, .val (.double vd1), .second, .val (.double vd2), .second, .val (.double vd3), .second, .val (.ref b54), .val (.double (FP.dadd (0 : UInt64) vd0)), .second] [])) _
      refine XS.iload X66.here hx rfl (hb hby at_94) rfl ?_
      show Steps p.tables e below (T66.setTop (mkF m 96 #[.val (.int x0), .val (.long x1), .second, .val (.long x2), .second, .val (.long x3), .second, .val (.long x4), .second, .val (.int (4 : Int32)), .val (.double vd0), .second, .val (.double vd1), .second, .val (.double vd2), .second, .val (.double vd3), .second, .val (.ref b54), .val (.double (FP.dadd (0 : UInt64) vd0)), .second] [(.int (4 : Int32))])) _
      refine XS.iconst X66.here hx rfl (hb hby at_96) ?_
      show Steps p.tables e below (T66.setTop (mkF m 97 #[.val (.int x0), .val (.long x1), .second, .val (.long x2), .second, .val (.long x3), .second, .val (.long x4), .second, .val (.int (4 : Int32)), .val (.double vd0), .second, .val (.double vd1), .second, .val (.double vd2), .second, .val (.double vd3), .second, .val (.ref b54), .val (.double (FP.dadd (0 : UInt64) vd0)), .second] [(.int (1 : Int32)), (.int (4 : Int32))])) _
      refine XS.icmpNo X66.here hx rfl (hb hby at_97) rfl ((tlt (by decide)).2.2.2) ?_
      show Steps p.tables e below (T66.setTop (mkF m 100 #[.val (.int x0), .val (.long x1), .second, .val (.long x2), .second, .val (.long x3), .second, .val (.long x4), .second, .val (.int (4 : Int32)), .val (.double vd0), .second, .val (.double vd1), .second, .val (.double vd2), .second, .val (.double vd3), .second, .val (.ref b54), .val (.double (FP.dadd (0 : UInt64) vd0)), .second] [])) _
      refine XS.dload X66.here hx rfl (hb hby at_100) rfl ?_
      show Steps p.tables e below (T66.setTop (mkF m 102 #[.val (.int x0), .val (.long x1), .second, .val (.long x2), .second, .val (.long x3), .second, .val (.long x4), .second, .val (.int (4 : Int32)), .val (.double vd0), .second, .val (.double vd1), .second, .val (.double vd2), .second, .val (.double vd3), .second, .val (.ref b54), .val (.double (FP.dadd (0 : UInt64) vd0)), .second] [(.double (FP.dadd (0 : UInt64) vd0))])) _
      refine XS.dload X66.here hx rfl (hb hby at_102) rfl ?_
      show Steps p.tables e below (T66.setTop (mkF m 104 #[.val (.int x0), .val (.long x1), .second, .val (.long x2), .second, .val (.long x3), .second, .val (.long x4), .second, .val (.int (4 : Int32)), .val (.double vd0), .second, .val (.double vd1), .second, .val (.double vd2), .second, .val (.double vd3), .second, .val (.ref b54), .val (.double (FP.dadd (0 : UInt64) vd0)), .second] [(.double vd1), (.double (FP.dadd (0 : UInt64) vd0))])) _
      refine XS.daddS X66.here hx rfl (hb hby at_104) rfl (own_nn (own_s2 hm0 hm1) (by decide)) (v := (FP.dadd (FP.dadd (0 : UInt64) vd0) vd1)) rfl ?_
      show Steps p.tables e below (T66.setTop (mkF m 105 #[.val (.int x0), .val (.long x1), .second, .val (.long x2), .second, .val (.long x3), .second, .val (.long x4), .second, .val (.int (4 : Int32)), .val (.double vd0), .second, .val (.double vd1), .second, .val (.double vd2), .second, .val (.double vd3), .second, .val (.ref b54), .val (.double (FP.dadd (0 : UInt64) vd0)), .second] [(.double (FP.dadd (FP.dadd (0 : UInt64) vd0) vd1))])) _
      refine XS.dstore X66.here hx rfl (hb hby at_105) rfl (l' := #[.val (.int x0), .val (.long x1), .second, .val (.long x2), .second, .val (.long x3), .second, .val (.long x4), .second, .val (.int (4 : Int32)), .val (.double vd0), .second, .val (.double vd1), .second, .val (.double vd2), .second, .val (.double vd3), .second, .val (.ref b54), .val (.double (FP.dadd (FP.dadd (0 : UInt64) vd0) vd1)), .second]) rfl ?_
      show Steps p.tables e below (T66.setTop (mkF m 107 #[.val (.int x0), .val (.long x1), .second, .val (.long x2), .second, .val (.long x3), .second, .val (.long x4), .second, .val (.int (4 : Int32)), .val (.double vd0), .second, .val (.double vd1), .second, .val (.double vd2), .second, .val (.double vd3), .second, .val (.ref b54), .val (.double (FP.dadd (FP.dadd (0 : UInt64) vd0) vd1)), .second] [])) _
      refine XS.iload X66.here hx rfl (hb hby at_107) rfl ?_
      show Steps p.tables e below (T66.setTop (mkF m 109 #[.val (.int x0), .val (.long x1), .second, .val (.long x2), .second, .val (.long x3), .second, .val (.long x4), .second, .val (.int (4 : Int32)), .val (.double vd0), .second, .val (.double vd1), .second, .val (.double vd2), .second, .val (.double vd3), .second, .val (.ref b54), .val (.double (FP.dadd (FP.dadd (0 : UInt64) vd0) vd1)), .second] [(.int (4 : Int32))])) _
      refine XS.iconst X66.here hx rfl (hb hby at_109) ?_
      show Steps p.tables e below (T66.setTop (mkF m 110 #[.val (.int x0), .val (.long x1), .second, .val (.long x2), .second, .val (.long x3), .second, .val (.long x4), .second, .val (.int (4 : Int32)), .val (.double vd0), .second, .val (.double vd1), .second, .val (.double vd2), .second, .val (.double vd3), .second, .val (.ref b54), .val (.double (FP.dadd (FP.dadd (0 : UInt64) vd0) vd1)), .second] [(.int (2 : Int32)), (.int (4 : Int32))])) _
      refine XS.icmpNo X66.here hx rfl (hb hby at_110) rfl ((tlt (by decide)).2.2.2) ?_
      show Steps p.tables e below (T66.setTop (mkF m 113 #[.val (.int x0), .val (.long x1), .second, .val (.long x2), .second, .val (.long x3), .second, .val (.long x4), .second, .val (.int (4 : Int32)), .val (.double vd0), .second, .val (.double vd1), .second, .val (.double vd2), .second, .val (.double vd3), .second, .val (.ref b54), .val (.double (FP.dadd (FP.dadd (0 : UInt64) vd0) vd1)), .second] [])) _
      refine XS.dload X66.here hx rfl (hb hby at_113) rfl ?_
      show Steps p.tables e below (T66.setTop (mkF m 115 #[.val (.int x0), .val (.long x1), .second, .val (.long x2), .second, .val (.long x3), .second, .val (.long x4), .second, .val (.int (4 : Int32)), .val (.double vd0), .second, .val (.double vd1), .second, .val (.double vd2), .second, .val (.double vd3), .second, .val (.ref b54), .val (.double (FP.dadd (FP.dadd (0 : UInt64) vd0) vd1)), .second] [(.double (FP.dadd (FP.dadd (0 : UInt64) vd0) vd1))])) _
      refine XS.dload X66.here hx rfl (hb hby at_115) rfl ?_
      show Steps p.tables e below (T66.setTop (mkF m 117 #[.val (.int x0), .val (.long x1), .second, .val (.long x2), .second, .val (.long x3), .second, .val (.long x4), .second, .val (.int (4 : Int32)), .val (.double vd0), .second, .val (.double vd1), .second, .val (.double vd2), .second, .val (.double vd3), .second, .val (.ref b54), .val (.double (FP.dadd (FP.dadd (0 : UInt64) vd0) vd1)), .second] [(.double vd2), (.double (FP.dadd (FP.dadd (0 : UInt64) vd0) vd1))])) _
      refine XS.daddS X66.here hx rfl (hb hby at_117) rfl (own_nn (own_s3 hm0 hm1 hm2) (by decide)) (v := (FP.dadd (FP.dadd (FP.dadd (0 : UInt64) vd0) vd1) vd2)) rfl ?_
      show Steps p.tables e below (T66.setTop (mkF m 118 #[.val (.int x0), .val (.long x1), .second, .val (.long x2), .second, .val (.long x3), .second, .val (.long x4), .second, .val (.int (4 : Int32)), .val (.double vd0), .second, .val (.double vd1), .second, .val (.double vd2), .second, .val (.double vd3), .second, .val (.ref b54), .val (.double (FP.dadd (FP.dadd (0 : UInt64) vd0) vd1)), .second] [(.double (FP.dadd (FP.dadd (FP.dadd (0 : UInt64) vd0) vd1) vd2))])) _
      refine XS.dstore X66.here hx rfl (hb hby at_118) rfl (l' := #[.val (.int x0), .val (.long x1), .second, .val (.long x2), .second, .val (.long x3), .second, .val (.long x4), .second, .val (.int (4 : Int32)), .val (.double vd0), .second, .val (.double vd1), .second, .val (.double vd2), .second, .val (.double vd3), .second, .val (.ref b54), .val (.double (FP.dadd (FP.dadd (FP.dadd (0 : UInt64) vd0) vd1) vd2)), .second]) rfl ?_
      show Steps p.tables e below (T66.setTop (mkF m 120 #[.val (.int x0), .val (.long x1), .second, .val (.long x2), .second, .val (.long x3), .second, .val (.long x4), .second, .val (.int (4 : Int32)), .val (.double vd0), .second, .val (.double vd1), .second, .val (.double vd2), .second, .val (.double vd3), .second, .val (.ref b54), .val (.double (FP.dadd (FP.dadd (FP.dadd (0 : UInt64) vd0) vd1) vd2)), .second] [])) _
      refine XS.iload X66.here hx rfl (hb hby at_120) rfl ?_
      show Steps p.tables e below (T66.setTop (mkF m 122 #[.val (.int x0), .val (.long x1), .second, .val (.long x2), .second, .val (.long x3), .second, .val (.long x4), .second, .val (.int (4 : Int32)), .val (.double vd0), .second, .val (.double vd1), .second, .val (.double vd2), .second, .val (.double vd3), .second, .val (.ref b54), .val (.double (FP.dadd (FP.dadd (FP.dadd (0 : UInt64) vd0) vd1) vd2)), .second] [(.int (4 : Int32))])) _
      refine XS.iconst X66.here hx rfl (hb hby at_122) ?_
      show Steps p.tables e below (T66.setTop (mkF m 123 #[.val (.int x0), .val (.long x1), .second, .val (.long x2), .second, .val (.long x3), .second, .val (.long x4), .second, .val (.int (4 : Int32)), .val (.double vd0), .second, .val (.double vd1), .second, .val (.double vd2), .second, .val (.double vd3), .second, .val (.ref b54), .val (.double (FP.dadd (FP.dadd (FP.dadd (0 : UInt64) vd0) vd1) vd2)), .second] [(.int (3 : Int32)), (.int (4 : Int32))])) _
      refine XS.icmpNo X66.here hx rfl (hb hby at_123) rfl ((tlt (by decide)).2.2.2) ?_
      show Steps p.tables e below (T66.setTop (mkF m 126 #[.val (.int x0), .val (.long x1), .second, .val (.long x2), .second, .val (.long x3), .second, .val (.long x4), .second, .val (.int (4 : Int32)), .val (.double vd0), .second, .val (.double vd1), .second, .val (.double vd2), .second, .val (.double vd3), .second, .val (.ref b54), .val (.double (FP.dadd (FP.dadd (FP.dadd (0 : UInt64) vd0) vd1) vd2)), .second] [])) _
      refine XS.dload X66.here hx rfl (hb hby at_126) rfl ?_
      show Steps p.tables e below (T66.setTop (mkF m 128 #[.val (.int x0), .val (.long x1), .second, .val (.long x2), .second, .val (.long x3), .second, .val (.long x4), .second, .val (.int (4 : Int32)), .val (.double vd0), .second, .val (.double vd1), .second, .val (.double vd2), .second, .val (.double vd3), .second, .val (.ref b54), .val (.double (FP.dadd (FP.dadd (FP.dadd (0 : UInt64) vd0) vd1) vd2)), .second] [(.double (FP.dadd (FP.dadd (FP.dadd (0 : UInt64) vd0) vd1) vd2))])) _
      refine XS.dload X66.here hx rfl (hb hby at_128) rfl ?_
      show Steps p.tables e below (T66.setTop (mkF m 130 #[.val (.int x0), .val (.long x1), .second, .val (.long x2), .second, .val (.long x3), .second, .val (.long x4), .second, .val (.int (4 : Int32)), .val (.double vd0), .second, .val (.double vd1), .second, .val (.double vd2), .second, .val (.double vd3), .second, .val (.ref b54), .val (.double (FP.dadd (FP.dadd (FP.dadd (0 : UInt64) vd0) vd1) vd2)), .second] [(.double vd3), (.double (FP.dadd (FP.dadd (FP.dadd (0 : UInt64) vd0) vd1) vd2))])) _
      refine XS.daddS X66.here hx rfl (hb hby at_130) rfl (own_nn (own_s4 hm0 hm1 hm2 hm3) (by decide)) (v := (FP.dadd (FP.dadd (FP.dadd (FP.dadd (0 : UInt64) vd0) vd1) vd2) vd3)) rfl ?_
      show Steps p.tables e below (T66.setTop (mkF m 131 #[.val (.int x0), .val (.long x1), .second, .val (.long x2), .second, .val (.long x3), .second, .val (.long x4), .second, .val (.int (4 : Int32)), .val (.double vd0), .second, .val (.double vd1), .second, .val (.double vd2), .second, .val (.double vd3), .second, .val (.ref b54), .val (.double (FP.dadd (FP.dadd (FP.dadd (0 : UInt64) vd0) vd1) vd2)), .second] [(.double (FP.dadd (FP.dadd (FP.dadd (FP.dadd (0 : UInt64) vd0) vd1) vd2) vd3))])) _
      refine XS.dstore X66.here hx rfl (hb hby at_131) rfl (l' := #[.val (.int x0), .val (.long x1), .second, .val (.long x2), .second, .val (.long x3), .second, .val (.long x4), .second, .val (.int (4 : Int32)), .val (.double vd0), .second, .val (.double vd1), .second, .val (.double vd2), .second, .val (.double vd3), .second, .val (.ref b54), .val (.double (FP.dadd (FP.dadd (FP.dadd (FP.dadd (0 : UInt64) vd0) vd1) vd2) vd3)), .second]) rfl ?_
      show Steps p.tables e below (T66.setTop (mkF m 133 #[.val (.int x0), .val (.long x1), .second, .val (.long x2), .second, .val (.long x3), .second, .val (.long x4), .second, .val (.int (4 : Int32)), .val (.double vd0), .second, .val (.double vd1), .second, .val (.double vd2), .second, .val (.double vd3), .second, .val (.ref b54), .val (.double (FP.dadd (FP.dadd (FP.dadd (FP.dadd (0 : UInt64) vd0) vd1) vd2) vd3)), .second] [])) _
      refine XS.aload X66.here hx rfl (hb hby at_133) rfl rfl ?_
      exact k)
    obtain ⟨_, _, ⟨T69, L69, k69, n69⟩, -, X69, ⟨Lc69, hQ69, l69, y69, z69⟩, st69⟩ := Jvm.LawKit.callS X66 hx (y := (⟨"com/example/kalchas/kalchas/evaluation/Evaluation", "sum", "([D)D"⟩ : MethodName)) hown (mvT hZ (hw _ (List.mem_of_getElem? (i := 2) rfl))) (mvT hZ (hw _ (List.mem_of_getElem? (i := 3) rfl))) (mvT hZ (hw _ (List.mem_of_getElem? (i := 4) rfl))) (mvT hZ (hw _ (List.mem_of_getElem? (i := 5) rfl))) (by decide) (backOf (W := 0) (rms4 l Z a0 hw [] b54 k54 vd0 vd1 vd2 vd3 h66 n0 Z66 VV66 hm0 hm1 hm2 hm3) hZ (hw _ (List.mem_of_getElem? (i := 5) rfl)) (hw _ (List.mem_of_getElem? (i := 4) rfl)) (by decide) (by decide)) (g := (mkF m 135 #[.val (.int x0), .val (.long x1), .second, .val (.long x2), .second, .val (.long x3), .second, .val (.long x4), .second, .val (.int (4 : Int32)), .val (.double vd0), .second, .val (.double vd1), .second, .val (.double vd2), .second, .val (.double vd3), .second, .val (.ref b54), .val (.double (FP.dadd (FP.dadd (FP.dadd (FP.dadd (0 : UInt64) vd0) vd1) vd2) vd3)), .second] [(.ref b54)])) rfl (by rw [hml]; rfl) (argsL := [(.ref b54)]) (rest := []) (lenOf pd0_0 rfl) rfl (by show 2 * 0 + _ ≤ _; exact Nat.le_of_eq rfl) (hb hby at_135) (fun _ _ => ⟨rfl, e66, (by decide : 1 + 0 ≤ _), (by decide : 4 + 0 ≤ _)⟩)
    dsimp only [Pt.U, Pt.locs, Pt.cells, Pt.slots] at X69 l69 y69 z69 st69 hQ69
    subst l69 y69 z69
    obtain ⟨rfl, Nq69, e69⟩ := hQ69
    have N69 := Fr.app N66 Nq69
    have p70 : ∀ t, Steps p.tables e below (T69.setTop (mkF m 138 #[.val (.int x0), .val (.long x1), .second, .val (.long x2), .second, .val (.long x3), .second, .val (.long x4), .second, .val (.int (4 : Int32)), .val (.double vd0), .second, .val (.double vd1), .second, .val (.double vd2), .second, .val (.double vd3), .second, .val (.ref b54), .val (.double (FP.dadd (FP.dadd (FP.dadd (FP.dadd (0 : UInt64) vd0) vd1) vd2) vd3)), .second] [(.double (FP.dadd (FP.dadd (FP.dadd (FP.dadd (0 : UInt64) vd0) vd1) vd2) vd3))])) t → Steps p.tables e below (s₁.setTop (entryFrame m #[(.int x0), (.long x1), (.long x2), (.long x3), (.long x4)] maxLocals)) t := fun t k => p68 t (st69 _ k)
    have p71 : ∀ t, Steps p.tables e below (T69.setTop (mkF m 149 #[.val (.int x0), .val (.long x1), .second, .val (.long x2), .second, .val (.long x3), .second, .val (.long x4), .second, .val (.int (4 : Int32)), .val (.double vd0), .second, .val (.double vd1), .second, .val (.double vd2), .second, .val (.double vd3), .second, .val (.ref b54), .val (.double (FP.dadd (FP.dadd (FP.dadd (FP.dadd (0 : UInt64) vd0) vd1) vd2) vd3)), .second] [(.int (1 : Int32))])) t → Steps p.tables e below (s₁.setTop (entryFrame m #[(.int x0), (.long x1), (.long x2), (.long x3), (.long x4)] maxLocals)) t := fun t k => p70 t (by
      show Steps p.tables e below (T69.setTop (mkF m 138 #[.val (.int x0), .val (.long x1), .second, .val (.long x2), .second, .val (.long x3), .second, .val (.long x4), .second, .val (.int (4 : Int32)), .val (.double vd0), .second, .val (.double vd1), .second, .val (.double vd2), .second, .val (.double vd3), .second, .val (.ref b54), .val (.double (FP.dadd (FP.dadd (FP.dadd (FP.dadd (0 : UInt64) vd0) vd1) vd2) vd3)), .second] [(.double (FP.dadd (FP.dadd (FP.dadd (FP.dadd (0 : UInt64) vd0) vd1) vd2) vd3))])) _
      refine XS.dload X69.here hx rfl (hb hby at_138) rfl ?_
      show Steps p.tables e below (T69.setTop (mkF m 140 #[.val (.int x0), .val (.long x1), .second, .val (.long x2), .second, .val (.long x3), .second, .val (.long x4), .second, .val (.int (4 : Int32)), .val (.double vd0), .second, .val (.double vd1), .second, .val (.double vd2), .second, .val (.double vd3), .second, .val (.ref b54), .val (.double (FP.dadd (FP.dadd (FP.dadd (FP.dadd (0 : UInt64) vd0) vd1) vd2) vd3)), .second] [(.double (FP.dadd (FP.dadd (FP.dadd (FP.dadd (0 : UInt64) vd0) vd1) vd2) vd3)), (.double (FP.dadd (FP.dadd (FP.dadd (FP.dadd (0 : UInt64) vd0) vd1) vd2) vd3))])) _
      refine XS.dcmpS X69.here hx rfl (hb hby at_140) rfl (v := (0 : Int32)) (dcmpV_self (own_nn (own_s4 hm0 hm1 hm2 hm3) (by decide)) _) ?_
      show Steps p.tables e below (T69.setTop (mkF m 141 #[.val (.int x0), .val (.long x1), .second, .val (.long x2), .second, .val (.long x3), .second, .val (.long x4), .second, .val (.int (4 : Int32)), .val (.double vd0), .second, .val (.double vd1), .second, .val (.double vd2), .second, .val (.double vd3), .second, .val (.ref b54), .val (.double (FP.dadd (FP.dadd (FP.dadd (FP.dadd (0 : UInt64) vd0) vd1) vd2) vd3)), .second] [(.int (0 : Int32))])) _
      refine XS.ifNo X69.here hx rfl (hb hby at_141) rfl ((if0 _ _).trans (teq (rfl)).2) ?_
      show Steps p.tables e below (T69.setTop (mkF m 144 #[.val (.int x0), .val (.long x1), .second, .val (.long x2), .second, .val (.long x3), .second, .val (.long x4), .second, .val (.int (4 : Int32)), .val (.double vd0), .second, .val (.double vd1), .second, .val (.double vd2), .second, .val (.double vd3), .second, .val (.ref b54), .val (.double (FP.dadd (FP.dadd (FP.dadd (FP.dadd (0 : UInt64) vd0) vd1) vd2) vd3)), .second] [])) _
      refine XS.iconst X69.here hx rfl (hb hby at_144) ?_
      show Steps p.tables e below (T69.setTop (mkF m 145 #[.val (.int x0), .val (.long x1), .second, .val (.long x2), .second, .val (.long x3), .second, .val (.long x4), .second, .val (.int (4 : Int32)), .val (.double vd0), .second, .val (.double vd1), .second, .val (.double vd2), .second, .val (.double vd3), .second, .val (.ref b54), .val (.double (FP.dadd (FP.dadd (FP.dadd (FP.dadd (0 : UInt64) vd0) vd1) vd2) vd3)), .second] [(.int (1 : Int32))])) _
      refine XS.goto X69.here hx rfl (pc0 := 145) (pc' := 149) rfl (hb hby at_145) (by decide) (by decide) ?_
      exact k)
    obtain ⟨fs, hr, hrun, hended, hW, hsame⟩ := X69.leave (v := some (.int (1 : Int32))) (fun h => by rw [Bd.returns] at h; cases h)
    refine ⟨_, _, p71 _ ?_, hrun, hended, _, _, rfl, ?_, ⟨_, rfl⟩, hW, hsame.mono (by decide) (by decide)⟩
    · show Steps p.tables e below (T69.setTop (mkF m 149 #[.val (.int x0), .val (.long x1), .second, .val (.long x2), .second, .val (.long x3), .second, .val (.long x4), .second, .val (.int (4 : Int32)), .val (.double vd0), .second, .val (.double vd1), .second, .val (.double vd2), .second, .val (.double vd3), .second, .val (.ref b54), .val (.double (FP.dadd (FP.dadd (FP.dadd (FP.dadd (0 : UInt64) vd0) vd1) vd2) vd3)), .second] [(.int (1 : Int32))])) _
      exact retN X69 hx (t := .boolean) Bd.returns (by simp) (hb hby at_149) hr
    · show Q0 Z x0 x1 x2 x3 x4 h0 n0 _ T69.heap _
      rw [e69]
      exact ⟨rfl, N69⟩
set_option maxRecDepth 65536 in
set_option maxHeartbeats 40000000 in
theorem comes_1 {Post : Tables → Env → Array Value → State → Outcome → State → Prop} (hpost : ∀ tb e args s v u, (limb_1_1.after args s (.returned v) u = true ∧ limb_1_2.after args s (.returned v) u = true ∧ True) → FrameEnd s (.returned v) u (Jvm.fieldLocs frame_1_writes args s ++ Jvm.arrayLocs frame_1_arrays args s ++ Jvm.staticLocs frame_1_statics s) 16 128 → Post tb e args s (.returned v) u) :
    ArmFor flags0 classFile x code maxLocals ret World_1 tables_1 room_1 Calls_1 rest_1 Pre_1 Post := by
  intro l hfl _ _ p e ha hc hk s m args below hf hA hF happ hP
  obtain ⟨hcalls, hrest, hpre⟩ := hP
  obtain ⟨-, -, -, hnamed, -, -, -, hat⟩ := (Spec.applies_iff hf).mp happ
  obtain ⟨hg, hn⟩ := and_e (Cond.before_iff.mp (show (Jvm.Cond.and given_1 narrow_1).before args s = true from hpre))
  obtain ⟨hcount, ga0⟩ := and_e hg
  obtain ⟨gb0, ga1⟩ := and_e ga0
  obtain ⟨gb1, ga2⟩ := and_e ga1
  obtain ⟨gb2, ga3⟩ := and_e ga2
  obtain ⟨gb3, ga4⟩ := and_e ga3
  obtain ⟨w0, w1, w2, w3, w4, rfl⟩ : ∃ w0 w1 w2 w3 w4 : Value, args = #[w0, w1, w2, w3, w4] := by
    have hs : args.size = 5 := by simpa [Cond.value, given_1] using hcount
    obtain ⟨L⟩ := args
    match L, hs with
    | [w0, w1, w2, w3, w4], _ => exact ⟨w0, w1, w2, w3, w4, rfl⟩
  have hw := fun d (hd : d ∈ tables_1) => atoms_spec (ws := Jvm.Cond.code x code maxLocals ret :: tables_1) hat d (List.mem_cons_of_mem _ hd)
  have hfit : Fit s := fun {y c} hc i hi => by
    obtain ⟨ha, rfl⟩ := Array.getElem?_eq_some_iff.mp hc
    have q := List.all_eq_true.mp ((Array.all_eq_true_iff_forall_mem.mp hF) _ (Array.getElem_mem ha)) i (List.mem_range.mpr hi)
    simpa [Array.getElem?_eq_getElem hi] using q
  obtain ⟨i0, ei0⟩ := is_v gb0
  obtain rfl : w0 = (.int i0) := Option.some.inj ei0
  obtain ⟨i1, ei1⟩ := isL_v gb1
  obtain rfl : w1 = (.long i1) := Option.some.inj ei1
  obtain ⟨i2, ei2⟩ := isL_v gb2
  obtain rfl : w2 = (.long i2) := Option.some.inj ei2
  obtain ⟨i3, ei3⟩ := isL_v gb3
  obtain rfl : w3 = (.long i3) := Option.some.inj ei3
  obtain ⟨i4, ei4⟩ := isL_v ga4
  obtain rfl : w4 = (.long i4) := Option.some.inj ei4
  obtain ⟨n, o, h1, h2, h3, _, L, rfl, ⟨rfl, N⟩, hq⟩ := rm0 l s _ hw tables_1 i0 i1 i2 i3 i4 s.heap s.heap.size (Nat.le_refl _) p e ha hc hk s m _ below hf ((Spec.applies_iff_loose hf).mp happ).1 ⟨rfl, State.Warmed39.refl s, rfl⟩ trivial
  refine ⟨n, _, h1, h2, h3, hpost _ _ _ _ _ _ ⟨Cond.after_iff.mpr rfl, Cond.after_iff.mpr (eq_i res_at (Term.int_eval (1)) rfl), trivial⟩ ⟨hq.1, hq.2.1, (hq.2.2.sift fun y hy => Or.inr (N y hy)).mono (by decide) (by decide)⟩⟩
theorem main_1_1 : Claimed_1_1 := comes_1 fun _ _ _ _ _ _ h hF => ⟨h.1, hF⟩
theorem main_1_2 : Claimed_1_2 := comes_1 fun _ _ _ _ _ _ h hF => ⟨h.2.1, hF⟩
end Jvm.Pilot.@@N@@
namespace Jvm.Pilot.@@N@@
open Jvm Jvm.ClassFile Sem Op Lib Jvm.Free Jvm.Stand Jvm.Pilot.@@N@@.Jvm.D
/-! MADE BY PROGRAM (witnessworld.py) out of the Statement's table words and the real class files: 9 classes; the members and pool entries that the words name. The judged class is class 1, her method 1. -/
namespace start1
open Jvm.ClassFile
def u (s : String) : CpInfo := .utf8 (stringToUtf16 s)
/-- a pool by its gaps: so many unusable entries, then the entry; so many at the end -/
def gap : Nat → List CpInfo → List CpInfo
  | 0, r => r
  | n + 1, r => .unusable :: gap n r
def poolList (es : List (Nat × CpInfo)) (last : Nat) : List CpInfo := es.foldr (fun e r => gap e.1 (e.2 :: r)) (gap last [])
def pool (es : List (Nat × CpInfo)) (last : Nat) : Array CpInfo := ⟨poolList es last⟩
def fileOf (pool : Array CpInfo) (this : Nat) (attrs : Array Attribute := #[]) (ms : Array MethodInfo := #[]) (fl : Nat := 33) (sup : Nat := 0) (ifs : Array Nat := #[]) (fds : Array FieldInfo := #[]) : ClassFile where
  minorVersion := 0
  majorVersion := 65
  constantPool := pool
  accessFlags := fl
  thisClass := this
  superClass := sup
  interfaces := ifs
  fields := fds
  methods := ms
  attributes := attrs
def plain (name : String) (sup : Option ClassId) : Class where
  name := name
  kind := .ordinary
  loader := none
  accessFlags := 33
  super := sup
  interfaces := #[]
  cf := none
  fields := #[]
  methods := #[]
  instanceTypes := #[]
  staticTypes := #[]
  resolved := #[]
  callSites := []
  init := .initialized
  statics := none
  mirror := none

def pool0 : Array CpInfo := pool [(5, u "<init>"), (0, u "()V"), (1, .class_ 10), (1, u "java/lang/Object")] 113

def k0m0 : Method := { name := "<init>", desc := "()V", sig := { parameters := [], returnType := none }, accessFlags := 1, code := none }
/-- java/lang/Object -/
def k0 : Class := { plain "java/lang/Object" none with
  accessFlags := 33
  interfaces := #[]
  cf := some (fileOf pool0 8 #[] #[{ accessFlags := 1, nameIndex := 5, descriptorIndex := 6, attributes := #[] }] 33 0 #[] #[])
  fields := #[]
  methods := #[k0m0]
  instanceTypes := #[]
  staticTypes := #[]
  resolved := Array.replicate 124 none
  statics := none }

def pool1 : Array CpInfo := pool [(2, .class_ 4), (1, u "java/lang/Object"), (0, u "<init>"), (0, u "()V"), (0, .integer 2147483647), (0, .methodref 9 10), (0, .class_ 11), (0, .nameAndType 12 13), (0, u "com/example/kalchas/kalchas/evaluation/Evaluation"), (0, u "sum"), (0, u "([D)D"), (0, .class_ 15), (0, u "com/example/kalchas/kalchas/evaluation/EvaluationSumPinLaw"), (2, u "law"), (0, u "(IJJJJ)Z")] 5

def k1m0 : Method := { name := "<init>", desc := "()V", sig := { parameters := [], returnType := none }, accessFlags := 1, code := none }
def k1c1 : Code := { maxStack := 4, maxLocals := 21, code := code, exceptionTable := #[], attributes := #[] }
def k1m1 : Method := { name := "law", desc := "(IJJJJ)Z", sig := { parameters := [.int, .long, .long, .long, .long], returnType := some .boolean }, accessFlags := 9, code := some k1c1 }
/-- com/example/kalchas/kalchas/evaluation/EvaluationSumPinLaw -/
def k1 : Class := { plain "com/example/kalchas/kalchas/evaluation/EvaluationSumPinLaw" (some 0) with
  accessFlags := 49
  interfaces := #[]
  cf := some (fileOf pool1 14 #[] #[{ accessFlags := 1, nameIndex := 5, descriptorIndex := 6, attributes := #[] }, { accessFlags := 9, nameIndex := 18, descriptorIndex := 19, attributes := #[] }] 49 2 #[] #[])
  fields := #[]
  methods := #[k1m0, k1m1]
  instanceTypes := #[]
  staticTypes := #[]
  resolved := Array.replicate 25 none
  statics := none }

def pool2 : Array CpInfo := pool [(2, .class_ 4), (1, u "java/lang/Object"), (3, .class_ 10), (1, u "com/example/kalchas/kalchas/evaluation/Evaluation"), (0, u "topics"), (0, u "Ljava/util/List;"), (2, u "rankedTopics"), (2, u "valuesByTopic"), (0, u "Ljava/util/Map;"), (145, u "sum"), (0, u "([D)D")] 82

def k2c0 : Code := { maxStack := 4, maxLocals := 8, code := prog_38_method_8_code, exceptionTable := #[], attributes := #[] }
def k2m0 : Method := { name := "sum", desc := "([D)D", sig := { parameters := [(.array .double)], returnType := some .double }, accessFlags := 8, code := some k2c0 }
/-- com/example/kalchas/kalchas/evaluation/Evaluation -/
def k2 : Class := { plain "com/example/kalchas/kalchas/evaluation/Evaluation" (some 0) with
  accessFlags := 49
  interfaces := #[]
  cf := some (fileOf pool2 8 #[] #[{ accessFlags := 8, nameIndex := 165, descriptorIndex := 166, attributes := #[] }] 49 2 #[] #[{ accessFlags := 18, nameIndex := 11, descriptorIndex := 12, attributes := #[] }, { accessFlags := 18, nameIndex := 15, descriptorIndex := 12, attributes := #[] }, { accessFlags := 18, nameIndex := 18, descriptorIndex := 19, attributes := #[] }])
  fields := #[{ name := "topics", type := (.object "java/util/List"), accessFlags := 18, slot := 0, constantValue := 0 }, { name := "rankedTopics", type := (.object "java/util/List"), accessFlags := 18, slot := 1, constantValue := 0 }, { name := "valuesByTopic", type := (.object "java/util/Map"), accessFlags := 18, slot := 2, constantValue := 0 }]
  methods := #[k2m0]
  instanceTypes := #[(.object "java/util/List"), (.object "java/util/List"), (.object "java/util/Map")]
  staticTypes := #[]
  resolved := Array.replicate 249 none
  statics := none }

def pool3 : Array CpInfo := pool [(1, u "java/lang/Cloneable"), (0, .class_ 1), (0, u "java/lang/Object"), (0, .class_ 3)] 3

/-- java/lang/Cloneable -/
def k3 : Class := { plain "java/lang/Cloneable" (some 0) with
  accessFlags := 1537
  interfaces := #[]
  cf := some (fileOf pool3 2 #[] #[] 1537 4 #[] #[])
  fields := #[]
  methods := #[]
  instanceTypes := #[]
  staticTypes := #[]
  resolved := Array.replicate 8 none
  statics := none }

def pool4 : Array CpInfo := pool [(1, u "java/io/Serializable"), (0, .class_ 1), (0, u "java/lang/Object"), (0, .class_ 3)] 3

/-- java/io/Serializable -/
def k4 : Class := { plain "java/io/Serializable" (some 0) with
  accessFlags := 1537
  interfaces := #[]
  cf := some (fileOf pool4 2 #[] #[] 1537 4 #[] #[])
  fields := #[]
  methods := #[]
  instanceTypes := #[]
  staticTypes := #[]
  resolved := Array.replicate 8 none
  statics := none }

/-- the primitive byte -/
def k5 : Class := { plain "byte" none with kind := .primitive 'B', accessFlags := 0x411 }
/-- [B -/
def k6 : Class := { plain "[B" (some 0) with kind := .array 5 .byte, interfaces := #[3, 4], accessFlags := 1041 }

/-- the primitive int -/
def k7 : Class := { plain "int" none with kind := .primitive 'I', accessFlags := 0x411 }
/-- [I -/
def k8 : Class := { plain "[I" (some 0) with kind := .array 7 .int, interfaces := #[3, 4], accessFlags := 1041 }

def k9 : Class := { plain "double" none with kind := .primitive 'D', accessFlags := 0x411 }
def k10 : Class := { plain "[D" (some 0) with kind := .array 9 .double, interfaces := #[3, 4], accessFlags := 1041 }

def heap : Heap := #[]
def classes : Array Class := #[k0, k1, k2, k3, k4, k5, k6, k7, k8, k9, k10]
def interned : List (Array UInt16 × Addr) := []
def slotsUsed : Nat := 0
def theMethod : MethodId := ⟨1, 1⟩
def args0 : Array Value := #[.int 2, .long 1, .long 2, .long 3, .long 4]
def aboutOver (below : List Frame) : State where
  vm := { classes := classes, interned := interned.toArray }
  heap := heap
  slotsUsed := slotsUsed
  threads := #[{ frames := .invoking theMethod args0 :: below }]
def below0 : List Frame := [.native { method := ⟨0, 0⟩, args := #[] }]
def about1 : State := aboutOver below0
def p0 : Program := .bare "" "" ""
def e0 : Env := launch0.env 0 0 0
theorem w_frames : about1.frames = Frame.invoking theMethod args0 :: below0 := rfl
set_option maxRecDepth 65536 in
theorem w_args : argsFit about1.vm theMethod args0 = true := by decide +kernel
set_option maxRecDepth 65536 in
theorem w_heap : heapFits about1 = true := by decide +kernel
set_option maxRecDepth 65536 in
theorem w_runnable : about1.curStatus? = some .runnable := by decide +kernel
set_option maxRecDepth 65536 in
theorem w_alone : about1.alone = true := by decide +kernel
set_option maxRecDepth 65536 in
theorem w_named : about1.methodNamed? x = some theMethod := by decide +kernel
set_option maxRecDepth 65536 in
theorem w_hears : about1.hears theMethod below0 = true := by decide +kernel
set_option maxRecDepth 65536 in
theorem w_ripe : about1.ripe theMethod args0 below0 = true := by decide +kernel
theorem w_running : about1.status = .running := rfl
set_option maxRecDepth 65536 in
theorem w_room : about1.hasRoom e0.platform room_1 = true :=
  launch0.hasRoom_least _ room_1 (by decide +kernel) (by decide +kernel) (by decide +kernel) (by decide +kernel) (by decide +kernel) (by decide +kernel)
theorem allAtoms_all (ts : List Jvm.Cond) (a : Array Jvm.Value) (st : Jvm.State) : (allAtoms ts).before a st = ts.all (fun c => c.before a st) := by
  induction ts with
  | nil => rfl
  | cons c t ih =>
    show (Jvm.Cond.and c (allAtoms t)).before a st = _
    rw [Jvm.Cond.before_and, ih, List.all_cons]
def words1 : List Jvm.Cond := Jvm.Cond.code x code maxLocals ret :: tables_1
/-- a 'code' word, met by the world's own term for the bytes: nothing is compared byte by byte -/
theorem code_word {y : MethodName} {bytes : ByteArray} {mx : Nat} {rt : Option FieldType} {a : Array Value} {s : State} {m : MethodId} {meth : Method} {c : Code} (h1 : s.methodNamed? y = some m) (h2 : s.vm.method? m = some meth) (h3 : meth.code = some c) (h4 : c.code = bytes)
    (h5 : (c.maxLocals == mx && c.exceptionTable.isEmpty && decide (c.maxStack ≤ mostOperands) && decide (meth.sig.returnType = rt) && !meth.locks && decide (parseMethodDescriptor y.desc = some meth.sig)) = true) : (Jvm.Cond.code y bytes mx rt).before a s = true := by
  simp only [Bool.and_eq_true, beq_iff_eq, Bool.not_eq_true', decide_eq_true_eq] at h5
  obtain ⟨⟨⟨⟨⟨g1, g2⟩, g3⟩, g4⟩, g5⟩, g6⟩ := h5
  simp [Cond.before, Cond.holds, Cond.value, h1, h2, h3, h4, g1, g2, g3, g4, g5, g6]
def isCode : Jvm.Cond → Bool
  | .code _ _ _ _ => true
  | _ => false
theorem all_split {L : List Jvm.Cond} {P : Jvm.Cond → Bool} (h1 : L.all (fun c => isCode c || P c) = true) (h2 : ∀ c ∈ L.filter isCode, P c = true) : L.all P = true := by
  refine List.all_eq_true.mpr fun c hc => ?_
  have h := List.all_eq_true.mp h1 c hc
  rcases Bool.eq_false_or_eq_true (isCode c) with hi | hi
  · exact h2 c (List.mem_filter.mpr ⟨hc, hi⟩)
  · simpa [hi] using h
set_option maxRecDepth 65536 in
theorem w_c0 : (Jvm.Cond.code x code maxLocals ret).before args0 about1 = true := code_word (m := ⟨1, 1⟩) (meth := k1m1) (c := k1c1) (by decide +kernel) rfl rfl rfl (by decide +kernel)
set_option maxRecDepth 65536 in
theorem w_c1 : (Jvm.Cond.code ({ cls := "com/example/kalchas/kalchas/evaluation/Evaluation", name := "sum", desc := "([D)D" } : Jvm.MethodName) prog_38_method_8_code (8 : Nat) (Option.some Jvm.ClassFile.FieldType.double)).before args0 about1 = true := code_word (m := ⟨2, 0⟩) (meth := k2m0) (c := k2c0) (by decide +kernel) rfl rfl rfl (by decide +kernel)
def codes1 : List Jvm.Cond := [Jvm.Cond.code x code maxLocals ret, Jvm.Cond.code ({ cls := "com/example/kalchas/kalchas/evaluation/Evaluation", name := "sum", desc := "([D)D" } : Jvm.MethodName) prog_38_method_8_code (8 : Nat) (Option.some Jvm.ClassFile.FieldType.double)]
set_option maxRecDepth 65536 in
theorem codes_eq : words1.filter isCode = codes1 := rfl
theorem w_codes : ∀ c ∈ words1.filter isCode, c.before args0 about1 = true := by
  rw [codes_eq]
  intro c hc
  simp only [codes1, List.mem_cons, List.not_mem_nil, or_false] at hc
  rcases hc with rfl | rfl
  · exact w_c0
  · exact w_c1
set_option maxRecDepth 65536 in
theorem w_t1 : words1.all (fun c => isCode c || c.before args0 about1) = true := by decide +kernel
theorem w_tables : (allAtoms (Jvm.Cond.code x code maxLocals ret :: tables_1)).before args0 about1 = true := by
  rw [allAtoms_all]
  show words1.all (fun c => c.before args0 about1) = true
  refine all_split ?_ w_codes
  rw [w_t1]
set_option maxRecDepth 65536 in
theorem w_case : (Jvm.Cond.and given_1 narrow_1).before args0 about1 = true := by decide +kernel
theorem w_applies : (headSpec (Jvm.Cond.code x code maxLocals ret :: tables_1) room_1).applies x e0.platform about1 = true :=
  (Spec.applies_iff w_frames).mpr ⟨w_running, w_runnable, w_alone, w_named, w_hears, w_ripe, w_room, w_tables⟩
theorem atStart : AtStart classFile x code maxLocals ret World_1 tables_1 room_1 Calls_1 rest_1 Pre_1 launch0 p0 e0 about1 theMethod args0 below0 :=
  ⟨lists_1, trivial, launch0.admits_env _ _ _, launch0.least_env, fairChoices_fair.cas, fairChoices_fair.clock, w_frames, w_args, w_heap, w_applies, trivial, trivial, w_case⟩
end start1
theorem witness_1 : WitnessClaimed_1 := ⟨start1.p0, start1.e0, start1.about1, start1.theMethod, start1.args0, start1.below0, start1.atStart⟩
end Jvm.Pilot.@@N@@
