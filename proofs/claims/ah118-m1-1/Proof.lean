import JvmDerived
import JvmDerived.Pilot.@@N@@Statement
import JvmDerived.Pilot.@@N@@Code
set_option linter.unusedVariables false
set_option linter.unusedSimpArgs false
namespace Jvm.Pilot.@@N@@
open Jvm Jvm.ClassFile Sem Op Lib Jvm.Free Jvm.Stand Jvm.LawKit Jvm.RoadKit Bundle Jvm.Pilot.@@N@@.Jvm.D

theorem own_n3 {n x : Int32} (h : n = ((x &&& (3 : Int32)) + (1 : Int32))) : n = (1 : Int32) ∨ n = (2 : Int32) ∨ n = (3 : Int32) ∨ n = (4 : Int32) := by
  have e := c_mask x 3 2 (by decide) (by decide)
  have e2 := c_iadd (x &&& (3 : Int32)) (1 : Int32); rw [← h] at e2
  have e3 := rng32 n
  simp only [← Int32.toInt_inj]
  have l1 : (1 : Int32).toInt = 1 := by decide
  have l2 : (2 : Int32).toInt = 2 := by decide
  have l3 : (3 : Int32).toInt = 3 := by decide
  have l4 : (4 : Int32).toInt = 4 := by decide
  omega
theorem own_b2 (x : Int32) : ((x.toInt8.toInt32).toInt8.toInt32) = (x.toInt8.toInt32) := by
  have e1 := c_i2b x; have e2 := c_i2b (x.toInt8.toInt32); rw [← Int32.toInt_inj]; omega
theorem dc1_0 : decode prog_24_method_29_code 0 = .ok (.aload_n 0, 1) := by decide +kernel
theorem dc1_1 : decode prog_24_method_29_code 1 = .ok (.invokevirtual 150, 3) := by decide +kernel
theorem dc1_4 : decode prog_24_method_29_code 4 = .ok (.checkcast 151, 3) := by decide +kernel
theorem dc1_7 : decode prog_24_method_29_code 7 = .ok (.astore_n 1, 1) := by decide +kernel
theorem dc1_8 : decode prog_24_method_29_code 8 = .ok (.aload_n 1, 1) := by decide +kernel
theorem dc1_9 : decode prog_24_method_29_code 9 = .ok (.aload_n 1, 1) := by decide +kernel
theorem dc1_10 : decode prog_24_method_29_code 10 = .ok (.arraylength, 1) := by decide +kernel
theorem dc1_11 : decode prog_24_method_29_code 11 = .ok (.iconst 1, 1) := by decide +kernel
theorem dc1_12 : decode prog_24_method_29_code 12 = .ok (.isub, 1) := by decide +kernel
theorem dc1_13 : decode prog_24_method_29_code 13 = .ok (.iconst 1, 1) := by decide +kernel
theorem dc1_14 : decode prog_24_method_29_code 14 = .ok (.bastore, 1) := by decide +kernel
theorem dc1_15 : decode prog_24_method_29_code 15 = .ok (.aload_n 1, 1) := by decide +kernel
theorem dc1_16 : decode prog_24_method_29_code 16 = .ok (.areturn, 1) := by decide +kernel
theorem pnc1 : plainName "com/example/disposition/disposition/store/Keys" = true := by first | (simp [plainName, overriddenIn]; done) | decide +kernel
theorem efc1 (m : MethodId) (x0 : Addr) : entryFrame m #[(.ref x0)] 2 = mkF m 0 #[.val (.ref x0), .unset] [] := by first | (simp [entryFrame, mkF, argsToLocals, Value.category]; done) | rfl
def Qc1 (Z : State) (x0 : Addr) (kk : ClassId) (y0 : Int32) (h0 : Heap) (n0 : Nat) (v : Option Value) (h : Heap) (L : List Loc) : Prop := ∃ r : Addr, v = some (.ref r) ∧ Fr n0 L ∧ Keep h0 h [] ∧ h0.size ≤ r ∧ Arv Z h r kk .byte (1 : Int32) [(.int ((1 : Int32).toInt8.toInt32))] (.int (0 : Int32))
set_option maxRecDepth 65536 in
set_option maxHeartbeats 40000000 in
theorem rmc1 (l : Launch) (Z : State) (a0 : Array Value) (hw : ∀ d ∈ tables_1, d.before a0 Z = true) (ws : List Jvm.Cond) (x0 : Addr) (kk : ClassId) (y0 : Int32) (h0 : Heap) (n0 : Nat) (Z0 : n0 ≤ h0.size) (V0 : Arv Z h0 x0 kk .byte (1 : Int32) [(.int y0)] (.int (0 : Int32))) (E0 : Exa Z h0 x0 "[B") :
    MetFree l (⟨"com/example/disposition/disposition/store/Keys", "pastPrefix", "([B)[B"⟩ : MethodName) (head1 (Jvm.Cond.code (⟨"com/example/disposition/disposition/store/Keys", "pastPrefix", "([B)[B"⟩ : MethodName) prog_24_method_29_code 2 (some (.array .byte)) :: ws) ({ frames := 1, cells := 1, slots := 1, locals := 14 } : Room)) (fun a U => a = #[(.ref x0)] ∧ Z.Warmed39 U.vm ∧ U.heap = h0) (fun _ _ _ _ _ => True) (fun _ U o U' => ∃ v L, o = .returned v ∧ Qc1 Z x0 kk y0 h0 n0 v U'.heap L ∧ FrameEnd U o U' L ({ frames := 1, cells := 1, slots := 1, locals := 14 } : Room).cells ({ frames := 1, cells := 1, slots := 1, locals := 14 } : Room).slots) := by
  refine MetFree.of_bodySF (plainFor_of_name pnc1) hisR ?_
  intro p e s m args below meth c s₁ Bd hml0 hP hK
  obtain ⟨rfl, hZ, hh⟩ := hP
  have hx := Bd.exec
  have hby := Bd.bytes
  have hml : c.maxLocals = 2 := hml0
  have hown : s.vm.findClass "com/example/disposition/disposition/store/Keys" = some m.cls := findClass_of_methodNamed Bd.named
  have hnm := (name_of_methodNamed Bd.named Bd.method).1
  have X0 : Stand p l e ({ frames := 1, cells := 1, slots := 1, locals := 14 } : Room) s m #[(.ref x0)] below meth c s₁ [] 0 0 := Stand.of_body Bd
  have e0 : s₁.heap = h0 := by rw [← hh, Bd.state]; rfl
  have N0 := Fr.nil n0
  have pre0 : ∀ t, Steps p.tables e below (s₁.setTop (mkF m 0 #[.val (.ref x0), .unset] [])) t → Steps p.tables e below (s₁.setTop (entryFrame m #[(.ref x0)] 2)) t := fun t k => castTop (efc1 m x0) k
  have K0 := Keep.refl h0 []
  have p1 : ∀ t, Steps p.tables e below (s₁.setTop (mkF m 1 #[.val (.ref x0), .unset] [(.ref x0)])) t → Steps p.tables e below (s₁.setTop (entryFrame m #[(.ref x0)] 2)) t := fun t k => pre0 t (by
    show Steps p.tables e below (s₁.setTop (mkF m 0 #[.val (.ref x0), .unset] [])) _
    refine XS.aloadN X0.here hx rfl (hb hby dc1_0) rfl rfl ?_
    exact k)
  obtain ⟨T2, h2, X2, e2, E2, VV2, EA2, st2⟩ := cloneH X0 hx hZ hown (hw _ (List.mem_of_getElem? (i := 5) rfl)) (hw _ (List.mem_of_getElem? (i := 6) rfl)) (hw _ (List.mem_of_getElem? (i := 10) rfl)) (hw _ (List.mem_of_getElem? (i := 8) rfl)) (hw _ (List.mem_of_getElem? (i := 9) rfl)) (hw _ (List.mem_of_getElem? (i := 11) rfl)) e0 (Arv.arh V0) E0 (g := (mkF m 1 #[.val (.ref x0), .unset] [(.ref x0)])) rfl (by rw [hml]; rfl) rfl (hb hby dc1_1) (by decide) (W := 0) (cap := 1) (by show 2 * 0 + _ ≤ _; exact Nat.le_of_eq rfl) (by decide) (by decide) (by decide) (by decide)
  obtain ⟨rr, g2⟩ : ∃ z, z = h0.size := ⟨_, rfl⟩
  rw [← g2] at VV2 EA2 st2
  have gn_rr : n0 ≤ rr := Nat.le_trans Z0 (Nat.le_of_eq g2.symm)
  have gk_rr : h0.size ≤ rr := Nat.le_trans K0.1 (Nat.le_of_eq g2.symm)
  have ne3 : x0 ≠ rr := Nat.ne_of_lt (Nat.lt_of_lt_of_le V0.lt (Nat.le_of_eq g2.symm))
  have f4 := V0.ext E2
  have f5 := E0.ext E2
  have Z2 := Nat.le_trans Z0 E2.1
  have KK2 := K0.ext E2
  have p6 : ∀ t, Steps p.tables e below (T2.setTop (mkF m 4 #[.val (.ref x0), .unset] [(.ref rr)])) t → Steps p.tables e below (s₁.setTop (entryFrame m #[(.ref x0)] 2)) t := fun t k => p1 t (st2 t k)
  obtain ⟨T7, X7, e7, st7⟩ := castY X2 hx hZ hown (hw _ (List.mem_of_getElem? (i := 12) rfl)) e2 (Ins.self EA2) (g := (mkF m 4 #[.val (.ref x0), .unset] [(.ref rr)])) rfl rfl (hb hby dc1_4)
  have p8 : ∀ t, Steps p.tables e below (T7.setTop (mkF m 7 #[.val (.ref x0), .unset] [(.ref rr)])) t → Steps p.tables e below (s₁.setTop (entryFrame m #[(.ref x0)] 2)) t := fun t k => p6 t (st7 t k)
  have p9 : ∀ t, Steps p.tables e below (T7.setTop (mkF m 10 #[.val (.ref x0), .val (.ref rr)] [(.ref rr), (.ref rr)])) t → Steps p.tables e below (s₁.setTop (entryFrame m #[(.ref x0)] 2)) t := fun t k => p8 t (by
    show Steps p.tables e below (T7.setTop (mkF m 7 #[.val (.ref x0), .unset] [(.ref rr)])) _
    refine XS.astoreN X7.here hx rfl (hb hby dc1_7) rfl rfl (l' := #[.val (.ref x0), .val (.ref rr)]) rfl ?_
    show Steps p.tables e below (T7.setTop (mkF m 8 #[.val (.ref x0), .val (.ref rr)] [])) _
    refine XS.aloadN X7.here hx rfl (hb hby dc1_8) rfl rfl ?_
    show Steps p.tables e below (T7.setTop (mkF m 9 #[.val (.ref x0), .val (.ref rr)] [(.ref rr)])) _
    refine XS.aloadN X7.here hx rfl (hb hby dc1_9) rfl rfl ?_
    exact k)
  obtain ⟨cl10, Ar10, -, Sz10, Ng10, -, -⟩ := id VV2
  have p11 : ∀ t, Steps p.tables e below (T7.setTop (mkF m 14 #[.val (.ref x0), .val (.ref rr)] [(.int (1 : Int32)), (.int ((1 : Int32) - (1 : Int32))), (.ref rr)])) t → Steps p.tables e below (s₁.setTop (entryFrame m #[(.ref x0)] 2)) t := fun t k => p9 t (by
    show Steps p.tables e below (T7.setTop (mkF m 10 #[.val (.ref x0), .val (.ref rr)] [(.ref rr), (.ref rr)])) _
    refine X7.arraylength hx (by rw [e7]; exact Ar10.1) (State.isArrayOf_alike hZ.alike Ar10.2.1) (g := (mkF m 10 #[.val (.ref x0), .val (.ref rr)] [(.ref rr), (.ref rr)])) rfl rfl (hb hby dc1_10) _ ?_
    rw [len_of Sz10 Ng10]
    show Steps p.tables e below (T7.setTop (mkF m 11 #[.val (.ref x0), .val (.ref rr)] [(.int (1 : Int32)), (.ref rr)])) _
    refine XS.iconst X7.here hx rfl (hb hby dc1_11) ?_
    show Steps p.tables e below (T7.setTop (mkF m 12 #[.val (.ref x0), .val (.ref rr)] [(.int (1 : Int32)), (.int (1 : Int32)), (.ref rr)])) _
    refine XS.isub X7.here hx rfl (hb hby dc1_12) rfl ?_
    show Steps p.tables e below (T7.setTop (mkF m 13 #[.val (.ref x0), .val (.ref rr)] [(.int ((1 : Int32) - (1 : Int32))), (.ref rr)])) _
    refine XS.iconst X7.here hx rfl (hb hby dc1_13) ?_
    exact k)
  obtain ⟨cl12, Ar12, q12, Sz12, Ng12, Hs12, G12⟩ := id VV2
  have hin12 : ¬ (((1 : Int32) - (1 : Int32)) < 0 ∨ cl12.slots.size ≤ (((1 : Int32) - (1 : Int32))).toNatClampNeg) := inb_of Sz12 (⟨by decide, by decide⟩)
  obtain ⟨T12, h12, X12, e12, W12, st12⟩ := stB X7 hx hZ e7 Ar12 (j := ((1 : Int32) - (1 : Int32))) hin12 (g := (mkF m 14 #[.val (.ref x0), .val (.ref rr)] [(.int (1 : Int32)), (.int ((1 : Int32) - (1 : Int32))), (.ref rr)])) rfl rfl (hb hby dc1_14)
  have VV12 : Arv Z h12 rr kk .byte (1 : Int32) [(.int ((1 : Int32).toInt8.toInt32))] (.int (0 : Int32)) := Arv.set Ar12 q12 Sz12 Ng12 Hs12 G12 (fits_nar_byte _) W12 0 (by decide) (Nat.le_of_ble_eq_true rfl)
  have f13 := f4.other W12 ne3
  have f14 := f5.wr W12
  have f15 := EA2.wr W12
  have Z12 := Nat.le_trans Z2 (Keep.of_wr W12).1
  have N12 := Fr.snoc X12 N0 gn_rr
  have KK12 := KK2.wr W12 (Or.inr gk_rr)
  have p16 : ∀ t, Steps p.tables e below (T12.setTop (mkF m 15 #[.val (.ref x0), .val (.ref rr)] [])) t → Steps p.tables e below (s₁.setTop (entryFrame m #[(.ref x0)] 2)) t := fun t k => p11 t (st12 t k)
  have p17 : ∀ t, Steps p.tables e below (T12.setTop (mkF m 16 #[.val (.ref x0), .val (.ref rr)] [(.ref rr)])) t → Steps p.tables e below (s₁.setTop (entryFrame m #[(.ref x0)] 2)) t := fun t k => p16 t (by
    show Steps p.tables e below (T12.setTop (mkF m 15 #[.val (.ref x0), .val (.ref rr)] [])) _
    refine XS.aloadN X12.here hx rfl (hb hby dc1_15) rfl rfl ?_
    exact k)
  obtain ⟨fs, hr, hrun, hended, hW, hsame⟩ := X12.leave (v := some (.ref rr)) (fun h => by rw [Bd.returns] at h; cases h)
  refine ⟨_, _, p17 _ ?_, hrun, hended, _, _, rfl, ?_, ⟨_, rfl⟩, hW, hsame.mono (by decide) (by decide)⟩
  · show Steps p.tables e below (T12.setTop (mkF m 16 #[.val (.ref x0), .val (.ref rr)] [(.ref rr)])) _
    exact retOut X12 hx Bd.returns rfl (Or.inr (Or.inr (Or.inr (Or.inr ⟨rfl, rfl, rfl⟩)))) (hb hby dc1_16) hr
  · show Qc1 Z x0 kk y0 h0 n0 _ T12.heap _
    rw [e12]
    exact ⟨rr, rfl, N12, KK12, gk_rr, VV12⟩
theorem dc2_0 : decode prog_24_method_29_code 0 = .ok (.aload_n 0, 1) := by decide +kernel
theorem dc2_1 : decode prog_24_method_29_code 1 = .ok (.invokevirtual 150, 3) := by decide +kernel
theorem dc2_4 : decode prog_24_method_29_code 4 = .ok (.checkcast 151, 3) := by decide +kernel
theorem dc2_7 : decode prog_24_method_29_code 7 = .ok (.astore_n 1, 1) := by decide +kernel
theorem dc2_8 : decode prog_24_method_29_code 8 = .ok (.aload_n 1, 1) := by decide +kernel
theorem dc2_9 : decode prog_24_method_29_code 9 = .ok (.aload_n 1, 1) := by decide +kernel
theorem dc2_10 : decode prog_24_method_29_code 10 = .ok (.arraylength, 1) := by decide +kernel
theorem dc2_11 : decode prog_24_method_29_code 11 = .ok (.iconst 1, 1) := by decide +kernel
theorem dc2_12 : decode prog_24_method_29_code 12 = .ok (.isub, 1) := by decide +kernel
theorem dc2_13 : decode prog_24_method_29_code 13 = .ok (.iconst 1, 1) := by decide +kernel
theorem dc2_14 : decode prog_24_method_29_code 14 = .ok (.bastore, 1) := by decide +kernel
theorem dc2_15 : decode prog_24_method_29_code 15 = .ok (.aload_n 1, 1) := by decide +kernel
theorem dc2_16 : decode prog_24_method_29_code 16 = .ok (.areturn, 1) := by decide +kernel
theorem pnc2 : plainName "com/example/disposition/disposition/store/Keys" = true := by first | (simp [plainName, overriddenIn]; done) | decide +kernel
theorem efc2 (m : MethodId) (x0 : Addr) : entryFrame m #[(.ref x0)] 2 = mkF m 0 #[.val (.ref x0), .unset] [] := by first | (simp [entryFrame, mkF, argsToLocals, Value.category]; done) | rfl
def Qc2 (Z : State) (x0 : Addr) (kk : ClassId) (y0 : Int32) (y1 : Int32) (h0 : Heap) (n0 : Nat) (v : Option Value) (h : Heap) (L : List Loc) : Prop := ∃ r : Addr, v = some (.ref r) ∧ Fr n0 L ∧ Keep h0 h [] ∧ h0.size ≤ r ∧ Arv Z h r kk .byte (2 : Int32) [(.int y0), (.int ((1 : Int32).toInt8.toInt32))] (.int (0 : Int32))
set_option maxRecDepth 65536 in
set_option maxHeartbeats 40000000 in
theorem rmc2 (l : Launch) (Z : State) (a0 : Array Value) (hw : ∀ d ∈ tables_1, d.before a0 Z = true) (ws : List Jvm.Cond) (x0 : Addr) (kk : ClassId) (y0 : Int32) (y1 : Int32) (h0 : Heap) (n0 : Nat) (Z0 : n0 ≤ h0.size) (V0 : Arv Z h0 x0 kk .byte (2 : Int32) [(.int y0), (.int y1)] (.int (0 : Int32))) (E0 : Exa Z h0 x0 "[B") :
    MetFree l (⟨"com/example/disposition/disposition/store/Keys", "pastPrefix", "([B)[B"⟩ : MethodName) (head1 (Jvm.Cond.code (⟨"com/example/disposition/disposition/store/Keys", "pastPrefix", "([B)[B"⟩ : MethodName) prog_24_method_29_code 2 (some (.array .byte)) :: ws) ({ frames := 1, cells := 1, slots := 2, locals := 14 } : Room)) (fun a U => a = #[(.ref x0)] ∧ Z.Warmed39 U.vm ∧ U.heap = h0) (fun _ _ _ _ _ => True) (fun _ U o U' => ∃ v L, o = .returned v ∧ Qc2 Z x0 kk y0 y1 h0 n0 v U'.heap L ∧ FrameEnd U o U' L ({ frames := 1, cells := 1, slots := 2, locals := 14 } : Room).cells ({ frames := 1, cells := 1, slots := 2, locals := 14 } : Room).slots) := by
  refine MetFree.of_bodySF (plainFor_of_name pnc2) hisR ?_
  intro p e s m args below meth c s₁ Bd hml0 hP hK
  obtain ⟨rfl, hZ, hh⟩ := hP
  have hx := Bd.exec
  have hby := Bd.bytes
  have hml : c.maxLocals = 2 := hml0
  have hown : s.vm.findClass "com/example/disposition/disposition/store/Keys" = some m.cls := findClass_of_methodNamed Bd.named
  have hnm := (name_of_methodNamed Bd.named Bd.method).1
  have X0 : Stand p l e ({ frames := 1, cells := 1, slots := 2, locals := 14 } : Room) s m #[(.ref x0)] below meth c s₁ [] 0 0 := Stand.of_body Bd
  have e0 : s₁.heap = h0 := by rw [← hh, Bd.state]; rfl
  have N0 := Fr.nil n0
  have pre0 : ∀ t, Steps p.tables e below (s₁.setTop (mkF m 0 #[.val (.ref x0), .unset] [])) t → Steps p.tables e below (s₁.setTop (entryFrame m #[(.ref x0)] 2)) t := fun t k => castTop (efc2 m x0) k
  have K0 := Keep.refl h0 []
  have p1 : ∀ t, Steps p.tables e below (s₁.setTop (mkF m 1 #[.val (.ref x0), .unset] [(.ref x0)])) t → Steps p.tables e below (s₁.setTop (entryFrame m #[(.ref x0)] 2)) t := fun t k => pre0 t (by
    show Steps p.tables e below (s₁.setTop (mkF m 0 #[.val (.ref x0), .unset] [])) _
    refine XS.aloadN X0.here hx rfl (hb hby dc2_0) rfl rfl ?_
    exact k)
  obtain ⟨T2, h2, X2, e2, E2, VV2, EA2, st2⟩ := cloneH X0 hx hZ hown (hw _ (List.mem_of_getElem? (i := 5) rfl)) (hw _ (List.mem_of_getElem? (i := 6) rfl)) (hw _ (List.mem_of_getElem? (i := 10) rfl)) (hw _ (List.mem_of_getElem? (i := 8) rfl)) (hw _ (List.mem_of_getElem? (i := 9) rfl)) (hw _ (List.mem_of_getElem? (i := 11) rfl)) e0 (Arv.arh V0) E0 (g := (mkF m 1 #[.val (.ref x0), .unset] [(.ref x0)])) rfl (by rw [hml]; rfl) rfl (hb hby dc2_1) (by decide) (W := 0) (cap := 2) (by show 2 * 0 + _ ≤ _; exact Nat.le_of_eq rfl) (by decide) (by decide) (by decide) (by decide)
  obtain ⟨rr, g2⟩ : ∃ z, z = h0.size := ⟨_, rfl⟩
  rw [← g2] at VV2 EA2 st2
  have gn_rr : n0 ≤ rr := Nat.le_trans Z0 (Nat.le_of_eq g2.symm)
  have gk_rr : h0.size ≤ rr := Nat.le_trans K0.1 (Nat.le_of_eq g2.symm)
  have ne3 : x0 ≠ rr := Nat.ne_of_lt (Nat.lt_of_lt_of_le V0.lt (Nat.le_of_eq g2.symm))
  have f4 := V0.ext E2
  have f5 := E0.ext E2
  have Z2 := Nat.le_trans Z0 E2.1
  have KK2 := K0.ext E2
  have p6 : ∀ t, Steps p.tables e below (T2.setTop (mkF m 4 #[.val (.ref x0), .unset] [(.ref rr)])) t → Steps p.tables e below (s₁.setTop (entryFrame m #[(.ref x0)] 2)) t := fun t k => p1 t (st2 t k)
  obtain ⟨T7, X7, e7, st7⟩ := castY X2 hx hZ hown (hw _ (List.mem_of_getElem? (i := 12) rfl)) e2 (Ins.self EA2) (g := (mkF m 4 #[.val (.ref x0), .unset] [(.ref rr)])) rfl rfl (hb hby dc2_4)
  have p8 : ∀ t, Steps p.tables e below (T7.setTop (mkF m 7 #[.val (.ref x0), .unset] [(.ref rr)])) t → Steps p.tables e below (s₁.setTop (entryFrame m #[(.ref x0)] 2)) t := fun t k => p6 t (st7 t k)
  have p9 : ∀ t, Steps p.tables e below (T7.setTop (mkF m 10 #[.val (.ref x0), .val (.ref rr)] [(.ref rr), (.ref rr)])) t → Steps p.tables e below (s₁.setTop (entryFrame m #[(.ref x0)] 2)) t := fun t k => p8 t (by
    show Steps p.tables e below (T7.setTop (mkF m 7 #[.val (.ref x0), .unset] [(.ref rr)])) _
    refine XS.astoreN X7.here hx rfl (hb hby dc2_7) rfl rfl (l' := #[.val (.ref x0), .val (.ref rr)]) rfl ?_
    show Steps p.tables e below (T7.setTop (mkF m 8 #[.val (.ref x0), .val (.ref rr)] [])) _
    refine XS.aloadN X7.here hx rfl (hb hby dc2_8) rfl rfl ?_
    show Steps p.tables e below (T7.setTop (mkF m 9 #[.val (.ref x0), .val (.ref rr)] [(.ref rr)])) _
    refine XS.aloadN X7.here hx rfl (hb hby dc2_9) rfl rfl ?_
    exact k)
  obtain ⟨cl10, Ar10, -, Sz10, Ng10, -, -⟩ := id VV2
  have p11 : ∀ t, Steps p.tables e below (T7.setTop (mkF m 14 #[.val (.ref x0), .val (.ref rr)] [(.int (1 : Int32)), (.int ((2 : Int32) - (1 : Int32))), (.ref rr)])) t → Steps p.tables e below (s₁.setTop (entryFrame m #[(.ref x0)] 2)) t := fun t k => p9 t (by
    show Steps p.tables e below (T7.setTop (mkF m 10 #[.val (.ref x0), .val (.ref rr)] [(.ref rr), (.ref rr)])) _
    refine X7.arraylength hx (by rw [e7]; exact Ar10.1) (State.isArrayOf_alike hZ.alike Ar10.2.1) (g := (mkF m 10 #[.val (.ref x0), .val (.ref rr)] [(.ref rr), (.ref rr)])) rfl rfl (hb hby dc2_10) _ ?_
    rw [len_of Sz10 Ng10]
    show Steps p.tables e below (T7.setTop (mkF m 11 #[.val (.ref x0), .val (.ref rr)] [(.int (2 : Int32)), (.ref rr)])) _
    refine XS.iconst X7.here hx rfl (hb hby dc2_11) ?_
    show Steps p.tables e below (T7.setTop (mkF m 12 #[.val (.ref x0), .val (.ref rr)] [(.int (1 : Int32)), (.int (2 : Int32)), (.ref rr)])) _
    refine XS.isub X7.here hx rfl (hb hby dc2_12) rfl ?_
    show Steps p.tables e below (T7.setTop (mkF m 13 #[.val (.ref x0), .val (.ref rr)] [(.int ((2 : Int32) - (1 : Int32))), (.ref rr)])) _
    refine XS.iconst X7.here hx rfl (hb hby dc2_13) ?_
    exact k)
  obtain ⟨cl12, Ar12, q12, Sz12, Ng12, Hs12, G12⟩ := id VV2
  have hin12 : ¬ (((2 : Int32) - (1 : Int32)) < 0 ∨ cl12.slots.size ≤ (((2 : Int32) - (1 : Int32))).toNatClampNeg) := inb_of Sz12 (⟨by decide, by decide⟩)
  obtain ⟨T12, h12, X12, e12, W12, st12⟩ := stB X7 hx hZ e7 Ar12 (j := ((2 : Int32) - (1 : Int32))) hin12 (g := (mkF m 14 #[.val (.ref x0), .val (.ref rr)] [(.int (1 : Int32)), (.int ((2 : Int32) - (1 : Int32))), (.ref rr)])) rfl rfl (hb hby dc2_14)
  have VV12 : Arv Z h12 rr kk .byte (2 : Int32) [(.int y0), (.int ((1 : Int32).toInt8.toInt32))] (.int (0 : Int32)) := Arv.set Ar12 q12 Sz12 Ng12 Hs12 G12 (fits_nar_byte _) W12 1 (by decide) (Nat.le_of_ble_eq_true rfl)
  have f13 := f4.other W12 ne3
  have f14 := f5.wr W12
  have f15 := EA2.wr W12
  have Z12 := Nat.le_trans Z2 (Keep.of_wr W12).1
  have N12 := Fr.snoc X12 N0 gn_rr
  have KK12 := KK2.wr W12 (Or.inr gk_rr)
  have p16 : ∀ t, Steps p.tables e below (T12.setTop (mkF m 15 #[.val (.ref x0), .val (.ref rr)] [])) t → Steps p.tables e below (s₁.setTop (entryFrame m #[(.ref x0)] 2)) t := fun t k => p11 t (st12 t k)
  have p17 : ∀ t, Steps p.tables e below (T12.setTop (mkF m 16 #[.val (.ref x0), .val (.ref rr)] [(.ref rr)])) t → Steps p.tables e below (s₁.setTop (entryFrame m #[(.ref x0)] 2)) t := fun t k => p16 t (by
    show Steps p.tables e below (T12.setTop (mkF m 15 #[.val (.ref x0), .val (.ref rr)] [])) _
    refine XS.aloadN X12.here hx rfl (hb hby dc2_15) rfl rfl ?_
    exact k)
  obtain ⟨fs, hr, hrun, hended, hW, hsame⟩ := X12.leave (v := some (.ref rr)) (fun h => by rw [Bd.returns] at h; cases h)
  refine ⟨_, _, p17 _ ?_, hrun, hended, _, _, rfl, ?_, ⟨_, rfl⟩, hW, hsame.mono (by decide) (by decide)⟩
  · show Steps p.tables e below (T12.setTop (mkF m 16 #[.val (.ref x0), .val (.ref rr)] [(.ref rr)])) _
    exact retOut X12 hx Bd.returns rfl (Or.inr (Or.inr (Or.inr (Or.inr ⟨rfl, rfl, rfl⟩)))) (hb hby dc2_16) hr
  · show Qc2 Z x0 kk y0 y1 h0 n0 _ T12.heap _
    rw [e12]
    exact ⟨rr, rfl, N12, KK12, gk_rr, VV12⟩
theorem dc3_0 : decode prog_24_method_29_code 0 = .ok (.aload_n 0, 1) := by decide +kernel
theorem dc3_1 : decode prog_24_method_29_code 1 = .ok (.invokevirtual 150, 3) := by decide +kernel
theorem dc3_4 : decode prog_24_method_29_code 4 = .ok (.checkcast 151, 3) := by decide +kernel
theorem dc3_7 : decode prog_24_method_29_code 7 = .ok (.astore_n 1, 1) := by decide +kernel
theorem dc3_8 : decode prog_24_method_29_code 8 = .ok (.aload_n 1, 1) := by decide +kernel
theorem dc3_9 : decode prog_24_method_29_code 9 = .ok (.aload_n 1, 1) := by decide +kernel
theorem dc3_10 : decode prog_24_method_29_code 10 = .ok (.arraylength, 1) := by decide +kernel
theorem dc3_11 : decode prog_24_method_29_code 11 = .ok (.iconst 1, 1) := by decide +kernel
theorem dc3_12 : decode prog_24_method_29_code 12 = .ok (.isub, 1) := by decide +kernel
theorem dc3_13 : decode prog_24_method_29_code 13 = .ok (.iconst 1, 1) := by decide +kernel
theorem dc3_14 : decode prog_24_method_29_code 14 = .ok (.bastore, 1) := by decide +kernel
theorem dc3_15 : decode prog_24_method_29_code 15 = .ok (.aload_n 1, 1) := by decide +kernel
theorem dc3_16 : decode prog_24_method_29_code 16 = .ok (.areturn, 1) := by decide +kernel
theorem pnc3 : plainName "com/example/disposition/disposition/store/Keys" = true := by first | (simp [plainName, overriddenIn]; done) | decide +kernel
theorem efc3 (m : MethodId) (x0 : Addr) : entryFrame m #[(.ref x0)] 2 = mkF m 0 #[.val (.ref x0), .unset] [] := by first | (simp [entryFrame, mkF, argsToLocals, Value.category]; done) | rfl
def Qc3 (Z : State) (x0 : Addr) (kk : ClassId) (y0 : Int32) (y1 : Int32) (y2 : Int32) (h0 : Heap) (n0 : Nat) (v : Option Value) (h : Heap) (L : List Loc) : Prop := ∃ r : Addr, v = some (.ref r) ∧ Fr n0 L ∧ Keep h0 h [] ∧ h0.size ≤ r ∧ Arv Z h r kk .byte (3 : Int32) [(.int y0), (.int y1), (.int ((1 : Int32).toInt8.toInt32))] (.int (0 : Int32))
set_option maxRecDepth 65536 in
set_option maxHeartbeats 40000000 in
theorem rmc3 (l : Launch) (Z : State) (a0 : Array Value) (hw : ∀ d ∈ tables_1, d.before a0 Z = true) (ws : List Jvm.Cond) (x0 : Addr) (kk : ClassId) (y0 : Int32) (y1 : Int32) (y2 : Int32) (h0 : Heap) (n0 : Nat) (Z0 : n0 ≤ h0.size) (V0 : Arv Z h0 x0 kk .byte (3 : Int32) [(.int y0), (.int y1), (.int y2)] (.int (0 : Int32))) (E0 : Exa Z h0 x0 "[B") :
    MetFree l (⟨"com/example/disposition/disposition/store/Keys", "pastPrefix", "([B)[B"⟩ : MethodName) (head1 (Jvm.Cond.code (⟨"com/example/disposition/disposition/store/Keys", "pastPrefix", "([B)[B"⟩ : MethodName) prog_24_method_29_code 2 (some (.array .byte)) :: ws) ({ frames := 1, cells := 1, slots := 3, locals := 14 } : Room)) (fun a U => a = #[(.ref x0)] ∧ Z.Warmed39 U.vm ∧ U.heap = h0) (fun _ _ _ _ _ => True) (fun _ U o U' => ∃ v L, o = .returned v ∧ Qc3 Z x0 kk y0 y1 y2 h0 n0 v U'.heap L ∧ FrameEnd U o U' L ({ frames := 1, cells := 1, slots := 3, locals := 14 } : Room).cells ({ frames := 1, cells := 1, slots := 3, locals := 14 } : Room).slots) := by
  refine MetFree.of_bodySF (plainFor_of_name pnc3) hisR ?_
  intro p e s m args below meth c s₁ Bd hml0 hP hK
  obtain ⟨rfl, hZ, hh⟩ := hP
  have hx := Bd.exec
  have hby := Bd.bytes
  have hml : c.maxLocals = 2 := hml0
  have hown : s.vm.findClass "com/example/disposition/disposition/store/Keys" = some m.cls := findClass_of_methodNamed Bd.named
  have hnm := (name_of_methodNamed Bd.named Bd.method).1
  have X0 : Stand p l e ({ frames := 1, cells := 1, slots := 3, locals := 14 } : Room) s m #[(.ref x0)] below meth c s₁ [] 0 0 := Stand.of_body Bd
  have e0 : s₁.heap = h0 := by rw [← hh, Bd.state]; rfl
  have N0 := Fr.nil n0
  have pre0 : ∀ t, Steps p.tables e below (s₁.setTop (mkF m 0 #[.val (.ref x0), .unset] [])) t → Steps p.tables e below (s₁.setTop (entryFrame m #[(.ref x0)] 2)) t := fun t k => castTop (efc3 m x0) k
  have K0 := Keep.refl h0 []
  have p1 : ∀ t, Steps p.tables e below (s₁.setTop (mkF m 1 #[.val (.ref x0), .unset] [(.ref x0)])) t → Steps p.tables e below (s₁.setTop (entryFrame m #[(.ref x0)] 2)) t := fun t k => pre0 t (by
    show Steps p.tables e below (s₁.setTop (mkF m 0 #[.val (.ref x0), .unset] [])) _
    refine XS.aloadN X0.here hx rfl (hb hby dc3_0) rfl rfl ?_
    exact k)
  obtain ⟨T2, h2, X2, e2, E2, VV2, EA2, st2⟩ := cloneH X0 hx hZ hown (hw _ (List.mem_of_getElem? (i := 5) rfl)) (hw _ (List.mem_of_getElem? (i := 6) rfl)) (hw _ (List.mem_of_getElem? (i := 10) rfl)) (hw _ (List.mem_of_getElem? (i := 8) rfl)) (hw _ (List.mem_of_getElem? (i := 9) rfl)) (hw _ (List.mem_of_getElem? (i := 11) rfl)) e0 (Arv.arh V0) E0 (g := (mkF m 1 #[.val (.ref x0), .unset] [(.ref x0)])) rfl (by rw [hml]; rfl) rfl (hb hby dc3_1) (by decide) (W := 0) (cap := 3) (by show 2 * 0 + _ ≤ _; exact Nat.le_of_eq rfl) (by decide) (by decide) (by decide) (by decide)
  obtain ⟨rr, g2⟩ : ∃ z, z = h0.size := ⟨_, rfl⟩
  rw [← g2] at VV2 EA2 st2
  have gn_rr : n0 ≤ rr := Nat.le_trans Z0 (Nat.le_of_eq g2.symm)
  have gk_rr : h0.size ≤ rr := Nat.le_trans K0.1 (Nat.le_of_eq g2.symm)
  have ne3 : x0 ≠ rr := Nat.ne_of_lt (Nat.lt_of_lt_of_le V0.lt (Nat.le_of_eq g2.symm))
  have f4 := V0.ext E2
  have f5 := E0.ext E2
  have Z2 := Nat.le_trans Z0 E2.1
  have KK2 := K0.ext E2
  have p6 : ∀ t, Steps p.tables e below (T2.setTop (mkF m 4 #[.val (.ref x0), .unset] [(.ref rr)])) t → Steps p.tables e below (s₁.setTop (entryFrame m #[(.ref x0)] 2)) t := fun t k => p1 t (st2 t k)
  obtain ⟨T7, X7, e7, st7⟩ := castY X2 hx hZ hown (hw _ (List.mem_of_getElem? (i := 12) rfl)) e2 (Ins.self EA2) (g := (mkF m 4 #[.val (.ref x0), .unset] [(.ref rr)])) rfl rfl (hb hby dc3_4)
  have p8 : ∀ t, Steps p.tables e below (T7.setTop (mkF m 7 #[.val (.ref x0), .unset] [(.ref rr)])) t → Steps p.tables e below (s₁.setTop (entryFrame m #[(.ref x0)] 2)) t := fun t k => p6 t (st7 t k)
  have p9 : ∀ t, Steps p.tables e below (T7.setTop (mkF m 10 #[.val (.ref x0), .val (.ref rr)] [(.ref rr), (.ref rr)])) t → Steps p.tables e below (s₁.setTop (entryFrame m #[(.ref x0)] 2)) t := fun t k => p8 t (by
    show Steps p.tables e below (T7.setTop (mkF m 7 #[.val (.ref x0), .unset] [(.ref rr)])) _
    refine XS.astoreN X7.here hx rfl (hb hby dc3_7) rfl rfl (l' := #[.val (.ref x0), .val (.ref rr)]) rfl ?_
    show Steps p.tables e below (T7.setTop (mkF m 8 #[.val (.ref x0), .val (.ref rr)] [])) _
    refine XS.aloadN X7.here hx rfl (hb hby dc3_8) rfl rfl ?_
    show Steps p.tables e below (T7.setTop (mkF m 9 #[.val (.ref x0), .val (.ref rr)] [(.ref rr)])) _
    refine XS.aloadN X7.here hx rfl (hb hby dc3_9) rfl rfl ?_
    exact k)
  obtain ⟨cl10, Ar10, -, Sz10, Ng10, -, -⟩ := id VV2
  have p11 : ∀ t, Steps p.tables e below (T7.setTop (mkF m 14 #[.val (.ref x0), .val (.ref rr)] [(.int (1 : Int32)), (.int ((3 : Int32) - (1 : Int32))), (.ref rr)])) t → Steps p.tables e below (s₁.setTop (entryFrame m #[(.ref x0)] 2)) t := fun t k => p9 t (by
    show Steps p.tables e below (T7.setTop (mkF m 10 #[.val (.ref x0), .val (.ref rr)] [(.ref rr), (.ref rr)])) _
    refine X7.arraylength hx (by rw [e7]; exact Ar10.1) (State.isArrayOf_alike hZ.alike Ar10.2.1) (g := (mkF m 10 #[.val (.ref x0), .val (.ref rr)] [(.ref rr), (.ref rr)])) rfl rfl (hb hby dc3_10) _ ?_
    rw [len_of Sz10 Ng10]
    show Steps p.tables e below (T7.setTop (mkF m 11 #[.val (.ref x0), .val (.ref rr)] [(.int (3 : Int32)), (.ref rr)])) _
    refine XS.iconst X7.here hx rfl (hb hby dc3_11) ?_
    show Steps p.tables e below (T7.setTop (mkF m 12 #[.val (.ref x0), .val (.ref rr)] [(.int (1 : Int32)), (.int (3 : Int32)), (.ref rr)])) _
    refine XS.isub X7.here hx rfl (hb hby dc3_12) rfl ?_
    show Steps p.tables e below (T7.setTop (mkF m 13 #[.val (.ref x0), .val (.ref rr)] [(.int ((3 : Int32) - (1 : Int32))), (.ref rr)])) _
    refine XS.iconst X7.here hx rfl (hb hby dc3_13) ?_
    exact k)
  obtain ⟨cl12, Ar12, q12, Sz12, Ng12, Hs12, G12⟩ := id VV2
  have hin12 : ¬ (((3 : Int32) - (1 : Int32)) < 0 ∨ cl12.slots.size ≤ (((3 : Int32) - (1 : Int32))).toNatClampNeg) := inb_of Sz12 (⟨by decide, by decide⟩)
  obtain ⟨T12, h12, X12, e12, W12, st12⟩ := stB X7 hx hZ e7 Ar12 (j := ((3 : Int32) - (1 : Int32))) hin12 (g := (mkF m 14 #[.val (.ref x0), .val (.ref rr)] [(.int (1 : Int32)), (.int ((3 : Int32) - (1 : Int32))), (.ref rr)])) rfl rfl (hb hby dc3_14)
  have VV12 : Arv Z h12 rr kk .byte (3 : Int32) [(.int y0), (.int y1), (.int ((1 : Int32).toInt8.toInt32))] (.int (0 : Int32)) := Arv.set Ar12 q12 Sz12 Ng12 Hs12 G12 (fits_nar_byte _) W12 2 (by decide) (Nat.le_of_ble_eq_true rfl)
  have f13 := f4.other W12 ne3
  have f14 := f5.wr W12
  have f15 := EA2.wr W12
  have Z12 := Nat.le_trans Z2 (Keep.of_wr W12).1
  have N12 := Fr.snoc X12 N0 gn_rr
  have KK12 := KK2.wr W12 (Or.inr gk_rr)
  have p16 : ∀ t, Steps p.tables e below (T12.setTop (mkF m 15 #[.val (.ref x0), .val (.ref rr)] [])) t → Steps p.tables e below (s₁.setTop (entryFrame m #[(.ref x0)] 2)) t := fun t k => p11 t (st12 t k)
  have p17 : ∀ t, Steps p.tables e below (T12.setTop (mkF m 16 #[.val (.ref x0), .val (.ref rr)] [(.ref rr)])) t → Steps p.tables e below (s₁.setTop (entryFrame m #[(.ref x0)] 2)) t := fun t k => p16 t (by
    show Steps p.tables e below (T12.setTop (mkF m 15 #[.val (.ref x0), .val (.ref rr)] [])) _
    refine XS.aloadN X12.here hx rfl (hb hby dc3_15) rfl rfl ?_
    exact k)
  obtain ⟨fs, hr, hrun, hended, hW, hsame⟩ := X12.leave (v := some (.ref rr)) (fun h => by rw [Bd.returns] at h; cases h)
  refine ⟨_, _, p17 _ ?_, hrun, hended, _, _, rfl, ?_, ⟨_, rfl⟩, hW, hsame.mono (by decide) (by decide)⟩
  · show Steps p.tables e below (T12.setTop (mkF m 16 #[.val (.ref x0), .val (.ref rr)] [(.ref rr)])) _
    exact retOut X12 hx Bd.returns rfl (Or.inr (Or.inr (Or.inr (Or.inr ⟨rfl, rfl, rfl⟩)))) (hb hby dc3_16) hr
  · show Qc3 Z x0 kk y0 y1 y2 h0 n0 _ T12.heap _
    rw [e12]
    exact ⟨rr, rfl, N12, KK12, gk_rr, VV12⟩
theorem dc4_0 : decode prog_24_method_29_code 0 = .ok (.aload_n 0, 1) := by decide +kernel
theorem dc4_1 : decode prog_24_method_29_code 1 = .ok (.invokevirtual 150, 3) := by decide +kernel
theorem dc4_4 : decode prog_24_method_29_code 4 = .ok (.checkcast 151, 3) := by decide +kernel
theorem dc4_7 : decode prog_24_method_29_code 7 = .ok (.astore_n 1, 1) := by decide +kernel
theorem dc4_8 : decode prog_24_method_29_code 8 = .ok (.aload_n 1, 1) := by decide +kernel
theorem dc4_9 : decode prog_24_method_29_code 9 = .ok (.aload_n 1, 1) := by decide +kernel
theorem dc4_10 : decode prog_24_method_29_code 10 = .ok (.arraylength, 1) := by decide +kernel
theorem dc4_11 : decode prog_24_method_29_code 11 = .ok (.iconst 1, 1) := by decide +kernel
theorem dc4_12 : decode prog_24_method_29_code 12 = .ok (.isub, 1) := by decide +kernel
theorem dc4_13 : decode prog_24_method_29_code 13 = .ok (.iconst 1, 1) := by decide +kernel
theorem dc4_14 : decode prog_24_method_29_code 14 = .ok (.bastore, 1) := by decide +kernel
theorem dc4_15 : decode prog_24_method_29_code 15 = .ok (.aload_n 1, 1) := by decide +kernel
theorem dc4_16 : decode prog_24_method_29_code 16 = .ok (.areturn, 1) := by decide +kernel
theorem pnc4 : plainName "com/example/disposition/disposition/store/Keys" = true := by first | (simp [plainName, overriddenIn]; done) | decide +kernel
theorem efc4 (m : MethodId) (x0 : Addr) : entryFrame m #[(.ref x0)] 2 = mkF m 0 #[.val (.ref x0), .unset] [] := by first | (simp [entryFrame, mkF, argsToLocals, Value.category]; done) | rfl
def Qc4 (Z : State) (x0 : Addr) (kk : ClassId) (y0 : Int32) (y1 : Int32) (y2 : Int32) (y3 : Int32) (h0 : Heap) (n0 : Nat) (v : Option Value) (h : Heap) (L : List Loc) : Prop := ∃ r : Addr, v = some (.ref r) ∧ Fr n0 L ∧ Keep h0 h [] ∧ h0.size ≤ r ∧ Arv Z h r kk .byte (4 : Int32) [(.int y0), (.int y1), (.int y2), (.int ((1 : Int32).toInt8.toInt32))] (.int (0 : Int32))
set_option maxRecDepth 65536 in
set_option maxHeartbeats 40000000 in
theorem rmc4 (l : Launch) (Z : State) (a0 : Array Value) (hw : ∀ d ∈ tables_1, d.before a0 Z = true) (ws : List Jvm.Cond) (x0 : Addr) (kk : ClassId) (y0 : Int32) (y1 : Int32) (y2 : Int32) (y3 : Int32) (h0 : Heap) (n0 : Nat) (Z0 : n0 ≤ h0.size) (V0 : Arv Z h0 x0 kk .byte (4 : Int32) [(.int y0), (.int y1), (.int y2), (.int y3)] (.int (0 : Int32))) (E0 : Exa Z h0 x0 "[B") :
    MetFree l (⟨"com/example/disposition/disposition/store/Keys", "pastPrefix", "([B)[B"⟩ : MethodName) (head1 (Jvm.Cond.code (⟨"com/example/disposition/disposition/store/Keys", "pastPrefix", "([B)[B"⟩ : MethodName) prog_24_method_29_code 2 (some (.array .byte)) :: ws) ({ frames := 1, cells := 1, slots := 4, locals := 14 } : Room)) (fun a U => a = #[(.ref x0)] ∧ Z.Warmed39 U.vm ∧ U.heap = h0) (fun _ _ _ _ _ => True) (fun _ U o U' => ∃ v L, o = .returned v ∧ Qc4 Z x0 kk y0 y1 y2 y3 h0 n0 v U'.heap L ∧ FrameEnd U o U' L ({ frames := 1, cells := 1, slots := 4, locals := 14 } : Room).cells ({ frames := 1, cells := 1, slots := 4, locals := 14 } : Room).slots) := by
  refine MetFree.of_bodySF (plainFor_of_name pnc4) hisR ?_
  intro p e s m args below meth c s₁ Bd hml0 hP hK
  obtain ⟨rfl, hZ, hh⟩ := hP
  have hx := Bd.exec
  have hby := Bd.bytes
  have hml : c.maxLocals = 2 := hml0
  have hown : s.vm.findClass "com/example/disposition/disposition/store/Keys" = some m.cls := findClass_of_methodNamed Bd.named
  have hnm := (name_of_methodNamed Bd.named Bd.method).1
  have X0 : Stand p l e ({ frames := 1, cells := 1, slots := 4, locals := 14 } : Room) s m #[(.ref x0)] below meth c s₁ [] 0 0 := Stand.of_body Bd
  have e0 : s₁.heap = h0 := by rw [← hh, Bd.state]; rfl
  have N0 := Fr.nil n0
  have pre0 : ∀ t, Steps p.tables e below (s₁.setTop (mkF m 0 #[.val (.ref x0), .unset] [])) t → Steps p.tables e below (s₁.setTop (entryFrame m #[(.ref x0)] 2)) t := fun t k => castTop (efc4 m x0) k
  have K0 := Keep.refl h0 []
  have p1 : ∀ t, Steps p.tables e below (s₁.setTop (mkF m 1 #[.val (.ref x0), .unset] [(.ref x0)])) t → Steps p.tables e below (s₁.setTop (entryFrame m #[(.ref x0)] 2)) t := fun t k => pre0 t (by
    show Steps p.tables e below (s₁.setTop (mkF m 0 #[.val (.ref x0), .unset] [])) _
    refine XS.aloadN X0.here hx rfl (hb hby dc4_0) rfl rfl ?_
    exact k)
  obtain ⟨T2, h2, X2, e2, E2, VV2, EA2, st2⟩ := cloneH X0 hx hZ hown (hw _ (List.mem_of_getElem? (i := 5) rfl)) (hw _ (List.mem_of_getElem? (i := 6) rfl)) (hw _ (List.mem_of_getElem? (i := 10) rfl)) (hw _ (List.mem_of_getElem? (i := 8) rfl)) (hw _ (List.mem_of_getElem? (i := 9) rfl)) (hw _ (List.mem_of_getElem? (i := 11) rfl)) e0 (Arv.arh V0) E0 (g := (mkF m 1 #[.val (.ref x0), .unset] [(.ref x0)])) rfl (by rw [hml]; rfl) rfl (hb hby dc4_1) (by decide) (W := 0) (cap := 4) (by show 2 * 0 + _ ≤ _; exact Nat.le_of_eq rfl) (by decide) (by decide) (by decide) (by decide)
  obtain ⟨rr, g2⟩ : ∃ z, z = h0.size := ⟨_, rfl⟩
  rw [← g2] at VV2 EA2 st2
  have gn_rr : n0 ≤ rr := Nat.le_trans Z0 (Nat.le_of_eq g2.symm)
  have gk_rr : h0.size ≤ rr := Nat.le_trans K0.1 (Nat.le_of_eq g2.symm)
  have ne3 : x0 ≠ rr := Nat.ne_of_lt (Nat.lt_of_lt_of_le V0.lt (Nat.le_of_eq g2.symm))
  have f4 := V0.ext E2
  have f5 := E0.ext E2
  have Z2 := Nat.le_trans Z0 E2.1
  have KK2 := K0.ext E2
  have p6 : ∀ t, Steps p.tables e below (T2.setTop (mkF m 4 #[.val (.ref x0), .unset] [(.ref rr)])) t → Steps p.tables e below (s₁.setTop (entryFrame m #[(.ref x0)] 2)) t := fun t k => p1 t (st2 t k)
  obtain ⟨T7, X7, e7, st7⟩ := castY X2 hx hZ hown (hw _ (List.mem_of_getElem? (i := 12) rfl)) e2 (Ins.self EA2) (g := (mkF m 4 #[.val (.ref x0), .unset] [(.ref rr)])) rfl rfl (hb hby dc4_4)
  have p8 : ∀ t, Steps p.tables e below (T7.setTop (mkF m 7 #[.val (.ref x0), .unset] [(.ref rr)])) t → Steps p.tables e below (s₁.setTop (entryFrame m #[(.ref x0)] 2)) t := fun t k => p6 t (st7 t k)
  have p9 : ∀ t, Steps p.tables e below (T7.setTop (mkF m 10 #[.val (.ref x0), .val (.ref rr)] [(.ref rr), (.ref rr)])) t → Steps p.tables e below (s₁.setTop (entryFrame m #[(.ref x0)] 2)) t := fun t k => p8 t (by
    show Steps p.tables e below (T7.setTop (mkF m 7 #[.val (.ref x0), .unset] [(.ref rr)])) _
    refine XS.astoreN X7.here hx rfl (hb hby dc4_7) rfl rfl (l' := #[.val (.ref x0), .val (.ref rr)]) rfl ?_
    show Steps p.tables e below (T7.setTop (mkF m 8 #[.val (.ref x0), .val (.ref rr)] [])) _
    refine XS.aloadN X7.here hx rfl (hb hby dc4_8) rfl rfl ?_
    show Steps p.tables e below (T7.setTop (mkF m 9 #[.val (.ref x0), .val (.ref rr)] [(.ref rr)])) _
    refine XS.aloadN X7.here hx rfl (hb hby dc4_9) rfl rfl ?_
    exact k)
  obtain ⟨cl10, Ar10, -, Sz10, Ng10, -, -⟩ := id VV2
  have p11 : ∀ t, Steps p.tables e below (T7.setTop (mkF m 14 #[.val (.ref x0), .val (.ref rr)] [(.int (1 : Int32)), (.int ((4 : Int32) - (1 : Int32))), (.ref rr)])) t → Steps p.tables e below (s₁.setTop (entryFrame m #[(.ref x0)] 2)) t := fun t k => p9 t (by
    show Steps p.tables e below (T7.setTop (mkF m 10 #[.val (.ref x0), .val (.ref rr)] [(.ref rr), (.ref rr)])) _
    refine X7.arraylength hx (by rw [e7]; exact Ar10.1) (State.isArrayOf_alike hZ.alike Ar10.2.1) (g := (mkF m 10 #[.val (.ref x0), .val (.ref rr)] [(.ref rr), (.ref rr)])) rfl rfl (hb hby dc4_10) _ ?_
    rw [len_of Sz10 Ng10]
    show Steps p.tables e below (T7.setTop (mkF m 11 #[.val (.ref x0), .val (.ref rr)] [(.int (4 : Int32)), (.ref rr)])) _
    refine XS.iconst X7.here hx rfl (hb hby dc4_11) ?_
    show Steps p.tables e below (T7.setTop (mkF m 12 #[.val (.ref x0), .val (.ref rr)] [(.int (1 : Int32)), (.int (4 : Int32)), (.ref rr)])) _
    refine XS.isub X7.here hx rfl (hb hby dc4_12) rfl ?_
    show Steps p.tables e below (T7.setTop (mkF m 13 #[.val (.ref x0), .val (.ref rr)] [(.int ((4 : Int32) - (1 : Int32))), (.ref rr)])) _
    refine XS.iconst X7.here hx rfl (hb hby dc4_13) ?_
    exact k)
  obtain ⟨cl12, Ar12, q12, Sz12, Ng12, Hs12, G12⟩ := id VV2
  have hin12 : ¬ (((4 : Int32) - (1 : Int32)) < 0 ∨ cl12.slots.size ≤ (((4 : Int32) - (1 : Int32))).toNatClampNeg) := inb_of Sz12 (⟨by decide, by decide⟩)
  obtain ⟨T12, h12, X12, e12, W12, st12⟩ := stB X7 hx hZ e7 Ar12 (j := ((4 : Int32) - (1 : Int32))) hin12 (g := (mkF m 14 #[.val (.ref x0), .val (.ref rr)] [(.int (1 : Int32)), (.int ((4 : Int32) - (1 : Int32))), (.ref rr)])) rfl rfl (hb hby dc4_14)
  have VV12 : Arv Z h12 rr kk .byte (4 : Int32) [(.int y0), (.int y1), (.int y2), (.int ((1 : Int32).toInt8.toInt32))] (.int (0 : Int32)) := Arv.set Ar12 q12 Sz12 Ng12 Hs12 G12 (fits_nar_byte _) W12 3 (by decide) (Nat.le_of_ble_eq_true rfl)
  have f13 := f4.other W12 ne3
  have f14 := f5.wr W12
  have f15 := EA2.wr W12
  have Z12 := Nat.le_trans Z2 (Keep.of_wr W12).1
  have N12 := Fr.snoc X12 N0 gn_rr
  have KK12 := KK2.wr W12 (Or.inr gk_rr)
  have p16 : ∀ t, Steps p.tables e below (T12.setTop (mkF m 15 #[.val (.ref x0), .val (.ref rr)] [])) t → Steps p.tables e below (s₁.setTop (entryFrame m #[(.ref x0)] 2)) t := fun t k => p11 t (st12 t k)
  have p17 : ∀ t, Steps p.tables e below (T12.setTop (mkF m 16 #[.val (.ref x0), .val (.ref rr)] [(.ref rr)])) t → Steps p.tables e below (s₁.setTop (entryFrame m #[(.ref x0)] 2)) t := fun t k => p16 t (by
    show Steps p.tables e below (T12.setTop (mkF m 15 #[.val (.ref x0), .val (.ref rr)] [])) _
    refine XS.aloadN X12.here hx rfl (hb hby dc4_15) rfl rfl ?_
    exact k)
  obtain ⟨fs, hr, hrun, hended, hW, hsame⟩ := X12.leave (v := some (.ref rr)) (fun h => by rw [Bd.returns] at h; cases h)
  refine ⟨_, _, p17 _ ?_, hrun, hended, _, _, rfl, ?_, ⟨_, rfl⟩, hW, hsame.mono (by decide) (by decide)⟩
  · show Steps p.tables e below (T12.setTop (mkF m 16 #[.val (.ref x0), .val (.ref rr)] [(.ref rr)])) _
    exact retOut X12 hx Bd.returns rfl (Or.inr (Or.inr (Or.inr (Or.inr ⟨rfl, rfl, rfl⟩)))) (hb hby dc4_16) hr
  · show Qc4 Z x0 kk y0 y1 y2 y3 h0 n0 _ T12.heap _
    rw [e12]
    exact ⟨rr, rfl, N12, KK12, gk_rr, VV12⟩
theorem pn0 : plainName "com/example/disposition/disposition/store/KeysPastPrefixPinLaw" = true := by first | (simp [plainName, overriddenIn]; done) | decide +kernel
theorem pd0_0 : parseMethodDescriptor "([B)[B" = some ⟨[(.array .byte)], some (.array .byte)⟩ := by decide +kernel
theorem ef0 (m : MethodId) (x0 : Int32) (x1 : Int32) : entryFrame m #[(.int x0), (.int x1)] maxLocals = mkF m 0 #[.val (.int x0), .val (.int x1), .unset, .unset, .unset, .unset, .unset, .unset] [] := by first | (simp [entryFrame, mkF, argsToLocals, Value.category, maxLocals]; done) | rfl
def Q0 (Z : State) (x0 : Int32) (x1 : Int32) (h0 : Heap) (n0 : Nat) (v : Option Value) (h : Heap) (L : List Loc) : Prop := v = some (.int (1 : Int32)) ∧ Fr n0 L
set_option maxRecDepth 65536 in
set_option maxHeartbeats 40000000 in
theorem rm0 (l : Launch) (Z : State) (a0 : Array Value) (hw : ∀ d ∈ tables_1, d.before a0 Z = true) (ws : List Jvm.Cond) (x0 : Int32) (x1 : Int32) (h0 : Heap) (n0 : Nat) (Z0 : n0 ≤ h0.size) :
    MetFree l x (head1 (Jvm.Cond.code x code maxLocals ret :: ws) room_1) (fun a U => a = #[(.int x0), (.int x1)] ∧ Z.Warmed39 U.vm ∧ U.heap = h0) (fun _ _ _ _ _ => True) (fun _ U o U' => ∃ v L, o = .returned v ∧ Q0 Z x0 x1 h0 n0 v U'.heap L ∧ FrameEnd U o U' L room_1.cells room_1.slots) := by
  refine MetFree.of_bodySF (plainFor_of_name pn0) hisR ?_
  intro p e s m args below meth c s₁ Bd hml0 hP hK
  obtain ⟨rfl, hZ, hh⟩ := hP
  have hx := Bd.exec
  have hby := Bd.bytes
  have hml : c.maxLocals = 8 := hml0
  have hown : s.vm.findClass "com/example/disposition/disposition/store/KeysPastPrefixPinLaw" = some m.cls := findClass_of_methodNamed Bd.named
  have hnm := (name_of_methodNamed Bd.named Bd.method).1
  have X0 : Stand p l e room_1 s m #[(.int x0), (.int x1)] below meth c s₁ [] 0 0 := Stand.of_body Bd
  have e0 : s₁.heap = h0 := by rw [← hh, Bd.state]; rfl
  have N0 := Fr.nil n0
  have pre0 : ∀ t, Steps p.tables e below (s₁.setTop (mkF m 0 #[.val (.int x0), .val (.int x1), .unset, .unset, .unset, .unset, .unset, .unset] [])) t → Steps p.tables e below (s₁.setTop (entryFrame m #[(.int x0), (.int x1)] maxLocals)) t := fun t k => castTop (ef0 m x0 x1) k
  have p1 : ∀ t, Steps p.tables e below (s₁.setTop (mkF m 6 #[.val (.int x0), .val (.int x1), .val (.int ((x0 &&& (3 : Int32)) + (1 : Int32))), .unset, .unset, .unset, .unset, .unset] [])) t → Steps p.tables e below (s₁.setTop (entryFrame m #[(.int x0), (.int x1)] maxLocals)) t := fun t k => pre0 t (by
    show Steps p.tables e below (s₁.setTop (mkF m 0 #[.val (.int x0), .val (.int x1), .unset, .unset, .unset, .unset, .unset, .unset] [])) _
    refine XS.iloadN X0.here hx rfl (hb hby at_0) rfl ?_
    show Steps p.tables e below (s₁.setTop (mkF m 1 #[.val (.int x0), .val (.int x1), .unset, .unset, .unset, .unset, .unset, .unset] [(.int x0)])) _
    refine XS.iconst X0.here hx rfl (hb hby at_1) ?_
    show Steps p.tables e below (s₁.setTop (mkF m 2 #[.val (.int x0), .val (.int x1), .unset, .unset, .unset, .unset, .unset, .unset] [(.int (3 : Int32)), (.int x0)])) _
    refine XS.iand X0.here hx rfl (hb hby at_2) rfl ?_
    show Steps p.tables e below (s₁.setTop (mkF m 3 #[.val (.int x0), .val (.int x1), .unset, .unset, .unset, .unset, .unset, .unset] [(.int (x0 &&& (3 : Int32)))])) _
    refine XS.iconst X0.here hx rfl (hb hby at_3) ?_
    show Steps p.tables e below (s₁.setTop (mkF m 4 #[.val (.int x0), .val (.int x1), .unset, .unset, .unset, .unset, .unset, .unset] [(.int (1 : Int32)), (.int (x0 &&& (3 : Int32)))])) _
    refine XS.iadd X0.here hx rfl (hb hby at_4) rfl ?_
    show Steps p.tables e below (s₁.setTop (mkF m 5 #[.val (.int x0), .val (.int x1), .unset, .unset, .unset, .unset, .unset, .unset] [(.int ((x0 &&& (3 : Int32)) + (1 : Int32)))])) _
    refine XS.istoreN X0.here hx rfl (hb hby at_5) rfl (l' := #[.val (.int x0), .val (.int x1), .val (.int ((x0 &&& (3 : Int32)) + (1 : Int32))), .unset, .unset, .unset, .unset, .unset]) rfl ?_
    exact k)
  obtain ⟨vn, hvn⟩ : ∃ z : Int32, z = ((x0 &&& (3 : Int32)) + (1 : Int32)) := ⟨_, rfl⟩
  have p2 : ∀ t, Steps p.tables e below (s₁.setTop (mkF m 6 #[.val (.int x0), .val (.int x1), .val (.int vn), .unset, .unset, .unset, .unset, .unset] [])) t → Steps p.tables e below (s₁.setTop (entryFrame m #[(.int x0), (.int x1)] maxLocals)) t := by
    intro t k; subst hvn; exact p1 t k
  have p3 : ∀ t, Steps p.tables e below (s₁.setTop (mkF m 9 #[.val (.int x0), .val (.int x1), .val (.int vn), .val (.int (x1.toInt8.toInt32)), .unset, .unset, .unset, .unset] [])) t → Steps p.tables e below (s₁.setTop (entryFrame m #[(.int x0), (.int x1)] maxLocals)) t := fun t k => p2 t (by
    show Steps p.tables e below (s₁.setTop (mkF m 6 #[.val (.int x0), .val (.int x1), .val (.int vn), .unset, .unset, .unset, .unset, .unset] [])) _
    refine XS.iloadN X0.here hx rfl (hb hby at_6) rfl ?_
    show Steps p.tables e below (s₁.setTop (mkF m 7 #[.val (.int x0), .val (.int x1), .val (.int vn), .unset, .unset, .unset, .unset, .unset] [(.int x1)])) _
    refine XS.i2b X0.here hx rfl (hb hby at_7) rfl ?_
    show Steps p.tables e below (s₁.setTop (mkF m 8 #[.val (.int x0), .val (.int x1), .val (.int vn), .unset, .unset, .unset, .unset, .unset] [(.int (x1.toInt8.toInt32))])) _
    refine XS.istoreN X0.here hx rfl (hb hby at_8) rfl (l' := #[.val (.int x0), .val (.int x1), .val (.int vn), .val (.int (x1.toInt8.toInt32)), .unset, .unset, .unset, .unset]) rfl ?_
    exact k)
  obtain ⟨vb0, hvb0⟩ : ∃ z : Int32, z = (x1.toInt8.toInt32) := ⟨_, rfl⟩
  have p4 : ∀ t, Steps p.tables e below (s₁.setTop (mkF m 9 #[.val (.int x0), .val (.int x1), .val (.int vn), .val (.int vb0), .unset, .unset, .unset, .unset] [])) t → Steps p.tables e below (s₁.setTop (entryFrame m #[(.int x0), (.int x1)] maxLocals)) t := by
    intro t k; subst hvb0; exact p3 t k
  have p5 : ∀ t, Steps p.tables e below (s₁.setTop (mkF m 16 #[.val (.int x0), .val (.int x1), .val (.int vn), .val (.int vb0), .val (.int (((x1.toUInt32 >>> ((8 : Int32) &&& 31).toUInt32).toInt32).toInt8.toInt32)), .unset, .unset, .unset] [])) t → Steps p.tables e below (s₁.setTop (entryFrame m #[(.int x0), (.int x1)] maxLocals)) t := fun t k => p4 t (by
    show Steps p.tables e below (s₁.setTop (mkF m 9 #[.val (.int x0), .val (.int x1), .val (.int vn), .val (.int vb0), .unset, .unset, .unset, .unset] [])) _
    refine XS.iloadN X0.here hx rfl (hb hby at_9) rfl ?_
    show Steps p.tables e below (s₁.setTop (mkF m 10 #[.val (.int x0), .val (.int x1), .val (.int vn), .val (.int vb0), .unset, .unset, .unset, .unset] [(.int x1)])) _
    refine XS.bipush X0.here hx rfl (hb hby at_10) ?_
    show Steps p.tables e below (s₁.setTop (mkF m 12 #[.val (.int x0), .val (.int x1), .val (.int vn), .val (.int vb0), .unset, .unset, .unset, .unset] [(.int (8 : Int32)), (.int x1)])) _
    refine XS.iushr X0.here hx rfl (hb hby at_12) rfl ?_
    show Steps p.tables e below (s₁.setTop (mkF m 13 #[.val (.int x0), .val (.int x1), .val (.int vn), .val (.int vb0), .unset, .unset, .unset, .unset] [(.int ((x1.toUInt32 >>> ((8 : Int32) &&& 31).toUInt32).toInt32))])) _
    refine XS.i2b X0.here hx rfl (hb hby at_13) rfl ?_
    show Steps p.tables e below (s₁.setTop (mkF m 14 #[.val (.int x0), .val (.int x1), .val (.int vn), .val (.int vb0), .unset, .unset, .unset, .unset] [(.int (((x1.toUInt32 >>> ((8 : Int32) &&& 31).toUInt32).toInt32).toInt8.toInt32))])) _
    refine XS.istore X0.here hx rfl (hb hby at_14) rfl (l' := #[.val (.int x0), .val (.int x1), .val (.int vn), .val (.int vb0), .val (.int (((x1.toUInt32 >>> ((8 : Int32) &&& 31).toUInt32).toInt32).toInt8.toInt32)), .unset, .unset, .unset]) rfl ?_
    exact k)
  obtain ⟨vb1, hvb1⟩ : ∃ z : Int32, z = (((x1.toUInt32 >>> ((8 : Int32) &&& 31).toUInt32).toInt32).toInt8.toInt32) := ⟨_, rfl⟩
  have p6 : ∀ t, Steps p.tables e below (s₁.setTop (mkF m 16 #[.val (.int x0), .val (.int x1), .val (.int vn), .val (.int vb0), .val (.int vb1), .unset, .unset, .unset] [])) t → Steps p.tables e below (s₁.setTop (entryFrame m #[(.int x0), (.int x1)] maxLocals)) t := by
    intro t k; subst hvb1; exact p5 t k
  have p7 : ∀ t, Steps p.tables e below (s₁.setTop (mkF m 23 #[.val (.int x0), .val (.int x1), .val (.int vn), .val (.int vb0), .val (.int vb1), .val (.int (((x1.toUInt32 >>> ((16 : Int32) &&& 31).toUInt32).toInt32).toInt8.toInt32)), .unset, .unset] [])) t → Steps p.tables e below (s₁.setTop (entryFrame m #[(.int x0), (.int x1)] maxLocals)) t := fun t k => p6 t (by
    show Steps p.tables e below (s₁.setTop (mkF m 16 #[.val (.int x0), .val (.int x1), .val (.int vn), .val (.int vb0), .val (.int vb1), .unset, .unset, .unset] [])) _
    refine XS.iloadN X0.here hx rfl (hb hby at_16) rfl ?_
    show Steps p.tables e below (s₁.setTop (mkF m 17 #[.val (.int x0), .val (.int x1), .val (.int vn), .val (.int vb0), .val (.int vb1), .unset, .unset, .unset] [(.int x1)])) _
    refine XS.bipush X0.here hx rfl (hb hby at_17) ?_
    show Steps p.tables e below (s₁.setTop (mkF m 19 #[.val (.int x0), .val (.int x1), .val (.int vn), .val (.int vb0), .val (.int vb1), .unset, .unset, .unset] [(.int (16 : Int32)), (.int x1)])) _
    refine XS.iushr X0.here hx rfl (hb hby at_19) rfl ?_
    show Steps p.tables e below (s₁.setTop (mkF m 20 #[.val (.int x0), .val (.int x1), .val (.int vn), .val (.int vb0), .val (.int vb1), .unset, .unset, .unset] [(.int ((x1.toUInt32 >>> ((16 : Int32) &&& 31).toUInt32).toInt32))])) _
    refine XS.i2b X0.here hx rfl (hb hby at_20) rfl ?_
    show Steps p.tables e below (s₁.setTop (mkF m 21 #[.val (.int x0), .val (.int x1), .val (.int vn), .val (.int vb0), .val (.int vb1), .unset, .unset, .unset] [(.int (((x1.toUInt32 >>> ((16 : Int32) &&& 31).toUInt32).toInt32).toInt8.toInt32))])) _
    refine XS.istore X0.here hx rfl (hb hby at_21) rfl (l' := #[.val (.int x0), .val (.int x1), .val (.int vn), .val (.int vb0), .val (.int vb1), .val (.int (((x1.toUInt32 >>> ((16 : Int32) &&& 31).toUInt32).toInt32).toInt8.toInt32)), .unset, .unset]) rfl ?_
    exact k)
  obtain ⟨vb2, hvb2⟩ : ∃ z : Int32, z = (((x1.toUInt32 >>> ((16 : Int32) &&& 31).toUInt32).toInt32).toInt8.toInt32) := ⟨_, rfl⟩
  have p8 : ∀ t, Steps p.tables e below (s₁.setTop (mkF m 23 #[.val (.int x0), .val (.int x1), .val (.int vn), .val (.int vb0), .val (.int vb1), .val (.int vb2), .unset, .unset] [])) t → Steps p.tables e below (s₁.setTop (entryFrame m #[(.int x0), (.int x1)] maxLocals)) t := by
    intro t k; subst hvb2; exact p7 t k
  have p9 : ∀ t, Steps p.tables e below (s₁.setTop (mkF m 24 #[.val (.int x0), .val (.int x1), .val (.int vn), .val (.int vb0), .val (.int vb1), .val (.int vb2), .unset, .unset] [(.int vn)])) t → Steps p.tables e below (s₁.setTop (entryFrame m #[(.int x0), (.int x1)] maxLocals)) t := fun t k => p8 t (by
    show Steps p.tables e below (s₁.setTop (mkF m 23 #[.val (.int x0), .val (.int x1), .val (.int vn), .val (.int vb0), .val (.int vb1), .val (.int vb2), .unset, .unset] [])) _
    refine XS.iloadN X0.here hx rfl (hb hby at_23) rfl ?_
    exact k)
  rcases own_n3 hvn with rfl | rfl | rfl | rfl
  · obtain ⟨T10, h10, k10, X10, e10, E10, A10, EA10, st10⟩ := newPE X0 hx hZ (hw _ (List.mem_of_getElem? (i := 0) rfl)) e0 (g := (mkF m 24 #[.val (.int x0), .val (.int x1), .val (.int (1 : Int32)), .val (.int vb0), .val (.int vb1), .val (.int vb2), .unset, .unset] [(.int (1 : Int32))])) rfl (hb hby at_24) rfl (by decide) (cap := 1) (by decide) (by decide) (by decide) (by decide) (ad := "[B") (by decide)
    obtain ⟨b10, g10⟩ : ∃ z, z = h0.size := ⟨_, rfl⟩
    rw [← g10] at A10 st10 EA10
    have gn_b10 : n0 ≤ b10 := Nat.le_trans Z0 (Nat.le_of_eq g10.symm)
    have Z10 := Nat.le_trans Z0 E10.1
    have VV10 : Arv Z h10 b10 k10 .byte (1 : Int32) [(.int (0 : Int32))] (.int (0 : Int32)) := (Arv.new A10 (by decide)).pad (pad_rep [] (.int (0 : Int32)) 1)
    have p11 : ∀ t, Steps p.tables e below (T10.setTop (mkF m 26 #[.val (.int x0), .val (.int x1), .val (.int (1 : Int32)), .val (.int vb0), .val (.int vb1), .val (.int vb2), .unset, .unset] [(.ref b10)])) t → Steps p.tables e below (s₁.setTop (entryFrame m #[(.int x0), (.int x1)] maxLocals)) t := fun t k => p9 t (st10 t k)
    have p12 : ∀ t, Steps p.tables e below (T10.setTop (mkF m 66 #[.val (.int x0), .val (.int x1), .val (.int (1 : Int32)), .val (.int vb0), .val (.int vb1), .val (.int vb2), .val (.ref b10), .unset] [(.int (0 : Int32)), (.int ((1 : Int32) - (1 : Int32))), (.ref b10)])) t → Steps p.tables e below (s₁.setTop (entryFrame m #[(.int x0), (.int x1)] maxLocals)) t := fun t k => p11 t (by
      show Steps p.tables e below (T10.setTop (mkF m 26 #[.val (.int x0), .val (.int x1), .val (.int (1 : Int32)), .val (.int vb0), .val (.int vb1), .val (.int vb2), .unset, .unset] [(.ref b10)])) _
      refine XS.astore X10.here hx rfl (hb hby at_26) rfl rfl (l' := #[.val (.int x0), .val (.int x1), .val (.int (1 : Int32)), .val (.int vb0), .val (.int vb1), .val (.int vb2), .val (.ref b10), .unset]) rfl ?_
      show Steps p.tables e below (T10.setTop (mkF m 28 #[.val (.int x0), .val (.int x1), .val (.int (1 : Int32)), .val (.int vb0), .val (.int vb1), .val (.int vb2), .val (.ref b10), .unset] [])) _
      refine XS.iloadN X10.here hx rfl (hb hby at_28) rfl ?_
      show Steps p.tables e below (T10.setTop (mkF m 29 #[.val (.int x0), .val (.int x1), .val (.int (1 : Int32)), .val (.int vb0), .val (.int vb1), .val (.int vb2), .val (.ref b10), .unset] [(.int (1 : Int32))])) _
      refine XS.iconst X10.here hx rfl (hb hby at_29) ?_
      show Steps p.tables e below (T10.setTop (mkF m 30 #[.val (.int x0), .val (.int x1), .val (.int (1 : Int32)), .val (.int vb0), .val (.int vb1), .val (.int vb2), .val (.ref b10), .unset] [(.int (1 : Int32)), (.int (1 : Int32))])) _
      refine XS.icmpYes X10.here hx rfl (pc0 := 30) (pc' := 38) rfl (hb hby at_30) rfl ((flt (by decide)).2.2.2) (by decide) (by decide) ?_
      show Steps p.tables e below (T10.setTop (mkF m 38 #[.val (.int x0), .val (.int x1), .val (.int (1 : Int32)), .val (.int vb0), .val (.int vb1), .val (.int vb2), .val (.ref b10), .unset] [])) _
      refine XS.iloadN X10.here hx rfl (hb hby at_38) rfl ?_
      show Steps p.tables e below (T10.setTop (mkF m 39 #[.val (.int x0), .val (.int x1), .val (.int (1 : Int32)), .val (.int vb0), .val (.int vb1), .val (.int vb2), .val (.ref b10), .unset] [(.int (1 : Int32))])) _
      refine XS.iconst X10.here hx rfl (hb hby at_39) ?_
      show Steps p.tables e below (T10.setTop (mkF m 40 #[.val (.int x0), .val (.int x1), .val (.int (1 : Int32)), .val (.int vb0), .val (.int vb1), .val (.int vb2), .val (.ref b10), .unset] [(.int (2 : Int32)), (.int (1 : Int32))])) _
      refine XS.icmpYes X10.here hx rfl (pc0 := 40) (pc' := 49) rfl (hb hby at_40) rfl ((flt (by decide)).2.2.2) (by decide) (by decide) ?_
      show Steps p.tables e below (T10.setTop (mkF m 49 #[.val (.int x0), .val (.int x1), .val (.int (1 : Int32)), .val (.int vb0), .val (.int vb1), .val (.int vb2), .val (.ref b10), .unset] [])) _
      refine XS.iloadN X10.here hx rfl (hb hby at_49) rfl ?_
      show Steps p.tables e below (T10.setTop (mkF m 50 #[.val (.int x0), .val (.int x1), .val (.int (1 : Int32)), .val (.int vb0), .val (.int vb1), .val (.int vb2), .val (.ref b10), .unset] [(.int (1 : Int32))])) _
      refine XS.iconst X10.here hx rfl (hb hby at_50) ?_
      show Steps p.tables e below (T10.setTop (mkF m 51 #[.val (.int x0), .val (.int x1), .val (.int (1 : Int32)), .val (.int vb0), .val (.int vb1), .val (.int vb2), .val (.ref b10), .unset] [(.int (3 : Int32)), (.int (1 : Int32))])) _
      refine XS.icmpYes X10.here hx rfl (pc0 := 51) (pc' := 60) rfl (hb hby at_51) rfl ((flt (by decide)).2.2.2) (by decide) (by decide) ?_
      show Steps p.tables e below (T10.setTop (mkF m 60 #[.val (.int x0), .val (.int x1), .val (.int (1 : Int32)), .val (.int vb0), .val (.int vb1), .val (.int vb2), .val (.ref b10), .unset] [])) _
      refine XS.aload X10.here hx rfl (hb hby at_60) rfl rfl ?_
      show Steps p.tables e below (T10.setTop (mkF m 62 #[.val (.int x0), .val (.int x1), .val (.int (1 : Int32)), .val (.int vb0), .val (.int vb1), .val (.int vb2), .val (.ref b10), .unset] [(.ref b10)])) _
      refine XS.iloadN X10.here hx rfl (hb hby at_62) rfl ?_
      show Steps p.tables e below (T10.setTop (mkF m 63 #[.val (.int x0), .val (.int x1), .val (.int (1 : Int32)), .val (.int vb0), .val (.int vb1), .val (.int vb2), .val (.ref b10), .unset] [(.int (1 : Int32)), (.ref b10)])) _
      refine XS.iconst X10.here hx rfl (hb hby at_63) ?_
      show Steps p.tables e below (T10.setTop (mkF m 64 #[.val (.int x0), .val (.int x1), .val (.int (1 : Int32)), .val (.int vb0), .val (.int vb1), .val (.int vb2), .val (.ref b10), .unset] [(.int (1 : Int32)), (.int (1 : Int32)), (.ref b10)])) _
      refine XS.isub X10.here hx rfl (hb hby at_64) rfl ?_
      show Steps p.tables e below (T10.setTop (mkF m 65 #[.val (.int x0), .val (.int x1), .val (.int (1 : Int32)), .val (.int vb0), .val (.int vb1), .val (.int vb2), .val (.ref b10), .unset] [(.int ((1 : Int32) - (1 : Int32))), (.ref b10)])) _
      refine XS.iconst X10.here hx rfl (hb hby at_65) ?_
      exact k)
    obtain ⟨cl13, Ar13, q13, Sz13, Ng13, Hs13, G13⟩ := id VV10
    have hin13 : ¬ (((1 : Int32) - (1 : Int32)) < 0 ∨ cl13.slots.size ≤ (((1 : Int32) - (1 : Int32))).toNatClampNeg) := inb_of Sz13 (⟨by decide, by decide⟩)
    obtain ⟨T13, h13, X13, e13, W13, st13⟩ := stB X10 hx hZ e10 Ar13 (j := ((1 : Int32) - (1 : Int32))) hin13 (g := (mkF m 66 #[.val (.int x0), .val (.int x1), .val (.int (1 : Int32)), .val (.int vb0), .val (.int vb1), .val (.int vb2), .val (.ref b10), .unset] [(.int (0 : Int32)), (.int ((1 : Int32) - (1 : Int32))), (.ref b10)])) rfl rfl (hb hby at_66)
    have VV13 : Arv Z h13 b10 k10 .byte (1 : Int32) [(.int ((0 : Int32).toInt8.toInt32))] (.int (0 : Int32)) := Arv.set Ar13 q13 Sz13 Ng13 Hs13 G13 (fits_nar_byte _) W13 0 (by decide) (Nat.le_of_ble_eq_true rfl)
    have f14 := EA10.wr W13
    have Z13 := Nat.le_trans Z10 (Keep.of_wr W13).1
    have N13 := Fr.snoc X13 N0 gn_b10
    have p15 : ∀ t, Steps p.tables e below (T13.setTop (mkF m 67 #[.val (.int x0), .val (.int x1), .val (.int (1 : Int32)), .val (.int vb0), .val (.int vb1), .val (.int vb2), .val (.ref b10), .unset] [])) t → Steps p.tables e below (s₁.setTop (entryFrame m #[(.int x0), (.int x1)] maxLocals)) t := fun t k => p12 t (st13 t k)
    have p16 : ∀ t, Steps p.tables e below (T13.setTop (mkF m 69 #[.val (.int x0), .val (.int x1), .val (.int (1 : Int32)), .val (.int vb0), .val (.int vb1), .val (.int vb2), .val (.ref b10), .unset] [(.ref b10)])) t → Steps p.tables e below (s₁.setTop (entryFrame m #[(.int x0), (.int x1)] maxLocals)) t := fun t k => p15 t (by
      show Steps p.tables e below (T13.setTop (mkF m 67 #[.val (.int x0), .val (.int x1), .val (.int (1 : Int32)), .val (.int vb0), .val (.int vb1), .val (.int vb2), .val (.ref b10), .unset] [])) _
      refine XS.aload X13.here hx rfl (hb hby at_67) rfl rfl ?_
      exact k)
    obtain ⟨_, _, ⟨T17, L17, k17, n17⟩, -, X17, ⟨Lc17, hQ17, l17, y17, z17⟩, st17⟩ := Jvm.LawKit.callS X13 hx (y := (⟨"com/example/disposition/disposition/store/Keys", "pastPrefix", "([B)[B"⟩ : MethodName)) hown (mvT hZ (hw _ (List.mem_of_getElem? (i := 1) rfl))) (mvT hZ (hw _ (List.mem_of_getElem? (i := 2) rfl))) (mvT hZ (hw _ (List.mem_of_getElem? (i := 3) rfl))) (mvT hZ (hw _ (List.mem_of_getElem? (i := 4) rfl))) (by decide) (backOf (W := 0) (rmc1 l Z a0 hw [] b10 k10 ((0 : Int32).toInt8.toInt32) h13 n0 Z13 VV13 f14) hZ (hw _ (List.mem_of_getElem? (i := 4) rfl)) (hw _ (List.mem_of_getElem? (i := 3) rfl)) (by decide) (by decide)) (g := (mkF m 69 #[.val (.int x0), .val (.int x1), .val (.int (1 : Int32)), .val (.int vb0), .val (.int vb1), .val (.int vb2), .val (.ref b10), .unset] [(.ref b10)])) rfl (by rw [hml]; rfl) (argsL := [(.ref b10)]) (rest := []) (lenOf pd0_0 rfl) rfl (by show 2 * 0 + _ ≤ _; exact Nat.le_of_eq rfl) (hb hby at_69) (fun _ _ => ⟨rfl, e13, (by decide : 1 + 1 ≤ _), (by decide : 1 + 1 ≤ _)⟩)
    dsimp only [Pt.U, Pt.locs, Pt.cells, Pt.slots] at X17 l17 y17 z17 st17 hQ17
    subst l17 y17 z17
    obtain ⟨r17, rfl, Nq17, K17, gr17, VR17⟩ := hQ17
    have N17 := Fr.app N13 Nq17
    have f18 := f14.keep K17
    have f19 := VV13.keep K17 nin0
    have Z17 := Nat.le_trans Z13 K17.1
    have p20 : ∀ t, Steps p.tables e below (T17.setTop (mkF m 72 #[.val (.int x0), .val (.int x1), .val (.int (1 : Int32)), .val (.int vb0), .val (.int vb1), .val (.int vb2), .val (.ref b10), .unset] [(.ref r17)])) t → Steps p.tables e below (s₁.setTop (entryFrame m #[(.int x0), (.int x1)] maxLocals)) t := fun t k => p16 t (st17 _ k)
    have hne : r17 ≠ b10 := Ne.symm (Nat.ne_of_lt (Nat.lt_of_lt_of_le VV13.lt gr17))
    have p21 : ∀ t, Steps p.tables e below (T17.setTop (mkF m 88 #[.val (.int x0), .val (.int x1), .val (.int (1 : Int32)), .val (.int vb0), .val (.int vb1), .val (.int vb2), .val (.ref b10), .val (.ref r17)] [(.ref r17)])) t → Steps p.tables e below (s₁.setTop (entryFrame m #[(.int x0), (.int x1)] maxLocals)) t := fun t k => p20 t (by
      show Steps p.tables e below (T17.setTop (mkF m 72 #[.val (.int x0), .val (.int x1), .val (.int (1 : Int32)), .val (.int vb0), .val (.int vb1), .val (.int vb2), .val (.ref b10), .unset] [(.ref r17)])) _
      refine XS.astore X17.here hx rfl (hb hby at_72) rfl rfl (l' := #[.val (.int x0), .val (.int x1), .val (.int (1 : Int32)), .val (.int vb0), .val (.int vb1), .val (.int vb2), .val (.ref b10), .val (.ref r17)]) rfl ?_
      show Steps p.tables e below (T17.setTop (mkF m 74 #[.val (.int x0), .val (.int x1), .val (.int (1 : Int32)), .val (.int vb0), .val (.int vb1), .val (.int vb2), .val (.ref b10), .val (.ref r17)] [])) _
      refine XS.aload X17.here hx rfl (hb hby at_74) rfl rfl ?_
      show Steps p.tables e below (T17.setTop (mkF m 76 #[.val (.int x0), .val (.int x1), .val (.int (1 : Int32)), .val (.int vb0), .val (.int vb1), .val (.int vb2), .val (.ref b10), .val (.ref r17)] [(.ref r17)])) _
      refine XS.ifnullNo X17.here hx rfl (hb hby at_76) rfl ?_
      show Steps p.tables e below (T17.setTop (mkF m 79 #[.val (.int x0), .val (.int x1), .val (.int (1 : Int32)), .val (.int vb0), .val (.int vb1), .val (.int vb2), .val (.ref b10), .val (.ref r17)] [])) _
      refine XS.aload X17.here hx rfl (hb hby at_79) rfl rfl ?_
      show Steps p.tables e below (T17.setTop (mkF m 81 #[.val (.int x0), .val (.int x1), .val (.int (1 : Int32)), .val (.int vb0), .val (.int vb1), .val (.int vb2), .val (.ref b10), .val (.ref r17)] [(.ref r17)])) _
      refine XS.aload X17.here hx rfl (hb hby at_81) rfl rfl ?_
      show Steps p.tables e below (T17.setTop (mkF m 83 #[.val (.int x0), .val (.int x1), .val (.int (1 : Int32)), .val (.int vb0), .val (.int vb1), .val (.int vb2), .val (.ref b10), .val (.ref r17)] [(.ref b10), (.ref r17)])) _
      refine Jvm.RoadKit.acmp (g := (mkF m 83 #[.val (.int x0), .val (.int x1), .val (.int (1 : Int32)), .val (.int vb0), .val (.int vb1), .val (.int vb2), .val (.ref b10), .val (.ref r17)] [(.ref b10), (.ref r17)])) X17 hx rfl rfl rfl (pc0 := 83) (pc' := 86) (same := false) rfl (hb hby at_83) rfl (decide_eq_false fun q => hne (Value.ref.inj q)) (by decide) (by decide) ?_
      show Steps p.tables e below (T17.setTop (mkF m 86 #[.val (.int x0), .val (.int x1), .val (.int (1 : Int32)), .val (.int vb0), .val (.int vb1), .val (.int vb2), .val (.ref b10), .val (.ref r17)] [])) _
      refine XS.aload X17.here hx rfl (hb hby at_86) rfl rfl ?_
      exact k)
    obtain ⟨cl22, Ar22, -, Sz22, Ng22, -, -⟩ := id VR17
    have p23 : ∀ t, Steps p.tables e below (T17.setTop (mkF m 100 #[.val (.int x0), .val (.int x1), .val (.int (1 : Int32)), .val (.int vb0), .val (.int vb1), .val (.int vb2), .val (.ref b10), .val (.ref r17)] [(.int ((1 : Int32) - (1 : Int32))), (.ref r17)])) t → Steps p.tables e below (s₁.setTop (entryFrame m #[(.int x0), (.int x1)] maxLocals)) t := fun t k => p21 t (by
      show Steps p.tables e below (T17.setTop (mkF m 88 #[.val (.int x0), .val (.int x1), .val (.int (1 : Int32)), .val (.int vb0), .val (.int vb1), .val (.int vb2), .val (.ref b10), .val (.ref r17)] [(.ref r17)])) _
      refine X17.arraylength hx Ar22.1 (State.isArrayOf_alike hZ.alike Ar22.2.1) (g := (mkF m 88 #[.val (.int x0), .val (.int x1), .val (.int (1 : Int32)), .val (.int vb0), .val (.int vb1), .val (.int vb2), .val (.ref b10), .val (.ref r17)] [(.ref r17)])) rfl rfl (hb hby at_88) _ ?_
      rw [len_of Sz22 Ng22]
      show Steps p.tables e below (T17.setTop (mkF m 89 #[.val (.int x0), .val (.int x1), .val (.int (1 : Int32)), .val (.int vb0), .val (.int vb1), .val (.int vb2), .val (.ref b10), .val (.ref r17)] [(.int (1 : Int32))])) _
      refine XS.iloadN X17.here hx rfl (hb hby at_89) rfl ?_
      show Steps p.tables e below (T17.setTop (mkF m 90 #[.val (.int x0), .val (.int x1), .val (.int (1 : Int32)), .val (.int vb0), .val (.int vb1), .val (.int vb2), .val (.ref b10), .val (.ref r17)] [(.int (1 : Int32)), (.int (1 : Int32))])) _
      refine XS.icmpYes X17.here hx rfl (pc0 := 90) (pc' := 95) rfl (hb hby at_90) rfl ((teq (rfl)).1) (by decide) (by decide) ?_
      show Steps p.tables e below (T17.setTop (mkF m 95 #[.val (.int x0), .val (.int x1), .val (.int (1 : Int32)), .val (.int vb0), .val (.int vb1), .val (.int vb2), .val (.ref b10), .val (.ref r17)] [])) _
      refine XS.aload X17.here hx rfl (hb hby at_95) rfl rfl ?_
      show Steps p.tables e below (T17.setTop (mkF m 97 #[.val (.int x0), .val (.int x1), .val (.int (1 : Int32)), .val (.int vb0), .val (.int vb1), .val (.int vb2), .val (.ref b10), .val (.ref r17)] [(.ref r17)])) _
      refine XS.iloadN X17.here hx rfl (hb hby at_97) rfl ?_
      show Steps p.tables e below (T17.setTop (mkF m 98 #[.val (.int x0), .val (.int x1), .val (.int (1 : Int32)), .val (.int vb0), .val (.int vb1), .val (.int vb2), .val (.ref b10), .val (.ref r17)] [(.int (1 : Int32)), (.ref r17)])) _
      refine XS.iconst X17.here hx rfl (hb hby at_98) ?_
      show Steps p.tables e below (T17.setTop (mkF m 99 #[.val (.int x0), .val (.int x1), .val (.int (1 : Int32)), .val (.int vb0), .val (.int vb1), .val (.int vb2), .val (.ref b10), .val (.ref r17)] [(.int (1 : Int32)), (.int (1 : Int32)), (.ref r17)])) _
      refine XS.isub X17.here hx rfl (hb hby at_99) rfl ?_
      exact k)
    obtain ⟨cl24, Ar24, q24, Sz24, Ng24, Hs24, G24⟩ := id VR17
    have hin24 : ¬ (((1 : Int32) - (1 : Int32)) < 0 ∨ cl24.slots.size ≤ (((1 : Int32) - (1 : Int32))).toNatClampNeg) := inb_of Sz24 ⟨by decide, by decide⟩
    have hat24 : cl24.slots[(((1 : Int32) - (1 : Int32))).toNatClampNeg]? = some (.int ((1 : Int32).toInt8.toInt32)) := Hs24.at hin24 (rfl)
    have p25 : ∀ t, Steps p.tables e below (T17.setTop (mkF m 110 #[.val (.int x0), .val (.int x1), .val (.int (1 : Int32)), .val (.int vb0), .val (.int vb1), .val (.int vb2), .val (.ref b10), .val (.ref r17)] [(.int ((1 : Int32) - (1 : Int32))), (.ref b10)])) t → Steps p.tables e below (s₁.setTop (entryFrame m #[(.int x0), (.int x1)] maxLocals)) t := fun t k => p23 t (by
      show Steps p.tables e below (T17.setTop (mkF m 100 #[.val (.int x0), .val (.int x1), .val (.int (1 : Int32)), .val (.int vb0), .val (.int vb1), .val (.int vb2), .val (.ref b10), .val (.ref r17)] [(.int ((1 : Int32) - (1 : Int32))), (.ref r17)])) _
      refine X17.baloadBytes hx (j := ((1 : Int32) - (1 : Int32))) (v := (.int ((1 : Int32).toInt8.toInt32))) Ar24.1 (State.isArrayOf_alike hZ.alike Ar24.2.1) Ar24.2.2 hin24 hat24 (g := (mkF m 100 #[.val (.int x0), .val (.int x1), .val (.int (1 : Int32)), .val (.int vb0), .val (.int vb1), .val (.int vb2), .val (.ref b10), .val (.ref r17)] [(.int ((1 : Int32) - (1 : Int32))), (.ref r17)])) rfl rfl (hb hby at_100) _ ?_
      show Steps p.tables e below (T17.setTop (mkF m 101 #[.val (.int x0), .val (.int x1), .val (.int (1 : Int32)), .val (.int vb0), .val (.int vb1), .val (.int vb2), .val (.ref b10), .val (.ref r17)] [(.int ((1 : Int32).toInt8.toInt32))])) _
      refine XS.iconst X17.here hx rfl (hb hby at_101) ?_
      show Steps p.tables e below (T17.setTop (mkF m 102 #[.val (.int x0), .val (.int x1), .val (.int (1 : Int32)), .val (.int vb0), .val (.int vb1), .val (.int vb2), .val (.ref b10), .val (.ref r17)] [(.int (1 : Int32)), (.int ((1 : Int32).toInt8.toInt32))])) _
      refine XS.icmpNo X17.here hx rfl (hb hby at_102) rfl ((teq (by decide)).2) ?_
      show Steps p.tables e below (T17.setTop (mkF m 105 #[.val (.int x0), .val (.int x1), .val (.int (1 : Int32)), .val (.int vb0), .val (.int vb1), .val (.int vb2), .val (.ref b10), .val (.ref r17)] [])) _
      refine XS.aload X17.here hx rfl (hb hby at_105) rfl rfl ?_
      show Steps p.tables e below (T17.setTop (mkF m 107 #[.val (.int x0), .val (.int x1), .val (.int (1 : Int32)), .val (.int vb0), .val (.int vb1), .val (.int vb2), .val (.ref b10), .val (.ref r17)] [(.ref b10)])) _
      refine XS.iloadN X17.here hx rfl (hb hby at_107) rfl ?_
      show Steps p.tables e below (T17.setTop (mkF m 108 #[.val (.int x0), .val (.int x1), .val (.int (1 : Int32)), .val (.int vb0), .val (.int vb1), .val (.int vb2), .val (.ref b10), .val (.ref r17)] [(.int (1 : Int32)), (.ref b10)])) _
      refine XS.iconst X17.here hx rfl (hb hby at_108) ?_
      show Steps p.tables e below (T17.setTop (mkF m 109 #[.val (.int x0), .val (.int x1), .val (.int (1 : Int32)), .val (.int vb0), .val (.int vb1), .val (.int vb2), .val (.ref b10), .val (.ref r17)] [(.int (1 : Int32)), (.int (1 : Int32)), (.ref b10)])) _
      refine XS.isub X17.here hx rfl (hb hby at_109) rfl ?_
      exact k)
    obtain ⟨cl26, Ar26, q26, Sz26, Ng26, Hs26, G26⟩ := id f19
    have hin26 : ¬ (((1 : Int32) - (1 : Int32)) < 0 ∨ cl26.slots.size ≤ (((1 : Int32) - (1 : Int32))).toNatClampNeg) := inb_of Sz26 ⟨by decide, by decide⟩
    have hat26 : cl26.slots[(((1 : Int32) - (1 : Int32))).toNatClampNeg]? = some (.int ((0 : Int32).toInt8.toInt32)) := Hs26.at hin26 (rfl)
    have p27 : ∀ t, Steps p.tables e below (T17.setTop (mkF m 190 #[.val (.int x0), .val (.int x1), .val (.int (1 : Int32)), .val (.int vb0), .val (.int vb1), .val (.int vb2), .val (.ref b10), .val (.ref r17)] [(.int (1 : Int32))])) t → Steps p.tables e below (s₁.setTop (entryFrame m #[(.int x0), (.int x1)] maxLocals)) t := fun t k => p25 t (by
      show Steps p.tables e below (T17.setTop (mkF m 110 #[.val (.int x0), .val (.int x1), .val (.int (1 : Int32)), .val (.int vb0), .val (.int vb1), .val (.int vb2), .val (.ref b10), .val (.ref r17)] [(.int ((1 : Int32) - (1 : Int32))), (.ref b10)])) _
      refine X17.baloadBytes hx (j := ((1 : Int32) - (1 : Int32))) (v := (.int ((0 : Int32).toInt8.toInt32))) Ar26.1 (State.isArrayOf_alike hZ.alike Ar26.2.1) Ar26.2.2 hin26 hat26 (g := (mkF m 110 #[.val (.int x0), .val (.int x1), .val (.int (1 : Int32)), .val (.int vb0), .val (.int vb1), .val (.int vb2), .val (.ref b10), .val (.ref r17)] [(.int ((1 : Int32) - (1 : Int32))), (.ref b10)])) rfl rfl (hb hby at_110) _ ?_
      show Steps p.tables e below (T17.setTop (mkF m 111 #[.val (.int x0), .val (.int x1), .val (.int (1 : Int32)), .val (.int vb0), .val (.int vb1), .val (.int vb2), .val (.ref b10), .val (.ref r17)] [(.int ((0 : Int32).toInt8.toInt32))])) _
      refine XS.ifYes X17.here hx rfl (pc0 := 111) (pc' := 116) rfl (hb hby at_111) rfl ((if0 _ _).trans (teq (by decide)).1) (by decide) (by decide) ?_
      show Steps p.tables e below (T17.setTop (mkF m 116 #[.val (.int x0), .val (.int x1), .val (.int (1 : Int32)), .val (.int vb0), .val (.int vb1), .val (.int vb2), .val (.ref b10), .val (.ref r17)] [])) _
      refine XS.iloadN X17.here hx rfl (hb hby at_116) rfl ?_
      show Steps p.tables e below (T17.setTop (mkF m 117 #[.val (.int x0), .val (.int x1), .val (.int (1 : Int32)), .val (.int vb0), .val (.int vb1), .val (.int vb2), .val (.ref b10), .val (.ref r17)] [(.int (1 : Int32))])) _
      refine XS.iconst X17.here hx rfl (hb hby at_117) ?_
      show Steps p.tables e below (T17.setTop (mkF m 118 #[.val (.int x0), .val (.int x1), .val (.int (1 : Int32)), .val (.int vb0), .val (.int vb1), .val (.int vb2), .val (.ref b10), .val (.ref r17)] [(.int (1 : Int32)), (.int (1 : Int32))])) _
      refine XS.icmpYes X17.here hx rfl (pc0 := 118) (pc' := 139) rfl (hb hby at_118) rfl ((flt (by decide)).2.2.2) (by decide) (by decide) ?_
      show Steps p.tables e below (T17.setTop (mkF m 139 #[.val (.int x0), .val (.int x1), .val (.int (1 : Int32)), .val (.int vb0), .val (.int vb1), .val (.int vb2), .val (.ref b10), .val (.ref r17)] [])) _
      refine XS.iloadN X17.here hx rfl (hb hby at_139) rfl ?_
      show Steps p.tables e below (T17.setTop (mkF m 140 #[.val (.int x0), .val (.int x1), .val (.int (1 : Int32)), .val (.int vb0), .val (.int vb1), .val (.int vb2), .val (.ref b10), .val (.ref r17)] [(.int (1 : Int32))])) _
      refine XS.iconst X17.here hx rfl (hb hby at_140) ?_
      show Steps p.tables e below (T17.setTop (mkF m 141 #[.val (.int x0), .val (.int x1), .val (.int (1 : Int32)), .val (.int vb0), .val (.int vb1), .val (.int vb2), .val (.ref b10), .val (.ref r17)] [(.int (2 : Int32)), (.int (1 : Int32))])) _
      refine XS.icmpYes X17.here hx rfl (pc0 := 141) (pc' := 164) rfl (hb hby at_141) rfl ((flt (by decide)).2.2.2) (by decide) (by decide) ?_
      show Steps p.tables e below (T17.setTop (mkF m 164 #[.val (.int x0), .val (.int x1), .val (.int (1 : Int32)), .val (.int vb0), .val (.int vb1), .val (.int vb2), .val (.ref b10), .val (.ref r17)] [])) _
      refine XS.iloadN X17.here hx rfl (hb hby at_164) rfl ?_
      show Steps p.tables e below (T17.setTop (mkF m 165 #[.val (.int x0), .val (.int x1), .val (.int (1 : Int32)), .val (.int vb0), .val (.int vb1), .val (.int vb2), .val (.ref b10), .val (.ref r17)] [(.int (1 : Int32))])) _
      refine XS.iconst X17.here hx rfl (hb hby at_165) ?_
      show Steps p.tables e below (T17.setTop (mkF m 166 #[.val (.int x0), .val (.int x1), .val (.int (1 : Int32)), .val (.int vb0), .val (.int vb1), .val (.int vb2), .val (.ref b10), .val (.ref r17)] [(.int (3 : Int32)), (.int (1 : Int32))])) _
      refine XS.icmpYes X17.here hx rfl (pc0 := 166) (pc' := 189) rfl (hb hby at_166) rfl ((flt (by decide)).2.2.2) (by decide) (by decide) ?_
      show Steps p.tables e below (T17.setTop (mkF m 189 #[.val (.int x0), .val (.int x1), .val (.int (1 : Int32)), .val (.int vb0), .val (.int vb1), .val (.int vb2), .val (.ref b10), .val (.ref r17)] [])) _
      refine XS.iconst X17.here hx rfl (hb hby at_189) ?_
      exact k)
    obtain ⟨fs, hr, hrun, hended, hW, hsame⟩ := X17.leave (v := some (.int (1 : Int32))) (fun h => by rw [Bd.returns] at h; cases h)
    refine ⟨_, _, p27 _ ?_, hrun, hended, _, _, rfl, ?_, ⟨_, rfl⟩, hW, hsame.mono (by decide) (by decide)⟩
    · show Steps p.tables e below (T17.setTop (mkF m 190 #[.val (.int x0), .val (.int x1), .val (.int (1 : Int32)), .val (.int vb0), .val (.int vb1), .val (.int vb2), .val (.ref b10), .val (.ref r17)] [(.int (1 : Int32))])) _
      exact retN X17 hx (t := .boolean) Bd.returns (by simp) (hb hby at_190) hr
    · show Q0 Z x0 x1 h0 n0 _ T17.heap _
      skip
      exact ⟨rfl, N17⟩
  · obtain ⟨T28, h28, k28, X28, e28, E28, A28, EA28, st28⟩ := newPE X0 hx hZ (hw _ (List.mem_of_getElem? (i := 0) rfl)) e0 (g := (mkF m 24 #[.val (.int x0), .val (.int x1), .val (.int (2 : Int32)), .val (.int vb0), .val (.int vb1), .val (.int vb2), .unset, .unset] [(.int (2 : Int32))])) rfl (hb hby at_24) rfl (by decide) (cap := 2) (by decide) (by decide) (by decide) (by decide) (ad := "[B") (by decide)
    obtain ⟨b28, g28⟩ : ∃ z, z = h0.size := ⟨_, rfl⟩
    rw [← g28] at A28 st28 EA28
    have gn_b28 : n0 ≤ b28 := Nat.le_trans Z0 (Nat.le_of_eq g28.symm)
    have Z28 := Nat.le_trans Z0 E28.1
    have VV28 : Arv Z h28 b28 k28 .byte (2 : Int32) [(.int (0 : Int32)), (.int (0 : Int32))] (.int (0 : Int32)) := (Arv.new A28 (by decide)).pad (pad_rep [] (.int (0 : Int32)) 2)
    have p29 : ∀ t, Steps p.tables e below (T28.setTop (mkF m 26 #[.val (.int x0), .val (.int x1), .val (.int (2 : Int32)), .val (.int vb0), .val (.int vb1), .val (.int vb2), .unset, .unset] [(.ref b28)])) t → Steps p.tables e below (s₁.setTop (entryFrame m #[(.int x0), (.int x1)] maxLocals)) t := fun t k => p9 t (st28 t k)
    have p30 : ∀ t, Steps p.tables e below (T28.setTop (mkF m 37 #[.val (.int x0), .val (.int x1), .val (.int (2 : Int32)), .val (.int vb0), .val (.int vb1), .val (.int vb2), .val (.ref b28), .unset] [(.int vb0), (.int (0 : Int32)), (.ref b28)])) t → Steps p.tables e below (s₁.setTop (entryFrame m #[(.int x0), (.int x1)] maxLocals)) t := fun t k => p29 t (by
      show Steps p.tables e below (T28.setTop (mkF m 26 #[.val (.int x0), .val (.int x1), .val (.int (2 : Int32)), .val (.int vb0), .val (.int vb1), .val (.int vb2), .unset, .unset] [(.ref b28)])) _
      refine XS.astore X28.here hx rfl (hb hby at_26) rfl rfl (l' := #[.val (.int x0), .val (.int x1), .val (.int (2 : Int32)), .val (.int vb0), .val (.int vb1), .val (.int vb2), .val (.ref b28), .unset]) rfl ?_
      show Steps p.tables e below (T28.setTop (mkF m 28 #[.val (.int x0), .val (.int x1), .val (.int (2 : Int32)), .val (.int vb0), .val (.int vb1), .val (.int vb2), .val (.ref b28), .unset] [])) _
      refine XS.iloadN X28.here hx rfl (hb hby at_28) rfl ?_
      show Steps p.tables e below (T28.setTop (mkF m 29 #[.val (.int x0), .val (.int x1), .val (.int (2 : Int32)), .val (.int vb0), .val (.int vb1), .val (.int vb2), .val (.ref b28), .unset] [(.int (2 : Int32))])) _
      refine XS.iconst X28.here hx rfl (hb hby at_29) ?_
      show Steps p.tables e below (T28.setTop (mkF m 30 #[.val (.int x0), .val (.int x1), .val (.int (2 : Int32)), .val (.int vb0), .val (.int vb1), .val (.int vb2), .val (.ref b28), .unset] [(.int (1 : Int32)), (.int (2 : Int32))])) _
      refine XS.icmpNo X28.here hx rfl (hb hby at_30) rfl ((tlt (by decide)).2.2.2) ?_
      show Steps p.tables e below (T28.setTop (mkF m 33 #[.val (.int x0), .val (.int x1), .val (.int (2 : Int32)), .val (.int vb0), .val (.int vb1), .val (.int vb2), .val (.ref b28), .unset] [])) _
      refine XS.aload X28.here hx rfl (hb hby at_33) rfl rfl ?_
      show Steps p.tables e below (T28.setTop (mkF m 35 #[.val (.int x0), .val (.int x1), .val (.int (2 : Int32)), .val (.int vb0), .val (.int vb1), .val (.int vb2), .val (.ref b28), .unset] [(.ref b28)])) _
      refine XS.iconst X28.here hx rfl (hb hby at_35) ?_
      show Steps p.tables e below (T28.setTop (mkF m 36 #[.val (.int x0), .val (.int x1), .val (.int (2 : Int32)), .val (.int vb0), .val (.int vb1), .val (.int vb2), .val (.ref b28), .unset] [(.int (0 : Int32)), (.ref b28)])) _
      refine XS.iloadN X28.here hx rfl (hb hby at_36) rfl ?_
      exact k)
    obtain ⟨cl31, Ar31, q31, Sz31, Ng31, Hs31, G31⟩ := id VV28
    have hin31 : ¬ ((0 : Int32) < 0 ∨ cl31.slots.size ≤ ((0 : Int32)).toNatClampNeg) := inb_of Sz31 (⟨by decide, by decide⟩)
    obtain ⟨T31, h31, X31, e31, W31, st31⟩ := stB X28 hx hZ e28 Ar31 (j := (0 : Int32)) hin31 (g := (mkF m 37 #[.val (.int x0), .val (.int x1), .val (.int (2 : Int32)), .val (.int vb0), .val (.int vb1), .val (.int vb2), .val (.ref b28), .unset] [(.int vb0), (.int (0 : Int32)), (.ref b28)])) rfl rfl (hb hby at_37)
    have VV31 : Arv Z h31 b28 k28 .byte (2 : Int32) [(.int (vb0.toInt8.toInt32)), (.int (0 : Int32))] (.int (0 : Int32)) := Arv.set Ar31 q31 Sz31 Ng31 Hs31 G31 (fits_nar_byte _) W31 0 (by decide) (Nat.le_of_ble_eq_true rfl)
    have f32 := EA28.wr W31
    have Z31 := Nat.le_trans Z28 (Keep.of_wr W31).1
    have N31 := Fr.snoc X31 N0 gn_b28
    have p33 : ∀ t, Steps p.tables e below (T31.setTop (mkF m 38 #[.val (.int x0), .val (.int x1), .val (.int (2 : Int32)), .val (.int vb0), .val (.int vb1), .val (.int vb2), .val (.ref b28), .unset] [])) t → Steps p.tables e below (s₁.setTop (entryFrame m #[(.int x0), (.int x1)] maxLocals)) t := fun t k => p30 t (st31 t k)
    have p34 : ∀ t, Steps p.tables e below (T31.setTop (mkF m 66 #[.val (.int x0), .val (.int x1), .val (.int (2 : Int32)), .val (.int vb0), .val (.int vb1), .val (.int vb2), .val (.ref b28), .unset] [(.int (0 : Int32)), (.int ((2 : Int32) - (1 : Int32))), (.ref b28)])) t → Steps p.tables e below (s₁.setTop (entryFrame m #[(.int x0), (.int x1)] maxLocals)) t := fun t k => p33 t (by
      show Steps p.tables e below (T31.setTop (mkF m 38 #[.val (.int x0), .val (.int x1), .val (.int (2 : Int32)), .val (.int vb0), .val (.int vb1), .val (.int vb2), .val (.ref b28), .unset] [])) _
      refine XS.iloadN X31.here hx rfl (hb hby at_38) rfl ?_
      show Steps p.tables e below (T31.setTop (mkF m 39 #[.val (.int x0), .val (.int x1), .val (.int (2 : Int32)), .val (.int vb0), .val (.int vb1), .val (.int vb2), .val (.ref b28), .unset] [(.int (2 : Int32))])) _
      refine XS.iconst X31.here hx rfl (hb hby at_39) ?_
      show Steps p.tables e below (T31.setTop (mkF m 40 #[.val (.int x0), .val (.int x1), .val (.int (2 : Int32)), .val (.int vb0), .val (.int vb1), .val (.int vb2), .val (.ref b28), .unset] [(.int (2 : Int32)), (.int (2 : Int32))])) _
      refine XS.icmpYes X31.here hx rfl (pc0 := 40) (pc' := 49) rfl (hb hby at_40) rfl ((flt (by decide)).2.2.2) (by decide) (by decide) ?_
      show Steps p.tables e below (T31.setTop (mkF m 49 #[.val (.int x0), .val (.int x1), .val (.int (2 : Int32)), .val (.int vb0), .val (.int vb1), .val (.int vb2), .val (.ref b28), .unset] [])) _
      refine XS.iloadN X31.here hx rfl (hb hby at_49) rfl ?_
      show Steps p.tables e below (T31.setTop (mkF m 50 #[.val (.int x0), .val (.int x1), .val (.int (2 : Int32)), .val (.int vb0), .val (.int vb1), .val (.int vb2), .val (.ref b28), .unset] [(.int (2 : Int32))])) _
      refine XS.iconst X31.here hx rfl (hb hby at_50) ?_
      show Steps p.tables e below (T31.setTop (mkF m 51 #[.val (.int x0), .val (.int x1), .val (.int (2 : Int32)), .val (.int vb0), .val (.int vb1), .val (.int vb2), .val (.ref b28), .unset] [(.int (3 : Int32)), (.int (2 : Int32))])) _
      refine XS.icmpYes X31.here hx rfl (pc0 := 51) (pc' := 60) rfl (hb hby at_51) rfl ((flt (by decide)).2.2.2) (by decide) (by decide) ?_
      show Steps p.tables e below (T31.setTop (mkF m 60 #[.val (.int x0), .val (.int x1), .val (.int (2 : Int32)), .val (.int vb0), .val (.int vb1), .val (.int vb2), .val (.ref b28), .unset] [])) _
      refine XS.aload X31.here hx rfl (hb hby at_60) rfl rfl ?_
      show Steps p.tables e below (T31.setTop (mkF m 62 #[.val (.int x0), .val (.int x1), .val (.int (2 : Int32)), .val (.int vb0), .val (.int vb1), .val (.int vb2), .val (.ref b28), .unset] [(.ref b28)])) _
      refine XS.iloadN X31.here hx rfl (hb hby at_62) rfl ?_
      show Steps p.tables e below (T31.setTop (mkF m 63 #[.val (.int x0), .val (.int x1), .val (.int (2 : Int32)), .val (.int vb0), .val (.int vb1), .val (.int vb2), .val (.ref b28), .unset] [(.int (2 : Int32)), (.ref b28)])) _
      refine XS.iconst X31.here hx rfl (hb hby at_63) ?_
      show Steps p.tables e below (T31.setTop (mkF m 64 #[.val (.int x0), .val (.int x1), .val (.int (2 : Int32)), .val (.int vb0), .val (.int vb1), .val (.int vb2), .val (.ref b28), .unset] [(.int (1 : Int32)), (.int (2 : Int32)), (.ref b28)])) _
      refine XS.isub X31.here hx rfl (hb hby at_64) rfl ?_
      show Steps p.tables e below (T31.setTop (mkF m 65 #[.val (.int x0), .val (.int x1), .val (.int (2 : Int32)), .val (.int vb0), .val (.int vb1), .val (.int vb2), .val (.ref b28), .unset] [(.int ((2 : Int32) - (1 : Int32))), (.ref b28)])) _
      refine XS.iconst X31.here hx rfl (hb hby at_65) ?_
      exact k)
    obtain ⟨cl35, Ar35, q35, Sz35, Ng35, Hs35, G35⟩ := id VV31
    have hin35 : ¬ (((2 : Int32) - (1 : Int32)) < 0 ∨ cl35.slots.size ≤ (((2 : Int32) - (1 : Int32))).toNatClampNeg) := inb_of Sz35 (⟨by decide, by decide⟩)
    obtain ⟨T35, h35, X35, e35, W35, st35⟩ := stB X31 hx hZ e31 Ar35 (j := ((2 : Int32) - (1 : Int32))) hin35 (g := (mkF m 66 #[.val (.int x0), .val (.int x1), .val (.int (2 : Int32)), .val (.int vb0), .val (.int vb1), .val (.int vb2), .val (.ref b28), .unset] [(.int (0 : Int32)), (.int ((2 : Int32) - (1 : Int32))), (.ref b28)])) rfl rfl (hb hby at_66)
    have VV35 : Arv Z h35 b28 k28 .byte (2 : Int32) [(.int (vb0.toInt8.toInt32)), (.int ((0 : Int32).toInt8.toInt32))] (.int (0 : Int32)) := Arv.set Ar35 q35 Sz35 Ng35 Hs35 G35 (fits_nar_byte _) W35 1 (by decide) (Nat.le_of_ble_eq_true rfl)
    have f36 := f32.wr W35
    have Z35 := Nat.le_trans Z31 (Keep.of_wr W35).1
    have N35 := Fr.snoc X35 N31 gn_b28
    have p37 : ∀ t, Steps p.tables e below (T35.setTop (mkF m 67 #[.val (.int x0), .val (.int x1), .val (.int (2 : Int32)), .val (.int vb0), .val (.int vb1), .val (.int vb2), .val (.ref b28), .unset] [])) t → Steps p.tables e below (s₁.setTop (entryFrame m #[(.int x0), (.int x1)] maxLocals)) t := fun t k => p34 t (st35 t k)
    have p38 : ∀ t, Steps p.tables e below (T35.setTop (mkF m 69 #[.val (.int x0), .val (.int x1), .val (.int (2 : Int32)), .val (.int vb0), .val (.int vb1), .val (.int vb2), .val (.ref b28), .unset] [(.ref b28)])) t → Steps p.tables e below (s₁.setTop (entryFrame m #[(.int x0), (.int x1)] maxLocals)) t := fun t k => p37 t (by
      show Steps p.tables e below (T35.setTop (mkF m 67 #[.val (.int x0), .val (.int x1), .val (.int (2 : Int32)), .val (.int vb0), .val (.int vb1), .val (.int vb2), .val (.ref b28), .unset] [])) _
      refine XS.aload X35.here hx rfl (hb hby at_67) rfl rfl ?_
      exact k)
    obtain ⟨_, _, ⟨T39, L39, k39, n39⟩, -, X39, ⟨Lc39, hQ39, l39, y39, z39⟩, st39⟩ := Jvm.LawKit.callS X35 hx (y := (⟨"com/example/disposition/disposition/store/Keys", "pastPrefix", "([B)[B"⟩ : MethodName)) hown (mvT hZ (hw _ (List.mem_of_getElem? (i := 1) rfl))) (mvT hZ (hw _ (List.mem_of_getElem? (i := 2) rfl))) (mvT hZ (hw _ (List.mem_of_getElem? (i := 3) rfl))) (mvT hZ (hw _ (List.mem_of_getElem? (i := 4) rfl))) (by decide) (backOf (W := 0) (rmc2 l Z a0 hw [] b28 k28 (vb0.toInt8.toInt32) ((0 : Int32).toInt8.toInt32) h35 n0 Z35 VV35 f36) hZ (hw _ (List.mem_of_getElem? (i := 4) rfl)) (hw _ (List.mem_of_getElem? (i := 3) rfl)) (by decide) (by decide)) (g := (mkF m 69 #[.val (.int x0), .val (.int x1), .val (.int (2 : Int32)), .val (.int vb0), .val (.int vb1), .val (.int vb2), .val (.ref b28), .unset] [(.ref b28)])) rfl (by rw [hml]; rfl) (argsL := [(.ref b28)]) (rest := []) (lenOf pd0_0 rfl) rfl (by show 2 * 0 + _ ≤ _; exact Nat.le_of_eq rfl) (hb hby at_69) (fun _ _ => ⟨rfl, e35, (by decide : 1 + 1 ≤ _), (by decide : 2 + 2 ≤ _)⟩)
    dsimp only [Pt.U, Pt.locs, Pt.cells, Pt.slots] at X39 l39 y39 z39 st39 hQ39
    subst l39 y39 z39
    obtain ⟨r39, rfl, Nq39, K39, gr39, VR39⟩ := hQ39
    have N39 := Fr.app N35 Nq39
    have f40 := f36.keep K39
    have f41 := VV35.keep K39 nin0
    have Z39 := Nat.le_trans Z35 K39.1
    have p42 : ∀ t, Steps p.tables e below (T39.setTop (mkF m 72 #[.val (.int x0), .val (.int x1), .val (.int (2 : Int32)), .val (.int vb0), .val (.int vb1), .val (.int vb2), .val (.ref b28), .unset] [(.ref r39)])) t → Steps p.tables e below (s₁.setTop (entryFrame m #[(.int x0), (.int x1)] maxLocals)) t := fun t k => p38 t (st39 _ k)
    have hne : r39 ≠ b28 := Ne.symm (Nat.ne_of_lt (Nat.lt_of_lt_of_le VV35.lt gr39))
    have p43 : ∀ t, Steps p.tables e below (T39.setTop (mkF m 88 #[.val (.int x0), .val (.int x1), .val (.int (2 : Int32)), .val (.int vb0), .val (.int vb1), .val (.int vb2), .val (.ref b28), .val (.ref r39)] [(.ref r39)])) t → Steps p.tables e below (s₁.setTop (entryFrame m #[(.int x0), (.int x1)] maxLocals)) t := fun t k => p42 t (by
      show Steps p.tables e below (T39.setTop (mkF m 72 #[.val (.int x0), .val (.int x1), .val (.int (2 : Int32)), .val (.int vb0), .val (.int vb1), .val (.int vb2), .val (.ref b28), .unset] [(.ref r39)])) _
      refine XS.astore X39.here hx rfl (hb hby at_72) rfl rfl (l' := #[.val (.int x0), .val (.int x1), .val (.int (2 : Int32)), .val (.int vb0), .val (.int vb1), .val (.int vb2), .val (.ref b28), .val (.ref r39)]) rfl ?_
      show Steps p.tables e below (T39.setTop (mkF m 74 #[.val (.int x0), .val (.int x1), .val (.int (2 : Int32)), .val (.int vb0), .val (.int vb1), .val (.int vb2), .val (.ref b28), .val (.ref r39)] [])) _
      refine XS.aload X39.here hx rfl (hb hby at_74) rfl rfl ?_
      show Steps p.tables e below (T39.setTop (mkF m 76 #[.val (.int x0), .val (.int x1), .val (.int (2 : Int32)), .val (.int vb0), .val (.int vb1), .val (.int vb2), .val (.ref b28), .val (.ref r39)] [(.ref r39)])) _
      refine XS.ifnullNo X39.here hx rfl (hb hby at_76) rfl ?_
      show Steps p.tables e below (T39.setTop (mkF m 79 #[.val (.int x0), .val (.int x1), .val (.int (2 : Int32)), .val (.int vb0), .val (.int vb1), .val (.int vb2), .val (.ref b28), .val (.ref r39)] [])) _
      refine XS.aload X39.here hx rfl (hb hby at_79) rfl rfl ?_
      show Steps p.tables e below (T39.setTop (mkF m 81 #[.val (.int x0), .val (.int x1), .val (.int (2 : Int32)), .val (.int vb0), .val (.int vb1), .val (.int vb2), .val (.ref b28), .val (.ref r39)] [(.ref r39)])) _
      refine XS.aload X39.here hx rfl (hb hby at_81) rfl rfl ?_
      show Steps p.tables e below (T39.setTop (mkF m 83 #[.val (.int x0), .val (.int x1), .val (.int (2 : Int32)), .val (.int vb0), .val (.int vb1), .val (.int vb2), .val (.ref b28), .val (.ref r39)] [(.ref b28), (.ref r39)])) _
      refine Jvm.RoadKit.acmp (g := (mkF m 83 #[.val (.int x0), .val (.int x1), .val (.int (2 : Int32)), .val (.int vb0), .val (.int vb1), .val (.int vb2), .val (.ref b28), .val (.ref r39)] [(.ref b28), (.ref r39)])) X39 hx rfl rfl rfl (pc0 := 83) (pc' := 86) (same := false) rfl (hb hby at_83) rfl (decide_eq_false fun q => hne (Value.ref.inj q)) (by decide) (by decide) ?_
      show Steps p.tables e below (T39.setTop (mkF m 86 #[.val (.int x0), .val (.int x1), .val (.int (2 : Int32)), .val (.int vb0), .val (.int vb1), .val (.int vb2), .val (.ref b28), .val (.ref r39)] [])) _
      refine XS.aload X39.here hx rfl (hb hby at_86) rfl rfl ?_
      exact k)
    obtain ⟨cl44, Ar44, -, Sz44, Ng44, -, -⟩ := id VR39
    have p45 : ∀ t, Steps p.tables e below (T39.setTop (mkF m 100 #[.val (.int x0), .val (.int x1), .val (.int (2 : Int32)), .val (.int vb0), .val (.int vb1), .val (.int vb2), .val (.ref b28), .val (.ref r39)] [(.int ((2 : Int32) - (1 : Int32))), (.ref r39)])) t → Steps p.tables e below (s₁.setTop (entryFrame m #[(.int x0), (.int x1)] maxLocals)) t := fun t k => p43 t (by
      show Steps p.tables e below (T39.setTop (mkF m 88 #[.val (.int x0), .val (.int x1), .val (.int (2 : Int32)), .val (.int vb0), .val (.int vb1), .val (.int vb2), .val (.ref b28), .val (.ref r39)] [(.ref r39)])) _
      refine X39.arraylength hx Ar44.1 (State.isArrayOf_alike hZ.alike Ar44.2.1) (g := (mkF m 88 #[.val (.int x0), .val (.int x1), .val (.int (2 : Int32)), .val (.int vb0), .val (.int vb1), .val (.int vb2), .val (.ref b28), .val (.ref r39)] [(.ref r39)])) rfl rfl (hb hby at_88) _ ?_
      rw [len_of Sz44 Ng44]
      show Steps p.tables e below (T39.setTop (mkF m 89 #[.val (.int x0), .val (.int x1), .val (.int (2 : Int32)), .val (.int vb0), .val (.int vb1), .val (.int vb2), .val (.ref b28), .val (.ref r39)] [(.int (2 : Int32))])) _
      refine XS.iloadN X39.here hx rfl (hb hby at_89) rfl ?_
      show Steps p.tables e below (T39.setTop (mkF m 90 #[.val (.int x0), .val (.int x1), .val (.int (2 : Int32)), .val (.int vb0), .val (.int vb1), .val (.int vb2), .val (.ref b28), .val (.ref r39)] [(.int (2 : Int32)), (.int (2 : Int32))])) _
      refine XS.icmpYes X39.here hx rfl (pc0 := 90) (pc' := 95) rfl (hb hby at_90) rfl ((teq (rfl)).1) (by decide) (by decide) ?_
      show Steps p.tables e below (T39.setTop (mkF m 95 #[.val (.int x0), .val (.int x1), .val (.int (2 : Int32)), .val (.int vb0), .val (.int vb1), .val (.int vb2), .val (.ref b28), .val (.ref r39)] [])) _
      refine XS.aload X39.here hx rfl (hb hby at_95) rfl rfl ?_
      show Steps p.tables e below (T39.setTop (mkF m 97 #[.val (.int x0), .val (.int x1), .val (.int (2 : Int32)), .val (.int vb0), .val (.int vb1), .val (.int vb2), .val (.ref b28), .val (.ref r39)] [(.ref r39)])) _
      refine XS.iloadN X39.here hx rfl (hb hby at_97) rfl ?_
      show Steps p.tables e below (T39.setTop (mkF m 98 #[.val (.int x0), .val (.int x1), .val (.int (2 : Int32)), .val (.int vb0), .val (.int vb1), .val (.int vb2), .val (.ref b28), .val (.ref r39)] [(.int (2 : Int32)), (.ref r39)])) _
      refine XS.iconst X39.here hx rfl (hb hby at_98) ?_
      show Steps p.tables e below (T39.setTop (mkF m 99 #[.val (.int x0), .val (.int x1), .val (.int (2 : Int32)), .val (.int vb0), .val (.int vb1), .val (.int vb2), .val (.ref b28), .val (.ref r39)] [(.int (1 : Int32)), (.int (2 : Int32)), (.ref r39)])) _
      refine XS.isub X39.here hx rfl (hb hby at_99) rfl ?_
      exact k)
    obtain ⟨cl46, Ar46, q46, Sz46, Ng46, Hs46, G46⟩ := id VR39
    have hin46 : ¬ (((2 : Int32) - (1 : Int32)) < 0 ∨ cl46.slots.size ≤ (((2 : Int32) - (1 : Int32))).toNatClampNeg) := inb_of Sz46 ⟨by decide, by decide⟩
    have hat46 : cl46.slots[(((2 : Int32) - (1 : Int32))).toNatClampNeg]? = some (.int ((1 : Int32).toInt8.toInt32)) := Hs46.at hin46 (rfl)
    have p47 : ∀ t, Steps p.tables e below (T39.setTop (mkF m 110 #[.val (.int x0), .val (.int x1), .val (.int (2 : Int32)), .val (.int vb0), .val (.int vb1), .val (.int vb2), .val (.ref b28), .val (.ref r39)] [(.int ((2 : Int32) - (1 : Int32))), (.ref b28)])) t → Steps p.tables e below (s₁.setTop (entryFrame m #[(.int x0), (.int x1)] maxLocals)) t := fun t k => p45 t (by
      show Steps p.tables e below (T39.setTop (mkF m 100 #[.val (.int x0), .val (.int x1), .val (.int (2 : Int32)), .val (.int vb0), .val (.int vb1), .val (.int vb2), .val (.ref b28), .val (.ref r39)] [(.int ((2 : Int32) - (1 : Int32))), (.ref r39)])) _
      refine X39.baloadBytes hx (j := ((2 : Int32) - (1 : Int32))) (v := (.int ((1 : Int32).toInt8.toInt32))) Ar46.1 (State.isArrayOf_alike hZ.alike Ar46.2.1) Ar46.2.2 hin46 hat46 (g := (mkF m 100 #[.val (.int x0), .val (.int x1), .val (.int (2 : Int32)), .val (.int vb0), .val (.int vb1), .val (.int vb2), .val (.ref b28), .val (.ref r39)] [(.int ((2 : Int32) - (1 : Int32))), (.ref r39)])) rfl rfl (hb hby at_100) _ ?_
      show Steps p.tables e below (T39.setTop (mkF m 101 #[.val (.int x0), .val (.int x1), .val (.int (2 : Int32)), .val (.int vb0), .val (.int vb1), .val (.int vb2), .val (.ref b28), .val (.ref r39)] [(.int ((1 : Int32).toInt8.toInt32))])) _
      refine XS.iconst X39.here hx rfl (hb hby at_101) ?_
      show Steps p.tables e below (T39.setTop (mkF m 102 #[.val (.int x0), .val (.int x1), .val (.int (2 : Int32)), .val (.int vb0), .val (.int vb1), .val (.int vb2), .val (.ref b28), .val (.ref r39)] [(.int (1 : Int32)), (.int ((1 : Int32).toInt8.toInt32))])) _
      refine XS.icmpNo X39.here hx rfl (hb hby at_102) rfl ((teq (by decide)).2) ?_
      show Steps p.tables e below (T39.setTop (mkF m 105 #[.val (.int x0), .val (.int x1), .val (.int (2 : Int32)), .val (.int vb0), .val (.int vb1), .val (.int vb2), .val (.ref b28), .val (.ref r39)] [])) _
      refine XS.aload X39.here hx rfl (hb hby at_105) rfl rfl ?_
      show Steps p.tables e below (T39.setTop (mkF m 107 #[.val (.int x0), .val (.int x1), .val (.int (2 : Int32)), .val (.int vb0), .val (.int vb1), .val (.int vb2), .val (.ref b28), .val (.ref r39)] [(.ref b28)])) _
      refine XS.iloadN X39.here hx rfl (hb hby at_107) rfl ?_
      show Steps p.tables e below (T39.setTop (mkF m 108 #[.val (.int x0), .val (.int x1), .val (.int (2 : Int32)), .val (.int vb0), .val (.int vb1), .val (.int vb2), .val (.ref b28), .val (.ref r39)] [(.int (2 : Int32)), (.ref b28)])) _
      refine XS.iconst X39.here hx rfl (hb hby at_108) ?_
      show Steps p.tables e below (T39.setTop (mkF m 109 #[.val (.int x0), .val (.int x1), .val (.int (2 : Int32)), .val (.int vb0), .val (.int vb1), .val (.int vb2), .val (.ref b28), .val (.ref r39)] [(.int (1 : Int32)), (.int (2 : Int32)), (.ref b28)])) _
      refine XS.isub X39.here hx rfl (hb hby at_109) rfl ?_
      exact k)
    obtain ⟨cl48, Ar48, q48, Sz48, Ng48, Hs48, G48⟩ := id f41
    have hin48 : ¬ (((2 : Int32) - (1 : Int32)) < 0 ∨ cl48.slots.size ≤ (((2 : Int32) - (1 : Int32))).toNatClampNeg) := inb_of Sz48 ⟨by decide, by decide⟩
    have hat48 : cl48.slots[(((2 : Int32) - (1 : Int32))).toNatClampNeg]? = some (.int ((0 : Int32).toInt8.toInt32)) := Hs48.at hin48 (rfl)
    have p49 : ∀ t, Steps p.tables e below (T39.setTop (mkF m 124 #[.val (.int x0), .val (.int x1), .val (.int (2 : Int32)), .val (.int vb0), .val (.int vb1), .val (.int vb2), .val (.ref b28), .val (.ref r39)] [(.int (0 : Int32)), (.ref r39)])) t → Steps p.tables e below (s₁.setTop (entryFrame m #[(.int x0), (.int x1)] maxLocals)) t := fun t k => p47 t (by
      show Steps p.tables e below (T39.setTop (mkF m 110 #[.val (.int x0), .val (.int x1), .val (.int (2 : Int32)), .val (.int vb0), .val (.int vb1), .val (.int vb2), .val (.ref b28), .val (.ref r39)] [(.int ((2 : Int32) - (1 : Int32))), (.ref b28)])) _
      refine X39.baloadBytes hx (j := ((2 : Int32) - (1 : Int32))) (v := (.int ((0 : Int32).toInt8.toInt32))) Ar48.1 (State.isArrayOf_alike hZ.alike Ar48.2.1) Ar48.2.2 hin48 hat48 (g := (mkF m 110 #[.val (.int x0), .val (.int x1), .val (.int (2 : Int32)), .val (.int vb0), .val (.int vb1), .val (.int vb2), .val (.ref b28), .val (.ref r39)] [(.int ((2 : Int32) - (1 : Int32))), (.ref b28)])) rfl rfl (hb hby at_110) _ ?_
      show Steps p.tables e below (T39.setTop (mkF m 111 #[.val (.int x0), .val (.int x1), .val (.int (2 : Int32)), .val (.int vb0), .val (.int vb1), .val (.int vb2), .val (.ref b28), .val (.ref r39)] [(.int ((0 : Int32).toInt8.toInt32))])) _
      refine XS.ifYes X39.here hx rfl (pc0 := 111) (pc' := 116) rfl (hb hby at_111) rfl ((if0 _ _).trans (teq (by decide)).1) (by decide) (by decide) ?_
      show Steps p.tables e below (T39.setTop (mkF m 116 #[.val (.int x0), .val (.int x1), .val (.int (2 : Int32)), .val (.int vb0), .val (.int vb1), .val (.int vb2), .val (.ref b28), .val (.ref r39)] [])) _
      refine XS.iloadN X39.here hx rfl (hb hby at_116) rfl ?_
      show Steps p.tables e below (T39.setTop (mkF m 117 #[.val (.int x0), .val (.int x1), .val (.int (2 : Int32)), .val (.int vb0), .val (.int vb1), .val (.int vb2), .val (.ref b28), .val (.ref r39)] [(.int (2 : Int32))])) _
      refine XS.iconst X39.here hx rfl (hb hby at_117) ?_
      show Steps p.tables e below (T39.setTop (mkF m 118 #[.val (.int x0), .val (.int x1), .val (.int (2 : Int32)), .val (.int vb0), .val (.int vb1), .val (.int vb2), .val (.ref b28), .val (.ref r39)] [(.int (1 : Int32)), (.int (2 : Int32))])) _
      refine XS.icmpNo X39.here hx rfl (hb hby at_118) rfl ((tlt (by decide)).2.2.2) ?_
      show Steps p.tables e below (T39.setTop (mkF m 121 #[.val (.int x0), .val (.int x1), .val (.int (2 : Int32)), .val (.int vb0), .val (.int vb1), .val (.int vb2), .val (.ref b28), .val (.ref r39)] [])) _
      refine XS.aload X39.here hx rfl (hb hby at_121) rfl rfl ?_
      show Steps p.tables e below (T39.setTop (mkF m 123 #[.val (.int x0), .val (.int x1), .val (.int (2 : Int32)), .val (.int vb0), .val (.int vb1), .val (.int vb2), .val (.ref b28), .val (.ref r39)] [(.ref r39)])) _
      refine XS.iconst X39.here hx rfl (hb hby at_123) ?_
      exact k)
    obtain ⟨cl50, Ar50, q50, Sz50, Ng50, Hs50, G50⟩ := id VR39
    have hin50 : ¬ ((0 : Int32) < 0 ∨ cl50.slots.size ≤ ((0 : Int32)).toNatClampNeg) := inb_of Sz50 ⟨by decide, by decide⟩
    have hat50 : cl50.slots[((0 : Int32)).toNatClampNeg]? = some (.int (vb0.toInt8.toInt32)) := Hs50.at hin50 (rfl)
    have p51 : ∀ t, Steps p.tables e below (T39.setTop (mkF m 132 #[.val (.int x0), .val (.int x1), .val (.int (2 : Int32)), .val (.int vb0), .val (.int vb1), .val (.int vb2), .val (.ref b28), .val (.ref r39)] [(.int (0 : Int32)), (.ref b28)])) t → Steps p.tables e below (s₁.setTop (entryFrame m #[(.int x0), (.int x1)] maxLocals)) t := fun t k => p49 t (by
      show Steps p.tables e below (T39.setTop (mkF m 124 #[.val (.int x0), .val (.int x1), .val (.int (2 : Int32)), .val (.int vb0), .val (.int vb1), .val (.int vb2), .val (.ref b28), .val (.ref r39)] [(.int (0 : Int32)), (.ref r39)])) _
      refine X39.baloadBytes hx (j := (0 : Int32)) (v := (.int (vb0.toInt8.toInt32))) Ar50.1 (State.isArrayOf_alike hZ.alike Ar50.2.1) Ar50.2.2 hin50 hat50 (g := (mkF m 124 #[.val (.int x0), .val (.int x1), .val (.int (2 : Int32)), .val (.int vb0), .val (.int vb1), .val (.int vb2), .val (.ref b28), .val (.ref r39)] [(.int (0 : Int32)), (.ref r39)])) rfl rfl (hb hby at_124) _ ?_
      show Steps p.tables e below (T39.setTop (mkF m 125 #[.val (.int x0), .val (.int x1), .val (.int (2 : Int32)), .val (.int vb0), .val (.int vb1), .val (.int vb2), .val (.ref b28), .val (.ref r39)] [(.int (vb0.toInt8.toInt32))])) _
      refine XS.iloadN X39.here hx rfl (hb hby at_125) rfl ?_
      show Steps p.tables e below (T39.setTop (mkF m 126 #[.val (.int x0), .val (.int x1), .val (.int (2 : Int32)), .val (.int vb0), .val (.int vb1), .val (.int vb2), .val (.ref b28), .val (.ref r39)] [(.int vb0), (.int (vb0.toInt8.toInt32))])) _
      refine XS.icmpNo X39.here hx rfl (hb hby at_126) rfl ((teq ((by rw [hvb0]; exact own_b2 _))).2) ?_
      show Steps p.tables e below (T39.setTop (mkF m 129 #[.val (.int x0), .val (.int x1), .val (.int (2 : Int32)), .val (.int vb0), .val (.int vb1), .val (.int vb2), .val (.ref b28), .val (.ref r39)] [])) _
      refine XS.aload X39.here hx rfl (hb hby at_129) rfl rfl ?_
      show Steps p.tables e below (T39.setTop (mkF m 131 #[.val (.int x0), .val (.int x1), .val (.int (2 : Int32)), .val (.int vb0), .val (.int vb1), .val (.int vb2), .val (.ref b28), .val (.ref r39)] [(.ref b28)])) _
      refine XS.iconst X39.here hx rfl (hb hby at_131) ?_
      exact k)
    obtain ⟨cl52, Ar52, q52, Sz52, Ng52, Hs52, G52⟩ := id f41
    have hin52 : ¬ ((0 : Int32) < 0 ∨ cl52.slots.size ≤ ((0 : Int32)).toNatClampNeg) := inb_of Sz52 ⟨by decide, by decide⟩
    have hat52 : cl52.slots[((0 : Int32)).toNatClampNeg]? = some (.int (vb0.toInt8.toInt32)) := Hs52.at hin52 (rfl)
    have p53 : ∀ t, Steps p.tables e below (T39.setTop (mkF m 190 #[.val (.int x0), .val (.int x1), .val (.int (2 : Int32)), .val (.int vb0), .val (.int vb1), .val (.int vb2), .val (.ref b28), .val (.ref r39)] [(.int (1 : Int32))])) t → Steps p.tables e below (s₁.setTop (entryFrame m #[(.int x0), (.int x1)] maxLocals)) t := fun t k => p51 t (by
      show Steps p.tables e below (T39.setTop (mkF m 132 #[.val (.int x0), .val (.int x1), .val (.int (2 : Int32)), .val (.int vb0), .val (.int vb1), .val (.int vb2), .val (.ref b28), .val (.ref r39)] [(.int (0 : Int32)), (.ref b28)])) _
      refine X39.baloadBytes hx (j := (0 : Int32)) (v := (.int (vb0.toInt8.toInt32))) Ar52.1 (State.isArrayOf_alike hZ.alike Ar52.2.1) Ar52.2.2 hin52 hat52 (g := (mkF m 132 #[.val (.int x0), .val (.int x1), .val (.int (2 : Int32)), .val (.int vb0), .val (.int vb1), .val (.int vb2), .val (.ref b28), .val (.ref r39)] [(.int (0 : Int32)), (.ref b28)])) rfl rfl (hb hby at_132) _ ?_
      show Steps p.tables e below (T39.setTop (mkF m 133 #[.val (.int x0), .val (.int x1), .val (.int (2 : Int32)), .val (.int vb0), .val (.int vb1), .val (.int vb2), .val (.ref b28), .val (.ref r39)] [(.int (vb0.toInt8.toInt32))])) _
      refine XS.iloadN X39.here hx rfl (hb hby at_133) rfl ?_
      show Steps p.tables e below (T39.setTop (mkF m 134 #[.val (.int x0), .val (.int x1), .val (.int (2 : Int32)), .val (.int vb0), .val (.int vb1), .val (.int vb2), .val (.ref b28), .val (.ref r39)] [(.int vb0), (.int (vb0.toInt8.toInt32))])) _
      refine XS.icmpYes X39.here hx rfl (pc0 := 134) (pc' := 139) rfl (hb hby at_134) rfl ((teq ((by rw [hvb0]; exact own_b2 _))).1) (by decide) (by decide) ?_
      show Steps p.tables e below (T39.setTop (mkF m 139 #[.val (.int x0), .val (.int x1), .val (.int (2 : Int32)), .val (.int vb0), .val (.int vb1), .val (.int vb2), .val (.ref b28), .val (.ref r39)] [])) _
      refine XS.iloadN X39.here hx rfl (hb hby at_139) rfl ?_
      show Steps p.tables e below (T39.setTop (mkF m 140 #[.val (.int x0), .val (.int x1), .val (.int (2 : Int32)), .val (.int vb0), .val (.int vb1), .val (.int vb2), .val (.ref b28), .val (.ref r39)] [(.int (2 : Int32))])) _
      refine XS.iconst X39.here hx rfl (hb hby at_140) ?_
      show Steps p.tables e below (T39.setTop (mkF m 141 #[.val (.int x0), .val (.int x1), .val (.int (2 : Int32)), .val (.int vb0), .val (.int vb1), .val (.int vb2), .val (.ref b28), .val (.ref r39)] [(.int (2 : Int32)), (.int (2 : Int32))])) _
      refine XS.icmpYes X39.here hx rfl (pc0 := 141) (pc' := 164) rfl (hb hby at_141) rfl ((flt (by decide)).2.2.2) (by decide) (by decide) ?_
      show Steps p.tables e below (T39.setTop (mkF m 164 #[.val (.int x0), .val (.int x1), .val (.int (2 : Int32)), .val (.int vb0), .val (.int vb1), .val (.int vb2), .val (.ref b28), .val (.ref r39)] [])) _
      refine XS.iloadN X39.here hx rfl (hb hby at_164) rfl ?_
      show Steps p.tables e below (T39.setTop (mkF m 165 #[.val (.int x0), .val (.int x1), .val (.int (2 : Int32)), .val (.int vb0), .val (.int vb1), .val (.int vb2), .val (.ref b28), .val (.ref r39)] [(.int (2 : Int32))])) _
      refine XS.iconst X39.here hx rfl (hb hby at_165) ?_
      show Steps p.tables e below (T39.setTop (mkF m 166 #[.val (.int x0), .val (.int x1), .val (.int (2 : Int32)), .val (.int vb0), .val (.int vb1), .val (.int vb2), .val (.ref b28), .val (.ref r39)] [(.int (3 : Int32)), (.int (2 : Int32))])) _
      refine XS.icmpYes X39.here hx rfl (pc0 := 166) (pc' := 189) rfl (hb hby at_166) rfl ((flt (by decide)).2.2.2) (by decide) (by decide) ?_
      show Steps p.tables e below (T39.setTop (mkF m 189 #[.val (.int x0), .val (.int x1), .val (.int (2 : Int32)), .val (.int vb0), .val (.int vb1), .val (.int vb2), .val (.ref b28), .val (.ref r39)] [])) _
      refine XS.iconst X39.here hx rfl (hb hby at_189) ?_
      exact k)
    obtain ⟨fs, hr, hrun, hended, hW, hsame⟩ := X39.leave (v := some (.int (1 : Int32))) (fun h => by rw [Bd.returns] at h; cases h)
    refine ⟨_, _, p53 _ ?_, hrun, hended, _, _, rfl, ?_, ⟨_, rfl⟩, hW, hsame.mono (by decide) (by decide)⟩
    · show Steps p.tables e below (T39.setTop (mkF m 190 #[.val (.int x0), .val (.int x1), .val (.int (2 : Int32)), .val (.int vb0), .val (.int vb1), .val (.int vb2), .val (.ref b28), .val (.ref r39)] [(.int (1 : Int32))])) _
      exact retN X39 hx (t := .boolean) Bd.returns (by simp) (hb hby at_190) hr
    · show Q0 Z x0 x1 h0 n0 _ T39.heap _
      skip
      exact ⟨rfl, N39⟩
  · obtain ⟨T54, h54, k54, X54, e54, E54, A54, EA54, st54⟩ := newPE X0 hx hZ (hw _ (List.mem_of_getElem? (i := 0) rfl)) e0 (g := (mkF m 24 #[.val (.int x0), .val (.int x1), .val (.int (3 : Int32)), .val (.int vb0), .val (.int vb1), .val (.int vb2), .unset, .unset] [(.int (3 : Int32))])) rfl (hb hby at_24) rfl (by decide) (cap := 3) (by decide) (by decide) (by decide) (by decide) (ad := "[B") (by decide)
    obtain ⟨b54, g54⟩ : ∃ z, z = h0.size := ⟨_, rfl⟩
    rw [← g54] at A54 st54 EA54
    have gn_b54 : n0 ≤ b54 := Nat.le_trans Z0 (Nat.le_of_eq g54.symm)
    have Z54 := Nat.le_trans Z0 E54.1
    have VV54 : Arv Z h54 b54 k54 .byte (3 : Int32) [(.int (0 : Int32)), (.int (0 : Int32)), (.int (0 : Int32))] (.int (0 : Int32)) := (Arv.new A54 (by decide)).pad (pad_rep [] (.int (0 : Int32)) 3)
    have p55 : ∀ t, Steps p.tables e below (T54.setTop (mkF m 26 #[.val (.int x0), .val (.int x1), .val (.int (3 : Int32)), .val (.int vb0), .val (.int vb1), .val (.int vb2), .unset, .unset] [(.ref b54)])) t → Steps p.tables e below (s₁.setTop (entryFrame m #[(.int x0), (.int x1)] maxLocals)) t := fun t k => p9 t (st54 t k)
    have p56 : ∀ t, Steps p.tables e below (T54.setTop (mkF m 37 #[.val (.int x0), .val (.int x1), .val (.int (3 : Int32)), .val (.int vb0), .val (.int vb1), .val (.int vb2), .val (.ref b54), .unset] [(.int vb0), (.int (0 : Int32)), (.ref b54)])) t → Steps p.tables e below (s₁.setTop (entryFrame m #[(.int x0), (.int x1)] maxLocals)) t := fun t k => p55 t (by
      show Steps p.tables e below (T54.setTop (mkF m 26 #[.val (.int x0), .val (.int x1), .val (.int (3 : Int32)), .val (.int vb0), .val (.int vb1), .val (.int vb2), .unset, .unset] [(.ref b54)])) _
      refine XS.astore X54.here hx rfl (hb hby at_26) rfl rfl (l' := #[.val (.int x0), .val (.int x1), .val (.int (3 : Int32)), .val (.int vb0), .val (.int vb1), .val (.int vb2), .val (.ref b54), .unset]) rfl ?_
      show Steps p.tables e below (T54.setTop (mkF m 28 #[.val (.int x0), .val (.int x1), .val (.int (3 : Int32)), .val (.int vb0), .val (.int vb1), .val (.int vb2), .val (.ref b54), .unset] [])) _
      refine XS.iloadN X54.here hx rfl (hb hby at_28) rfl ?_
      show Steps p.tables e below (T54.setTop (mkF m 29 #[.val (.int x0), .val (.int x1), .val (.int (3 : Int32)), .val (.int vb0), .val (.int vb1), .val (.int vb2), .val (.ref b54), .unset] [(.int (3 : Int32))])) _
      refine XS.iconst X54.here hx rfl (hb hby at_29) ?_
      show Steps p.tables e below (T54.setTop (mkF m 30 #[.val (.int x0), .val (.int x1), .val (.int (3 : Int32)), .val (.int vb0), .val (.int vb1), .val (.int vb2), .val (.ref b54), .unset] [(.int (1 : Int32)), (.int (3 : Int32))])) _
      refine XS.icmpNo X54.here hx rfl (hb hby at_30) rfl ((tlt (by decide)).2.2.2) ?_
      show Steps p.tables e below (T54.setTop (mkF m 33 #[.val (.int x0), .val (.int x1), .val (.int (3 : Int32)), .val (.int vb0), .val (.int vb1), .val (.int vb2), .val (.ref b54), .unset] [])) _
      refine XS.aload X54.here hx rfl (hb hby at_33) rfl rfl ?_
      show Steps p.tables e below (T54.setTop (mkF m 35 #[.val (.int x0), .val (.int x1), .val (.int (3 : Int32)), .val (.int vb0), .val (.int vb1), .val (.int vb2), .val (.ref b54), .unset] [(.ref b54)])) _
      refine XS.iconst X54.here hx rfl (hb hby at_35) ?_
      show Steps p.tables e below (T54.setTop (mkF m 36 #[.val (.int x0), .val (.int x1), .val (.int (3 : Int32)), .val (.int vb0), .val (.int vb1), .val (.int vb2), .val (.ref b54), .unset] [(.int (0 : Int32)), (.ref b54)])) _
      refine XS.iloadN X54.here hx rfl (hb hby at_36) rfl ?_
      exact k)
    obtain ⟨cl57, Ar57, q57, Sz57, Ng57, Hs57, G57⟩ := id VV54
    have hin57 : ¬ ((0 : Int32) < 0 ∨ cl57.slots.size ≤ ((0 : Int32)).toNatClampNeg) := inb_of Sz57 (⟨by decide, by decide⟩)
    obtain ⟨T57, h57, X57, e57, W57, st57⟩ := stB X54 hx hZ e54 Ar57 (j := (0 : Int32)) hin57 (g := (mkF m 37 #[.val (.int x0), .val (.int x1), .val (.int (3 : Int32)), .val (.int vb0), .val (.int vb1), .val (.int vb2), .val (.ref b54), .unset] [(.int vb0), (.int (0 : Int32)), (.ref b54)])) rfl rfl (hb hby at_37)
    have VV57 : Arv Z h57 b54 k54 .byte (3 : Int32) [(.int (vb0.toInt8.toInt32)), (.int (0 : Int32)), (.int (0 : Int32))] (.int (0 : Int32)) := Arv.set Ar57 q57 Sz57 Ng57 Hs57 G57 (fits_nar_byte _) W57 0 (by decide) (Nat.le_of_ble_eq_true rfl)
    have f58 := EA54.wr W57
    have Z57 := Nat.le_trans Z54 (Keep.of_wr W57).1
    have N57 := Fr.snoc X57 N0 gn_b54
    have p59 : ∀ t, Steps p.tables e below (T57.setTop (mkF m 38 #[.val (.int x0), .val (.int x1), .val (.int (3 : Int32)), .val (.int vb0), .val (.int vb1), .val (.int vb2), .val (.ref b54), .unset] [])) t → Steps p.tables e below (s₁.setTop (entryFrame m #[(.int x0), (.int x1)] maxLocals)) t := fun t k => p56 t (st57 t k)
    have p60 : ∀ t, Steps p.tables e below (T57.setTop (mkF m 48 #[.val (.int x0), .val (.int x1), .val (.int (3 : Int32)), .val (.int vb0), .val (.int vb1), .val (.int vb2), .val (.ref b54), .unset] [(.int vb1), (.int (1 : Int32)), (.ref b54)])) t → Steps p.tables e below (s₁.setTop (entryFrame m #[(.int x0), (.int x1)] maxLocals)) t := fun t k => p59 t (by
      show Steps p.tables e below (T57.setTop (mkF m 38 #[.val (.int x0), .val (.int x1), .val (.int (3 : Int32)), .val (.int vb0), .val (.int vb1), .val (.int vb2), .val (.ref b54), .unset] [])) _
      refine XS.iloadN X57.here hx rfl (hb hby at_38) rfl ?_
      show Steps p.tables e below (T57.setTop (mkF m 39 #[.val (.int x0), .val (.int x1), .val (.int (3 : Int32)), .val (.int vb0), .val (.int vb1), .val (.int vb2), .val (.ref b54), .unset] [(.int (3 : Int32))])) _
      refine XS.iconst X57.here hx rfl (hb hby at_39) ?_
      show Steps p.tables e below (T57.setTop (mkF m 40 #[.val (.int x0), .val (.int x1), .val (.int (3 : Int32)), .val (.int vb0), .val (.int vb1), .val (.int vb2), .val (.ref b54), .unset] [(.int (2 : Int32)), (.int (3 : Int32))])) _
      refine XS.icmpNo X57.here hx rfl (hb hby at_40) rfl ((tlt (by decide)).2.2.2) ?_
      show Steps p.tables e below (T57.setTop (mkF m 43 #[.val (.int x0), .val (.int x1), .val (.int (3 : Int32)), .val (.int vb0), .val (.int vb1), .val (.int vb2), .val (.ref b54), .unset] [])) _
      refine XS.aload X57.here hx rfl (hb hby at_43) rfl rfl ?_
      show Steps p.tables e below (T57.setTop (mkF m 45 #[.val (.int x0), .val (.int x1), .val (.int (3 : Int32)), .val (.int vb0), .val (.int vb1), .val (.int vb2), .val (.ref b54), .unset] [(.ref b54)])) _
      refine XS.iconst X57.here hx rfl (hb hby at_45) ?_
      show Steps p.tables e below (T57.setTop (mkF m 46 #[.val (.int x0), .val (.int x1), .val (.int (3 : Int32)), .val (.int vb0), .val (.int vb1), .val (.int vb2), .val (.ref b54), .unset] [(.int (1 : Int32)), (.ref b54)])) _
      refine XS.iload X57.here hx rfl (hb hby at_46) rfl ?_
      exact k)
    obtain ⟨cl61, Ar61, q61, Sz61, Ng61, Hs61, G61⟩ := id VV57
    have hin61 : ¬ ((1 : Int32) < 0 ∨ cl61.slots.size ≤ ((1 : Int32)).toNatClampNeg) := inb_of Sz61 (⟨by decide, by decide⟩)
    obtain ⟨T61, h61, X61, e61, W61, st61⟩ := stB X57 hx hZ e57 Ar61 (j := (1 : Int32)) hin61 (g := (mkF m 48 #[.val (.int x0), .val (.int x1), .val (.int (3 : Int32)), .val (.int vb0), .val (.int vb1), .val (.int vb2), .val (.ref b54), .unset] [(.int vb1), (.int (1 : Int32)), (.ref b54)])) rfl rfl (hb hby at_48)
    have VV61 : Arv Z h61 b54 k54 .byte (3 : Int32) [(.int (vb0.toInt8.toInt32)), (.int (vb1.toInt8.toInt32)), (.int (0 : Int32))] (.int (0 : Int32)) := Arv.set Ar61 q61 Sz61 Ng61 Hs61 G61 (fits_nar_byte _) W61 1 (by decide) (Nat.le_of_ble_eq_true rfl)
    have f62 := f58.wr W61
    have Z61 := Nat.le_trans Z57 (Keep.of_wr W61).1
    have N61 := Fr.snoc X61 N57 gn_b54
    have p63 : ∀ t, Steps p.tables e below (T61.setTop (mkF m 49 #[.val (.int x0), .val (.int x1), .val (.int (3 : Int32)), .val (.int vb0), .val (.int vb1), .val (.int vb2), .val (.ref b54), .unset] [])) t → Steps p.tables e below (s₁.setTop (entryFrame m #[(.int x0), (.int x1)] maxLocals)) t := fun t k => p60 t (st61 t k)
    have p64 : ∀ t, Steps p.tables e below (T61.setTop (mkF m 66 #[.val (.int x0), .val (.int x1), .val (.int (3 : Int32)), .val (.int vb0), .val (.int vb1), .val (.int vb2), .val (.ref b54), .unset] [(.int (0 : Int32)), (.int ((3 : Int32) - (1 : Int32))), (.ref b54)])) t → Steps p.tables e below (s₁.setTop (entryFrame m #[(.int x0), (.int x1)] maxLocals)) t := fun t k => p63 t (by
      show Steps p.tables e below (T61.setTop (mkF m 49 #[.val (.int x0), .val (.int x1), .val (.int (3 : Int32)), .val (.int vb0), .val (.int vb1), .val (.int vb2), .val (.ref b54), .unset] [])) _
      refine XS.iloadN X61.here hx rfl (hb hby at_49) rfl ?_
      show Steps p.tables e below (T61.setTop (mkF m 50 #[.val (.int x0), .val (.int x1), .val (.int (3 : Int32)), .val (.int vb0), .val (.int vb1), .val (.int vb2), .val (.ref b54), .unset] [(.int (3 : Int32))])) _
      refine XS.iconst X61.here hx rfl (hb hby at_50) ?_
      show Steps p.tables e below (T61.setTop (mkF m 51 #[.val (.int x0), .val (.int x1), .val (.int (3 : Int32)), .val (.int vb0), .val (.int vb1), .val (.int vb2), .val (.ref b54), .unset] [(.int (3 : Int32)), (.int (3 : Int32))])) _
      refine XS.icmpYes X61.here hx rfl (pc0 := 51) (pc' := 60) rfl (hb hby at_51) rfl ((flt (by decide)).2.2.2) (by decide) (by decide) ?_
      show Steps p.tables e below (T61.setTop (mkF m 60 #[.val (.int x0), .val (.int x1), .val (.int (3 : Int32)), .val (.int vb0), .val (.int vb1), .val (.int vb2), .val (.ref b54), .unset] [])) _
      refine XS.aload X61.here hx rfl (hb hby at_60) rfl rfl ?_
      show Steps p.tables e below (T61.setTop (mkF m 62 #[.val (.int x0), .val (.int x1), .val (.int (3 : Int32)), .val (.int vb0), .val (.int vb1), .val (.int vb2), .val (.ref b54), .unset] [(.ref b54)])) _
      refine XS.iloadN X61.here hx rfl (hb hby at_62) rfl ?_
      show Steps p.tables e below (T61.setTop (mkF m 63 #[.val (.int x0), .val (.int x1), .val (.int (3 : Int32)), .val (.int vb0), .val (.int vb1), .val (.int vb2), .val (.ref b54), .unset] [(.int (3 : Int32)), (.ref b54)])) _
      refine XS.iconst X61.here hx rfl (hb hby at_63) ?_
      show Steps p.tables e below (T61.setTop (mkF m 64 #[.val (.int x0), .val (.int x1), .val (.int (3 : Int32)), .val (.int vb0), .val (.int vb1), .val (.int vb2), .val (.ref b54), .unset] [(.int (1 : Int32)), (.int (3 : Int32)), (.ref b54)])) _
      refine XS.isub X61.here hx rfl (hb hby at_64) rfl ?_
      show Steps p.tables e below (T61.setTop (mkF m 65 #[.val (.int x0), .val (.int x1), .val (.int (3 : Int32)), .val (.int vb0), .val (.int vb1), .val (.int vb2), .val (.ref b54), .unset] [(.int ((3 : Int32) - (1 : Int32))), (.ref b54)])) _
      refine XS.iconst X61.here hx rfl (hb hby at_65) ?_
      exact k)
    obtain ⟨cl65, Ar65, q65, Sz65, Ng65, Hs65, G65⟩ := id VV61
    have hin65 : ¬ (((3 : Int32) - (1 : Int32)) < 0 ∨ cl65.slots.size ≤ (((3 : Int32) - (1 : Int32))).toNatClampNeg) := inb_of Sz65 (⟨by decide, by decide⟩)
    obtain ⟨T65, h65, X65, e65, W65, st65⟩ := stB X61 hx hZ e61 Ar65 (j := ((3 : Int32) - (1 : Int32))) hin65 (g := (mkF m 66 #[.val (.int x0), .val (.int x1), .val (.int (3 : Int32)), .val (.int vb0), .val (.int vb1), .val (.int vb2), .val (.ref b54), .unset] [(.int (0 : Int32)), (.int ((3 : Int32) - (1 : Int32))), (.ref b54)])) rfl rfl (hb hby at_66)
    have VV65 : Arv Z h65 b54 k54 .byte (3 : Int32) [(.int (vb0.toInt8.toInt32)), (.int (vb1.toInt8.toInt32)), (.int ((0 : Int32).toInt8.toInt32))] (.int (0 : Int32)) := Arv.set Ar65 q65 Sz65 Ng65 Hs65 G65 (fits_nar_byte _) W65 2 (by decide) (Nat.le_of_ble_eq_true rfl)
    have f66 := f62.wr W65
    have Z65 := Nat.le_trans Z61 (Keep.of_wr W65).1
    have N65 := Fr.snoc X65 N61 gn_b54
    have p67 : ∀ t, Steps p.tables e below (T65.setTop (mkF m 67 #[.val (.int x0), .val (.int x1), .val (.int (3 : Int32)), .val (.int vb0), .val (.int vb1), .val (.int vb2), .val (.ref b54), .unset] [])) t → Steps p.tables e below (s₁.setTop (entryFrame m #[(.int x0), (.int x1)] maxLocals)) t := fun t k => p64 t (st65 t k)
    have p68 : ∀ t, Steps p.tables e below (T65.setTop (mkF m 69 #[.val (.int x0), .val (.int x1), .val (.int (3 : Int32)), .val (.int vb0), .val (.int vb1), .val (.int vb2), .val (.ref b54), .unset] [(.ref b54)])) t → Steps p.tables e below (s₁.setTop (entryFrame m #[(.int x0), (.int x1)] maxLocals)) t := fun t k => p67 t (by
      show Steps p.tables e below (T65.setTop (mkF m 67 #[.val (.int x0), .val (.int x1), .val (.int (3 : Int32)), .val (.int vb0), .val (.int vb1), .val (.int vb2), .val (.ref b54), .unset] [])) _
      refine XS.aload X65.here hx rfl (hb hby at_67) rfl rfl ?_
      exact k)
    obtain ⟨_, _, ⟨T69, L69, k69, n69⟩, -, X69, ⟨Lc69, hQ69, l69, y69, z69⟩, st69⟩ := Jvm.LawKit.callS X65 hx (y := (⟨"com/example/disposition/disposition/store/Keys", "pastPrefix", "([B)[B"⟩ : MethodName)) hown (mvT hZ (hw _ (List.mem_of_getElem? (i := 1) rfl))) (mvT hZ (hw _ (List.mem_of_getElem? (i := 2) rfl))) (mvT hZ (hw _ (List.mem_of_getElem? (i := 3) rfl))) (mvT hZ (hw _ (List.mem_of_getElem? (i := 4) rfl))) (by decide) (backOf (W := 0) (rmc3 l Z a0 hw [] b54 k54 (vb0.toInt8.toInt32) (vb1.toInt8.toInt32) ((0 : Int32).toInt8.toInt32) h65 n0 Z65 VV65 f66) hZ (hw _ (List.mem_of_getElem? (i := 4) rfl)) (hw _ (List.mem_of_getElem? (i := 3) rfl)) (by decide) (by decide)) (g := (mkF m 69 #[.val (.int x0), .val (.int x1), .val (.int (3 : Int32)), .val (.int vb0), .val (.int vb1), .val (.int vb2), .val (.ref b54), .unset] [(.ref b54)])) rfl (by rw [hml]; rfl) (argsL := [(.ref b54)]) (rest := []) (lenOf pd0_0 rfl) rfl (by show 2 * 0 + _ ≤ _; exact Nat.le_of_eq rfl) (hb hby at_69) (fun _ _ => ⟨rfl, e65, (by decide : 1 + 1 ≤ _), (by decide : 3 + 3 ≤ _)⟩)
    dsimp only [Pt.U, Pt.locs, Pt.cells, Pt.slots] at X69 l69 y69 z69 st69 hQ69
    subst l69 y69 z69
    obtain ⟨r69, rfl, Nq69, K69, gr69, VR69⟩ := hQ69
    have N69 := Fr.app N65 Nq69
    have f70 := f66.keep K69
    have f71 := VV65.keep K69 nin0
    have Z69 := Nat.le_trans Z65 K69.1
    have p72 : ∀ t, Steps p.tables e below (T69.setTop (mkF m 72 #[.val (.int x0), .val (.int x1), .val (.int (3 : Int32)), .val (.int vb0), .val (.int vb1), .val (.int vb2), .val (.ref b54), .unset] [(.ref r69)])) t → Steps p.tables e below (s₁.setTop (entryFrame m #[(.int x0), (.int x1)] maxLocals)) t := fun t k => p68 t (st69 _ k)
    have hne : r69 ≠ b54 := Ne.symm (Nat.ne_of_lt (Nat.lt_of_lt_of_le VV65.lt gr69))
    have p73 : ∀ t, Steps p.tables e below (T69.setTop (mkF m 88 #[.val (.int x0), .val (.int x1), .val (.int (3 : Int32)), .val (.int vb0), .val (.int vb1), .val (.int vb2), .val (.ref b54), .val (.ref r69)] [(.ref r69)])) t → Steps p.tables e below (s₁.setTop (entryFrame m #[(.int x0), (.int x1)] maxLocals)) t := fun t k => p72 t (by
      show Steps p.tables e below (T69.setTop (mkF m 72 #[.val (.int x0), .val (.int x1), .val (.int (3 : Int32)), .val (.int vb0), .val (.int vb1), .val (.int vb2), .val (.ref b54), .unset] [(.ref r69)])) _
      refine XS.astore X69.here hx rfl (hb hby at_72) rfl rfl (l' := #[.val (.int x0), .val (.int x1), .val (.int (3 : Int32)), .val (.int vb0), .val (.int vb1), .val (.int vb2), .val (.ref b54), .val (.ref r69)]) rfl ?_
      show Steps p.tables e below (T69.setTop (mkF m 74 #[.val (.int x0), .val (.int x1), .val (.int (3 : Int32)), .val (.int vb0), .val (.int vb1), .val (.int vb2), .val (.ref b54), .val (.ref r69)] [])) _
      refine XS.aload X69.here hx rfl (hb hby at_74) rfl rfl ?_
      show Steps p.tables e below (T69.setTop (mkF m 76 #[.val (.int x0), .val (.int x1), .val (.int (3 : Int32)), .val (.int vb0), .val (.int vb1), .val (.int vb2), .val (.ref b54), .val (.ref r69)] [(.ref r69)])) _
      refine XS.ifnullNo X69.here hx rfl (hb hby at_76) rfl ?_
      show Steps p.tables e below (T69.setTop (mkF m 79 #[.val (.int x0), .val (.int x1), .val (.int (3 : Int32)), .val (.int vb0), .val (.int vb1), .val (.int vb2), .val (.ref b54), .val (.ref r69)] [])) _
      refine XS.aload X69.here hx rfl (hb hby at_79) rfl rfl ?_
      show Steps p.tables e below (T69.setTop (mkF m 81 #[.val (.int x0), .val (.int x1), .val (.int (3 : Int32)), .val (.int vb0), .val (.int vb1), .val (.int vb2), .val (.ref b54), .val (.ref r69)] [(.ref r69)])) _
      refine XS.aload X69.here hx rfl (hb hby at_81) rfl rfl ?_
      show Steps p.tables e below (T69.setTop (mkF m 83 #[.val (.int x0), .val (.int x1), .val (.int (3 : Int32)), .val (.int vb0), .val (.int vb1), .val (.int vb2), .val (.ref b54), .val (.ref r69)] [(.ref b54), (.ref r69)])) _
      refine Jvm.RoadKit.acmp (g := (mkF m 83 #[.val (.int x0), .val (.int x1), .val (.int (3 : Int32)), .val (.int vb0), .val (.int vb1), .val (.int vb2), .val (.ref b54), .val (.ref r69)] [(.ref b54), (.ref r69)])) X69 hx rfl rfl rfl (pc0 := 83) (pc' := 86) (same := false) rfl (hb hby at_83) rfl (decide_eq_false fun q => hne (Value.ref.inj q)) (by decide) (by decide) ?_
      show Steps p.tables e below (T69.setTop (mkF m 86 #[.val (.int x0), .val (.int x1), .val (.int (3 : Int32)), .val (.int vb0), .val (.int vb1), .val (.int vb2), .val (.ref b54), .val (.ref r69)] [])) _
      refine XS.aload X69.here hx rfl (hb hby at_86) rfl rfl ?_
      exact k)
    obtain ⟨cl74, Ar74, -, Sz74, Ng74, -, -⟩ := id VR69
    have p75 : ∀ t, Steps p.tables e below (T69.setTop (mkF m 100 #[.val (.int x0), .val (.int x1), .val (.int (3 : Int32)), .val (.int vb0), .val (.int vb1), .val (.int vb2), .val (.ref b54), .val (.ref r69)] [(.int ((3 : Int32) - (1 : Int32))), (.ref r69)])) t → Steps p.tables e below (s₁.setTop (entryFrame m #[(.int x0), (.int x1)] maxLocals)) t := fun t k => p73 t (by
      show Steps p.tables e below (T69.setTop (mkF m 88 #[.val (.int x0), .val (.int x1), .val (.int (3 : Int32)), .val (.int vb0), .val (.int vb1), .val (.int vb2), .val (.ref b54), .val (.ref r69)] [(.ref r69)])) _
      refine X69.arraylength hx Ar74.1 (State.isArrayOf_alike hZ.alike Ar74.2.1) (g := (mkF m 88 #[.val (.int x0), .val (.int x1), .val (.int (3 : Int32)), .val (.int vb0), .val (.int vb1), .val (.int vb2), .val (.ref b54), .val (.ref r69)] [(.ref r69)])) rfl rfl (hb hby at_88) _ ?_
      rw [len_of Sz74 Ng74]
      show Steps p.tables e below (T69.setTop (mkF m 89 #[.val (.int x0), .val (.int x1), .val (.int (3 : Int32)), .val (.int vb0), .val (.int vb1), .val (.int vb2), .val (.ref b54), .val (.ref r69)] [(.int (3 : Int32))])) _
      refine XS.iloadN X69.here hx rfl (hb hby at_89) rfl ?_
      show Steps p.tables e below (T69.setTop (mkF m 90 #[.val (.int x0), .val (.int x1), .val (.int (3 : Int32)), .val (.int vb0), .val (.int vb1), .val (.int vb2), .val (.ref b54), .val (.ref r69)] [(.int (3 : Int32)), (.int (3 : Int32))])) _
      refine XS.icmpYes X69.here hx rfl (pc0 := 90) (pc' := 95) rfl (hb hby at_90) rfl ((teq (rfl)).1) (by decide) (by decide) ?_
      show Steps p.tables e below (T69.setTop (mkF m 95 #[.val (.int x0), .val (.int x1), .val (.int (3 : Int32)), .val (.int vb0), .val (.int vb1), .val (.int vb2), .val (.ref b54), .val (.ref r69)] [])) _
      refine XS.aload X69.here hx rfl (hb hby at_95) rfl rfl ?_
      show Steps p.tables e below (T69.setTop (mkF m 97 #[.val (.int x0), .val (.int x1), .val (.int (3 : Int32)), .val (.int vb0), .val (.int vb1), .val (.int vb2), .val (.ref b54), .val (.ref r69)] [(.ref r69)])) _
      refine XS.iloadN X69.here hx rfl (hb hby at_97) rfl ?_
      show Steps p.tables e below (T69.setTop (mkF m 98 #[.val (.int x0), .val (.int x1), .val (.int (3 : Int32)), .val (.int vb0), .val (.int vb1), .val (.int vb2), .val (.ref b54), .val (.ref r69)] [(.int (3 : Int32)), (.ref r69)])) _
      refine XS.iconst X69.here hx rfl (hb hby at_98) ?_
      show Steps p.tables e below (T69.setTop (mkF m 99 #[.val (.int x0), .val (.int x1), .val (.int (3 : Int32)), .val (.int vb0), .val (.int vb1), .val (.int vb2), .val (.ref b54), .val (.ref r69)] [(.int (1 : Int32)), (.int (3 : Int32)), (.ref r69)])) _
      refine XS.isub X69.here hx rfl (hb hby at_99) rfl ?_
      exact k)
    obtain ⟨cl76, Ar76, q76, Sz76, Ng76, Hs76, G76⟩ := id VR69
    have hin76 : ¬ (((3 : Int32) - (1 : Int32)) < 0 ∨ cl76.slots.size ≤ (((3 : Int32) - (1 : Int32))).toNatClampNeg) := inb_of Sz76 ⟨by decide, by decide⟩
    have hat76 : cl76.slots[(((3 : Int32) - (1 : Int32))).toNatClampNeg]? = some (.int ((1 : Int32).toInt8.toInt32)) := Hs76.at hin76 (rfl)
    have p77 : ∀ t, Steps p.tables e below (T69.setTop (mkF m 110 #[.val (.int x0), .val (.int x1), .val (.int (3 : Int32)), .val (.int vb0), .val (.int vb1), .val (.int vb2), .val (.ref b54), .val (.ref r69)] [(.int ((3 : Int32) - (1 : Int32))), (.ref b54)])) t → Steps p.tables e below (s₁.setTop (entryFrame m #[(.int x0), (.int x1)] maxLocals)) t := fun t k => p75 t (by
      show Steps p.tables e below (T69.setTop (mkF m 100 #[.val (.int x0), .val (.int x1), .val (.int (3 : Int32)), .val (.int vb0), .val (.int vb1), .val (.int vb2), .val (.ref b54), .val (.ref r69)] [(.int ((3 : Int32) - (1 : Int32))), (.ref r69)])) _
      refine X69.baloadBytes hx (j := ((3 : Int32) - (1 : Int32))) (v := (.int ((1 : Int32).toInt8.toInt32))) Ar76.1 (State.isArrayOf_alike hZ.alike Ar76.2.1) Ar76.2.2 hin76 hat76 (g := (mkF m 100 #[.val (.int x0), .val (.int x1), .val (.int (3 : Int32)), .val (.int vb0), .val (.int vb1), .val (.int vb2), .val (.ref b54), .val (.ref r69)] [(.int ((3 : Int32) - (1 : Int32))), (.ref r69)])) rfl rfl (hb hby at_100) _ ?_
      show Steps p.tables e below (T69.setTop (mkF m 101 #[.val (.int x0), .val (.int x1), .val (.int (3 : Int32)), .val (.int vb0), .val (.int vb1), .val (.int vb2), .val (.ref b54), .val (.ref r69)] [(.int ((1 : Int32).toInt8.toInt32))])) _
      refine XS.iconst X69.here hx rfl (hb hby at_101) ?_
      show Steps p.tables e below (T69.setTop (mkF m 102 #[.val (.int x0), .val (.int x1), .val (.int (3 : Int32)), .val (.int vb0), .val (.int vb1), .val (.int vb2), .val (.ref b54), .val (.ref r69)] [(.int (1 : Int32)), (.int ((1 : Int32).toInt8.toInt32))])) _
      refine XS.icmpNo X69.here hx rfl (hb hby at_102) rfl ((teq (by decide)).2) ?_
      show Steps p.tables e below (T69.setTop (mkF m 105 #[.val (.int x0), .val (.int x1), .val (.int (3 : Int32)), .val (.int vb0), .val (.int vb1), .val (.int vb2), .val (.ref b54), .val (.ref r69)] [])) _
      refine XS.aload X69.here hx rfl (hb hby at_105) rfl rfl ?_
      show Steps p.tables e below (T69.setTop (mkF m 107 #[.val (.int x0), .val (.int x1), .val (.int (3 : Int32)), .val (.int vb0), .val (.int vb1), .val (.int vb2), .val (.ref b54), .val (.ref r69)] [(.ref b54)])) _
      refine XS.iloadN X69.here hx rfl (hb hby at_107) rfl ?_
      show Steps p.tables e below (T69.setTop (mkF m 108 #[.val (.int x0), .val (.int x1), .val (.int (3 : Int32)), .val (.int vb0), .val (.int vb1), .val (.int vb2), .val (.ref b54), .val (.ref r69)] [(.int (3 : Int32)), (.ref b54)])) _
      refine XS.iconst X69.here hx rfl (hb hby at_108) ?_
      show Steps p.tables e below (T69.setTop (mkF m 109 #[.val (.int x0), .val (.int x1), .val (.int (3 : Int32)), .val (.int vb0), .val (.int vb1), .val (.int vb2), .val (.ref b54), .val (.ref r69)] [(.int (1 : Int32)), (.int (3 : Int32)), (.ref b54)])) _
      refine XS.isub X69.here hx rfl (hb hby at_109) rfl ?_
      exact k)
    obtain ⟨cl78, Ar78, q78, Sz78, Ng78, Hs78, G78⟩ := id f71
    have hin78 : ¬ (((3 : Int32) - (1 : Int32)) < 0 ∨ cl78.slots.size ≤ (((3 : Int32) - (1 : Int32))).toNatClampNeg) := inb_of Sz78 ⟨by decide, by decide⟩
    have hat78 : cl78.slots[(((3 : Int32) - (1 : Int32))).toNatClampNeg]? = some (.int ((0 : Int32).toInt8.toInt32)) := Hs78.at hin78 (rfl)
    have p79 : ∀ t, Steps p.tables e below (T69.setTop (mkF m 124 #[.val (.int x0), .val (.int x1), .val (.int (3 : Int32)), .val (.int vb0), .val (.int vb1), .val (.int vb2), .val (.ref b54), .val (.ref r69)] [(.int (0 : Int32)), (.ref r69)])) t → Steps p.tables e below (s₁.setTop (entryFrame m #[(.int x0), (.int x1)] maxLocals)) t := fun t k => p77 t (by
      show Steps p.tables e below (T69.setTop (mkF m 110 #[.val (.int x0), .val (.int x1), .val (.int (3 : Int32)), .val (.int vb0), .val (.int vb1), .val (.int vb2), .val (.ref b54), .val (.ref r69)] [(.int ((3 : Int32) - (1 : Int32))), (.ref b54)])) _
      refine X69.baloadBytes hx (j := ((3 : Int32) - (1 : Int32))) (v := (.int ((0 : Int32).toInt8.toInt32))) Ar78.1 (State.isArrayOf_alike hZ.alike Ar78.2.1) Ar78.2.2 hin78 hat78 (g := (mkF m 110 #[.val (.int x0), .val (.int x1), .val (.int (3 : Int32)), .val (.int vb0), .val (.int vb1), .val (.int vb2), .val (.ref b54), .val (.ref r69)] [(.int ((3 : Int32) - (1 : Int32))), (.ref b54)])) rfl rfl (hb hby at_110) _ ?_
      show Steps p.tables e below (T69.setTop (mkF m 111 #[.val (.int x0), .val (.int x1), .val (.int (3 : Int32)), .val (.int vb0), .val (.int vb1), .val (.int vb2), .val (.ref b54), .val (.ref r69)] [(.int ((0 : Int32).toInt8.toInt32))])) _
      refine XS.ifYes X69.here hx rfl (pc0 := 111) (pc' := 116) rfl (hb hby at_111) rfl ((if0 _ _).trans (teq (by decide)).1) (by decide) (by decide) ?_
      show Steps p.tables e below (T69.setTop (mkF m 116 #[.val (.int x0), .val (.int x1), .val (.int (3 : Int32)), .val (.int vb0), .val (.int vb1), .val (.int vb2), .val (.ref b54), .val (.ref r69)] [])) _
      refine XS.iloadN X69.here hx rfl (hb hby at_116) rfl ?_
      show Steps p.tables e below (T69.setTop (mkF m 117 #[.val (.int x0), .val (.int x1), .val (.int (3 : Int32)), .val (.int vb0), .val (.int vb1), .val (.int vb2), .val (.ref b54), .val (.ref r69)] [(.int (3 : Int32))])) _
      refine XS.iconst X69.here hx rfl (hb hby at_117) ?_
      show Steps p.tables e below (T69.setTop (mkF m 118 #[.val (.int x0), .val (.int x1), .val (.int (3 : Int32)), .val (.int vb0), .val (.int vb1), .val (.int vb2), .val (.ref b54), .val (.ref r69)] [(.int (1 : Int32)), (.int (3 : Int32))])) _
      refine XS.icmpNo X69.here hx rfl (hb hby at_118) rfl ((tlt (by decide)).2.2.2) ?_
      show Steps p.tables e below (T69.setTop (mkF m 121 #[.val (.int x0), .val (.int x1), .val (.int (3 : Int32)), .val (.int vb0), .val (.int vb1), .val (.int vb2), .val (.ref b54), .val (.ref r69)] [])) _
      refine XS.aload X69.here hx rfl (hb hby at_121) rfl rfl ?_
      show Steps p.tables e below (T69.setTop (mkF m 123 #[.val (.int x0), .val (.int x1), .val (.int (3 : Int32)), .val (.int vb0), .val (.int vb1), .val (.int vb2), .val (.ref b54), .val (.ref r69)] [(.ref r69)])) _
      refine XS.iconst X69.here hx rfl (hb hby at_123) ?_
      exact k)
    obtain ⟨cl80, Ar80, q80, Sz80, Ng80, Hs80, G80⟩ := id VR69
    have hin80 : ¬ ((0 : Int32) < 0 ∨ cl80.slots.size ≤ ((0 : Int32)).toNatClampNeg) := inb_of Sz80 ⟨by decide, by decide⟩
    have hat80 : cl80.slots[((0 : Int32)).toNatClampNeg]? = some (.int (vb0.toInt8.toInt32)) := Hs80.at hin80 (rfl)
    have p81 : ∀ t, Steps p.tables e below (T69.setTop (mkF m 132 #[.val (.int x0), .val (.int x1), .val (.int (3 : Int32)), .val (.int vb0), .val (.int vb1), .val (.int vb2), .val (.ref b54), .val (.ref r69)] [(.int (0 : Int32)), (.ref b54)])) t → Steps p.tables e below (s₁.setTop (entryFrame m #[(.int x0), (.int x1)] maxLocals)) t := fun t k => p79 t (by
      show Steps p.tables e below (T69.setTop (mkF m 124 #[.val (.int x0), .val (.int x1), .val (.int (3 : Int32)), .val (.int vb0), .val (.int vb1), .val (.int vb2), .val (.ref b54), .val (.ref r69)] [(.int (0 : Int32)), (.ref r69)])) _
      refine X69.baloadBytes hx (j := (0 : Int32)) (v := (.int (vb0.toInt8.toInt32))) Ar80.1 (State.isArrayOf_alike hZ.alike Ar80.2.1) Ar80.2.2 hin80 hat80 (g := (mkF m 124 #[.val (.int x0), .val (.int x1), .val (.int (3 : Int32)), .val (.int vb0), .val (.int vb1), .val (.int vb2), .val (.ref b54), .val (.ref r69)] [(.int (0 : Int32)), (.ref r69)])) rfl rfl (hb hby at_124) _ ?_
      show Steps p.tables e below (T69.setTop (mkF m 125 #[.val (.int x0), .val (.int x1), .val (.int (3 : Int32)), .val (.int vb0), .val (.int vb1), .val (.int vb2), .val (.ref b54), .val (.ref r69)] [(.int (vb0.toInt8.toInt32))])) _
      refine XS.iloadN X69.here hx rfl (hb hby at_125) rfl ?_
      show Steps p.tables e below (T69.setTop (mkF m 126 #[.val (.int x0), .val (.int x1), .val (.int (3 : Int32)), .val (.int vb0), .val (.int vb1), .val (.int vb2), .val (.ref b54), .val (.ref r69)] [(.int vb0), (.int (vb0.toInt8.toInt32))])) _
      refine XS.icmpNo X69.here hx rfl (hb hby at_126) rfl ((teq ((by rw [hvb0]; exact own_b2 _))).2) ?_
      show Steps p.tables e below (T69.setTop (mkF m 129 #[.val (.int x0), .val (.int x1), .val (.int (3 : Int32)), .val (.int vb0), .val (.int vb1), .val (.int vb2), .val (.ref b54), .val (.ref r69)] [])) _
      refine XS.aload X69.here hx rfl (hb hby at_129) rfl rfl ?_
      show Steps p.tables e below (T69.setTop (mkF m 131 #[.val (.int x0), .val (.int x1), .val (.int (3 : Int32)), .val (.int vb0), .val (.int vb1), .val (.int vb2), .val (.ref b54), .val (.ref r69)] [(.ref b54)])) _
      refine XS.iconst X69.here hx rfl (hb hby at_131) ?_
      exact k)
    obtain ⟨cl82, Ar82, q82, Sz82, Ng82, Hs82, G82⟩ := id f71
    have hin82 : ¬ ((0 : Int32) < 0 ∨ cl82.slots.size ≤ ((0 : Int32)).toNatClampNeg) := inb_of Sz82 ⟨by decide, by decide⟩
    have hat82 : cl82.slots[((0 : Int32)).toNatClampNeg]? = some (.int (vb0.toInt8.toInt32)) := Hs82.at hin82 (rfl)
    have p83 : ∀ t, Steps p.tables e below (T69.setTop (mkF m 147 #[.val (.int x0), .val (.int x1), .val (.int (3 : Int32)), .val (.int vb0), .val (.int vb1), .val (.int vb2), .val (.ref b54), .val (.ref r69)] [(.int (1 : Int32)), (.ref r69)])) t → Steps p.tables e below (s₁.setTop (entryFrame m #[(.int x0), (.int x1)] maxLocals)) t := fun t k => p81 t (by
      show Steps p.tables e below (T69.setTop (mkF m 132 #[.val (.int x0), .val (.int x1), .val (.int (3 : Int32)), .val (.int vb0), .val (.int vb1), .val (.int vb2), .val (.ref b54), .val (.ref r69)] [(.int (0 : Int32)), (.ref b54)])) _
      refine X69.baloadBytes hx (j := (0 : Int32)) (v := (.int (vb0.toInt8.toInt32))) Ar82.1 (State.isArrayOf_alike hZ.alike Ar82.2.1) Ar82.2.2 hin82 hat82 (g := (mkF m 132 #[.val (.int x0), .val (.int x1), .val (.int (3 : Int32)), .val (.int vb0), .val (.int vb1), .val (.int vb2), .val (.ref b54), .val (.ref r69)] [(.int (0 : Int32)), (.ref b54)])) rfl rfl (hb hby at_132) _ ?_
      show Steps p.tables e below (T69.setTop (mkF m 133 #[.val (.int x0), .val (.int x1), .val (.int (3 : Int32)), .val (.int vb0), .val (.int vb1), .val (.int vb2), .val (.ref b54), .val (.ref r69)] [(.int (vb0.toInt8.toInt32))])) _
      refine XS.iloadN X69.here hx rfl (hb hby at_133) rfl ?_
      show Steps p.tables e below (T69.setTop (mkF m 134 #[.val (.int x0), .val (.int x1), .val (.int (3 : Int32)), .val (.int vb0), .val (.int vb1), .val (.int vb2), .val (.ref b54), .val (.ref r69)] [(.int vb0), (.int (vb0.toInt8.toInt32))])) _
      refine XS.icmpYes X69.here hx rfl (pc0 := 134) (pc' := 139) rfl (hb hby at_134) rfl ((teq ((by rw [hvb0]; exact own_b2 _))).1) (by decide) (by decide) ?_
      show Steps p.tables e below (T69.setTop (mkF m 139 #[.val (.int x0), .val (.int x1), .val (.int (3 : Int32)), .val (.int vb0), .val (.int vb1), .val (.int vb2), .val (.ref b54), .val (.ref r69)] [])) _
      refine XS.iloadN X69.here hx rfl (hb hby at_139) rfl ?_
      show Steps p.tables e below (T69.setTop (mkF m 140 #[.val (.int x0), .val (.int x1), .val (.int (3 : Int32)), .val (.int vb0), .val (.int vb1), .val (.int vb2), .val (.ref b54), .val (.ref r69)] [(.int (3 : Int32))])) _
      refine XS.iconst X69.here hx rfl (hb hby at_140) ?_
      show Steps p.tables e below (T69.setTop (mkF m 141 #[.val (.int x0), .val (.int x1), .val (.int (3 : Int32)), .val (.int vb0), .val (.int vb1), .val (.int vb2), .val (.ref b54), .val (.ref r69)] [(.int (2 : Int32)), (.int (3 : Int32))])) _
      refine XS.icmpNo X69.here hx rfl (hb hby at_141) rfl ((tlt (by decide)).2.2.2) ?_
      show Steps p.tables e below (T69.setTop (mkF m 144 #[.val (.int x0), .val (.int x1), .val (.int (3 : Int32)), .val (.int vb0), .val (.int vb1), .val (.int vb2), .val (.ref b54), .val (.ref r69)] [])) _
      refine XS.aload X69.here hx rfl (hb hby at_144) rfl rfl ?_
      show Steps p.tables e below (T69.setTop (mkF m 146 #[.val (.int x0), .val (.int x1), .val (.int (3 : Int32)), .val (.int vb0), .val (.int vb1), .val (.int vb2), .val (.ref b54), .val (.ref r69)] [(.ref r69)])) _
      refine XS.iconst X69.here hx rfl (hb hby at_146) ?_
      exact k)
    obtain ⟨cl84, Ar84, q84, Sz84, Ng84, Hs84, G84⟩ := id VR69
    have hin84 : ¬ ((1 : Int32) < 0 ∨ cl84.slots.size ≤ ((1 : Int32)).toNatClampNeg) := inb_of Sz84 ⟨by decide, by decide⟩
    have hat84 : cl84.slots[((1 : Int32)).toNatClampNeg]? = some (.int (vb1.toInt8.toInt32)) := Hs84.at hin84 (rfl)
    have p85 : ∀ t, Steps p.tables e below (T69.setTop (mkF m 156 #[.val (.int x0), .val (.int x1), .val (.int (3 : Int32)), .val (.int vb0), .val (.int vb1), .val (.int vb2), .val (.ref b54), .val (.ref r69)] [(.int (1 : Int32)), (.ref b54)])) t → Steps p.tables e below (s₁.setTop (entryFrame m #[(.int x0), (.int x1)] maxLocals)) t := fun t k => p83 t (by
      show Steps p.tables e below (T69.setTop (mkF m 147 #[.val (.int x0), .val (.int x1), .val (.int (3 : Int32)), .val (.int vb0), .val (.int vb1), .val (.int vb2), .val (.ref b54), .val (.ref r69)] [(.int (1 : Int32)), (.ref r69)])) _
      refine X69.baloadBytes hx (j := (1 : Int32)) (v := (.int (vb1.toInt8.toInt32))) Ar84.1 (State.isArrayOf_alike hZ.alike Ar84.2.1) Ar84.2.2 hin84 hat84 (g := (mkF m 147 #[.val (.int x0), .val (.int x1), .val (.int (3 : Int32)), .val (.int vb0), .val (.int vb1), .val (.int vb2), .val (.ref b54), .val (.ref r69)] [(.int (1 : Int32)), (.ref r69)])) rfl rfl (hb hby at_147) _ ?_
      show Steps p.tables e below (T69.setTop (mkF m 148 #[.val (.int x0), .val (.int x1), .val (.int (3 : Int32)), .val (.int vb0), .val (.int vb1), .val (.int vb2), .val (.ref b54), .val (.ref r69)] [(.int (vb1.toInt8.toInt32))])) _
      refine XS.iload X69.here hx rfl (hb hby at_148) rfl ?_
      show Steps p.tables e below (T69.setTop (mkF m 150 #[.val (.int x0), .val (.int x1), .val (.int (3 : Int32)), .val (.int vb0), .val (.int vb1), .val (.int vb2), .val (.ref b54), .val (.ref r69)] [(.int vb1), (.int (vb1.toInt8.toInt32))])) _
      refine XS.icmpNo X69.here hx rfl (hb hby at_150) rfl ((teq ((by rw [hvb1]; exact own_b2 _))).2) ?_
      show Steps p.tables e below (T69.setTop (mkF m 153 #[.val (.int x0), .val (.int x1), .val (.int (3 : Int32)), .val (.int vb0), .val (.int vb1), .val (.int vb2), .val (.ref b54), .val (.ref r69)] [])) _
      refine XS.aload X69.here hx rfl (hb hby at_153) rfl rfl ?_
      show Steps p.tables e below (T69.setTop (mkF m 155 #[.val (.int x0), .val (.int x1), .val (.int (3 : Int32)), .val (.int vb0), .val (.int vb1), .val (.int vb2), .val (.ref b54), .val (.ref r69)] [(.ref b54)])) _
      refine XS.iconst X69.here hx rfl (hb hby at_155) ?_
      exact k)
    obtain ⟨cl86, Ar86, q86, Sz86, Ng86, Hs86, G86⟩ := id f71
    have hin86 : ¬ ((1 : Int32) < 0 ∨ cl86.slots.size ≤ ((1 : Int32)).toNatClampNeg) := inb_of Sz86 ⟨by decide, by decide⟩
    have hat86 : cl86.slots[((1 : Int32)).toNatClampNeg]? = some (.int (vb1.toInt8.toInt32)) := Hs86.at hin86 (rfl)
    have p87 : ∀ t, Steps p.tables e below (T69.setTop (mkF m 190 #[.val (.int x0), .val (.int x1), .val (.int (3 : Int32)), .val (.int vb0), .val (.int vb1), .val (.int vb2), .val (.ref b54), .val (.ref r69)] [(.int (1 : Int32))])) t → Steps p.tables e below (s₁.setTop (entryFrame m #[(.int x0), (.int x1)] maxLocals)) t := fun t k => p85 t (by
      show Steps p.tables e below (T69.setTop (mkF m 156 #[.val (.int x0), .val (.int x1), .val (.int (3 : Int32)), .val (.int vb0), .val (.int vb1), .val (.int vb2), .val (.ref b54), .val (.ref r69)] [(.int (1 : Int32)), (.ref b54)])) _
      refine X69.baloadBytes hx (j := (1 : Int32)) (v := (.int (vb1.toInt8.toInt32))) Ar86.1 (State.isArrayOf_alike hZ.alike Ar86.2.1) Ar86.2.2 hin86 hat86 (g := (mkF m 156 #[.val (.int x0), .val (.int x1), .val (.int (3 : Int32)), .val (.int vb0), .val (.int vb1), .val (.int vb2), .val (.ref b54), .val (.ref r69)] [(.int (1 : Int32)), (.ref b54)])) rfl rfl (hb hby at_156) _ ?_
      show Steps p.tables e below (T69.setTop (mkF m 157 #[.val (.int x0), .val (.int x1), .val (.int (3 : Int32)), .val (.int vb0), .val (.int vb1), .val (.int vb2), .val (.ref b54), .val (.ref r69)] [(.int (vb1.toInt8.toInt32))])) _
      refine XS.iload X69.here hx rfl (hb hby at_157) rfl ?_
      show Steps p.tables e below (T69.setTop (mkF m 159 #[.val (.int x0), .val (.int x1), .val (.int (3 : Int32)), .val (.int vb0), .val (.int vb1), .val (.int vb2), .val (.ref b54), .val (.ref r69)] [(.int vb1), (.int (vb1.toInt8.toInt32))])) _
      refine XS.icmpYes X69.here hx rfl (pc0 := 159) (pc' := 164) rfl (hb hby at_159) rfl ((teq ((by rw [hvb1]; exact own_b2 _))).1) (by decide) (by decide) ?_
      show Steps p.tables e below (T69.setTop (mkF m 164 #[.val (.int x0), .val (.int x1), .val (.int (3 : Int32)), .val (.int vb0), .val (.int vb1), .val (.int vb2), .val (.ref b54), .val (.ref r69)] [])) _
      refine XS.iloadN X69.here hx rfl (hb hby at_164) rfl ?_
      show Steps p.tables e below (T69.setTop (mkF m 165 #[.val (.int x0), .val (.int x1), .val (.int (3 : Int32)), .val (.int vb0), .val (.int vb1), .val (.int vb2), .val (.ref b54), .val (.ref r69)] [(.int (3 : Int32))])) _
      refine XS.iconst X69.here hx rfl (hb hby at_165) ?_
      show Steps p.tables e below (T69.setTop (mkF m 166 #[.val (.int x0), .val (.int x1), .val (.int (3 : Int32)), .val (.int vb0), .val (.int vb1), .val (.int vb2), .val (.ref b54), .val (.ref r69)] [(.int (3 : Int32)), (.int (3 : Int32))])) _
      refine XS.icmpYes X69.here hx rfl (pc0 := 166) (pc' := 189) rfl (hb hby at_166) rfl ((flt (by decide)).2.2.2) (by decide) (by decide) ?_
      show Steps p.tables e below (T69.setTop (mkF m 189 #[.val (.int x0), .val (.int x1), .val (.int (3 : Int32)), .val (.int vb0), .val (.int vb1), .val (.int vb2), .val (.ref b54), .val (.ref r69)] [])) _
      refine XS.iconst X69.here hx rfl (hb hby at_189) ?_
      exact k)
    obtain ⟨fs, hr, hrun, hended, hW, hsame⟩ := X69.leave (v := some (.int (1 : Int32))) (fun h => by rw [Bd.returns] at h; cases h)
    refine ⟨_, _, p87 _ ?_, hrun, hended, _, _, rfl, ?_, ⟨_, rfl⟩, hW, hsame.mono (by decide) (by decide)⟩
    · show Steps p.tables e below (T69.setTop (mkF m 190 #[.val (.int x0), .val (.int x1), .val (.int (3 : Int32)), .val (.int vb0), .val (.int vb1), .val (.int vb2), .val (.ref b54), .val (.ref r69)] [(.int (1 : Int32))])) _
      exact retN X69 hx (t := .boolean) Bd.returns (by simp) (hb hby at_190) hr
    · show Q0 Z x0 x1 h0 n0 _ T69.heap _
      skip
      exact ⟨rfl, N69⟩
  · obtain ⟨T88, h88, k88, X88, e88, E88, A88, EA88, st88⟩ := newPE X0 hx hZ (hw _ (List.mem_of_getElem? (i := 0) rfl)) e0 (g := (mkF m 24 #[.val (.int x0), .val (.int x1), .val (.int (4 : Int32)), .val (.int vb0), .val (.int vb1), .val (.int vb2), .unset, .unset] [(.int (4 : Int32))])) rfl (hb hby at_24) rfl (by decide) (cap := 4) (by decide) (by decide) (by decide) (by decide) (ad := "[B") (by decide)
    obtain ⟨b88, g88⟩ : ∃ z, z = h0.size := ⟨_, rfl⟩
    rw [← g88] at A88 st88 EA88
    have gn_b88 : n0 ≤ b88 := Nat.le_trans Z0 (Nat.le_of_eq g88.symm)
    have Z88 := Nat.le_trans Z0 E88.1
    have VV88 : Arv Z h88 b88 k88 .byte (4 : Int32) [(.int (0 : Int32)), (.int (0 : Int32)), (.int (0 : Int32)), (.int (0 : Int32))] (.int (0 : Int32)) := (Arv.new A88 (by decide)).pad (pad_rep [] (.int (0 : Int32)) 4)
    have p89 : ∀ t, Steps p.tables e below (T88.setTop (mkF m 26 #[.val (.int x0), .val (.int x1), .val (.int (4 : Int32)), .val (.int vb0), .val (.int vb1), .val (.int vb2), .unset, .unset] [(.ref b88)])) t → Steps p.tables e below (s₁.setTop (entryFrame m #[(.int x0), (.int x1)] maxLocals)) t := fun t k => p9 t (st88 t k)
    have p90 : ∀ t, Steps p.tables e below (T88.setTop (mkF m 37 #[.val (.int x0), .val (.int x1), .val (.int (4 : Int32)), .val (.int vb0), .val (.int vb1), .val (.int vb2), .val (.ref b88), .unset] [(.int vb0), (.int (0 : Int32)), (.ref b88)])) t → Steps p.tables e below (s₁.setTop (entryFrame m #[(.int x0), (.int x1)] maxLocals)) t := fun t k => p89 t (by
      show Steps p.tables e below (T88.setTop (mkF m 26 #[.val (.int x0), .val (.int x1), .val (.int (4 : Int32)), .val (.int vb0), .val (.int vb1), .val (.int vb2), .unset, .unset] [(.ref b88)])) _
      refine XS.astore X88.here hx rfl (hb hby at_26) rfl rfl (l' := #[.val (.int x0), .val (.int x1), .val (.int (4 : Int32)), .val (.int vb0), .val (.int vb1), .val (.int vb2), .val (.ref b88), .unset]) rfl ?_
      show Steps p.tables e below (T88.setTop (mkF m 28 #[.val (.int x0), .val (.int x1), .val (.int (4 : Int32)), .val (.int vb0), .val (.int vb1), .val (.int vb2), .val (.ref b88), .unset] [])) _
      refine XS.iloadN X88.here hx rfl (hb hby at_28) rfl ?_
      show Steps p.tables e below (T88.setTop (mkF m 29 #[.val (.int x0), .val (.int x1), .val (.int (4 : Int32)), .val (.int vb0), .val (.int vb1), .val (.int vb2), .val (.ref b88), .unset] [(.int (4 : Int32))])) _
      refine XS.iconst X88.here hx rfl (hb hby at_29) ?_
      show Steps p.tables e below (T88.setTop (mkF m 30 #[.val (.int x0), .val (.int x1), .val (.int (4 : Int32)), .val (.int vb0), .val (.int vb1), .val (.int vb2), .val (.ref b88), .unset] [(.int (1 : Int32)), (.int (4 : Int32))])) _
      refine XS.icmpNo X88.here hx rfl (hb hby at_30) rfl ((tlt (by decide)).2.2.2) ?_
      show Steps p.tables e below (T88.setTop (mkF m 33 #[.val (.int x0), .val (.int x1), .val (.int (4 : Int32)), .val (.int vb0), .val (.int vb1), .val (.int vb2), .val (.ref b88), .unset] [])) _
      refine XS.aload X88.here hx rfl (hb hby at_33) rfl rfl ?_
      show Steps p.tables e below (T88.setTop (mkF m 35 #[.val (.int x0), .val (.int x1), .val (.int (4 : Int32)), .val (.int vb0), .val (.int vb1), .val (.int vb2), .val (.ref b88), .unset] [(.ref b88)])) _
      refine XS.iconst X88.here hx rfl (hb hby at_35) ?_
      show Steps p.tables e below (T88.setTop (mkF m 36 #[.val (.int x0), .val (.int x1), .val (.int (4 : Int32)), .val (.int vb0), .val (.int vb1), .val (.int vb2), .val (.ref b88), .unset] [(.int (0 : Int32)), (.ref b88)])) _
      refine XS.iloadN X88.here hx rfl (hb hby at_36) rfl ?_
      exact k)
    obtain ⟨cl91, Ar91, q91, Sz91, Ng91, Hs91, G91⟩ := id VV88
    have hin91 : ¬ ((0 : Int32) < 0 ∨ cl91.slots.size ≤ ((0 : Int32)).toNatClampNeg) := inb_of Sz91 (⟨by decide, by decide⟩)
    obtain ⟨T91, h91, X91, e91, W91, st91⟩ := stB X88 hx hZ e88 Ar91 (j := (0 : Int32)) hin91 (g := (mkF m 37 #[.val (.int x0), .val (.int x1), .val (.int (4 : Int32)), .val (.int vb0), .val (.int vb1), .val (.int vb2), .val (.ref b88), .unset] [(.int vb0), (.int (0 : Int32)), (.ref b88)])) rfl rfl (hb hby at_37)
    have VV91 : Arv Z h91 b88 k88 .byte (4 : Int32) [(.int (vb0.toInt8.toInt32)), (.int (0 : Int32)), (.int (0 : Int32)), (.int (0 : Int32))] (.int (0 : Int32)) := Arv.set Ar91 q91 Sz91 Ng91 Hs91 G91 (fits_nar_byte _) W91 0 (by decide) (Nat.le_of_ble_eq_true rfl)
    have f92 := EA88.wr W91
    have Z91 := Nat.le_trans Z88 (Keep.of_wr W91).1
    have N91 := Fr.snoc X91 N0 gn_b88
    have p93 : ∀ t, Steps p.tables e below (T91.setTop (mkF m 38 #[.val (.int x0), .val (.int x1), .val (.int (4 : Int32)), .val (.int vb0), .val (.int vb1), .val (.int vb2), .val (.ref b88), .unset] [])) t → Steps p.tables e below (s₁.setTop (entryFrame m #[(.int x0), (.int x1)] maxLocals)) t := fun t k => p90 t (st91 t k)
    have p94 : ∀ t, Steps p.tables e below (T91.setTop (mkF m 48 #[.val (.int x0), .val (.int x1), .val (.int (4 : Int32)), .val (.int vb0), .val (.int vb1), .val (.int vb2), .val (.ref b88), .unset] [(.int vb1), (.int (1 : Int32)), (.ref b88)])) t → Steps p.tables e below (s₁.setTop (entryFrame m #[(.int x0), (.int x1)] maxLocals)) t := fun t k => p93 t (by
      show Steps p.tables e below (T91.setTop (mkF m 38 #[.val (.int x0), .val (.int x1), .val (.int (4 : Int32)), .val (.int vb0), .val (.int vb1), .val (.int vb2), .val (.ref b88), .unset] [])) _
      refine XS.iloadN X91.here hx rfl (hb hby at_38) rfl ?_
      show Steps p.tables e below (T91.setTop (mkF m 39 #[.val (.int x0), .val (.int x1), .val (.int (4 : Int32)), .val (.int vb0), .val (.int vb1), .val (.int vb2), .val (.ref b88), .unset] [(.int (4 : Int32))])) _
      refine XS.iconst X91.here hx rfl (hb hby at_39) ?_
      show Steps p.tables e below (T91.setTop (mkF m 40 #[.val (.int x0), .val (.int x1), .val (.int (4 : Int32)), .val (.int vb0), .val (.int vb1), .val (.int vb2), .val (.ref b88), .unset] [(.int (2 : Int32)), (.int (4 : Int32))])) _
      refine XS.icmpNo X91.here hx rfl (hb hby at_40) rfl ((tlt (by decide)).2.2.2) ?_
      show Steps p.tables e below (T91.setTop (mkF m 43 #[.val (.int x0), .val (.int x1), .val (.int (4 : Int32)), .val (.int vb0), .val (.int vb1), .val (.int vb2), .val (.ref b88), .unset] [])) _
      refine XS.aload X91.here hx rfl (hb hby at_43) rfl rfl ?_
      show Steps p.tables e below (T91.setTop (mkF m 45 #[.val (.int x0), .val (.int x1), .val (.int (4 : Int32)), .val (.int vb0), .val (.int vb1), .val (.int vb2), .val (.ref b88), .unset] [(.ref b88)])) _
      refine XS.iconst X91.here hx rfl (hb hby at_45) ?_
      show Steps p.tables e below (T91.setTop (mkF m 46 #[.val (.int x0), .val (.int x1), .val (.int (4 : Int32)), .val (.int vb0), .val (.int vb1), .val (.int vb2), .val (.ref b88), .unset] [(.int (1 : Int32)), (.ref b88)])) _
      refine XS.iload X91.here hx rfl (hb hby at_46) rfl ?_
      exact k)
    obtain ⟨cl95, Ar95, q95, Sz95, Ng95, Hs95, G95⟩ := id VV91
    have hin95 : ¬ ((1 : Int32) < 0 ∨ cl95.slots.size ≤ ((1 : Int32)).toNatClampNeg) := inb_of Sz95 (⟨by decide, by decide⟩)
    obtain ⟨T95, h95, X95, e95, W95, st95⟩ := stB X91 hx hZ e91 Ar95 (j := (1 : Int32)) hin95 (g := (mkF m 48 #[.val (.int x0), .val (.int x1), .val (.int (4 : Int32)), .val (.int vb0), .val (.int vb1), .val (.int vb2), .val (.ref b88), .unset] [(.int vb1), (.int (1 : Int32)), (.ref b88)])) rfl rfl (hb hby at_48)
    have VV95 : Arv Z h95 b88 k88 .byte (4 : Int32) [(.int (vb0.toInt8.toInt32)), (.int (vb1.toInt8.toInt32)), (.int (0 : Int32)), (.int (0 : Int32))] (.int (0 : Int32)) := Arv.set Ar95 q95 Sz95 Ng95 Hs95 G95 (fits_nar_byte _) W95 1 (by decide) (Nat.le_of_ble_eq_true rfl)
    have f96 := f92.wr W95
    have Z95 := Nat.le_trans Z91 (Keep.of_wr W95).1
    have N95 := Fr.snoc X95 N91 gn_b88
    have p97 : ∀ t, Steps p.tables e below (T95.setTop (mkF m 49 #[.val (.int x0), .val (.int x1), .val (.int (4 : Int32)), .val (.int vb0), .val (.int vb1), .val (.int vb2), .val (.ref b88), .unset] [])) t → Steps p.tables e below (s₁.setTop (entryFrame m #[(.int x0), (.int x1)] maxLocals)) t := fun t k => p94 t (st95 t k)
    have p98 : ∀ t, Steps p.tables e below (T95.setTop (mkF m 59 #[.val (.int x0), .val (.int x1), .val (.int (4 : Int32)), .val (.int vb0), .val (.int vb1), .val (.int vb2), .val (.ref b88), .unset] [(.int vb2), (.int (2 : Int32)), (.ref b88)])) t → Steps p.tables e below (s₁.setTop (entryFrame m #[(.int x0), (.int x1)] maxLocals)) t := fun t k => p97 t (by
      show Steps p.tables e below (T95.setTop (mkF m 49 #[.val (.int x0), .val (.int x1), .val (.int (4 : Int32)), .val (.int vb0), .val (.int vb1), .val (.int vb2), .val (.ref b88), .unset] [])) _
      refine XS.iloadN X95.here hx rfl (hb hby at_49) rfl ?_
      show Steps p.tables e below (T95.setTop (mkF m 50 #[.val (.int x0), .val (.int x1), .val (.int (4 : Int32)), .val (.int vb0), .val (.int vb1), .val (.int vb2), .val (.ref b88), .unset] [(.int (4 : Int32))])) _
      refine XS.iconst X95.here hx rfl (hb hby at_50) ?_
      show Steps p.tables e below (T95.setTop (mkF m 51 #[.val (.int x0), .val (.int x1), .val (.int (4 : Int32)), .val (.int vb0), .val (.int vb1), .val (.int vb2), .val (.ref b88), .unset] [(.int (3 : Int32)), (.int (4 : Int32))])) _
      refine XS.icmpNo X95.here hx rfl (hb hby at_51) rfl ((tlt (by decide)).2.2.2) ?_
      show Steps p.tables e below (T95.setTop (mkF m 54 #[.val (.int x0), .val (.int x1), .val (.int (4 : Int32)), .val (.int vb0), .val (.int vb1), .val (.int vb2), .val (.ref b88), .unset] [])) _
      refine XS.aload X95.here hx rfl (hb hby at_54) rfl rfl ?_
      show Steps p.tables e below (T95.setTop (mkF m 56 #[.val (.int x0), .val (.int x1), .val (.int (4 : Int32)), .val (.int vb0), .val (.int vb1), .val (.int vb2), .val (.ref b88), .unset] [(.ref b88)])) _
      refine XS.iconst X95.here hx rfl (hb hby at_56) ?_
      show Steps p.tables e below (T95.setTop (mkF m 57 #[.val (.int x0), .val (.int x1), .val (.int (4 : Int32)), .val (.int vb0), .val (.int vb1), .val (.int vb2), .val (.ref b88), .unset] [(.int (2 : Int32)), (.ref b88)])) _
      refine XS.iload X95.here hx rfl (hb hby at_57) rfl ?_
      exact k)
    obtain ⟨cl99, Ar99, q99, Sz99, Ng99, Hs99, G99⟩ := id VV95
    have hin99 : ¬ ((2 : Int32) < 0 ∨ cl99.slots.size ≤ ((2 : Int32)).toNatClampNeg) := inb_of Sz99 (⟨by decide, by decide⟩)
    obtain ⟨T99, h99, X99, e99, W99, st99⟩ := stB X95 hx hZ e95 Ar99 (j := (2 : Int32)) hin99 (g := (mkF m 59 #[.val (.int x0), .val (.int x1), .val (.int (4 : Int32)), .val (.int vb0), .val (.int vb1), .val (.int vb2), .val (.ref b88), .unset] [(.int vb2), (.int (2 : Int32)), (.ref b88)])) rfl rfl (hb hby at_59)
    have VV99 : Arv Z h99 b88 k88 .byte (4 : Int32) [(.int (vb0.toInt8.toInt32)), (.int (vb1.toInt8.toInt32)), (.int (vb2.toInt8.toInt32)), (.int (0 : Int32))] (.int (0 : Int32)) := Arv.set Ar99 q99 Sz99 Ng99 Hs99 G99 (fits_nar_byte _) W99 2 (by decide) (Nat.le_of_ble_eq_true rfl)
    have f100 := f96.wr W99
    have Z99 := Nat.le_trans Z95 (Keep.of_wr W99).1
    have N99 := Fr.snoc X99 N95 gn_b88
    have p101 : ∀ t, Steps p.tables e below (T99.setTop (mkF m 60 #[.val (.int x0), .val (.int x1), .val (.int (4 : Int32)), .val (.int vb0), .val (.int vb1), .val (.int vb2), .val (.ref b88), .unset] [])) t → Steps p.tables e below (s₁.setTop (entryFrame m #[(.int x0), (.int x1)] maxLocals)) t := fun t k => p98 t (st99 t k)
    have p102 : ∀ t, Steps p.tables e below (T99.setTop (mkF m 66 #[.val (.int x0), .val (.int x1), .val (.int (4 : Int32)), .val (.int vb0), .val (.int vb1), .val (.int vb2), .val (.ref b88), .unset] [(.int (0 : Int32)), (.int ((4 : Int32) - (1 : Int32))), (.ref b88)])) t → Steps p.tables e below (s₁.setTop (entryFrame m #[(.int x0), (.int x1)] maxLocals)) t := fun t k => p101 t (by
      show Steps p.tables e below (T99.setTop (mkF m 60 #[.val (.int x0), .val (.int x1), .val (.int (4 : Int32)), .val (.int vb0), .val (.int vb1), .val (.int vb2), .val (.ref b88), .unset] [])) _
      refine XS.aload X99.here hx rfl (hb hby at_60) rfl rfl ?_
      show Steps p.tables e below (T99.setTop (mkF m 62 #[.val (.int x0), .val (.int x1), .val (.int (4 : Int32)), .val (.int vb0), .val (.int vb1), .val (.int vb2), .val (.ref b88), .unset] [(.ref b88)])) _
      refine XS.iloadN X99.here hx rfl (hb hby at_62) rfl ?_
      show Steps p.tables e below (T99.setTop (mkF m 63 #[.val (.int x0), .val (.int x1), .val (.int (4 : Int32)), .val (.int vb0), .val (.int vb1), .val (.int vb2), .val (.ref b88), .unset] [(.int (4 : Int32)), (.ref b88)])) _
      refine XS.iconst X99.here hx rfl (hb hby at_63) ?_
      show Steps p.tables e below (T99.setTop (mkF m 64 #[.val (.int x0), .val (.int x1), .val (.int (4 : Int32)), .val (.int vb0), .val (.int vb1), .val (.int vb2), .val (.ref b88), .unset] [(.int (1 : Int32)), (.int (4 : Int32)), (.ref b88)])) _
      refine XS.isub X99.here hx rfl (hb hby at_64) rfl ?_
      show Steps p.tables e below (T99.setTop (mkF m 65 #[.val (.int x0), .val (.int x1), .val (.int (4 : Int32)), .val (.int vb0), .val (.int vb1), .val (.int vb2), .val (.ref b88), .unset] [(.int ((4 : Int32) - (1 : Int32))), (.ref b88)])) _
      refine XS.iconst X99.here hx rfl (hb hby at_65) ?_
      exact k)
    obtain ⟨cl103, Ar103, q103, Sz103, Ng103, Hs103, G103⟩ := id VV99
    have hin103 : ¬ (((4 : Int32) - (1 : Int32)) < 0 ∨ cl103.slots.size ≤ (((4 : Int32) - (1 : Int32))).toNatClampNeg) := inb_of Sz103 (⟨by decide, by decide⟩)
    obtain ⟨T103, h103, X103, e103, W103, st103⟩ := stB X99 hx hZ e99 Ar103 (j := ((4 : Int32) - (1 : Int32))) hin103 (g := (mkF m 66 #[.val (.int x0), .val (.int x1), .val (.int (4 : Int32)), .val (.int vb0), .val (.int vb1), .val (.int vb2), .val (.ref b88), .unset] [(.int (0 : Int32)), (.int ((4 : Int32) - (1 : Int32))), (.ref b88)])) rfl rfl (hb hby at_66)
    have VV103 : Arv Z h103 b88 k88 .byte (4 : Int32) [(.int (vb0.toInt8.toInt32)), (.int (vb1.toInt8.toInt32)), (.int (vb2.toInt8.toInt32)), (.int ((0 : Int32).toInt8.toInt32))] (.int (0 : Int32)) := Arv.set Ar103 q103 Sz103 Ng103 Hs103 G103 (fits_nar_byte _) W103 3 (by decide) (Nat.le_of_ble_eq_true rfl)
    have f104 := f100.wr W103
    have Z103 := Nat.le_trans Z99 (Keep.of_wr W103).1
    have N103 := Fr.snoc X103 N99 gn_b88
    have p105 : ∀ t, Steps p.tables e below (T103.setTop (mkF m 67 #[.val (.int x0), .val (.int x1), .val (.int (4 : Int32)), .val (.int vb0), .val (.int vb1), .val (.int vb2), .val (.ref b88), .unset] [])) t → Steps p.tables e below (s₁.setTop (entryFrame m #[(.int x0), (.int x1)] maxLocals)) t := fun t k => p102 t (st103 t k)
    have p106 : ∀ t, Steps p.tables e below (T103.setTop (mkF m 69 #[.val (.int x0), .val (.int x1), .val (.int (4 : Int32)), .val (.int vb0), .val (.int vb1), .val (.int vb2), .val (.ref b88), .unset] [(.ref b88)])) t → Steps p.tables e below (s₁.setTop (entryFrame m #[(.int x0), (.int x1)] maxLocals)) t := fun t k => p105 t (by
      show Steps p.tables e below (T103.setTop (mkF m 67 #[.val (.int x0), .val (.int x1), .val (.int (4 : Int32)), .val (.int vb0), .val (.int vb1), .val (.int vb2), .val (.ref b88), .unset] [])) _
      refine XS.aload X103.here hx rfl (hb hby at_67) rfl rfl ?_
      exact k)
    obtain ⟨_, _, ⟨T107, L107, k107, n107⟩, -, X107, ⟨Lc107, hQ107, l107, y107, z107⟩, st107⟩ := Jvm.LawKit.callS X103 hx (y := (⟨"com/example/disposition/disposition/store/Keys", "pastPrefix", "([B)[B"⟩ : MethodName)) hown (mvT hZ (hw _ (List.mem_of_getElem? (i := 1) rfl))) (mvT hZ (hw _ (List.mem_of_getElem? (i := 2) rfl))) (mvT hZ (hw _ (List.mem_of_getElem? (i := 3) rfl))) (mvT hZ (hw _ (List.mem_of_getElem? (i := 4) rfl))) (by decide) (backOf (W := 0) (rmc4 l Z a0 hw [] b88 k88 (vb0.toInt8.toInt32) (vb1.toInt8.toInt32) (vb2.toInt8.toInt32) ((0 : Int32).toInt8.toInt32) h103 n0 Z103 VV103 f104) hZ (hw _ (List.mem_of_getElem? (i := 4) rfl)) (hw _ (List.mem_of_getElem? (i := 3) rfl)) (by decide) (by decide)) (g := (mkF m 69 #[.val (.int x0), .val (.int x1), .val (.int (4 : Int32)), .val (.int vb0), .val (.int vb1), .val (.int vb2), .val (.ref b88), .unset] [(.ref b88)])) rfl (by rw [hml]; rfl) (argsL := [(.ref b88)]) (rest := []) (lenOf pd0_0 rfl) rfl (by show 2 * 0 + _ ≤ _; exact Nat.le_of_eq rfl) (hb hby at_69) (fun _ _ => ⟨rfl, e103, (by decide : 1 + 1 ≤ _), (by decide : 4 + 4 ≤ _)⟩)
    dsimp only [Pt.U, Pt.locs, Pt.cells, Pt.slots] at X107 l107 y107 z107 st107 hQ107
    subst l107 y107 z107
    obtain ⟨r107, rfl, Nq107, K107, gr107, VR107⟩ := hQ107
    have N107 := Fr.app N103 Nq107
    have f108 := f104.keep K107
    have f109 := VV103.keep K107 nin0
    have Z107 := Nat.le_trans Z103 K107.1
    have p110 : ∀ t, Steps p.tables e below (T107.setTop (mkF m 72 #[.val (.int x0), .val (.int x1), .val (.int (4 : Int32)), .val (.int vb0), .val (.int vb1), .val (.int vb2), .val (.ref b88), .unset] [(.ref r107)])) t → Steps p.tables e below (s₁.setTop (entryFrame m #[(.int x0), (.int x1)] maxLocals)) t := fun t k => p106 t (st107 _ k)
    have hne : r107 ≠ b88 := Ne.symm (Nat.ne_of_lt (Nat.lt_of_lt_of_le VV103.lt gr107))
    have p111 : ∀ t, Steps p.tables e below (T107.setTop (mkF m 88 #[.val (.int x0), .val (.int x1), .val (.int (4 : Int32)), .val (.int vb0), .val (.int vb1), .val (.int vb2), .val (.ref b88), .val (.ref r107)] [(.ref r107)])) t → Steps p.tables e below (s₁.setTop (entryFrame m #[(.int x0), (.int x1)] maxLocals)) t := fun t k => p110 t (by
      show Steps p.tables e below (T107.setTop (mkF m 72 #[.val (.int x0), .val (.int x1), .val (.int (4 : Int32)), .val (.int vb0), .val (.int vb1), .val (.int vb2), .val (.ref b88), .unset] [(.ref r107)])) _
      refine XS.astore X107.here hx rfl (hb hby at_72) rfl rfl (l' := #[.val (.int x0), .val (.int x1), .val (.int (4 : Int32)), .val (.int vb0), .val (.int vb1), .val (.int vb2), .val (.ref b88), .val (.ref r107)]) rfl ?_
      show Steps p.tables e below (T107.setTop (mkF m 74 #[.val (.int x0), .val (.int x1), .val (.int (4 : Int32)), .val (.int vb0), .val (.int vb1), .val (.int vb2), .val (.ref b88), .val (.ref r107)] [])) _
      refine XS.aload X107.here hx rfl (hb hby at_74) rfl rfl ?_
      show Steps p.tables e below (T107.setTop (mkF m 76 #[.val (.int x0), .val (.int x1), .val (.int (4 : Int32)), .val (.int vb0), .val (.int vb1), .val (.int vb2), .val (.ref b88), .val (.ref r107)] [(.ref r107)])) _
      refine XS.ifnullNo X107.here hx rfl (hb hby at_76) rfl ?_
      show Steps p.tables e below (T107.setTop (mkF m 79 #[.val (.int x0), .val (.int x1), .val (.int (4 : Int32)), .val (.int vb0), .val (.int vb1), .val (.int vb2), .val (.ref b88), .val (.ref r107)] [])) _
      refine XS.aload X107.here hx rfl (hb hby at_79) rfl rfl ?_
      show Steps p.tables e below (T107.setTop (mkF m 81 #[.val (.int x0), .val (.int x1), .val (.int (4 : Int32)), .val (.int vb0), .val (.int vb1), .val (.int vb2), .val (.ref b88), .val (.ref r107)] [(.ref r107)])) _
      refine XS.aload X107.here hx rfl (hb hby at_81) rfl rfl ?_
      show Steps p.tables e below (T107.setTop (mkF m 83 #[.val (.int x0), .val (.int x1), .val (.int (4 : Int32)), .val (.int vb0), .val (.int vb1), .val (.int vb2), .val (.ref b88), .val (.ref r107)] [(.ref b88), (.ref r107)])) _
      refine Jvm.RoadKit.acmp (g := (mkF m 83 #[.val (.int x0), .val (.int x1), .val (.int (4 : Int32)), .val (.int vb0), .val (.int vb1), .val (.int vb2), .val (.ref b88), .val (.ref r107)] [(.ref b88), (.ref r107)])) X107 hx rfl rfl rfl (pc0 := 83) (pc' := 86) (same := false) rfl (hb hby at_83) rfl (decide_eq_false fun q => hne (Value.ref.inj q)) (by decide) (by decide) ?_
      show Steps p.tables e below (T107.setTop (mkF m 86 #[.val (.int x0), .val (.int x1), .val (.int (4 : Int32)), .val (.int vb0), .val (.int vb1), .val (.int vb2), .val (.ref b88), .val (.ref r107)] [])) _
      refine XS.aload X107.here hx rfl (hb hby at_86) rfl rfl ?_
      exact k)
    obtain ⟨cl112, Ar112, -, Sz112, Ng112, -, -⟩ := id VR107
    have p113 : ∀ t, Steps p.tables e below (T107.setTop (mkF m 100 #[.val (.int x0), .val (.int x1), .val (.int (4 : Int32)), .val (.int vb0), .val (.int vb1), .val (.int vb2), .val (.ref b88), .val (.ref r107)] [(.int ((4 : Int32) - (1 : Int32))), (.ref r107)])) t → Steps p.tables e below (s₁.setTop (entryFrame m #[(.int x0), (.int x1)] maxLocals)) t := fun t k => p111 t (by
      show Steps p.tables e below (T107.setTop (mkF m 88 #[.val (.int x0), .val (.int x1), .val (.int (4 : Int32)), .val (.int vb0), .val (.int vb1), .val (.int vb2), .val (.ref b88), .val (.ref r107)] [(.ref r107)])) _
      refine X107.arraylength hx Ar112.1 (State.isArrayOf_alike hZ.alike Ar112.2.1) (g := (mkF m 88 #[.val (.int x0), .val (.int x1), .val (.int (4 : Int32)), .val (.int vb0), .val (.int vb1), .val (.int vb2), .val (.ref b88), .val (.ref r107)] [(.ref r107)])) rfl rfl (hb hby at_88) _ ?_
      rw [len_of Sz112 Ng112]
      show Steps p.tables e below (T107.setTop (mkF m 89 #[.val (.int x0), .val (.int x1), .val (.int (4 : Int32)), .val (.int vb0), .val (.int vb1), .val (.int vb2), .val (.ref b88), .val (.ref r107)] [(.int (4 : Int32))])) _
      refine XS.iloadN X107.here hx rfl (hb hby at_89) rfl ?_
      show Steps p.tables e below (T107.setTop (mkF m 90 #[.val (.int x0), .val (.int x1), .val (.int (4 : Int32)), .val (.int vb0), .val (.int vb1), .val (.int vb2), .val (.ref b88), .val (.ref r107)] [(.int (4 : Int32)), (.int (4 : Int32))])) _
      refine XS.icmpYes X107.here hx rfl (pc0 := 90) (pc' := 95) rfl (hb hby at_90) rfl ((teq (rfl)).1) (by decide) (by decide) ?_
      show Steps p.tables e below (T107.setTop (mkF m 95 #[.val (.int x0), .val (.int x1), .val (.int (4 : Int32)), .val (.int vb0), .val (.int vb1), .val (.int vb2), .val (.ref b88), .val (.ref r107)] [])) _
      refine XS.aload X107.here hx rfl (hb hby at_95) rfl rfl ?_
      show Steps p.tables e below (T107.setTop (mkF m 97 #[.val (.int x0), .val (.int x1), .val (.int (4 : Int32)), .val (.int vb0), .val (.int vb1), .val (.int vb2), .val (.ref b88), .val (.ref r107)] [(.ref r107)])) _
      refine XS.iloadN X107.here hx rfl (hb hby at_97) rfl ?_
      show Steps p.tables e below (T107.setTop (mkF m 98 #[.val (.int x0), .val (.int x1), .val (.int (4 : Int32)), .val (.int vb0), .val (.int vb1), .val (.int vb2), .val (.ref b88), .val (.ref r107)] [(.int (4 : Int32)), (.ref r107)])) _
      refine XS.iconst X107.here hx rfl (hb hby at_98) ?_
      show Steps p.tables e below (T107.setTop (mkF m 99 #[.val (.int x0), .val (.int x1), .val (.int (4 : Int32)), .val (.int vb0), .val (.int vb1), .val (.int vb2), .val (.ref b88), .val (.ref r107)] [(.int (1 : Int32)), (.int (4 : Int32)), (.ref r107)])) _
      refine XS.isub X107.here hx rfl (hb hby at_99) rfl ?_
      exact k)
    obtain ⟨cl114, Ar114, q114, Sz114, Ng114, Hs114, G114⟩ := id VR107
    have hin114 : ¬ (((4 : Int32) - (1 : Int32)) < 0 ∨ cl114.slots.size ≤ (((4 : Int32) - (1 : Int32))).toNatClampNeg) := inb_of Sz114 ⟨by decide, by decide⟩
    have hat114 : cl114.slots[(((4 : Int32) - (1 : Int32))).toNatClampNeg]? = some (.int ((1 : Int32).toInt8.toInt32)) := Hs114.at hin114 (rfl)
    have p115 : ∀ t, Steps p.tables e below (T107.setTop (mkF m 110 #[.val (.int x0), .val (.int x1), .val (.int (4 : Int32)), .val (.int vb0), .val (.int vb1), .val (.int vb2), .val (.ref b88), .val (.ref r107)] [(.int ((4 : Int32) - (1 : Int32))), (.ref b88)])) t → Steps p.tables e below (s₁.setTop (entryFrame m #[(.int x0), (.int x1)] maxLocals)) t := fun t k => p113 t (by
      show Steps p.tables e below (T107.setTop (mkF m 100 #[.val (.int x0), .val (.int x1), .val (.int (4 : Int32)), .val (.int vb0), .val (.int vb1), .val (.int vb2), .val (.ref b88), .val (.ref r107)] [(.int ((4 : Int32) - (1 : Int32))), (.ref r107)])) _
      refine X107.baloadBytes hx (j := ((4 : Int32) - (1 : Int32))) (v := (.int ((1 : Int32).toInt8.toInt32))) Ar114.1 (State.isArrayOf_alike hZ.alike Ar114.2.1) Ar114.2.2 hin114 hat114 (g := (mkF m 100 #[.val (.int x0), .val (.int x1), .val (.int (4 : Int32)), .val (.int vb0), .val (.int vb1), .val (.int vb2), .val (.ref b88), .val (.ref r107)] [(.int ((4 : Int32) - (1 : Int32))), (.ref r107)])) rfl rfl (hb hby at_100) _ ?_
      show Steps p.tables e below (T107.setTop (mkF m 101 #[.val (.int x0), .val (.int x1), .val (.int (4 : Int32)), .val (.int vb0), .val (.int vb1), .val (.int vb2), .val (.ref b88), .val (.ref r107)] [(.int ((1 : Int32).toInt8.toInt32))])) _
      refine XS.iconst X107.here hx rfl (hb hby at_101) ?_
      show Steps p.tables e below (T107.setTop (mkF m 102 #[.val (.int x0), .val (.int x1), .val (.int (4 : Int32)), .val (.int vb0), .val (.int vb1), .val (.int vb2), .val (.ref b88), .val (.ref r107)] [(.int (1 : Int32)), (.int ((1 : Int32).toInt8.toInt32))])) _
      refine XS.icmpNo X107.here hx rfl (hb hby at_102) rfl ((teq (by decide)).2) ?_
      show Steps p.tables e below (T107.setTop (mkF m 105 #[.val (.int x0), .val (.int x1), .val (.int (4 : Int32)), .val (.int vb0), .val (.int vb1), .val (.int vb2), .val (.ref b88), .val (.ref r107)] [])) _
      refine XS.aload X107.here hx rfl (hb hby at_105) rfl rfl ?_
      show Steps p.tables e below (T107.setTop (mkF m 107 #[.val (.int x0), .val (.int x1), .val (.int (4 : Int32)), .val (.int vb0), .val (.int vb1), .val (.int vb2), .val (.ref b88), .val (.ref r107)] [(.ref b88)])) _
      refine XS.iloadN X107.here hx rfl (hb hby at_107) rfl ?_
      show Steps p.tables e below (T107.setTop (mkF m 108 #[.val (.int x0), .val (.int x1), .val (.int (4 : Int32)), .val (.int vb0), .val (.int vb1), .val (.int vb2), .val (.ref b88), .val (.ref r107)] [(.int (4 : Int32)), (.ref b88)])) _
      refine XS.iconst X107.here hx rfl (hb hby at_108) ?_
      show Steps p.tables e below (T107.setTop (mkF m 109 #[.val (.int x0), .val (.int x1), .val (.int (4 : Int32)), .val (.int vb0), .val (.int vb1), .val (.int vb2), .val (.ref b88), .val (.ref r107)] [(.int (1 : Int32)), (.int (4 : Int32)), (.ref b88)])) _
      refine XS.isub X107.here hx rfl (hb hby at_109) rfl ?_
      exact k)
    obtain ⟨cl116, Ar116, q116, Sz116, Ng116, Hs116, G116⟩ := id f109
    have hin116 : ¬ (((4 : Int32) - (1 : Int32)) < 0 ∨ cl116.slots.size ≤ (((4 : Int32) - (1 : Int32))).toNatClampNeg) := inb_of Sz116 ⟨by decide, by decide⟩
    have hat116 : cl116.slots[(((4 : Int32) - (1 : Int32))).toNatClampNeg]? = some (.int ((0 : Int32).toInt8.toInt32)) := Hs116.at hin116 (rfl)
    have p117 : ∀ t, Steps p.tables e below (T107.setTop (mkF m 124 #[.val (.int x0), .val (.int x1), .val (.int (4 : Int32)), .val (.int vb0), .val (.int vb1), .val (.int vb2), .val (.ref b88), .val (.ref r107)] [(.int (0 : Int32)), (.ref r107)])) t → Steps p.tables e below (s₁.setTop (entryFrame m #[(.int x0), (.int x1)] maxLocals)) t := fun t k => p115 t (by
      show Steps p.tables e below (T107.setTop (mkF m 110 #[.val (.int x0), .val (.int x1), .val (.int (4 : Int32)), .val (.int vb0), .val (.int vb1), .val (.int vb2), .val (.ref b88), .val (.ref r107)] [(.int ((4 : Int32) - (1 : Int32))), (.ref b88)])) _
      refine X107.baloadBytes hx (j := ((4 : Int32) - (1 : Int32))) (v := (.int ((0 : Int32).toInt8.toInt32))) Ar116.1 (State.isArrayOf_alike hZ.alike Ar116.2.1) Ar116.2.2 hin116 hat116 (g := (mkF m 110 #[.val (.int x0), .val (.int x1), .val (.int (4 : Int32)), .val (.int vb0), .val (.int vb1), .val (.int vb2), .val (.ref b88), .val (.ref r107)] [(.int ((4 : Int32) - (1 : Int32))), (.ref b88)])) rfl rfl (hb hby at_110) _ ?_
      show Steps p.tables e below (T107.setTop (mkF m 111 #[.val (.int x0), .val (.int x1), .val (.int (4 : Int32)), .val (.int vb0), .val (.int vb1), .val (.int vb2), .val (.ref b88), .val (.ref r107)] [(.int ((0 : Int32).toInt8.toInt32))])) _
      refine XS.ifYes X107.here hx rfl (pc0 := 111) (pc' := 116) rfl (hb hby at_111) rfl ((if0 _ _).trans (teq (by decide)).1) (by decide) (by decide) ?_
      show Steps p.tables e below (T107.setTop (mkF m 116 #[.val (.int x0), .val (.int x1), .val (.int (4 : Int32)), .val (.int vb0), .val (.int vb1), .val (.int vb2), .val (.ref b88), .val (.ref r107)] [])) _
      refine XS.iloadN X107.here hx rfl (hb hby at_116) rfl ?_
      show Steps p.tables e below (T107.setTop (mkF m 117 #[.val (.int x0), .val (.int x1), .val (.int (4 : Int32)), .val (.int vb0), .val (.int vb1), .val (.int vb2), .val (.ref b88), .val (.ref r107)] [(.int (4 : Int32))])) _
      refine XS.iconst X107.here hx rfl (hb hby at_117) ?_
      show Steps p.tables e below (T107.setTop (mkF m 118 #[.val (.int x0), .val (.int x1), .val (.int (4 : Int32)), .val (.int vb0), .val (.int vb1), .val (.int vb2), .val (.ref b88), .val (.ref r107)] [(.int (1 : Int32)), (.int (4 : Int32))])) _
      refine XS.icmpNo X107.here hx rfl (hb hby at_118) rfl ((tlt (by decide)).2.2.2) ?_
      show Steps p.tables e below (T107.setTop (mkF m 121 #[.val (.int x0), .val (.int x1), .val (.int (4 : Int32)), .val (.int vb0), .val (.int vb1), .val (.int vb2), .val (.ref b88), .val (.ref r107)] [])) _
      refine XS.aload X107.here hx rfl (hb hby at_121) rfl rfl ?_
      show Steps p.tables e below (T107.setTop (mkF m 123 #[.val (.int x0), .val (.int x1), .val (.int (4 : Int32)), .val (.int vb0), .val (.int vb1), .val (.int vb2), .val (.ref b88), .val (.ref r107)] [(.ref r107)])) _
      refine XS.iconst X107.here hx rfl (hb hby at_123) ?_
      exact k)
    obtain ⟨cl118, Ar118, q118, Sz118, Ng118, Hs118, G118⟩ := id VR107
    have hin118 : ¬ ((0 : Int32) < 0 ∨ cl118.slots.size ≤ ((0 : Int32)).toNatClampNeg) := inb_of Sz118 ⟨by decide, by decide⟩
    have hat118 : cl118.slots[((0 : Int32)).toNatClampNeg]? = some (.int (vb0.toInt8.toInt32)) := Hs118.at hin118 (rfl)
    have p119 : ∀ t, Steps p.tables e below (T107.setTop (mkF m 132 #[.val (.int x0), .val (.int x1), .val (.int (4 : Int32)), .val (.int vb0), .val (.int vb1), .val (.int vb2), .val (.ref b88), .val (.ref r107)] [(.int (0 : Int32)), (.ref b88)])) t → Steps p.tables e below (s₁.setTop (entryFrame m #[(.int x0), (.int x1)] maxLocals)) t := fun t k => p117 t (by
      show Steps p.tables e below (T107.setTop (mkF m 124 #[.val (.int x0), .val (.int x1), .val (.int (4 : Int32)), .val (.int vb0), .val (.int vb1), .val (.int vb2), .val (.ref b88), .val (.ref r107)] [(.int (0 : Int32)), (.ref r107)])) _
      refine X107.baloadBytes hx (j := (0 : Int32)) (v := (.int (vb0.toInt8.toInt32))) Ar118.1 (State.isArrayOf_alike hZ.alike Ar118.2.1) Ar118.2.2 hin118 hat118 (g := (mkF m 124 #[.val (.int x0), .val (.int x1), .val (.int (4 : Int32)), .val (.int vb0), .val (.int vb1), .val (.int vb2), .val (.ref b88), .val (.ref r107)] [(.int (0 : Int32)), (.ref r107)])) rfl rfl (hb hby at_124) _ ?_
      show Steps p.tables e below (T107.setTop (mkF m 125 #[.val (.int x0), .val (.int x1), .val (.int (4 : Int32)), .val (.int vb0), .val (.int vb1), .val (.int vb2), .val (.ref b88), .val (.ref r107)] [(.int (vb0.toInt8.toInt32))])) _
      refine XS.iloadN X107.here hx rfl (hb hby at_125) rfl ?_
      show Steps p.tables e below (T107.setTop (mkF m 126 #[.val (.int x0), .val (.int x1), .val (.int (4 : Int32)), .val (.int vb0), .val (.int vb1), .val (.int vb2), .val (.ref b88), .val (.ref r107)] [(.int vb0), (.int (vb0.toInt8.toInt32))])) _
      refine XS.icmpNo X107.here hx rfl (hb hby at_126) rfl ((teq ((by rw [hvb0]; exact own_b2 _))).2) ?_
      show Steps p.tables e below (T107.setTop (mkF m 129 #[.val (.int x0), .val (.int x1), .val (.int (4 : Int32)), .val (.int vb0), .val (.int vb1), .val (.int vb2), .val (.ref b88), .val (.ref r107)] [])) _
      refine XS.aload X107.here hx rfl (hb hby at_129) rfl rfl ?_
      show Steps p.tables e below (T107.setTop (mkF m 131 #[.val (.int x0), .val (.int x1), .val (.int (4 : Int32)), .val (.int vb0), .val (.int vb1), .val (.int vb2), .val (.ref b88), .val (.ref r107)] [(.ref b88)])) _
      refine XS.iconst X107.here hx rfl (hb hby at_131) ?_
      exact k)
    obtain ⟨cl120, Ar120, q120, Sz120, Ng120, Hs120, G120⟩ := id f109
    have hin120 : ¬ ((0 : Int32) < 0 ∨ cl120.slots.size ≤ ((0 : Int32)).toNatClampNeg) := inb_of Sz120 ⟨by decide, by decide⟩
    have hat120 : cl120.slots[((0 : Int32)).toNatClampNeg]? = some (.int (vb0.toInt8.toInt32)) := Hs120.at hin120 (rfl)
    have p121 : ∀ t, Steps p.tables e below (T107.setTop (mkF m 147 #[.val (.int x0), .val (.int x1), .val (.int (4 : Int32)), .val (.int vb0), .val (.int vb1), .val (.int vb2), .val (.ref b88), .val (.ref r107)] [(.int (1 : Int32)), (.ref r107)])) t → Steps p.tables e below (s₁.setTop (entryFrame m #[(.int x0), (.int x1)] maxLocals)) t := fun t k => p119 t (by
      show Steps p.tables e below (T107.setTop (mkF m 132 #[.val (.int x0), .val (.int x1), .val (.int (4 : Int32)), .val (.int vb0), .val (.int vb1), .val (.int vb2), .val (.ref b88), .val (.ref r107)] [(.int (0 : Int32)), (.ref b88)])) _
      refine X107.baloadBytes hx (j := (0 : Int32)) (v := (.int (vb0.toInt8.toInt32))) Ar120.1 (State.isArrayOf_alike hZ.alike Ar120.2.1) Ar120.2.2 hin120 hat120 (g := (mkF m 132 #[.val (.int x0), .val (.int x1), .val (.int (4 : Int32)), .val (.int vb0), .val (.int vb1), .val (.int vb2), .val (.ref b88), .val (.ref r107)] [(.int (0 : Int32)), (.ref b88)])) rfl rfl (hb hby at_132) _ ?_
      show Steps p.tables e below (T107.setTop (mkF m 133 #[.val (.int x0), .val (.int x1), .val (.int (4 : Int32)), .val (.int vb0), .val (.int vb1), .val (.int vb2), .val (.ref b88), .val (.ref r107)] [(.int (vb0.toInt8.toInt32))])) _
      refine XS.iloadN X107.here hx rfl (hb hby at_133) rfl ?_
      show Steps p.tables e below (T107.setTop (mkF m 134 #[.val (.int x0), .val (.int x1), .val (.int (4 : Int32)), .val (.int vb0), .val (.int vb1), .val (.int vb2), .val (.ref b88), .val (.ref r107)] [(.int vb0), (.int (vb0.toInt8.toInt32))])) _
      refine XS.icmpYes X107.here hx rfl (pc0 := 134) (pc' := 139) rfl (hb hby at_134) rfl ((teq ((by rw [hvb0]; exact own_b2 _))).1) (by decide) (by decide) ?_
      show Steps p.tables e below (T107.setTop (mkF m 139 #[.val (.int x0), .val (.int x1), .val (.int (4 : Int32)), .val (.int vb0), .val (.int vb1), .val (.int vb2), .val (.ref b88), .val (.ref r107)] [])) _
      refine XS.iloadN X107.here hx rfl (hb hby at_139) rfl ?_
      show Steps p.tables e below (T107.setTop (mkF m 140 #[.val (.int x0), .val (.int x1), .val (.int (4 : Int32)), .val (.int vb0), .val (.int vb1), .val (.int vb2), .val (.ref b88), .val (.ref r107)] [(.int (4 : Int32))])) _
      refine XS.iconst X107.here hx rfl (hb hby at_140) ?_
      show Steps p.tables e below (T107.setTop (mkF m 141 #[.val (.int x0), .val (.int x1), .val (.int (4 : Int32)), .val (.int vb0), .val (.int vb1), .val (.int vb2), .val (.ref b88), .val (.ref r107)] [(.int (2 : Int32)), (.int (4 : Int32))])) _
      refine XS.icmpNo X107.here hx rfl (hb hby at_141) rfl ((tlt (by decide)).2.2.2) ?_
      show Steps p.tables e below (T107.setTop (mkF m 144 #[.val (.int x0), .val (.int x1), .val (.int (4 : Int32)), .val (.int vb0), .val (.int vb1), .val (.int vb2), .val (.ref b88), .val (.ref r107)] [])) _
      refine XS.aload X107.here hx rfl (hb hby at_144) rfl rfl ?_
      show Steps p.tables e below (T107.setTop (mkF m 146 #[.val (.int x0), .val (.int x1), .val (.int (4 : Int32)), .val (.int vb0), .val (.int vb1), .val (.int vb2), .val (.ref b88), .val (.ref r107)] [(.ref r107)])) _
      refine XS.iconst X107.here hx rfl (hb hby at_146) ?_
      exact k)
    obtain ⟨cl122, Ar122, q122, Sz122, Ng122, Hs122, G122⟩ := id VR107
    have hin122 : ¬ ((1 : Int32) < 0 ∨ cl122.slots.size ≤ ((1 : Int32)).toNatClampNeg) := inb_of Sz122 ⟨by decide, by decide⟩
    have hat122 : cl122.slots[((1 : Int32)).toNatClampNeg]? = some (.int (vb1.toInt8.toInt32)) := Hs122.at hin122 (rfl)
    have p123 : ∀ t, Steps p.tables e below (T107.setTop (mkF m 156 #[.val (.int x0), .val (.int x1), .val (.int (4 : Int32)), .val (.int vb0), .val (.int vb1), .val (.int vb2), .val (.ref b88), .val (.ref r107)] [(.int (1 : Int32)), (.ref b88)])) t → Steps p.tables e below (s₁.setTop (entryFrame m #[(.int x0), (.int x1)] maxLocals)) t := fun t k => p121 t (by
      show Steps p.tables e below (T107.setTop (mkF m 147 #[.val (.int x0), .val (.int x1), .val (.int (4 : Int32)), .val (.int vb0), .val (.int vb1), .val (.int vb2), .val (.ref b88), .val (.ref r107)] [(.int (1 : Int32)), (.ref r107)])) _
      refine X107.baloadBytes hx (j := (1 : Int32)) (v := (.int (vb1.toInt8.toInt32))) Ar122.1 (State.isArrayOf_alike hZ.alike Ar122.2.1) Ar122.2.2 hin122 hat122 (g := (mkF m 147 #[.val (.int x0), .val (.int x1), .val (.int (4 : Int32)), .val (.int vb0), .val (.int vb1), .val (.int vb2), .val (.ref b88), .val (.ref r107)] [(.int (1 : Int32)), (.ref r107)])) rfl rfl (hb hby at_147) _ ?_
      show Steps p.tables e below (T107.setTop (mkF m 148 #[.val (.int x0), .val (.int x1), .val (.int (4 : Int32)), .val (.int vb0), .val (.int vb1), .val (.int vb2), .val (.ref b88), .val (.ref r107)] [(.int (vb1.toInt8.toInt32))])) _
      refine XS.iload X107.here hx rfl (hb hby at_148) rfl ?_
      show Steps p.tables e below (T107.setTop (mkF m 150 #[.val (.int x0), .val (.int x1), .val (.int (4 : Int32)), .val (.int vb0), .val (.int vb1), .val (.int vb2), .val (.ref b88), .val (.ref r107)] [(.int vb1), (.int (vb1.toInt8.toInt32))])) _
      refine XS.icmpNo X107.here hx rfl (hb hby at_150) rfl ((teq ((by rw [hvb1]; exact own_b2 _))).2) ?_
      show Steps p.tables e below (T107.setTop (mkF m 153 #[.val (.int x0), .val (.int x1), .val (.int (4 : Int32)), .val (.int vb0), .val (.int vb1), .val (.int vb2), .val (.ref b88), .val (.ref r107)] [])) _
      refine XS.aload X107.here hx rfl (hb hby at_153) rfl rfl ?_
      show Steps p.tables e below (T107.setTop (mkF m 155 #[.val (.int x0), .val (.int x1), .val (.int (4 : Int32)), .val (.int vb0), .val (.int vb1), .val (.int vb2), .val (.ref b88), .val (.ref r107)] [(.ref b88)])) _
      refine XS.iconst X107.here hx rfl (hb hby at_155) ?_
      exact k)
    obtain ⟨cl124, Ar124, q124, Sz124, Ng124, Hs124, G124⟩ := id f109
    have hin124 : ¬ ((1 : Int32) < 0 ∨ cl124.slots.size ≤ ((1 : Int32)).toNatClampNeg) := inb_of Sz124 ⟨by decide, by decide⟩
    have hat124 : cl124.slots[((1 : Int32)).toNatClampNeg]? = some (.int (vb1.toInt8.toInt32)) := Hs124.at hin124 (rfl)
    have p125 : ∀ t, Steps p.tables e below (T107.setTop (mkF m 172 #[.val (.int x0), .val (.int x1), .val (.int (4 : Int32)), .val (.int vb0), .val (.int vb1), .val (.int vb2), .val (.ref b88), .val (.ref r107)] [(.int (2 : Int32)), (.ref r107)])) t → Steps p.tables e below (s₁.setTop (entryFrame m #[(.int x0), (.int x1)] maxLocals)) t := fun t k => p123 t (by
      show Steps p.tables e below (T107.setTop (mkF m 156 #[.val (.int x0), .val (.int x1), .val (.int (4 : Int32)), .val (.int vb0), .val (.int vb1), .val (.int vb2), .val (.ref b88), .val (.ref r107)] [(.int (1 : Int32)), (.ref b88)])) _
      refine X107.baloadBytes hx (j := (1 : Int32)) (v := (.int (vb1.toInt8.toInt32))) Ar124.1 (State.isArrayOf_alike hZ.alike Ar124.2.1) Ar124.2.2 hin124 hat124 (g := (mkF m 156 #[.val (.int x0), .val (.int x1), .val (.int (4 : Int32)), .val (.int vb0), .val (.int vb1), .val (.int vb2), .val (.ref b88), .val (.ref r107)] [(.int (1 : Int32)), (.ref b88)])) rfl rfl (hb hby at_156) _ ?_
      show Steps p.tables e below (T107.setTop (mkF m 157 #[.val (.int x0), .val (.int x1), .val (.int (4 : Int32)), .val (.int vb0), .val (.int vb1), .val (.int vb2), .val (.ref b88), .val (.ref r107)] [(.int (vb1.toInt8.toInt32))])) _
      refine XS.iload X107.here hx rfl (hb hby at_157) rfl ?_
      show Steps p.tables e below (T107.setTop (mkF m 159 #[.val (.int x0), .val (.int x1), .val (.int (4 : Int32)), .val (.int vb0), .val (.int vb1), .val (.int vb2), .val (.ref b88), .val (.ref r107)] [(.int vb1), (.int (vb1.toInt8.toInt32))])) _
      refine XS.icmpYes X107.here hx rfl (pc0 := 159) (pc' := 164) rfl (hb hby at_159) rfl ((teq ((by rw [hvb1]; exact own_b2 _))).1) (by decide) (by decide) ?_
      show Steps p.tables e below (T107.setTop (mkF m 164 #[.val (.int x0), .val (.int x1), .val (.int (4 : Int32)), .val (.int vb0), .val (.int vb1), .val (.int vb2), .val (.ref b88), .val (.ref r107)] [])) _
      refine XS.iloadN X107.here hx rfl (hb hby at_164) rfl ?_
      show Steps p.tables e below (T107.setTop (mkF m 165 #[.val (.int x0), .val (.int x1), .val (.int (4 : Int32)), .val (.int vb0), .val (.int vb1), .val (.int vb2), .val (.ref b88), .val (.ref r107)] [(.int (4 : Int32))])) _
      refine XS.iconst X107.here hx rfl (hb hby at_165) ?_
      show Steps p.tables e below (T107.setTop (mkF m 166 #[.val (.int x0), .val (.int x1), .val (.int (4 : Int32)), .val (.int vb0), .val (.int vb1), .val (.int vb2), .val (.ref b88), .val (.ref r107)] [(.int (3 : Int32)), (.int (4 : Int32))])) _
      refine XS.icmpNo X107.here hx rfl (hb hby at_166) rfl ((tlt (by decide)).2.2.2) ?_
      show Steps p.tables e below (T107.setTop (mkF m 169 #[.val (.int x0), .val (.int x1), .val (.int (4 : Int32)), .val (.int vb0), .val (.int vb1), .val (.int vb2), .val (.ref b88), .val (.ref r107)] [])) _
      refine XS.aload X107.here hx rfl (hb hby at_169) rfl rfl ?_
      show Steps p.tables e below (T107.setTop (mkF m 171 #[.val (.int x0), .val (.int x1), .val (.int (4 : Int32)), .val (.int vb0), .val (.int vb1), .val (.int vb2), .val (.ref b88), .val (.ref r107)] [(.ref r107)])) _
      refine XS.iconst X107.here hx rfl (hb hby at_171) ?_
      exact k)
    obtain ⟨cl126, Ar126, q126, Sz126, Ng126, Hs126, G126⟩ := id VR107
    have hin126 : ¬ ((2 : Int32) < 0 ∨ cl126.slots.size ≤ ((2 : Int32)).toNatClampNeg) := inb_of Sz126 ⟨by decide, by decide⟩
    have hat126 : cl126.slots[((2 : Int32)).toNatClampNeg]? = some (.int (vb2.toInt8.toInt32)) := Hs126.at hin126 (rfl)
    have p127 : ∀ t, Steps p.tables e below (T107.setTop (mkF m 181 #[.val (.int x0), .val (.int x1), .val (.int (4 : Int32)), .val (.int vb0), .val (.int vb1), .val (.int vb2), .val (.ref b88), .val (.ref r107)] [(.int (2 : Int32)), (.ref b88)])) t → Steps p.tables e below (s₁.setTop (entryFrame m #[(.int x0), (.int x1)] maxLocals)) t := fun t k => p125 t (by
      show Steps p.tables e below (T107.setTop (mkF m 172 #[.val (.int x0), .val (.int x1), .val (.int (4 : Int32)), .val (.int vb0), .val (.int vb1), .val (.int vb2), .val (.ref b88), .val (.ref r107)] [(.int (2 : Int32)), (.ref r107)])) _
      refine X107.baloadBytes hx (j := (2 : Int32)) (v := (.int (vb2.toInt8.toInt32))) Ar126.1 (State.isArrayOf_alike hZ.alike Ar126.2.1) Ar126.2.2 hin126 hat126 (g := (mkF m 172 #[.val (.int x0), .val (.int x1), .val (.int (4 : Int32)), .val (.int vb0), .val (.int vb1), .val (.int vb2), .val (.ref b88), .val (.ref r107)] [(.int (2 : Int32)), (.ref r107)])) rfl rfl (hb hby at_172) _ ?_
      show Steps p.tables e below (T107.setTop (mkF m 173 #[.val (.int x0), .val (.int x1), .val (.int (4 : Int32)), .val (.int vb0), .val (.int vb1), .val (.int vb2), .val (.ref b88), .val (.ref r107)] [(.int (vb2.toInt8.toInt32))])) _
      refine XS.iload X107.here hx rfl (hb hby at_173) rfl ?_
      show Steps p.tables e below (T107.setTop (mkF m 175 #[.val (.int x0), .val (.int x1), .val (.int (4 : Int32)), .val (.int vb0), .val (.int vb1), .val (.int vb2), .val (.ref b88), .val (.ref r107)] [(.int vb2), (.int (vb2.toInt8.toInt32))])) _
      refine XS.icmpNo X107.here hx rfl (hb hby at_175) rfl ((teq ((by rw [hvb2]; exact own_b2 _))).2) ?_
      show Steps p.tables e below (T107.setTop (mkF m 178 #[.val (.int x0), .val (.int x1), .val (.int (4 : Int32)), .val (.int vb0), .val (.int vb1), .val (.int vb2), .val (.ref b88), .val (.ref r107)] [])) _
      refine XS.aload X107.here hx rfl (hb hby at_178) rfl rfl ?_
      show Steps p.tables e below (T107.setTop (mkF m 180 #[.val (.int x0), .val (.int x1), .val (.int (4 : Int32)), .val (.int vb0), .val (.int vb1), .val (.int vb2), .val (.ref b88), .val (.ref r107)] [(.ref b88)])) _
      refine XS.iconst X107.here hx rfl (hb hby at_180) ?_
      exact k)
    obtain ⟨cl128, Ar128, q128, Sz128, Ng128, Hs128, G128⟩ := id f109
    have hin128 : ¬ ((2 : Int32) < 0 ∨ cl128.slots.size ≤ ((2 : Int32)).toNatClampNeg) := inb_of Sz128 ⟨by decide, by decide⟩
    have hat128 : cl128.slots[((2 : Int32)).toNatClampNeg]? = some (.int (vb2.toInt8.toInt32)) := Hs128.at hin128 (rfl)
    have p129 : ∀ t, Steps p.tables e below (T107.setTop (mkF m 190 #[.val (.int x0), .val (.int x1), .val (.int (4 : Int32)), .val (.int vb0), .val (.int vb1), .val (.int vb2), .val (.ref b88), .val (.ref r107)] [(.int (1 : Int32))])) t → Steps p.tables e below (s₁.setTop (entryFrame m #[(.int x0), (.int x1)] maxLocals)) t := fun t k => p127 t (by
      show Steps p.tables e below (T107.setTop (mkF m 181 #[.val (.int x0), .val (.int x1), .val (.int (4 : Int32)), .val (.int vb0), .val (.int vb1), .val (.int vb2), .val (.ref b88), .val (.ref r107)] [(.int (2 : Int32)), (.ref b88)])) _
      refine X107.baloadBytes hx (j := (2 : Int32)) (v := (.int (vb2.toInt8.toInt32))) Ar128.1 (State.isArrayOf_alike hZ.alike Ar128.2.1) Ar128.2.2 hin128 hat128 (g := (mkF m 181 #[.val (.int x0), .val (.int x1), .val (.int (4 : Int32)), .val (.int vb0), .val (.int vb1), .val (.int vb2), .val (.ref b88), .val (.ref r107)] [(.int (2 : Int32)), (.ref b88)])) rfl rfl (hb hby at_181) _ ?_
      show Steps p.tables e below (T107.setTop (mkF m 182 #[.val (.int x0), .val (.int x1), .val (.int (4 : Int32)), .val (.int vb0), .val (.int vb1), .val (.int vb2), .val (.ref b88), .val (.ref r107)] [(.int (vb2.toInt8.toInt32))])) _
      refine XS.iload X107.here hx rfl (hb hby at_182) rfl ?_
      show Steps p.tables e below (T107.setTop (mkF m 184 #[.val (.int x0), .val (.int x1), .val (.int (4 : Int32)), .val (.int vb0), .val (.int vb1), .val (.int vb2), .val (.ref b88), .val (.ref r107)] [(.int vb2), (.int (vb2.toInt8.toInt32))])) _
      refine XS.icmpYes X107.here hx rfl (pc0 := 184) (pc' := 189) rfl (hb hby at_184) rfl ((teq ((by rw [hvb2]; exact own_b2 _))).1) (by decide) (by decide) ?_
      show Steps p.tables e below (T107.setTop (mkF m 189 #[.val (.int x0), .val (.int x1), .val (.int (4 : Int32)), .val (.int vb0), .val (.int vb1), .val (.int vb2), .val (.ref b88), .val (.ref r107)] [])) _
      refine XS.iconst X107.here hx rfl (hb hby at_189) ?_
      exact k)
    obtain ⟨fs, hr, hrun, hended, hW, hsame⟩ := X107.leave (v := some (.int (1 : Int32))) (fun h => by rw [Bd.returns] at h; cases h)
    refine ⟨_, _, p129 _ ?_, hrun, hended, _, _, rfl, ?_, ⟨_, rfl⟩, hW, hsame.mono (by decide) (by decide)⟩
    · show Steps p.tables e below (T107.setTop (mkF m 190 #[.val (.int x0), .val (.int x1), .val (.int (4 : Int32)), .val (.int vb0), .val (.int vb1), .val (.int vb2), .val (.ref b88), .val (.ref r107)] [(.int (1 : Int32))])) _
      exact retN X107 hx (t := .boolean) Bd.returns (by simp) (hb hby at_190) hr
    · show Q0 Z x0 x1 h0 n0 _ T107.heap _
      skip
      exact ⟨rfl, N107⟩
set_option maxRecDepth 65536 in
set_option maxHeartbeats 40000000 in
theorem comes_1 {Post : Tables → Env → Array Value → State → Outcome → State → Prop} (hpost : ∀ tb e args s v u, (limb_1_1.after args s (.returned v) u = true ∧ limb_1_2.after args s (.returned v) u = true ∧ True) → FrameEnd s (.returned v) u (Jvm.fieldLocs frame_1_writes args s ++ Jvm.arrayLocs frame_1_arrays args s ++ Jvm.staticLocs frame_1_statics s) 16 128 → Post tb e args s (.returned v) u) :
    ArmFor flags0 classFile x code maxLocals ret World_1 tables_1 room_1 Calls_1 rest_1 Pre_1 Post := by
  intro l hfl _ _ p e ha hc hk s m args below hf hA hF happ hP
  obtain ⟨hcalls, hrest, hpre⟩ := hP
  obtain ⟨-, -, -, hnamed, -, -, -, hat⟩ := (Spec.applies_iff hf).mp happ
  obtain ⟨hg, hn⟩ := and_e (Cond.before_iff.mp (show (Jvm.Cond.and given_1 narrow_1).before args s = true from hpre))
  obtain ⟨hcount, ga0⟩ := and_e hg
  obtain ⟨gb0, ga1⟩ := and_e ga0
  obtain ⟨w0, w1, rfl⟩ : ∃ w0 w1 : Value, args = #[w0, w1] := by
    have hs : args.size = 2 := by simpa [Cond.value, given_1] using hcount
    obtain ⟨L⟩ := args
    match L, hs with
    | [w0, w1], _ => exact ⟨w0, w1, rfl⟩
  have hw := fun d (hd : d ∈ tables_1) => atoms_spec (ws := Jvm.Cond.code x code maxLocals ret :: tables_1) hat d (List.mem_cons_of_mem _ hd)
  have hfit : Fit s := fun {y c} hc i hi => by
    obtain ⟨ha, rfl⟩ := Array.getElem?_eq_some_iff.mp hc
    have q := List.all_eq_true.mp ((Array.all_eq_true_iff_forall_mem.mp hF) _ (Array.getElem_mem ha)) i (List.mem_range.mpr hi)
    simpa [Array.getElem?_eq_getElem hi] using q
  obtain ⟨i0, ei0⟩ := is_v gb0
  obtain rfl : w0 = (.int i0) := Option.some.inj ei0
  obtain ⟨i1, ei1⟩ := is_v ga1
  obtain rfl : w1 = (.int i1) := Option.some.inj ei1
  obtain ⟨n, o, h1, h2, h3, _, L, rfl, ⟨rfl, N⟩, hq⟩ := rm0 l s _ hw tables_1 i0 i1 s.heap s.heap.size (Nat.le_refl _) p e ha hc hk s m _ below hf ((Spec.applies_iff_loose hf).mp happ).1 ⟨rfl, State.Warmed39.refl s, rfl⟩ trivial
  refine ⟨n, _, h1, h2, h3, hpost _ _ _ _ _ _ ⟨Cond.after_iff.mpr rfl, Cond.after_iff.mpr (eq_i res_at (Term.int_eval (1)) rfl), trivial⟩ ⟨hq.1, hq.2.1, (hq.2.2.sift fun y hy => Or.inr (N y hy)).mono (by decide) (by decide)⟩⟩
theorem main_1_1 : Claimed_1_1 := comes_1 fun _ _ _ _ _ _ h hF => ⟨h.1, hF⟩
theorem main_1_2 : Claimed_1_2 := comes_1 fun _ _ _ _ _ _ h hF => ⟨h.2.1, hF⟩
end Jvm.Pilot.@@N@@
namespace Jvm.Pilot.@@N@@
open Jvm Jvm.ClassFile Sem Op Lib Jvm.Free Jvm.Stand Jvm.Pilot.@@N@@.Jvm.D
/-! MADE BY PROGRAM (witnessworld.py) out of the Statement's table words and the real class files: 7 classes; the members and pool entries that the words name. The judged class is class 1, her method 1. -/
namespace start1
open Jvm.ClassFile
def u (s : String) : CpInfo := .utf8 (stringToUtf16 s)
/-- a pool by its gaps: so many unusable entries, then the entry; so many at the end -/
def gap : Nat → List CpInfo → List CpInfo
  | 0, r => r
  | n + 1, r => .unusable :: gap n r
def poolList (es : List (Nat × CpInfo)) (last : Nat) : List CpInfo := es.foldr (fun e r => gap e.1 (e.2 :: r)) (gap last [])
def pool (es : List (Nat × CpInfo)) (last : Nat) : Array CpInfo := ⟨poolList es last⟩
def fileOf (pool : Array CpInfo) (this : Nat) (attrs : Array Attribute := #[]) (ms : Array MethodInfo := #[]) (fl : Nat := 33) (sup : Nat := 0) (ifs : Array Nat := #[]) (fds : Array FieldInfo := #[]) : ClassFile where
  minorVersion := 0
  majorVersion := 65
  constantPool := pool
  accessFlags := fl
  thisClass := this
  superClass := sup
  interfaces := ifs
  fields := fds
  methods := ms
  attributes := attrs
def plain (name : String) (sup : Option ClassId) : Class where
  name := name
  kind := .ordinary
  loader := none
  accessFlags := 33
  super := sup
  interfaces := #[]
  cf := none
  fields := #[]
  methods := #[]
  instanceTypes := #[]
  staticTypes := #[]
  resolved := #[]
  callSites := []
  init := .initialized
  statics := none
  mirror := none

def pool0 : Array CpInfo := pool [(5, u "<init>"), (0, u "()V"), (1, .class_ 10), (1, u "java/lang/Object"), (85, u "clone"), (0, u "()Ljava/lang/Object;")] 26

def k0m0 : Method := { name := "<init>", desc := "()V", sig := { parameters := [], returnType := none }, accessFlags := 1, code := none }
def k0m1 : Method := { name := "clone", desc := "()Ljava/lang/Object;", sig := { parameters := [], returnType := some (.object "java/lang/Object") }, accessFlags := 260, code := none }
/-- java/lang/Object -/
def k0 : Class := { plain "java/lang/Object" none with
  accessFlags := 33
  interfaces := #[]
  cf := some (fileOf pool0 8 #[] #[{ accessFlags := 1, nameIndex := 5, descriptorIndex := 6, attributes := #[] }, { accessFlags := 260, nameIndex := 96, descriptorIndex := 97, attributes := #[] }] 33 0 #[] #[])
  fields := #[]
  methods := #[k0m0, k0m1]
  instanceTypes := #[]
  staticTypes := #[]
  resolved := Array.replicate 124 none
  statics := none }

def pool1 : Array CpInfo := pool [(2, .class_ 4), (1, u "java/lang/Object"), (0, u "<init>"), (0, u "()V"), (0, .methodref 8 9), (0, .class_ 10), (0, .nameAndType 11 12), (0, u "com/example/disposition/disposition/store/Keys"), (0, u "pastPrefix"), (0, u "([B)[B"), (0, .class_ 14), (0, u "com/example/disposition/disposition/store/KeysPastPrefixPinLaw"), (2, u "law"), (0, u "(II)Z")] 5

def k1m0 : Method := { name := "<init>", desc := "()V", sig := { parameters := [], returnType := none }, accessFlags := 1, code := none }
def k1c1 : Code := { maxStack := 3, maxLocals := 8, code := code, exceptionTable := #[], attributes := #[] }
def k1m1 : Method := { name := "law", desc := "(II)Z", sig := { parameters := [.int, .int], returnType := some .boolean }, accessFlags := 9, code := some k1c1 }
/-- com/example/disposition/disposition/store/KeysPastPrefixPinLaw -/
def k1 : Class := { plain "com/example/disposition/disposition/store/KeysPastPrefixPinLaw" (some 0) with
  accessFlags := 49
  interfaces := #[]
  cf := some (fileOf pool1 13 #[] #[{ accessFlags := 1, nameIndex := 5, descriptorIndex := 6, attributes := #[] }, { accessFlags := 9, nameIndex := 17, descriptorIndex := 18, attributes := #[] }] 49 2 #[] #[])
  fields := #[]
  methods := #[k1m0, k1m1]
  instanceTypes := #[]
  staticTypes := #[]
  resolved := Array.replicate 24 none
  statics := none }

def pool2 : Array CpInfo := pool [(6, .class_ 8), (1, u "java/lang/Object"), (0, u "<init>"), (0, u "()V"), (0, .class_ 12), (0, u "com/example/disposition/disposition/store/Keys"), (81, .class_ 95), (0, u "com/example/disposition/disposition/store/Keys$VersionKey"), (54, .methodref 151 152), (0, .class_ 153), (0, .nameAndType 154 155), (0, u "[B"), (0, u "clone"), (0, u "()Ljava/lang/Object;"), (71, u "TEXT_KINDS"), (0, u "SETTINGS"), (0, u "B"), (2, u "POLICY"), (1, u "HOLD"), (1, u "MESSAGE"), (1, u "EVENT"), (1, u "VERSION"), (1, u "LEAVING"), (1, u "TIMELINE"), (1, u "IN_PLACE_QUEUE"), (1, u "STAYING_QUEUE"), (1, u "RETAINED_QUEUE"), (1, u "HELD_QUEUE"), (1, u "STAGED"), (1, u "SET_ASIDE"), (1, u "COMMITTED_UNIT"), (1, u "SCRATCH"), (1, u "DELETION"), (1, u "DELETED"), (1, u "TIME_BYTES"), (0, u "I"), (30, u "([B)[B"), (11, u "pastPrefix")] 14

def k2m0 : Method := { name := "<init>", desc := "()V", sig := { parameters := [], returnType := none }, accessFlags := 2, code := none }
def k2c1 : Code := { maxStack := 3, maxLocals := 2, code := prog_24_method_29_code, exceptionTable := #[], attributes := #[] }
def k2m1 : Method := { name := "pastPrefix", desc := "([B)[B", sig := { parameters := [(.array .byte)], returnType := some (.array .byte) }, accessFlags := 8, code := some k2c1 }
/-- com/example/disposition/disposition/store/Keys -/
def k2 : Class := { plain "com/example/disposition/disposition/store/Keys" (some 0) with
  accessFlags := 32
  interfaces := #[]
  cf := some (fileOf pool2 11 #[.nestMembers #[94]] #[{ accessFlags := 2, nameIndex := 9, descriptorIndex := 10, attributes := #[] }, { accessFlags := 8, nameIndex := 310, descriptorIndex := 298, attributes := #[] }] 32 6 #[] #[{ accessFlags := 24, nameIndex := 228, descriptorIndex := 229, attributes := #[] }, { accessFlags := 24, nameIndex := 232, descriptorIndex := 229, attributes := #[] }, { accessFlags := 24, nameIndex := 234, descriptorIndex := 229, attributes := #[] }, { accessFlags := 24, nameIndex := 236, descriptorIndex := 229, attributes := #[] }, { accessFlags := 24, nameIndex := 238, descriptorIndex := 229, attributes := #[] }, { accessFlags := 24, nameIndex := 240, descriptorIndex := 229, attributes := #[] }, { accessFlags := 24, nameIndex := 242, descriptorIndex := 229, attributes := #[] }, { accessFlags := 24, nameIndex := 244, descriptorIndex := 229, attributes := #[] }, { accessFlags := 24, nameIndex := 246, descriptorIndex := 229, attributes := #[] }, { accessFlags := 24, nameIndex := 248, descriptorIndex := 229, attributes := #[] }, { accessFlags := 24, nameIndex := 250, descriptorIndex := 229, attributes := #[] }, { accessFlags := 24, nameIndex := 252, descriptorIndex := 229, attributes := #[] }, { accessFlags := 24, nameIndex := 254, descriptorIndex := 229, attributes := #[] }, { accessFlags := 24, nameIndex := 256, descriptorIndex := 229, attributes := #[] }, { accessFlags := 24, nameIndex := 258, descriptorIndex := 229, attributes := #[] }, { accessFlags := 24, nameIndex := 260, descriptorIndex := 229, attributes := #[] }, { accessFlags := 24, nameIndex := 262, descriptorIndex := 229, attributes := #[] }, { accessFlags := 24, nameIndex := 264, descriptorIndex := 229, attributes := #[] }, { accessFlags := 24, nameIndex := 227, descriptorIndex := 153, attributes := #[] }, { accessFlags := 24, nameIndex := 266, descriptorIndex := 267, attributes := #[] }])
  fields := #[{ name := "SETTINGS", type := .byte, accessFlags := 24, slot := 0, constantValue := 0 }, { name := "POLICY", type := .byte, accessFlags := 24, slot := 1, constantValue := 0 }, { name := "HOLD", type := .byte, accessFlags := 24, slot := 2, constantValue := 0 }, { name := "MESSAGE", type := .byte, accessFlags := 24, slot := 3, constantValue := 0 }, { name := "EVENT", type := .byte, accessFlags := 24, slot := 4, constantValue := 0 }, { name := "VERSION", type := .byte, accessFlags := 24, slot := 5, constantValue := 0 }, { name := "LEAVING", type := .byte, accessFlags := 24, slot := 6, constantValue := 0 }, { name := "TIMELINE", type := .byte, accessFlags := 24, slot := 7, constantValue := 0 }, { name := "IN_PLACE_QUEUE", type := .byte, accessFlags := 24, slot := 8, constantValue := 0 }, { name := "STAYING_QUEUE", type := .byte, accessFlags := 24, slot := 9, constantValue := 0 }, { name := "RETAINED_QUEUE", type := .byte, accessFlags := 24, slot := 10, constantValue := 0 }, { name := "HELD_QUEUE", type := .byte, accessFlags := 24, slot := 11, constantValue := 0 }, { name := "STAGED", type := .byte, accessFlags := 24, slot := 12, constantValue := 0 }, { name := "SET_ASIDE", type := .byte, accessFlags := 24, slot := 13, constantValue := 0 }, { name := "COMMITTED_UNIT", type := .byte, accessFlags := 24, slot := 14, constantValue := 0 }, { name := "SCRATCH", type := .byte, accessFlags := 24, slot := 15, constantValue := 0 }, { name := "DELETION", type := .byte, accessFlags := 24, slot := 16, constantValue := 0 }, { name := "DELETED", type := .byte, accessFlags := 24, slot := 17, constantValue := 0 }, { name := "TEXT_KINDS", type := (.array .byte), accessFlags := 24, slot := 18, constantValue := 0 }, { name := "TIME_BYTES", type := .int, accessFlags := 24, slot := 19, constantValue := 0 }]
  methods := #[k2m0, k2m1]
  instanceTypes := #[]
  staticTypes := #[.byte, .byte, .byte, .byte, .byte, .byte, .byte, .byte, .byte, .byte, .byte, .byte, .byte, .byte, .byte, .byte, .byte, .byte, (.array .byte), .int]
  resolved := Array.replicate 325 none
  statics := none }

def pool3 : Array CpInfo := pool [(1, .class_ 2), (0, u "java/lang/Cloneable"), (0, .class_ 4), (0, u "java/lang/Object")] 2

/-- java/lang/Cloneable -/
def k3 : Class := { plain "java/lang/Cloneable" (some 0) with
  accessFlags := 1537
  interfaces := #[]
  cf := some (fileOf pool3 1 #[] #[] 1537 3 #[] #[])
  fields := #[]
  methods := #[]
  instanceTypes := #[]
  staticTypes := #[]
  resolved := Array.replicate 7 none
  statics := none }

def pool4 : Array CpInfo := pool [(1, u "java/io/Serializable"), (0, .class_ 1), (0, u "java/lang/Object"), (0, .class_ 3)] 3

/-- java/io/Serializable -/
def k4 : Class := { plain "java/io/Serializable" (some 0) with
  accessFlags := 1537
  interfaces := #[]
  cf := some (fileOf pool4 2 #[] #[] 1537 4 #[] #[])
  fields := #[]
  methods := #[]
  instanceTypes := #[]
  staticTypes := #[]
  resolved := Array.replicate 8 none
  statics := none }

/-- the primitive byte -/
def k5 : Class := { plain "byte" none with kind := .primitive 'B', accessFlags := 0x411 }
/-- [B -/
def k6 : Class := { plain "[B" (some 0) with kind := .array 5 .byte, interfaces := #[3, 4], accessFlags := 1041 }

def heap : Heap := #[]
def classes : Array Class := #[k0, k1, k2, k3, k4, k5, k6]
def interned : List (Array UInt16 × Addr) := []
def slotsUsed : Nat := 0
def theMethod : MethodId := ⟨1, 1⟩
def args0 : Array Value := #[.int 2, .int 300]
def aboutOver (below : List Frame) : State where
  vm := { classes := classes, interned := interned.toArray }
  heap := heap
  slotsUsed := slotsUsed
  threads := #[{ frames := .invoking theMethod args0 :: below }]
def below0 : List Frame := [.native { method := ⟨0, 0⟩, args := #[] }]
def about1 : State := aboutOver below0
def p0 : Program := .bare "" "" ""
def e0 : Env := launch0.env 0 0 0
theorem w_frames : about1.frames = Frame.invoking theMethod args0 :: below0 := rfl
set_option maxRecDepth 65536 in
theorem w_args : argsFit about1.vm theMethod args0 = true := by decide +kernel
set_option maxRecDepth 65536 in
theorem w_heap : heapFits about1 = true := by decide +kernel
set_option maxRecDepth 65536 in
theorem w_runnable : about1.curStatus? = some .runnable := by decide +kernel
set_option maxRecDepth 65536 in
theorem w_alone : about1.alone = true := by decide +kernel
set_option maxRecDepth 65536 in
theorem w_named : about1.methodNamed? x = some theMethod := by decide +kernel
set_option maxRecDepth 65536 in
theorem w_hears : about1.hears theMethod below0 = true := by decide +kernel
set_option maxRecDepth 65536 in
theorem w_ripe : about1.ripe theMethod args0 below0 = true := by decide +kernel
theorem w_running : about1.status = .running := rfl
set_option maxRecDepth 65536 in
theorem w_room : about1.hasRoom e0.platform room_1 = true :=
  launch0.hasRoom_least _ room_1 (by decide +kernel) (by decide +kernel) (by decide +kernel) (by decide +kernel) (by decide +kernel) (by decide +kernel)
theorem allAtoms_all (ts : List Jvm.Cond) (a : Array Jvm.Value) (st : Jvm.State) : (allAtoms ts).before a st = ts.all (fun c => c.before a st) := by
  induction ts with
  | nil => rfl
  | cons c t ih =>
    show (Jvm.Cond.and c (allAtoms t)).before a st = _
    rw [Jvm.Cond.before_and, ih, List.all_cons]
def words1 : List Jvm.Cond := Jvm.Cond.code x code maxLocals ret :: tables_1
/-- a 'code' word, met by the world's own term for the bytes: nothing is compared byte by byte -/
theorem code_word {y : MethodName} {bytes : ByteArray} {mx : Nat} {rt : Option FieldType} {a : Array Value} {s : State} {m : MethodId} {meth : Method} {c : Code} (h1 : s.methodNamed? y = some m) (h2 : s.vm.method? m = some meth) (h3 : meth.code = some c) (h4 : c.code = bytes)
    (h5 : (c.maxLocals == mx && c.exceptionTable.isEmpty && decide (c.maxStack ≤ mostOperands) && decide (meth.sig.returnType = rt) && !meth.locks && decide (parseMethodDescriptor y.desc = some meth.sig)) = true) : (Jvm.Cond.code y bytes mx rt).before a s = true := by
  simp only [Bool.and_eq_true, beq_iff_eq, Bool.not_eq_true', decide_eq_true_eq] at h5
  obtain ⟨⟨⟨⟨⟨g1, g2⟩, g3⟩, g4⟩, g5⟩, g6⟩ := h5
  simp [Cond.before, Cond.holds, Cond.value, h1, h2, h3, h4, g1, g2, g3, g4, g5, g6]
def isCode : Jvm.Cond → Bool
  | .code _ _ _ _ => true
  | _ => false
theorem all_split {L : List Jvm.Cond} {P : Jvm.Cond → Bool} (h1 : L.all (fun c => isCode c || P c) = true) (h2 : ∀ c ∈ L.filter isCode, P c = true) : L.all P = true := by
  refine List.all_eq_true.mpr fun c hc => ?_
  have h := List.all_eq_true.mp h1 c hc
  rcases Bool.eq_false_or_eq_true (isCode c) with hi | hi
  · exact h2 c (List.mem_filter.mpr ⟨hc, hi⟩)
  · simpa [hi] using h
set_option maxRecDepth 65536 in
theorem w_c0 : (Jvm.Cond.code x code maxLocals ret).before args0 about1 = true := code_word (m := ⟨1, 1⟩) (meth := k1m1) (c := k1c1) (by decide +kernel) rfl rfl rfl (by decide +kernel)
set_option maxRecDepth 65536 in
theorem w_c1 : (Jvm.Cond.code ({ cls := "com/example/disposition/disposition/store/Keys", name := "pastPrefix", desc := "([B)[B" } : Jvm.MethodName) prog_24_method_29_code (2 : Nat) (Option.some (Jvm.ClassFile.FieldType.array Jvm.ClassFile.FieldType.byte))).before args0 about1 = true := code_word (m := ⟨2, 1⟩) (meth := k2m1) (c := k2c1) (by decide +kernel) rfl rfl rfl (by decide +kernel)
def codes1 : List Jvm.Cond := [Jvm.Cond.code x code maxLocals ret, Jvm.Cond.code ({ cls := "com/example/disposition/disposition/store/Keys", name := "pastPrefix", desc := "([B)[B" } : Jvm.MethodName) prog_24_method_29_code (2 : Nat) (Option.some (Jvm.ClassFile.FieldType.array Jvm.ClassFile.FieldType.byte))]
set_option maxRecDepth 65536 in
theorem codes_eq : words1.filter isCode = codes1 := rfl
theorem w_codes : ∀ c ∈ words1.filter isCode, c.before args0 about1 = true := by
  rw [codes_eq]
  intro c hc
  simp only [codes1, List.mem_cons, List.not_mem_nil, or_false] at hc
  rcases hc with rfl | rfl
  · exact w_c0
  · exact w_c1
set_option maxRecDepth 65536 in
theorem w_t1 : words1.all (fun c => isCode c || c.before args0 about1) = true := by decide +kernel
theorem w_tables : (allAtoms (Jvm.Cond.code x code maxLocals ret :: tables_1)).before args0 about1 = true := by
  rw [allAtoms_all]
  show words1.all (fun c => c.before args0 about1) = true
  refine all_split ?_ w_codes
  rw [w_t1]
set_option maxRecDepth 65536 in
theorem w_case : (Jvm.Cond.and given_1 narrow_1).before args0 about1 = true := by decide +kernel
theorem w_applies : (headSpec (Jvm.Cond.code x code maxLocals ret :: tables_1) room_1).applies x e0.platform about1 = true :=
  (Spec.applies_iff w_frames).mpr ⟨w_running, w_runnable, w_alone, w_named, w_hears, w_ripe, w_room, w_tables⟩
theorem atStart : AtStart classFile x code maxLocals ret World_1 tables_1 room_1 Calls_1 rest_1 Pre_1 launch0 p0 e0 about1 theMethod args0 below0 :=
  ⟨lists_1, trivial, launch0.admits_env _ _ _, launch0.least_env, fairChoices_fair.cas, fairChoices_fair.clock, w_frames, w_args, w_heap, w_applies, trivial, trivial, w_case⟩
end start1
theorem witness_1 : WitnessClaimed_1 := ⟨start1.p0, start1.e0, start1.about1, start1.theMethod, start1.args0, start1.below0, start1.atStart⟩
end Jvm.Pilot.@@N@@
